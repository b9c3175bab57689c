import Derived.Test.Qxb6601376aPutMem
namespace Go.Proofs.Qxb6601376a.SR
open Go.RowKit
set_option linter.unusedVariables false

/-- The world behind the first make. -/
def W1 (w : World) (n : Nat) : World :=
  ((w.alloc (.cells #[.slice none 0 0, .slice none 0 0, .slice none 0 0, .int .i64 0] 39)).alloc
    (.cells #[.slice (some ⟨w.heap.size + 1 + 1, 0, none⟩) n n, .slice none 0 0, .slice none 0 0, .int .i64 0] 39)).alloc
    (.cells (madeCells #[.int .i64 0, .int .u64 0] (n * 2)) 54)

/-- The blocks on the way: the room's struct with its first m slices laid. -/
structure P1 (w wr : World) (rb rm nb n : Nat) (v1 v2 : Value) : Prop where
  hrb : wr.heap[rb]? = some (.cells #[.slice none 0 0, .slice none 0 0, .slice none 0 0, .int .i64 0] 39 (0, 0))
  hrm : wr.heap[rm]? = some (.cells #[.slice (some ⟨nb, 0, none⟩) n n, v1, v2, .int .i64 0] 39 (0, 0))
  hnb : Pair wr nb 54 .i64 .u64 n (fun _ => 0) (fun _ => 0)
  bel : Below w.heap.size w wr
  ord : w.heap.size ≤ rb ∧ rb < rm ∧ rm < nb ∧ nb < wr.heap.size

theorem p1_start (w : World) (n : Nat) : P1 w (W1 w n) w.heap.size (w.heap.size + 1) (w.heap.size + 1 + 1) n (.slice none 0 0) (.slice none 0 0) := by
  have z1 := Deep.nblk_alloc w (.cells #[.slice none 0 0, .slice none 0 0, .slice none 0 0, .int .i64 0] 39)
  have z2 := Deep.nblk_alloc (w.alloc (.cells #[.slice none 0 0, .slice none 0 0, .slice none 0 0, .int .i64 0] 39)) (.cells #[.slice (some ⟨w.heap.size + 1 + 1, 0, none⟩) n n, .slice none 0 0, .slice none 0 0, .int .i64 0] 39)
  rw [z1] at z2
  unfold W1
  refine ⟨?_, ?_, ?_, (((Below.refl _ _).alloc (Nat.le_refl _) _).alloc (by rw [z1]; omega) _).alloc (by rw [z2]; omega) _, Nat.le_refl _, by omega, by omega, by rw [Deep.nblk_alloc, z2]; omega⟩
  · rw [Deep.blk_alloc_lt _ _ _ (by rw [z2]; omega), Deep.blk_alloc_lt _ _ _ (by rw [z1]; omega), Deep.blk_alloc_new]
  · rw [Deep.blk_alloc_lt _ _ _ (by rw [z2]; omega)]
    have := Deep.blk_alloc_new (w.alloc (.cells #[.slice none 0 0, .slice none 0 0, .slice none 0 0, .int .i64 0] 39)) (.cells #[.slice (some ⟨w.heap.size + 1 + 1, 0, none⟩) n n, .slice none 0 0, .slice none 0 0, .int .i64 0] 39)
    rw [z1] at this
    exact this
  · have := pair_made ((w.alloc (.cells #[.slice none 0 0, .slice none 0 0, .slice none 0 0, .int .i64 0] 39)).alloc (.cells #[.slice (some ⟨w.heap.size + 1 + 1, 0, none⟩) n n, .slice none 0 0, .slice none 0 0, .int .i64 0] 39)) n 54 .i64 .u64
    rw [z2] at this
    exact this

theorem P1.old {w wr : World} {rb rm nb n : Nat} {v1 v2 : Value} (h : P1 w wr rb rm nb n v1 v2) (o : Obj) :
    (wr.alloc o).cell? ⟨rm, 1, none⟩ = some v1 ∧ (wr.alloc o).cell? ⟨rm, 2, none⟩ = some v2 ∧ ∀ i, (wr.alloc o).frozen? ⟨rm, i, none⟩ = false := by
  have hb : (wr.alloc o).heap[rm]? = _ := (Deep.blk_alloc_lt wr o rm (by have := h.ord; omega)).trans h.hrm
  refine ⟨by simp [World.cell?, hb], by simp [World.cell?, hb], fun i => by simp [World.frozen?, hb]⟩

/-- Behind a make whose slice is stored into the struct: the other blocks stand. -/
theorem P1.key {w wr : World} {rb rm nb n : Nat} {v1 v2 : Value} (h : P1 w wr rb rm nb n v1 v2) (o : Obj) (i : Nat) (v : Value) (j : Nat) (hj : j < wr.heap.size) (hne : j ≠ rm) :
    ((wr.alloc o).setCell ⟨rm, i, none⟩ v).heap[j]? = wr.heap[j]? := by
  rw [Deep.blk_setCell_other _ _ _ _ hne, Deep.blk_alloc_lt _ _ _ hj]

theorem P1.spelled {w wr : World} {rb rm nb n t : Nat} {v1 v2 : Value} (h : P1 w wr rb rm nb n v1 v2) :
    P1 w ((wr.alloc (.cells (madeCells #[.int .u8 0] t) 5)).setCell ⟨rm, 1, none⟩ (.slice (some ⟨wr.heap.size, 0, none⟩) t t)) rb rm nb n (.slice (some ⟨wr.heap.size, 0, none⟩) t t) v2 ∧
    ((wr.alloc (.cells (madeCells #[.int .u8 0] t) 5)).setCell ⟨rm, 1, none⟩ (.slice (some ⟨wr.heap.size, 0, none⟩) t t)).rowIs wr.heap.size 5 t (fun _ => .int .u8 0) := by
  have o := h.ord
  have hrm' := (Deep.blk_alloc_lt wr (.cells (madeCells #[.int .u8 0] t) 5) rm (by omega)).trans h.hrm
  refine ⟨⟨(h.key _ _ _ rb (by omega) (by omega)).trans h.hrb, ?_, h.hnb.of_block (h.key _ _ _ nb (by omega) (by omega)), (h.bel.alloc h.bel.size _).setCell (by show _ ≤ rm; omega) _, by omega, by omega, by omega, by rw [Deep.nblk_setCell, Deep.nblk_alloc]; omega⟩, ?_⟩
  · simp [World.setCell, Array.getElem?_modify, hrm']
  · exact (World.rowIs_made wr (.int .u8 0) t 5).setOther (by show _ ≠ rm; omega) _

theorem P1.table {w wr : World} {rb rm nb sb n N t : Nat} {v2 : Value} (h : P1 w wr rb rm nb n (.slice (some ⟨sb, 0, none⟩) t t) v2) (hs : wr.rowIs sb 5 t (fun _ => .int .u8 0)) (hsb : nb < sb) :
    PS w ((wr.alloc (.cells (madeCells #[.int .i64 0] N) 3)).setCell ⟨rm, 2, none⟩ (.slice (some ⟨wr.heap.size, 0, none⟩) N N)) rb rm nb sb wr.heap.size n N t (fun _ => 0) (fun _ => 0) (fun _ => 0) (fun _ => 0) 0 := by
  have o := h.ord
  have hrm' := (Deep.blk_alloc_lt wr (.cells (madeCells #[.int .i64 0] N) 3) rm (by omega)).trans h.hrm
  have hlt := hs.lt
  refine ⟨(h.key _ _ _ rb (by omega) (by omega)).trans h.hrb, ?_, h.hnb.of_block (h.key _ _ _ nb (by omega) (by omega)), hs.of_block (h.key _ _ _ sb hlt (by omega)), ?_, (h.bel.alloc h.bel.size _).setCell (by show _ ≤ rm; omega) _, by omega, by omega, by omega, hsb, hlt⟩
  · simp [World.setCell, Array.getElem?_modify, hrm']
  · exact (World.rowIs_made wr (.int .i64 0) N 3).setOther (by show _ ≠ rm; omega) _

set_option maxRecDepth 100000 in
set_option maxHeartbeats 1000000 in
theorem put_any (w : World) (a : Option Addr) (n cap N : Nat) (Hs : Nat → Int) (Ln : Nat → Nat) (hn : n ≤ 4096) (hN1 : 1 ≤ N) (hN2 : N ≤ 65536) (hpow : ∃ k, N = 2 ^ k) (hc : cntH Hs n < N) (hLn : ∀ i, i < n → Ln i ≤ 255) (hH : ∀ i, i < n → 0 ≤ Hs i ∧ Hs i < 18446744073709551616) (H : Sl w a n Hs Ln) :
    Calls Try.prog 17 #[.slice a n cap, .int .i64 n, .int .i64 N] w fun e w' => ∃ nb sb tb, e = .returned (.agg #[.slice (some ⟨nb, 0, none⟩) n n, .slice (some ⟨sb, 0, none⟩) (At Ln n) (At Ln n), .slice (some ⟨tb, 0, none⟩) N N, .int .i64 (cntH Hs n)]) ∧
      Rm w' nb n sb (At Ln n) tb N (fun i => (At Ln i : Int)) Hs (spO Ln n) (putT N Hs n) ∧ (w.heap.size ≤ nb ∧ nb < sb ∧ sb < tb) ∧ Below w.heap.size w w' := by
  have hmk := make_pairs 35 54 .i64 .u64 Try.underlying35 info54 n (by omega)
  have hat := At_bd n hLn
  have hmk5 := run_make_row' (P := Try.prog) 36 5 (.int .u8 0) 1 Try.underlying36 info5 rfl .i64 .i64 (At Ln n) (by omega) (by omega)
  have hmk3 := run_make_row' (P := Try.prog) 37 3 (.int .i64 0) 8 Try.underlying37 info3 rfl .i64 .i64 N (by omega) (by omega)
  have HH := hide H
  have HL := hide hLn
  have HR := hide hH
  have Hpow := hide hpow
  clear H hLn hH hpow
  go_enter Try.func17, Try.ntmps17
  go_wp2
  go_loopg [8, 9] n (fun f s8 s9 wr => ∃ k : Nat, s9 = .int .i64 k ∧ s8 = .int .i64 (At Ln k : Nat) ∧ k ≤ n ∧ n - k ≤ f ∧ Hid (wr = W1 w n))
  case atStart => exact ⟨0, rfl, rfl, Nat.zero_le _, by omega, rfl⟩
  case round =>
    obtain ⟨k, rfl, rfl, hk, hgk, HW⟩ := hrel
    have h1 := At_le (Ln := Ln) hk
    by_cases hlt : k < n
    · obtain ⟨f, rfl⟩ : ∃ f, gk = f + 1 := ⟨gk - 1, by omega⟩
      have HP := hide (p1_start w n)
      rw [← HW.out] at HP
      obtain ⟨b, off, rfl, hb, h0, h1c⟩ := HH.out k hlt
      have e1 := (HP.out.bel.cell (p := ⟨b, off + k * 2 + 1, none⟩) hb).trans h1c
      have hl := HL.out k hlt
      clear h0 h1c
      go_wp2
      go_roundg f
      case measure => omega
      case rel => exact ⟨k + 1, by go_num, by show Value.int .i64 _ = Value.int .i64 ((At Ln k + Ln k : Nat) : Int); go_num, by omega, by omega, HW⟩
    · obtain rfl : k = n := by omega
      have HP := hide (p1_start w k)
      rw [← HW.out] at HP
      clear HW
      have o1 := fun o => (HP.out.old o).1
      have o1f := fun o => (HP.out.old o).2.2 1
      go_upto_region 8 with fail
      go_cut [] from 32 (fun wx => ∃ sb, P1 w wx w.heap.size (w.heap.size + 1) (w.heap.size + 1 + 1) k (.slice (some ⟨sb, 0, none⟩) (At Ln k) (At Ln k)) (.slice none 0 0) ∧ wx.rowIs sb 5 (At Ln k) (fun _ => .int .u8 0) ∧ w.heap.size + 1 + 1 < sb)
      case first =>
        go_wp2
        go_meet
        exact ⟨_, HP.out.spelled.1, HP.out.spelled.2, HP.out.ord.2.2.2⟩
      case rest =>
      obtain ⟨sb, hp1, hsr, hsb⟩ := hcut
      have HP1 := hide hp1
      have HSR := hide hsr
      have o2 := fun o => (hp1.old o).2.1
      have o2f := fun o => (hp1.old o).2.2 2
      clear hp1 hsr HP o1 o1f
      go_upto_region 9 with fail
      go_cut [] from 35 (fun wx => ∃ tb, PS w wx w.heap.size (w.heap.size + 1) (w.heap.size + 1 + 1) sb tb k N (At Ln k) (fun _ => 0) (fun _ => 0) (fun _ => 0) (fun _ => 0) 0)
      case first =>
        go_wp2
        go_meet
        exact ⟨_, HP1.out.table HSR.out hsb⟩
      case rest =>
      obtain ⟨tb, hps⟩ := hcut
      have HPS := hide hps
      clear hps HP1 HSR o2 o2f hmk hmk3 hmk5
      go_wp2
      go_loopg [11, 12] k (fun f s11 s12 wr => ∃ i : Nat, s12 = .int .i64 i ∧ s11 = .int .i64 (At Ln i : Nat) ∧ i ≤ k ∧ k - i ≤ f ∧
        Hid (PS w wr w.heap.size (w.heap.size + 1) (w.heap.size + 1 + 1) sb tb k N (At Ln k) (fun j => if j < i then (At Ln j : Int) else 0) (fun j => if j < i then Hs j else 0) (spO Ln i) (putT N Hs i) (cntH Hs i)))
      case atStart => exact ⟨0, rfl, rfl, Nat.zero_le _, by omega, HPS⟩
      case round =>
        clear HPS
        obtain ⟨i, rfl, rfl, hi, hgi, HP⟩ := hrel
        have hai := At_le (Ln := Ln) hi
        by_cases hlti : i < k
        · obtain ⟨f, rfl⟩ : ∃ f, gk = f + 1 := ⟨gk - 1, by omega⟩
          obtain ⟨b, off, rfl, hb, h0, h1c⟩ := HH.out i hlti
          have e0 := (HP.out.bel.cell (p := ⟨b, off + i * 2, none⟩) hb).trans h0
          have r0 := HP.out.rm0
          have n0 := HP.out.hnb.c0 hlti
          have n1 := HP.out.hnb.c1 hlti
          rw [if_neg (Nat.lt_irrefl i)] at n0 n1
          have nf := HP.out.hnb.frozen
          have hl := HL.out i hlti
          go_upto_region 15 with fail
          go_cut [] from 40 to 126 (fun wx => Hid (PS w wx w.heap.size (w.heap.size + 1) (w.heap.size + 1 + 1) sb tb k N (At Ln k) (fun j => if j < i + 1 then (At Ln j : Int) else 0) (fun j => if j < i + 1 then Hs j else 0) (spO Ln i) (putT N Hs i) (cntH Hs i)))
          case first =>
            go_region
            go_wp2_with fail
            go_meet
            have := (HP.out.setN i (At Ln i) (Hs i)).drew
            rw [step_pair (A := fun j => (At Ln j : Int)), step_pair (A := Hs)] at this
            exact this
          case rest =>
          have HP2 := hcut
          clear hcut HP e0 r0 n0 n1 nf
          have hai1 : At Ln i + Ln i ≤ At Ln k := At_le (Ln := Ln) (k := i + 1) hlti
          have H0 := hide h0
          have H1 := hide h1c
          clear h0 h1c
          go_wp2_with fail
          go_loopg [13] (Ln i) (fun f s13 wr => ∃ j : Nat, s13 = .int .i64 j ∧ j ≤ Ln i ∧ Ln i - j ≤ f ∧
            Hid (PS w wr w.heap.size (w.heap.size + 1) (w.heap.size + 1 + 1) sb tb k N (At Ln k) (fun j => if j < i + 1 then (At Ln j : Int) else 0) (fun j => if j < i + 1 then Hs j else 0) (spI (spO Ln i) (At Ln i) i j) (putT N Hs i) (cntH Hs i)))
          case atStart => exact ⟨0, rfl, Nat.zero_le _, by omega, HP2⟩
          case round =>
            clear HP2
            obtain ⟨j, rfl, hj, hgj, HP⟩ := hrel
            have e1 := (HP.out.bel.cell (p := ⟨b, off + i * 2 + 1, none⟩) hb).trans H1.out
            by_cases hltj : j < Ln i
            · obtain ⟨g, rfl⟩ : ∃ g, gk = g + 1 := ⟨gk - 1, by omega⟩
              have r1 := HP.out.rm1
              have c1 := HP.out.hsb.cell (i := At Ln i + j) (by omega)
              have f1 := HP.out.hsb.frozen (At Ln i + j)
              go_wp2_with fail
              go_roundg g
              case measure => omega
              case rel =>
                refine ⟨j + 1, by go_num, by omega, by omega, ?_⟩
                exact HP.out.setS (At Ln i + j) _
            · obtain rfl : j = Ln i := by omega
              have e0 := (HP.out.bel.cell (p := ⟨b, off + i * 2, none⟩) hb).trans H0.out
              have HP3 : Hid (PS w wr w.heap.size (w.heap.size + 1) (w.heap.size + 1 + 1) sb tb k N (At Ln k) (fun j => if j < i + 1 then (At Ln j : Int) else 0) (fun j => if j < i + 1 then Hs j else 0) (spO Ln (i + 1)) (putT N Hs i) (cntH Hs i)) := HP.out
              have hci := cntH_le Hs i
              clear HP
              by_cases hz : Hs i = 0
              · have hz' : (Hs i != 0) = false := by simp [hz]
                have HZ := hide (show putT N Hs (i + 1) = putT N Hs i ∧ cntH Hs (i + 1) = cntH Hs i from ⟨putT_none hz, cntH_none hz⟩)
                clear hz
                go_wp2_with fail
                go_roundg f
                case measure => omega
                case rel =>
                  refine ⟨i + 1, by go_num, by show Value.int .i64 _ = Value.int .i64 ((At Ln i + Ln i : Nat) : Int); go_num, by omega, by omega, ?_⟩
                  rw [HZ.out.1, HZ.out.2]
                  exact HP3
              · have hz' : (Hs i != 0) = true := by simp [hz]
                have hm0 := and_mask_u (Hs i) N Hpow.out hN2 (HR.out i hlti).1 (HR.out i hlti).2
                have Ht : Hid (probe N (fun p => putT N Hs i p != 0) N ((Hs i).toNat % N) = place N (putT N Hs i) (Hs i)) := rfl
                have Hnr := hide (put_near (Hs := Hs) (k := i) (N := N) (by have := cntH_mono Hs i (k - i); rw [show i + (k - i) = k from by omega] at this; omega) ((Hs i).toNat % N) (Nat.mod_lt _ (by omega)))
                have Hp0 := hide (Nat.mod_lt (Hs i).toNat (show 0 < N by omega))
                have HZ := hide (show putT N Hs (i + 1) = upd (putT N Hs i) (place N (putT N Hs i) (Hs i)) ((i : Int) + 1) ∧ cntH Hs (i + 1) = cntH Hs i + 1 from ⟨putT_some hz, cntH_some hz⟩)
                clear hz
                generalize (Hs i).toNat % N = p0 at *
                generalize place N (putT N Hs i) (Hs i) = t at *
                have hp0 := Hp0.out
                have HMI := hide (fun p hp => and_mask_i p N Hpow.out hN2 hp)
                go_wp2_with fail
                go_loopg [14, 15] N (fun g s14 s15 wx => ∃ p st : Nat, s14 = .int .i64 p ∧ s15 = .int .i64 st ∧ p < N ∧ st + g = N ∧ Hid (probe N (fun p => putT N Hs i p != 0) g p = t) ∧ Hid (Near N (fun p => putT N Hs i p != 0) g p) ∧ wr = wx)
                case atStart => exact ⟨p0, 0, by go_num, rfl, hp0, by omega, Ht, Hnr, rfl⟩
                case round =>
                  clear Ht Hnr Hp0 hm0
                  obtain ⟨p, st, rfl, rfl, hp, hst, HPR, HNR, rfl⟩ := hrel
                  have hpos := near_pos HNR.out
                  obtain ⟨g, rfl⟩ : ∃ g, gk = g + 1 := ⟨gk - 1, by omega⟩
                  have hstl : st < N := by omega
                  have HST := hide hst
                  clear hst
                  have r2 := HP3.out.rm2
                  have c2 := HP3.out.htb.cell hp
                  by_cases hu : (putT N Hs i p != 0) = true
                  · have hmi := HMI.out p hp
                    have HN2 := hide (near_next hp HNR.out hu)
                    have HP2 := hide ((probe_go N (fun p => putT N Hs i p != 0) g p hu).symm.trans HPR.out)
                    have hmod : (p + 1) % N < N := Nat.mod_lt _ (by omega)
                    clear HNR HPR
                    go_wp2_with fail
                    go_roundg g
                    case measure => omega
                    case rel => exact ⟨(p + 1) % N, st + 1, rfl, by go_num, hmod, by have := HST.out; omega, HP2, HN2, rfl⟩
                  · have hu' : (putT N Hs i p != 0) = false := by simpa using hu
                    have HPT := hide ((probe_stop N (fun p => putT N Hs i p != 0) (g + 1) p hu').symm.trans HPR.out)
                    have c2f := HP3.out.htb.frozen p
                    have HP4 := hide (HP3.out.setT p ((i : Int) + 1))
                    have r3 := HP4.out.rm3
                    have r3f := HP4.out.rmf 3
                    have HP5 := hide (HP4.out.setI ((cntH Hs i : Int) + 1))
                    clear hu HNR HPR HP4
                    go_wp2_with fail
                    go_roundg f
                    case measure => omega
                    case rel =>
                      refine ⟨i + 1, by go_num, by show Value.int .i64 _ = Value.int .i64 ((At Ln i + Ln i : Nat) : Int); go_num, by omega, by omega, ?_⟩
                      rw [HZ.out.1, HZ.out.2, ← HPT.out]
                      exact HP5
        · obtain rfl : i = k := by omega
          have q0 := HP.out.rm0
          have q1 := HP.out.rm1
          have q2 := HP.out.rm2
          have q3 := HP.out.rm3
          have qb := HP.out.rbc
          have qf := HP.out.rbf
          go_wp2_with fail
          obtain ⟨⟨z0, z1, z2, z3⟩, hR, hB⟩ := put_end HP.out (.slice (some ⟨w.heap.size + 1 + 1, 0, none⟩) i i) (.slice (some ⟨sb, 0, none⟩) (At Ln i) (At Ln i)) (.slice (some ⟨tb, 0, none⟩) N N) (.int .i64 (cntH Hs i)) rfl
          have ho := HP.out.ord
          refine bodyPost_ret (v := .agg #[.slice (some ⟨w.heap.size + 1 + 1, 0, none⟩) i i, .slice (some ⟨sb, 0, none⟩) (At Ln i) (At Ln i), .slice (some ⟨tb, 0, none⟩) N N, .int .i64 (cntH Hs i)]) ?_ rfl ⟨_, _, _, rfl, hR, by omega, hB⟩
          clear hR hB
          simp [results, Try.results17, go_sem, z0, z1, z2, z3]
end Go.Proofs.Qxb6601376a.SR

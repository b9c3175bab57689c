import Derived.Test.Qxb6601376aDrop
namespace Go.Proofs.Qxb6601376a.SR
open Go.RowKit
set_option linter.unusedVariables false

theorem DS.rlt {w : World} {r hb sb tb hl hc sl sc N : Nat} {A Hs T : Nat → Int} {ix : Int} (h : DS w r hb sb tb hl hc sl sc N A Hs T ix) : r < w.heap.size := by
  obtain ⟨hlt, _⟩ := Array.getElem?_eq_some_iff.1 h.hr
  exact hlt
theorem DS.of_below {w w' : World} {r hb sb tb hl hc sl sc N : Nat} {A Hs T : Nat → Int} {ix : Int} (h : DS w r hb sb tb hl hc sl sc N A Hs T ix) (F : Below w.heap.size w w') : DS w' r hb sb tb hl hc sl sc N A Hs T ix :=
  ⟨(F.block r h.rlt).trans h.hr, h.hh.of_block (F.block hb h.hh.lt), h.ht.of_block (F.block tb h.ht.lt), h.d1, h.d2, h.d3⟩

/-- The skipRoom is boxed. -/
theorem ds_start {w wr : World} {nb cm sb sc tb N m sl : Nat} {A Hs sp T : Nat → Int} {ix : Int} (R : Rm w nb cm sb sc tb N A Hs sp T) (P : Pair wr w.heap.size 57 .i64 .u64 m (fun i => if i < m then A i else 0) (fun i => if i < m then Hs i else 0)) (B : Below w.heap.size w wr) :
    DS (wr.alloc (.cells #[.slice (some ⟨w.heap.size, 0, none⟩) m m, .slice (some ⟨sb, 0, none⟩) sl sc, .slice (some ⟨tb, 0, none⟩) N N, .int .i64 ix, .slice none 0 0, .slice none 0 0] 61)) wr.heap.size w.heap.size sb tb m m sl sc N A Hs T ix := by
  have h1 := P.lt
  have h2 := R.ht.lt
  have h3 := B.size
  refine ⟨Deep.blk_alloc_new _ _, ?_, ?_, by omega, by omega, by omega⟩
  · exact (P.congr (fun i hi => by rw [if_pos hi, if_pos hi]; exact ⟨rfl, rfl⟩)).of_block (Deep.blk_alloc_lt _ _ _ h1)
  · exact (R.ht.of_block (B.block tb h2)).of_block (Deep.blk_alloc_lt _ _ _ (by omega))

/-- What the whole call leaves. -/
theorem zdrop_end {w wr w3 w4 : World} {nb cm sb sc tb N m st sl r : Nat} {A Hs sp T T' : Nat → Int} {ix : Int} {o : Obj} (R : Rm w nb cm sb sc tb N A Hs sp T) (B : Below w.heap.size w wr) (hr : r = wr.heap.size)
    (D : DS w3 r w.heap.size sb tb st m sl sc N A Hs T' ix) (F : Fr [r, tb] (wr.alloc o) w3) (P : Pair w4 w3.heap.size 54 .i64 .u64 st (fun i => if i < st then A i else 0) (fun i => if i < st then Hs i else 0)) (B4 : Below w3.heap.size w3 w4) (d1 : sb ≠ tb) :
    Rm w4 w3.heap.size st sb sc tb N A Hs sp T' ∧ w.heap.size ≤ w3.heap.size ∧ Fr [tb] w w4 := by
  subst hr
  have f1 : Fr [tb] w wr := Fr.of_below B _
  have f2 : Fr [wr.heap.size, tb] wr w3 := ((Fr.refl _ _).alloc o).trans F
  have f3 : Fr [tb] w w3 := (f1.mono (M' := [wr.heap.size, tb]) (fun k _ hk => by simp at hk; simp [hk])).trans f2 |>.mono (fun k hk hm => by
    simp at hm ⊢; have := B.size; omega)
  have f4 : Fr [tb] w w4 := f3.trans (Fr.of_below B4 _)
  refine ⟨⟨P.congr (fun i hi => by rw [if_pos hi, if_pos hi]; exact ⟨rfl, rfl⟩), ?_, D.ht.of_block (B4.block tb D.ht.lt)⟩, f3.size, f4⟩
  exact R.hs.of_block (f4.block sb R.hs.lt (by simp; exact d1))

theorem results_tmp4 {fn : Func} {t u v x : Tmp} (h : fn.results = #[.tmp t, .tmp u, .tmp v, .tmp x]) (tmps : Array Value) (P : Program) (w : World) :
    (results fn tmps).run P w = .ok (.tuple #[tmps.getD t undef, tmps.getD u undef, tmps.getD v undef, tmps.getD x undef]) w := by
  simp [results, h]

set_option maxRecDepth 100000 in
set_option maxHeartbeats 1000000 in
theorem zdrop_any (w : World) (nb cm sb sc tb m N start : Nat) (Hs sp T : Nat → Int) (Ln : Nat → Nat) (R : Rm w nb cm sb sc tb N (fun i => (At Ln i : Int)) Hs sp T) (hm : m ≤ 4096) (hmc : m ≤ cm) (hs : start ≤ m) (hN1 : 1 ≤ N) (hN2 : N ≤ 65536) (hpow : ∃ k, N = 2 ^ k)
    (hsc : At Ln m ≤ sc) (hsc2 : sc ≤ 2000000) (hH : ∀ i, i < m → 0 ≤ Hs i ∧ Hs i < 18446744073709551616) (hheld : Held N Hs T m) (d1 : sb ≠ tb) :
    Calls Try.prog 18 #[.slice (some ⟨nb, 0, none⟩) m cm, .slice (some ⟨sb, 0, none⟩) (At Ln m) sc, .slice (some ⟨tb, 0, none⟩) N N, .int .i64 (cntH Hs m), .int .i64 start] w fun e w' =>
      ∃ nb', e = .returned (.tuple #[.slice (some ⟨nb', 0, none⟩) start start, .slice (some ⟨sb, 0, none⟩) (At Ln start) sc, .slice (some ⟨tb, 0, none⟩) N N, .int .i64 (cntH Hs start)]) ∧
      Rm w' nb' start sb sc tb N (fun i => (At Ln i : Int)) Hs sp (dropT N Hs m T (m - start)) ∧ w.heap.size ≤ nb' ∧ Fr [tb] w w' := by
  have hmk := make_pairs 55 57 .i64 .u64 Try.underlying55 info57 m (by omega)
  have hmk2 := make_pairs 35 54 .i64 .u64 Try.underlying35 info54 start (by omega)
  have HR := hide R
  have Hpow := hide hpow
  have HH := hide hH
  have HL := hide hheld
  clear R hpow hH hheld
  go_enter Try.func18, Try.ntmps18
  go_wp2
  go_loopg [15] m (fun f s15 wr => ∃ k : Nat, s15 = .int .i64 k ∧ k ≤ m ∧ m - k ≤ f ∧ Hid (Pair wr w.heap.size 57 .i64 .u64 m (fun i => if i < k then (At Ln i : Int) else 0) (fun i => if i < k then Hs i else 0)) ∧ Hid (Below w.heap.size w wr))
  case atStart => exact ⟨0, rfl, Nat.zero_le _, by omega, (pair_made _ _ _ _ _).congr (fun i _ => by rw [if_neg (by omega), if_neg (by omega)]; exact ⟨rfl, rfl⟩), (Below.refl _ _).alloc (Nat.le_refl _) _⟩
  case round =>
    obtain ⟨k, rfl, hk, hgk, HP, HB⟩ := hrel
    by_cases hlt : k < m
    · obtain ⟨f, rfl⟩ : ∃ f, gk = f + 1 := ⟨gk - 1, by omega⟩
      have e0 := (HB.out.cell (p := ⟨nb, k * 2, none⟩) HR.out.hn.lt).trans (HR.out.hn.c0 (i := k) (by omega))
      have e1 := (HB.out.cell (p := ⟨nb, k * 2 + 1, none⟩) HR.out.hn.lt).trans (HR.out.hn.c1 (i := k) (by omega))
      have c0 := HP.out.c0 hlt
      have c1 := HP.out.c1 hlt
      rw [if_neg (Nat.lt_irrefl k)] at c0 c1
      have cf := HP.out.frozen
      have HS := hide (pair_step (X := fun i => (At Ln i : Int)) (Y := Hs) HP.out HB.out (Nat.le_refl _))
      go_wp2_with fail
      go_region
      go_wp2_with fail
      go_roundg f
      case measure => omega
      case rel => exact ⟨k + 1, by go_num, by omega, by omega, HS.out.1, HS.out.2.drew⟩
    · obtain rfl : k = m := by omega
      have HDR := hide (drop_any _ wr.heap.size w.heap.size sb tb k (At Ln k) sc N start Hs T Ln (ds_start HR.out HP.out HB.out) hm hs hN1 hN2 Hpow.out rfl hsc hsc2 HH.out HL.out)
      go_wp2_with fail
      refine HDR.out.mono ?_
      rintro e w3 ⟨rfl, hD, hF⟩
      have HD := hide hD
      have HF := hide hF
      have k0 := hD.r0
      clear hD hF HDR HP hmk
      go_wp2_with fail
      go_loopg [18] start (fun f s18 wx => ∃ j : Nat, s18 = .int .i64 j ∧ j ≤ start ∧ start - j ≤ f ∧ Hid (Pair wx w3.heap.size 54 .i64 .u64 start (fun i => if i < j then (At Ln i : Int) else 0) (fun i => if i < j then Hs i else 0)) ∧ Hid (Below w3.heap.size w3 wx))
      case atStart => exact ⟨0, rfl, Nat.zero_le _, by omega, (pair_made _ _ _ _ _).congr (fun i _ => by rw [if_neg (by omega), if_neg (by omega)]; exact ⟨rfl, rfl⟩), (Below.refl _ _).alloc (Nat.le_refl _) _⟩
      case round =>
        clear k0
        obtain ⟨j, rfl, hj, hgj, HP, HB2⟩ := hrel
        have HDr := hide (HD.out.of_below HB2.out)
        have k0 := HDr.out.r0
        by_cases hltj : j < start
        · obtain ⟨f, rfl⟩ : ∃ f, gk = f + 1 := ⟨gk - 1, by omega⟩
          have e0 := HDr.out.hh.c0 (i := j) (by omega)
          have e1 := HDr.out.hh.c1 (i := j) (by omega)
          have c0 := HP.out.c0 hltj
          have c1 := HP.out.c1 hltj
          rw [if_neg (Nat.lt_irrefl j)] at c0 c1
          have cf := HP.out.frozen
          have HS := hide (pair_step (X := fun i => (At Ln i : Int)) (Y := Hs) HP.out HB2.out (Nat.le_refl _))
          go_wp2_with fail
          go_region
          go_wp2_with fail
          go_roundg f
          case measure => omega
          case rel => exact ⟨j + 1, by go_num, by omega, by omega, HS.out.1, HS.out.2.drew⟩
        · obtain rfl : j = start := by omega
          have k1 := HDr.out.r1
          have k2 := HDr.out.r2
          have k3 := HDr.out.r3
          go_wp2_with fail
          go_quiet (fail)
          go_wp2_with fail
          have HE := zdrop_end HR.out HB.out rfl HD.out HF.out HP.out HB2.out d1
          refine bodyPost_ret (results_tmp4 rfl _ _ _) rfl ?_
          exact ⟨_, rfl, ⟨HE.1.hn, HE.1.hs, HE.1.ht⟩, HE.2.1, HE.2.2.drewN _⟩
end Go.Proofs.Qxb6601376a.SR

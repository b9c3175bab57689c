import Derived.Test.Qxb6601376aPutMem
namespace Go.Proofs.Qxb6601376a.SR
open Go.RowKit
set_option linter.unusedVariables false

/-- The skipRoom's struct in block r, its held names, its table. -/
structure DS (w : World) (r hb sb tb hl hc sl sc N : Nat) (A Hs T : Nat → Int) (ix : Int) : Prop where
  hr : w.heap[r]? = some (.cells #[.slice (some ⟨hb, 0, none⟩) hl hc, .slice (some ⟨sb, 0, none⟩) sl sc, .slice (some ⟨tb, 0, none⟩) N N, .int .i64 ix, .slice none 0 0, .slice none 0 0] 61 (0, 0))
  hh : Pair w hb 57 .i64 .u64 hc A Hs
  ht : w.rowIs tb 3 N (fun p => .int .i64 (T p))
  d1 : hb ≠ r
  d2 : tb ≠ r
  d3 : hb ≠ tb

section
variable {w : World} {r hb sb tb hl hc sl sc N : Nat} {A Hs T : Nat → Int} {ix : Int}
theorem DS.r0 (h : DS w r hb sb tb hl hc sl sc N A Hs T ix) : w.cell? ⟨r, 0, none⟩ = some (.slice (some ⟨hb, 0, none⟩) hl hc) := by simp [World.cell?, h.hr]
theorem DS.r1 (h : DS w r hb sb tb hl hc sl sc N A Hs T ix) : w.cell? ⟨r, 1, none⟩ = some (.slice (some ⟨sb, 0, none⟩) sl sc) := by simp [World.cell?, h.hr]
theorem DS.r2 (h : DS w r hb sb tb hl hc sl sc N A Hs T ix) : w.cell? ⟨r, 2, none⟩ = some (.slice (some ⟨tb, 0, none⟩) N N) := by simp [World.cell?, h.hr]
theorem DS.r3 (h : DS w r hb sb tb hl hc sl sc N A Hs T ix) : w.cell? ⟨r, 3, none⟩ = some (.int .i64 ix) := by simp [World.cell?, h.hr]
theorem DS.rf (h : DS w r hb sb tb hl hc sl sc N A Hs T ix) (o : Nat) : w.frozen? ⟨r, o, none⟩ = false := by simp [World.frozen?, h.hr]
theorem DS.setT (h : DS w r hb sb tb hl hc sl sc N A Hs T ix) (p : Nat) (v : Int) : DS (w.setCell ⟨tb, p, none⟩ (.int .i64 v)) r hb sb tb hl hc sl sc N A Hs (upd T p v) ix := by
  refine ⟨(Below.heap_setCell _ _ _ _ (fun e => h.d2 e.symm)).trans h.hr, h.hh.of_block (Below.heap_setCell _ _ _ _ h.d3), (h.ht.set p _).congr (fun i _ => ?_), h.d1, h.d2, h.d3⟩
  unfold upd; split <;> rfl
theorem DS.setI (h : DS w r hb sb tb hl hc sl sc N A Hs T ix) (v : Int) : DS (w.setCell ⟨r, 3, none⟩ (.int .i64 v)) r hb sb tb hl hc sl sc N A Hs T v := by
  refine ⟨?_, h.hh.of_block (Below.heap_setCell _ _ _ _ h.d1), h.ht.of_block (Below.heap_setCell _ _ _ _ h.d2), h.d1, h.d2, h.d3⟩
  simp [World.setCell, Array.getElem?_modify, h.hr]
theorem DS.setS (h : DS w r hb sb tb hl hc sl sc N A Hs T ix) (l : Nat) : DS (w.setCell ⟨r, 1, none⟩ (.slice (some ⟨sb, 0, none⟩) l sc)) r hb sb tb hl hc l sc N A Hs T ix := by
  refine ⟨?_, h.hh.of_block (Below.heap_setCell _ _ _ _ h.d1), h.ht.of_block (Below.heap_setCell _ _ _ _ h.d2), h.d1, h.d2, h.d3⟩
  simp [World.setCell, Array.getElem?_modify, h.hr]
theorem DS.setH (h : DS w r hb sb tb hl hc sl sc N A Hs T ix) (l : Nat) : DS (w.setCell ⟨r, 0, none⟩ (.slice (some ⟨hb, 0, none⟩) l hc)) r hb sb tb l hc sl sc N A Hs T ix := by
  refine ⟨?_, h.hh.of_block (Below.heap_setCell _ _ _ _ h.d1), h.ht.of_block (Below.heap_setCell _ _ _ _ h.d2), h.d1, h.d2, h.d3⟩
  simp [World.setCell, Array.getElem?_modify, h.hr]
theorem DS.drew (h : DS w r hb sb tb hl hc sl sc N A Hs T ix) : DS w.drew r hb sb tb hl hc sl sc N A Hs T ix := ⟨h.hr, h.hh, h.ht, h.d1, h.d2, h.d3⟩
end

theorem drop_next {N m i : Nat} {Hs T : Nat → Int} (h : i < m) : dropT N Hs m T (m - i) = dropS N Hs (dropT N Hs m T (m - (i + 1))) i := by
  rw [show m - i = (m - (i + 1)) + 1 from by omega]
  show dropS N Hs _ (m - 1 - (m - (i + 1))) = _
  rw [show m - 1 - (m - (i + 1)) = i from by omega]

set_option maxRecDepth 100000 in
set_option maxHeartbeats 1000000 in
theorem drop_any (w : World) (r hb sb tb m sl sc N start : Nat) (Hs T : Nat → Int) (Ln : Nat → Nat) (D : DS w r hb sb tb m m sl sc N (fun i => (At Ln i : Int)) Hs T (cntH Hs m)) (hm : m ≤ 4096) (hs : start ≤ m) (hN1 : 1 ≤ N) (hN2 : N ≤ 65536) (hpow : ∃ k, N = 2 ^ k)
    (hsl : sl = At Ln m) (hsc : At Ln m ≤ sc) (hsc2 : sc ≤ 2000000) (hH : ∀ i, i < m → 0 ≤ Hs i ∧ Hs i < 18446744073709551616) (hheld : Held N Hs T m) :
    Calls Try.prog 26 #[.pointer (some ⟨r, 0, none⟩), .int .i64 start] w fun e w' => e = .returned (.tuple #[]) ∧
      DS w' r hb sb tb start m (At Ln start) sc N (fun i => (At Ln i : Int)) Hs (dropT N Hs m T (m - start)) (cntH Hs start) ∧ Fr [r, tb] w w' := by
  by_cases heq : start = m
  · subst heq
    have k0 := D.r0
    have HD := hide D
    clear D
    have hb' : ((start : Int) == (start : Int)) = true := by simp
    go_enter Try.func26, Try.ntmps26
    go_wp2
    refine bodyPost_ret (results_none rfl _ _ _) rfl ?_
    refine ⟨rfl, ?_, Fr.refl _ _⟩
    rw [Nat.sub_self, ← hsl]; exact HD.out
  · have hlt : start < m := by omega
    have hb' : ((start : Int) == (m : Int)) = false := by rw [beq_eq_false_iff_ne]; omega
    have k0 := D.r0
    have k2 := D.r2
    have HD := hide D
    have Hpow := hide hpow
    have HR := hide hH
    have HL := hide hheld
    clear D heq hpow hH hheld
    go_enter Try.func26, Try.ntmps26
    go_wp2
    go_loopg [5] m (fun f s5 wr => ∃ q : Nat, s5 = .int .i64 ((q : Int) - 1) ∧ start ≤ q ∧ q ≤ m ∧ q - start ≤ f ∧ Hid (DS wr r hb sb tb m m sl sc N (fun i => (At Ln i : Int)) Hs (dropT N Hs m T (m - q)) (cntH Hs q)) ∧ Hid (Fr [r, tb] w wr))
    case atStart => exact ⟨m, rfl, hs, Nat.le_refl _, by omega, by rw [Nat.sub_self]; exact HD, Fr.refl _ _⟩
    case round =>
      clear HD k0 k2
      obtain ⟨q, rfl, hq1, hq2, hgq, HD, HF⟩ := hrel
      by_cases hqs : start < q
      · obtain ⟨i, rfl⟩ : ∃ i, q = i + 1 := ⟨q - 1, by omega⟩
        obtain ⟨f, rfl⟩ : ∃ f, gk = f + 1 := ⟨gk - 1, by omega⟩
        rw [show ((i + 1 : Nat) : Int) - 1 = (i : Int) from by omega]
        have k0 := HD.out.r0
        have c1 := HD.out.hh.c1 (i := i) (by omega)
        by_cases hz : Hs i = 0
        · have hz' : (Hs i != 0) = false := by simp [hz]
          have HZ := hide hz
          clear hz
          go_wp2_with fail
          go_roundg f
          case measure => omega
          case rel => 
            refine ⟨i, by go_num, by omega, by omega, by omega, ?_, HF⟩
            rw [drop_next (by omega), dropS_none HZ.out, ← cntH_none HZ.out]
            exact HD
        · have hz' : (Hs i != 0) = true := by simp [hz]
          have hhd : Held N Hs (dropT N Hs m T (m - (i + 1))) (i + 1) := by
            have := held_drop (by omega) HL.out (m - (i + 1)) (by omega)
            rwa [show m - (m - (i + 1)) = i + 1 from by omega] at this
          have hm0 := and_mask_w (Hs i) N Hpow.out hN2 (HR.out i (by omega)).1 (HR.out i (by omega)).2
          have Hnr := hide (drop_near hhd hz ((Hs i).toNat % N) (Nat.mod_lt _ (by omega)))
          have HZ := hide (show dropT N Hs m T (m - i) = upd (dropT N Hs m T (m - (i + 1))) (find N (dropT N Hs m T (m - (i + 1))) ((i : Int) + 1) (Hs i)) 0 ∧ cntH Hs (i + 1) = cntH Hs i + 1 from ⟨by rw [drop_next (by omega), dropS_some hz], cntH_some hz⟩)
          have Ht : Hid (probe N (fun p => dropT N Hs m T (m - (i + 1)) p != (i : Int) + 1) N ((Hs i).toNat % N) = find N (dropT N Hs m T (m - (i + 1))) ((i : Int) + 1) (Hs i)) := rfl
          have hp0 := Nat.mod_lt (Hs i).toNat (show 0 < N by omega)
          have HMI := hide (fun p hp => and_mask_i p N Hpow.out hN2 hp)
          have hci := cntH_le Hs (i + 1)
          clear hz hhd
          generalize (Hs i).toNat % N = p0 at *
          generalize find N (dropT N Hs m T (m - (i + 1))) ((i : Int) + 1) (Hs i) = t at *
          generalize dropT N Hs m T (m - (i + 1)) = TT at *
          go_wp2_with fail
          go_loopg [7] N (fun g s7 wx => ∃ p : Nat, s7 = .int .i64 p ∧ p < N ∧ Hid (probe N (fun p => TT p != (i : Int) + 1) g p = t) ∧ Hid (Near N (fun p => TT p != (i : Int) + 1) g p) ∧ wr = wx)
          case atStart => exact ⟨p0, by go_num, hp0, Ht, Hnr, rfl⟩
          case round =>
            clear Ht Hnr hm0
            obtain ⟨p, rfl, hp, HPR, HNR, rfl⟩ := hrel
            have hpos := near_pos HNR.out
            obtain ⟨g, rfl⟩ : ∃ g, gk = g + 1 := ⟨gk - 1, by omega⟩
            have k2 := HD.out.r2
            have c2 := HD.out.ht.cell hp
            by_cases hu : (TT p != (i : Int) + 1) = true
            · have hmi := HMI.out p hp
              have HN2 := hide (near_next hp HNR.out hu)
              have HP2 := hide ((probe_go N (fun p => TT p != (i : Int) + 1) g p hu).symm.trans HPR.out)
              have hmod : (p + 1) % N < N := Nat.mod_lt _ (by omega)
              clear HNR HPR
              go_wp2_with fail
              go_roundg g
              case measure => omega
              case rel => exact ⟨(p + 1) % N, rfl, hmod, HP2, HN2, rfl⟩
            · have hu' : (TT p != (i : Int) + 1) = false := by simpa using hu
              have HPT := hide ((probe_stop N (fun p => TT p != (i : Int) + 1) (g + 1) p hu').symm.trans HPR.out)
              have c2f := HD.out.ht.frozen p
              have HD4 := hide (HD.out.setT p 0)
              have k3 := HD4.out.r3
              have k3f := HD4.out.rf 3
              have HD5 := hide (HD4.out.setI ((cntH Hs (i + 1) : Int) - 1))
              have HF5 := hide ((HF.out.setCell (p := ⟨tb, p, none⟩) (.inl (by simp)) (.int .i64 0)).setCell (p := ⟨r, 3, none⟩) (.inl (by simp)) (.int .i64 ((cntH Hs (i + 1) : Int) - 1)))
              clear hu HNR HPR HD4
              go_wp2_with fail
              go_roundg f
              case measure => omega
              case rel =>
                refine ⟨i, by go_num, by omega, by omega, by omega, ?_, HF5⟩
                have hd := HD5.out
                rw [HZ.out.1, ← HPT.out, show (cntH Hs i : Int) = (cntH Hs (i + 1) : Int) - 1 from by have := HZ.out.2; omega]
                exact hd
      · obtain rfl : q = start := by omega
        have k0 := HD.out.r0
        have k1 := HD.out.r1
        have c0 := HD.out.hh.c0 hlt
        have kf := HD.out.rf 1
        have hA := At_le (Ln := Ln) hs
        have HD2 := hide (HD.out.setS (At Ln q))
        have k0' := HD2.out.r0
        have kf' := HD2.out.rf 0
        have HD3 := hide (HD2.out.setH q)
        go_wp2_with fail
        go_region
        go_wp2_with fail
        go_end0
        refine ⟨rfl, ?_, ?_⟩
        · exact ⟨HD3.out.hr, HD3.out.hh, HD3.out.ht, HD3.out.d1, HD3.out.d2, HD3.out.d3⟩
        · exact ((HF.out.setCell (.inl (by simp)) _).setCell (.inl (by simp)) _).drew
end Go.Proofs.Qxb6601376a.SR

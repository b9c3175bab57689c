import Derived.Test.Qxb6001121aFrom
namespace Go.Proofs.Qxb6001121a.HI
open Go.RowKit
set_option linter.unusedVariables false

/-- The slots that ZZHashIndexFrom lays. -/
def laidS (n : Nat) (G V H R : Nat → Int) : Nat → Slot := fun i => if i < n then ⟨G i, V i, H i⟩ else ⟨R (i - n), 0, 0⟩

theorem lay_step {w wr : World} {c cap k : Nat} {F Z : Nat → Slot} (T : Tab wr c cap (fun i => if i < k then F i else Z i)) (B : Below w.heap.size w wr) (hc : w.heap.size ≤ c) :
    Tab (((wr.setCell ⟨c, k * 3, none⟩ (.int .u32 (F k).g)).setCell ⟨c, k * 3 + 1, none⟩ (.int .i64 (F k).v)).setCell ⟨c, k * 3 + 2, none⟩ (.int .u64 (F k).h)) c cap (fun i => if i < k + 1 then F i else Z i) ∧
    Below w.heap.size w (((wr.setCell ⟨c, k * 3, none⟩ (.int .u32 (F k).g)).setCell ⟨c, k * 3 + 1, none⟩ (.int .i64 (F k).v)).setCell ⟨c, k * 3 + 2, none⟩ (.int .u64 (F k).h)) := by
  refine ⟨(T.set k (F k)).congr (fun j hj => ?_), ((B.setCell hc _).setCell hc _).setCell hc _⟩
  by_cases h1 : j = k
  · subst h1; rw [if_pos rfl, if_pos (by omega)]
  · rw [if_neg h1]
    by_cases h2 : j < k
    · rw [if_pos h2, if_pos (by omega)]
    · rw [if_neg h2, if_neg (by omega)]

theorem laid_room {n k : Nat} {G V H R : Nat → Int} : laidS n G V H R (n + k) = ⟨R k, 0, 0⟩ := by
  unfold laidS; rw [if_neg (by omega), Nat.add_sub_cancel_left]

set_option maxRecDepth 100000 in
set_option maxHeartbeats 400000 in
theorem from_any (w : World) (a0 a1 a2 a3 : Option Addr) (n r c0 c1 c2 c3 : Nat) (g : Int) (G V H R : Nat → Int) (hn : n ≤ 4096) (hr : r ≤ 8192)
    (s0 : Sl .u32 w a0 n G) (s1 : Sl .i64 w a1 n V) (s2 : Sl .u64 w a2 n H) (s3 : Sl .u32 w a3 r R) :
    Calls Try.prog 13 #[.slice a0 n c0, .slice a1 n c1, .slice a2 n c2, .slice a3 r c3, .int .u32 g] w fun e w' => ∃ h b, e = .returned (.pointer (some ⟨h, 0, none⟩)) ∧
      Idx w' h b n (n + r) 0 g (.slice none 0 0) ∧ Tab w' b (n + r) (laidS n G V H R) ∧ b ≠ h ∧ w.heap.size ≤ b ∧ w.heap.size ≤ h ∧ Below w.heap.size w w' := by
  have hmk := make_slots (n + r) (by omega)
  rw [show ((n + r : Nat) : Int) = (n : Int) + (r : Int) from by omega] at hmk
  have H0 := hide s0
  have H1 := hide s1
  have H2 := hide s2
  have H3 := hide s3
  clear s0 s1 s2 s3
  go_enter Try.func13, Try.ntmps13
  go_wp2
  go_loopg [13] n (fun f s13 wr => ∃ k : Nat, s13 = .int .i64 k ∧ k ≤ n ∧ n - k ≤ f ∧ Hid (Tab wr w.heap.size (n + r) (fun i => if i < k then ⟨G i, V i, H i⟩ else ⟨0, 0, 0⟩)) ∧ Hid (Below w.heap.size w wr))
  case atStart => exact ⟨0, rfl, Nat.zero_le _, by omega, (tab_made w (n + r)).congr (fun i _ => by rw [if_neg (by omega)]), (Below.refl _ _).alloc (Nat.le_refl _) _⟩
  case round =>
    obtain ⟨k, rfl, hk, hgk, HT, HB⟩ := hrel
    by_cases hlt : k < n
    · obtain ⟨f, rfl⟩ : ∃ f, gk = f + 1 := ⟨gk - 1, by omega⟩
      obtain ⟨b0, o0, hx0, hb0, hcell0⟩ := H0.out k hlt
      obtain ⟨b1, o1, hx1, hb1, hcell1⟩ := H1.out k hlt
      obtain ⟨b2, o2, hx2, hb2, hcell2⟩ := H2.out k hlt
      subst hx0 hx1 hx2
      have e0 := (HB.out.cell (p := ⟨b0, o0 + k, none⟩) hb0).trans hcell0
      have e1 := (HB.out.cell (p := ⟨b1, o1 + k, none⟩) hb1).trans hcell1
      have e2 := (HB.out.cell (p := ⟨b2, o2 + k, none⟩) hb2).trans hcell2
      have t0 := HT.out.c0 (i := k) (by omega)
      have t1 := HT.out.c1 (i := k) (by omega)
      have t2 := HT.out.c2 (i := k) (by omega)
      rw [if_neg (Nat.lt_irrefl k)] at t0 t1 t2
      have fz := HT.out.frozen
      have HLS := hide (lay_step (F := fun i => ⟨G i, V i, H i⟩) (Z := fun _ => ⟨0, 0, 0⟩) HT.out HB.out (Nat.le_refl _))
      clear hcell0 hcell1 hcell2
      go_wp2_with fail
      go_region
      go_wp2_with fail
      go_roundg f
      case measure => omega
      case rel => exact ⟨k + 1, by go_num, by omega, by omega, HLS.out.1, HLS.out.2.drew⟩
    · obtain rfl : k = n := by omega
      have HT' : Hid (Tab wr w.heap.size (k + r) (fun i => if i < k + 0 then laidS k G V H R i else ⟨0, 0, 0⟩)) := HT.out.congr (fun i hi => by
        rw [Nat.add_zero]
        by_cases h : i < k
        · rw [if_pos h, if_pos h]; unfold laidS; rw [if_pos h]
        · rw [if_neg h, if_neg h])
      clear HT H0 H1 H2
      go_wp2_with fail
      go_loopg [14] r (fun f s14 wr => ∃ j : Nat, s14 = .int .i64 j ∧ j ≤ r ∧ r - j ≤ f ∧ Hid (Tab wr w.heap.size (k + r) (fun i => if i < k + j then laidS k G V H R i else ⟨0, 0, 0⟩)) ∧ Hid (Below w.heap.size w wr))
      case atStart => exact ⟨0, rfl, Nat.zero_le _, by omega, HT', HB⟩
      case round =>
        clear HT' HB
        obtain ⟨j, rfl, hj, hgj, HT, HB⟩ := hrel
        by_cases hltj : j < r
        · obtain ⟨f, rfl⟩ : ∃ f, gk = f + 1 := ⟨gk - 1, by omega⟩
          obtain ⟨b0, o0, hx0, hb0, hcell0⟩ := H3.out j hltj
          subst hx0
          have e0 := (HB.out.cell (p := ⟨b0, o0 + j, none⟩) hb0).trans hcell0
          have t0 := HT.out.c0 (i := k + j) (by omega)
          have t1 := HT.out.c1 (i := k + j) (by omega)
          have t2 := HT.out.c2 (i := k + j) (by omega)
          rw [if_neg (Nat.lt_irrefl _)] at t0 t1 t2
          have fz := HT.out.frozen
          have hls := lay_step (F := laidS k G V H R) (Z := fun _ => ⟨0, 0, 0⟩) HT.out HB.out (Nat.le_refl _)
          rw [laid_room] at hls
          have HLS := hide hls
          clear hcell0 hls
          go_wp2_with fail
          go_roundg f
          case measure => omega
          case rel => exact ⟨j + 1, by go_num, by omega, by omega, HLS.out.1, HLS.out.2⟩
        · obtain rfl : j = r := by omega
          go_wp2_with fail
          go_ret
          refine ⟨wr.heap.size, w.heap.size, rfl, Deep.blk_alloc_new _ _, ?_, ?_, Nat.le_refl _, HB.out.size, HB.out.alloc HB.out.size _⟩
          · exact (HT.out.congr (fun i hi => by rw [if_pos hi])).of_block (Deep.blk_alloc_lt wr _ _ HT.out.lt)
          · have := HT.out.lt; omega
end Go.Proofs.Qxb6001121a.HI

import Derived.Test.Qxb6601376aCopy
namespace Go.Proofs.Qxb6601376a.SR
open Go.RowKit
set_option linter.unusedVariables false

/-- The two rooms, boxed. -/
structure BX (w wr : World) (b1 b2 : Nat) (x0 x1 x2 x3 y0 y1 y2 y3 : Value) : Prop where
  h1 : wr.heap[b1]? = some (.cells #[x0, x1, x2, x3] 39 (0, 0))
  h2 : wr.heap[b2]? = some (.cells #[y0, y1, y2, y3] 39 (0, 0))
  bel : Below w.heap.size w wr

theorem bx_start (w : World) (x0 x1 x2 x3 y0 y1 y2 y3 : Value) : BX w ((w.alloc (.cells #[x0, x1, x2, x3] 39)).alloc (.cells #[y0, y1, y2, y3] 39)) w.heap.size (w.heap.size + 1) x0 x1 x2 x3 y0 y1 y2 y3 := by
  have z1 := Deep.nblk_alloc w (.cells #[x0, x1, x2, x3] 39)
  refine ⟨?_, ?_, ((Below.refl _ _).alloc (Nat.le_refl _) _).alloc (by rw [z1]; omega) _⟩
  · rw [Deep.blk_alloc_lt _ _ _ (by rw [z1]; omega), Deep.blk_alloc_new]
  · have := Deep.blk_alloc_new (w.alloc (.cells #[x0, x1, x2, x3] 39)) (.cells #[y0, y1, y2, y3] 39)
    rw [z1] at this; exact this

section
variable {w wr : World} {b1 b2 : Nat} {x0 x1 x2 x3 y0 y1 y2 y3 : Value}
theorem BX.cells (h : BX w wr b1 b2 x0 x1 x2 x3 y0 y1 y2 y3) : (wr.cell? ⟨b1, 0, none⟩ = some x0 ∧ wr.cell? ⟨b1, 1, none⟩ = some x1 ∧ wr.cell? ⟨b1, 2, none⟩ = some x2 ∧ wr.cell? ⟨b1, 3, none⟩ = some x3) ∧
    (wr.cell? ⟨b2, 0, none⟩ = some y0 ∧ wr.cell? ⟨b2, 1, none⟩ = some y1 ∧ wr.cell? ⟨b2, 2, none⟩ = some y2 ∧ wr.cell? ⟨b2, 3, none⟩ = some y3) := by
  refine ⟨⟨?_, ?_, ?_, ?_⟩, ?_, ?_, ?_, ?_⟩ <;> simp [World.cell?, h.h1, h.h2]
theorem BX.drewN (h : BX w wr b1 b2 x0 x1 x2 x3 y0 y1 y2 y3) (n : Nat) : BX w (wr.drewN n) b1 b2 x0 x1 x2 x3 y0 y1 y2 y3 := ⟨h.h1, h.h2, below_drewN h.bel n⟩
end

set_option maxRecDepth 100000 in
set_option maxHeartbeats 1000000 in
theorem same_any (w : World) (m sl N n1 c1 s1 d1 t1 n2 c2 s2 d2 t2 : Nat) (ix : Int) (A Hs sp T : Nat → Int) (R1 : Rm w n1 c1 s1 d1 t1 N A Hs sp T) (R2 : Rm w n2 c2 s2 d2 t2 N A Hs sp T) (hm : m ≤ 4096) (hsl : sl ≤ 2000000) (hN : N ≤ 65536)
    (m1 : m ≤ c1) (m2 : m ≤ c2) (l1 : sl ≤ d1) (l2 : sl ≤ d2) :
    Calls Try.prog 19 #[.agg #[.slice (some ⟨n1, 0, none⟩) m c1, .slice (some ⟨s1, 0, none⟩) sl d1, .slice (some ⟨t1, 0, none⟩) N N, .int .i64 ix],
      .agg #[.slice (some ⟨n2, 0, none⟩) m c2, .slice (some ⟨s2, 0, none⟩) sl d2, .slice (some ⟨t2, 0, none⟩) N N, .int .i64 ix]] w fun e w' => e = .returned (.bool true) ∧ Below w.heap.size w w' := by
  have Q1 := hide R1
  have Q2 := hide R2
  clear R1 R2
  go_enter Try.func19, Try.ntmps19
  go_wp2
  go_loopg [5] m (fun f s5 wr => ∃ k : Nat, s5 = .int .i64 k ∧ k ≤ m ∧ m - k ≤ f ∧ Hid (BX w wr w.heap.size (w.heap.size + 1) (.slice (some ⟨n1, 0, none⟩) m c1) (.slice (some ⟨s1, 0, none⟩) sl d1) (.slice (some ⟨t1, 0, none⟩) N N) (.int .i64 ix) (.slice (some ⟨n2, 0, none⟩) m c2) (.slice (some ⟨s2, 0, none⟩) sl d2) (.slice (some ⟨t2, 0, none⟩) N N) (.int .i64 ix)))
  case atStart => exact ⟨0, rfl, Nat.zero_le _, by omega, bx_start _ _ _ _ _ _ _ _ _⟩
  case round =>
    obtain ⟨k, rfl, hk, hgk, HB⟩ := hrel
    obtain ⟨⟨a0, a1, a2, a3⟩, e0, e1, e2, e3⟩ := HB.out.cells
    by_cases hlt : k < m
    · obtain ⟨f, rfl⟩ : ∃ f, gk = f + 1 := ⟨gk - 1, by omega⟩
      have p0 := (HB.out.bel.cell (p := ⟨n1, k * 2, none⟩) Q1.out.hn.lt).trans (Q1.out.hn.c0 (i := k) (by omega))
      have p1 := (HB.out.bel.cell (p := ⟨n1, k * 2 + 1, none⟩) Q1.out.hn.lt).trans (Q1.out.hn.c1 (i := k) (by omega))
      have q0 := (HB.out.bel.cell (p := ⟨n2, k * 2, none⟩) Q2.out.hn.lt).trans (Q2.out.hn.c0 (i := k) (by omega))
      have q1 := (HB.out.bel.cell (p := ⟨n2, k * 2 + 1, none⟩) Q2.out.hn.lt).trans (Q2.out.hn.c1 (i := k) (by omega))
      have hne : (A k != A k) = false := by simp
      have hne2 : (Hs k != Hs k) = false := by simp
      clear a1 a2 a3 e1 e2 e3
      go_wp2_with fail
      go_quiet (fail)
      go_wp2_with fail
      go_roundg f
      case measure => omega
      case rel => exact ⟨k + 1, by go_num, by omega, by omega, HB.out.drewN _⟩
    · obtain rfl : k = m := by omega
      clear a1 a2 a3 e1 e2 e3
      go_wp2_with fail
      go_loopg [6] sl (fun f s6 wr => ∃ j : Nat, s6 = .int .i64 j ∧ j ≤ sl ∧ sl - j ≤ f ∧ Hid (BX w wr w.heap.size (w.heap.size + 1) (.slice (some ⟨n1, 0, none⟩) k c1) (.slice (some ⟨s1, 0, none⟩) sl d1) (.slice (some ⟨t1, 0, none⟩) N N) (.int .i64 ix) (.slice (some ⟨n2, 0, none⟩) k c2) (.slice (some ⟨s2, 0, none⟩) sl d2) (.slice (some ⟨t2, 0, none⟩) N N) (.int .i64 ix)))
      case atStart => exact ⟨0, rfl, Nat.zero_le _, by omega, HB⟩
      case round =>
        clear HB a0 e0
        obtain ⟨j, rfl, hj, hgj, HB⟩ := hrel
        obtain ⟨⟨a0, a1, a2, a3⟩, e0, e1, e2, e3⟩ := HB.out.cells
        by_cases hltj : j < sl
        · obtain ⟨f, rfl⟩ : ∃ f, gk = f + 1 := ⟨gk - 1, by omega⟩
          have p0 := (HB.out.bel.cell (p := ⟨s1, j, none⟩) Q1.out.hs.lt).trans (Q1.out.hs.cell (i := j) (by omega))
          have q0 := (HB.out.bel.cell (p := ⟨s2, j, none⟩) Q2.out.hs.lt).trans (Q2.out.hs.cell (i := j) (by omega))
          have hne : (sp j != sp j) = false := by simp
          clear a0 a2 a3 e0 e2 e3
          go_wp2_with fail
          go_quiet (fail)
          go_wp2_with fail
          go_roundg f
          case measure => omega
          case rel => exact ⟨j + 1, by go_num, by omega, by omega, HB.out.drewN _⟩
        · clear a0 a2 a3 e0 e2 e3
          go_wp2_with fail
          go_loopg [7] N (fun f s7 wr => ∃ p : Nat, s7 = .int .i64 p ∧ p ≤ N ∧ N - p ≤ f ∧ Hid (BX w wr w.heap.size (w.heap.size + 1) (.slice (some ⟨n1, 0, none⟩) k c1) (.slice (some ⟨s1, 0, none⟩) sl d1) (.slice (some ⟨t1, 0, none⟩) N N) (.int .i64 ix) (.slice (some ⟨n2, 0, none⟩) k c2) (.slice (some ⟨s2, 0, none⟩) sl d2) (.slice (some ⟨t2, 0, none⟩) N N) (.int .i64 ix)))
          case atStart => exact ⟨0, rfl, Nat.zero_le _, by omega, HB⟩
          case round =>
            clear HB a1 e1
            obtain ⟨p, rfl, hp, hgp, HB⟩ := hrel
            obtain ⟨⟨a0, a1, a2, a3⟩, e0, e1, e2, e3⟩ := HB.out.cells
            clear a0 a1 a3 e0 e1 e3
            by_cases hltp : p < N
            · obtain ⟨f, rfl⟩ : ∃ f, gk = f + 1 := ⟨gk - 1, by omega⟩
              have p0 := (HB.out.bel.cell (p := ⟨t1, p, none⟩) Q1.out.ht.lt).trans (Q1.out.ht.cell (i := p) (by omega))
              have q0 := (HB.out.bel.cell (p := ⟨t2, p, none⟩) Q2.out.ht.lt).trans (Q2.out.ht.cell (i := p) (by omega))
              have hne : (T p != T p) = false := by simp
              go_wp2_with fail
              go_quiet (fail)
              go_wp2_with fail
              go_roundg f
              case measure => omega
              case rel => exact ⟨p + 1, by go_num, by omega, by omega, HB.out.drewN _⟩
            · go_wp2_with fail
              go_ret
              exact ⟨rfl, HB.out.bel⟩
end Go.Proofs.Qxb6601376a.SR

import Derived.Test.Qxb6001121aPrem
import Derived.Test.Qxb6001121aSlot
namespace Go.Proofs.Qxb6001121a.HI
open Go.RowKit
set_option linter.unusedVariables false

set_option maxRecDepth 100000 in
set_option maxHeartbeats 1000000 in
theorem law_big (w : World) (a0 a1 a2 a3 : Option Addr) (l0 l1 l2 l3 c0 c1 c2 c3 : Nat) (g : Int) (hb : ¬ (l0 ≤ 4096 ∧ l1 ≤ 4096 ∧ l2 ≤ 4096 ∧ l3 ≤ 8192)) :
    Calls Try.prog 4 #[.slice a0 l0 c0, .slice a1 l1 c1, .slice a2 l2 c2, .slice a3 l3 c3, .int .u32 g] w fun e w' => e = .returned (.bool true) ∧ Below w.heap.size w w' := by
  go_enter Try.func4, Try.ntmps4
  go_wp2_with (go_at_call 20; go_in)
  all_goals
    go_ret
    exact ⟨rfl, Below.refl _ _⟩

theorem Idx.of_fr {w w' : World} {h b len cap : Nat} {u g : Int} {mv : Value} {M : List Nat} (H : Idx w h b len cap u g mv) (F : Fr M w w') (hm : h ∉ M) : Idx w' h b len cap u g mv := H.of_block (F.block h H.lt hm)
theorem Tab.of_fr {w w' : World} {b cap : Nat} {S : Nat → Slot} {M : List Nat} (T : Tab w b cap S) (F : Fr M w w') (hm : b ∉ M) : Tab w' b cap S := T.of_block (F.block b T.lt hm)

/-- Both tables, slot by slot. -/
theorem alike {N n : Nat} {g g' : Int} {S0 S0' S S' : Nat → Slot} (hN : 0 < N) (h0 : ∀ p, p < N → used S0 g' p = false) (h0' : ∀ p, p < N → used S0' g' p = false) (e : ∀ i, i < n → S i = S' i) (p : Nat) (hp : p < N) :
    fillL N g' S0 (inuse S g n) p = fillL N g' S0' (inuse S' g n) p ∨
    (((fillL N g' S0 (inuse S g n) p).g == g') = false ∧ ((fillL N g' S0' (inuse S' g n) p).g == g') = false) := by
  rw [inuse_congr n e]
  have hv := fillL_view hN (inuse S' g n) S0 S0' (fun q hq => by rw [view_unused (h0 q hq), view_unused (h0' q hq)]) p hp
  generalize fillL N g' S0 (inuse S' g n) = F at *
  generalize fillL N g' S0' (inuse S' g n) = F' at *
  unfold view at hv
  by_cases h : (F p).g = g'
  · left
    rw [if_pos h] at hv
    by_cases h' : (F' p).g = g'
    · rw [if_pos h'] at hv
      simp only [Option.some.injEq, Prod.mk.injEq] at hv
      cases hF : F p with
      | mk a b c => cases hF' : F' p with
        | mk a' b' c' =>
          rw [hF] at h hv; rw [hF'] at h' hv
          simp only at h h' hv
          rw [h, h', hv.1, hv.2]
    · rw [if_neg h'] at hv; cases hv
  · right
    rw [if_neg h] at hv
    by_cases h' : (F' p).g = g'
    · rw [if_pos h'] at hv; cases hv
    · exact ⟨beq_eq_false_iff_ne.2 h, beq_eq_false_iff_ne.2 h'⟩

end Go.Proofs.Qxb6001121a.HI

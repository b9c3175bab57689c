import Derived.Test.Qxb6001121aFrame
import Derived.Test.Qxb6001121aFill
import Derived.WalkSpells
import Derived.WalkLawsBesides
import Derived.Deep.QuietTactic
import Derived.BigQuiet
import Derived.RegionTactic
import Derived.Deep.CutRange
namespace Go.Proofs.Qxb6001121a.HI
open Go.RowKit
set_option linter.unusedVariables false

/-- The generation counts on. -/
theorem next_on (w : World) (h b len cap : Nat) (u g : Int) (mv : Value) (H : Idx w h b len cap u g mv) (h0 : 0 ≤ g) (h1 : g + 1 < 4294967296) :
    Calls Try.prog 31 #[.pointer (some ⟨h, 0, none⟩)] w fun e w' => e = .returned (.tuple #[]) ∧ Idx w' h b len cap u (g + 1) mv ∧ Fr [h] w w' := by
  have k2 := H.c2
  have fz := H.frozen
  have HH : Hid (Idx w h b len cap u g mv) := H
  have hn : (g + 1 == 0) = false := by rw [beq_eq_false_iff_ne]; omega
  clear H
  go_enter Try.func31, Try.ntmps31
  go_wp2
  go_end0
  exact ⟨rfl, HH.out.set2 _, (Fr.refl _ _).setCell (.inl (by simp)) _⟩

/-- The generation wraps: every slot is cleared. -/
theorem next_wrap (w : World) (h b len cap : Nat) (u g : Int) (mv : Value) (S : Nat → Slot) (H : Idx w h b len cap u g mv) (T : Tab w b cap S) (hl : len ≤ cap) (hc : 0 < cap) (hcb : cap ≤ 100000) (hne : b ≠ h) (hg : g + 1 = 4294967296) :
    Calls Try.prog 31 #[.pointer (some ⟨h, 0, none⟩)] w fun e w' => e = .returned (.tuple #[]) ∧ Idx w' h b len cap u 1 mv ∧ Tab w' b cap (fun _ => ⟨0, 0, 0⟩) ∧ Fr [h, b] w w' := by
  obtain rfl : g = 4294967295 := by omega
  clear hg
  have k2 := H.c2
  have fz := H.frozen
  have H1 : Idx (w.setCell ⟨h, 2, none⟩ (.int .u32 0)) h b len cap u 0 mv := H.set2 0
  have T1 : Tab (w.setCell ⟨h, 2, none⟩ (.int .u32 0)) b cap S := T.of_block (Deep.blk_setCell_other _ _ _ _ (by simpa using hne))
  have F1 : Fr [h, b] w (w.setCell ⟨h, 2, none⟩ (.int .u32 0)) := (Fr.refl _ _).setCell (.inl (by simp)) _
  have k0 := H1.c0
  have HT1 : Hid (Tab (w.setCell ⟨h, 2, none⟩ (.int .u32 0)) b cap S) := T1
  have HH1 : Hid (Idx (w.setCell ⟨h, 2, none⟩ (.int .u32 0)) h b len cap u 0 mv) := H1
  have HF1 : Hid (Fr [h, b] w (w.setCell ⟨h, 2, none⟩ (.int .u32 0))) := F1
  obtain ⟨w2, hrun, T2, g2⟩ := clear_slots (w.setCell ⟨h, 2, none⟩ (.int .u32 0)).drew b cap S T1 hc
  have HR : Hid (Idx w2 h b len cap u 0 mv ∧ Tab w2 b cap (fun _ => ⟨0, 0, 0⟩) ∧ Fr [h, b] w w2) :=
    ⟨H1.of_block (g2.block h H1.lt (fun e => hne (by cases e; rfl))), T2, F1.trans (Fr.of_grown (w := (w.setCell ⟨h, 2, none⟩ (.int .u32 0))) ⟨g2.os, g2.tape, g2.output, g2.size, g2.block⟩ (by simp))⟩
  have HRun : Hid (∀ ty, (Builtin.clear_ #[45] ty #[.slice (some ⟨b, 0, none⟩) cap cap]).run Try.prog (w.setCell ⟨h, 2, none⟩ (.int .u32 0)).drew = .ok (.tuple #[]) w2) := hrun
  clear H T H1 T1 F1 hrun T2 g2
  go_enter Try.func31, Try.ntmps31
  go_wp2
  go_cut [] from 2 (fun wx => Idx wx h b len cap u 0 mv ∧ Tab wx b cap (fun _ => ⟨0, 0, 0⟩) ∧ Fr [h, b] w wx)
  case first =>
    go_region_law (refine step_clear rfl (.tmp 23) 45 rfl (.slice (some ⟨b, 0, none⟩) cap cap) (by simp [Act.eval, Act.put]) w2 HRun.out ?_)
    all_goals
      go_wp2_with fail
      go_meet
      exact HR.out
  case rest =>
    obtain ⟨H3, T3, F3⟩ := hcut
    have k2' := H3.c2
    have fz' := H3.frozen
    have HH3 : Hid (Idx wc h b len cap u 0 mv) := H3
    have HT3 : Hid (Tab wc b cap (fun _ => ⟨0, 0, 0⟩)) := T3
    have HF3 : Hid (Fr [h, b] w wc) := F3
    clear H3 T3 F3
    go_wp2
    go_end0
    exact ⟨rfl, HH3.out.set2 _, HT3.out.of_block (Deep.blk_setCell_other _ _ _ _ hne), HF3.out.setCell (.inl (by simp)) _⟩

/-- Whatever the generation: behind it no slot is in use. -/
theorem next_any (w : World) (h b len cap : Nat) (u g : Int) (mv : Value) (S : Nat → Slot) (H : Idx w h b len cap u g mv) (T : Tab w b cap S) (hl : len ≤ cap) (hc : 0 < cap) (hcb : cap ≤ 100000) (hne : b ≠ h)
    (h0 : 0 ≤ g) (h1 : g < 4294967296) (hS : ∀ p, p < cap → 0 ≤ (S p).g ∧ (S p).g ≤ g) :
    Calls Try.prog 31 #[.pointer (some ⟨h, 0, none⟩)] w fun e w' => e = .returned (.tuple #[]) ∧ ∃ S', Idx w' h b len cap u (nextG g) mv ∧ Tab w' b cap S' ∧ (∀ p, p < cap → used S' (nextG g) p = false) ∧ Fr [h, b] w w' := by
  by_cases hg : g + 1 = 4294967296
  · refine (next_wrap w h b len cap u g mv S H T hl hc hcb hne hg).mono ?_
    rintro e w' ⟨rfl, H', T', F'⟩
    have e1 : nextG g = 1 := by simp [nextG, hg]
    rw [e1]
    exact ⟨rfl, _, H', T', fun p _ => rfl, F'⟩
  · refine (next_on w h b len cap u g mv H h0 (by omega)).mono ?_
    rintro e w' ⟨rfl, H', F'⟩
    have e1 : nextG g = g + 1 := by simp [nextG, hg]
    rw [e1]
    refine ⟨rfl, S, H', T.of_block (F'.block b T.lt (by simp; exact hne)), fun p hp => ?_, F'.mono (fun k _ hk => by simp at hk; simp [hk])⟩
    have := hS p hp
    unfold used; rw [beq_eq_false_iff_ne]; omega
end Go.Proofs.Qxb6001121a.HI

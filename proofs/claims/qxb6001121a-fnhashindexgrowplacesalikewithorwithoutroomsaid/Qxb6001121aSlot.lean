import Derived.Test.Qxb6001121aMem
import Derived.WalkSpells
import Derived.WalkLawsBesides
import Derived.Deep.QuietTactic
import Derived.BigQuiet
namespace Go.Proofs.Qxb6001121a.HI
open Go.RowKit
set_option linter.unusedVariables false

set_option maxHeartbeats 400000 in
theorem slot_any (w : World) (h b len cap i : Nat) (u g : Int) (mv : Value) (S : Nat → Slot) (H : Idx w h b len cap u g mv) (T : Tab w b cap S) (hl : len ≤ cap) (hi : i < len) (hb : len ≤ 100000) :
    Calls Try.prog 18 #[.pointer (some ⟨h, 0, none⟩), .int .i64 i] w fun e w' => e = .returned (.tuple #[.int .u32 (S i).g, .int .i64 (S i).v, .int .u64 (S i).h]) ∧ Below w.heap.size w w' := by
  have k0 := H.c0
  have t0 := T.c0 (i := i) (by omega)
  have t1 := T.c1 (i := i) (by omega)
  have t2 := T.c2 (i := i) (by omega)
  clear H T
  go_enter Try.func18, Try.ntmps18
  go_wp2
  go_quiet (fail)
  go_wp2
  go_ret3
  exact ⟨rfl, below_drewN ((Below.refl _ _).alloc (Nat.le_refl _) _) _⟩

theorem len_any (w : World) (h b len cap : Nat) (u g : Int) (mv : Value) (H : Idx w h b len cap u g mv) :
    Calls Try.prog 15 #[.pointer (some ⟨h, 0, none⟩)] w fun e w' => e = .returned (.int .i64 len) ∧ w' = w := by
  have k0 := H.c0
  clear H
  go_enter Try.func15, Try.ntmps15
  go_wp2
  go_ret
  exact ⟨rfl, rfl⟩

theorem gen_any (w : World) (h b len cap : Nat) (u g : Int) (mv : Value) (H : Idx w h b len cap u g mv) :
    Calls Try.prog 17 #[.pointer (some ⟨h, 0, none⟩)] w fun e w' => e = .returned (.int .u32 g) ∧ w' = w := by
  have k0 := H.c2
  clear H
  go_enter Try.func17, Try.ntmps17
  go_wp2
  go_ret
  exact ⟨rfl, rfl⟩
end Go.Proofs.Qxb6001121a.HI

import Derived.Test.Qxb6601376aMem
import Derived.Test.Qxb6601376aPlain
import Derived.WalkSpells
import Derived.WalkLawsBesides
import Derived.Deep.QuietTactic
import Derived.BigQuiet
import Derived.Deep.LoopGhost
import Derived.RegionTactic
import Derived.BigRegion
import Derived.Deep.CutRange
import Derived.Deep.CutBlock
import Derived.Lib.SliceRun
import Derived.Laws.BitsAllLaws
namespace Go.Proofs.Qxb6601376a.SR
open Go.RowKit
set_option linter.unusedVariables false

set_option maxHeartbeats 400000 in
theorem count_any (w : World) (a : Option Addr) (n cap : Nat) (Hs : Nat → Int) (Ln : Nat → Nat) (hn : n ≤ 4096) (s : Sl w a n Hs Ln) :
    Calls Try.prog 15 #[.slice a n cap] w fun e w' => e = .returned (.int .i64 (cntH Hs n)) ∧ w = w' := by
  have HS := hide s
  clear s
  go_enter Try.func15, Try.ntmps15
  go_wp2
  go_loopg [3, 4] n (fun f s3 s4 wr => ∃ k : Nat, s4 = .int .i64 k ∧ s3 = .int .i64 (cntH Hs k) ∧ k ≤ n ∧ n - k ≤ f ∧ w = wr)
  case atStart => exact ⟨0, rfl, rfl, Nat.zero_le _, by omega, rfl⟩
  case round =>
    obtain ⟨k, rfl, rfl, hk, hgk, rfl⟩ := hrel
    have hc := cntH_le Hs k
    by_cases hlt : k < n
    · obtain ⟨f, rfl⟩ : ∃ f, gk = f + 1 := ⟨gk - 1, by omega⟩
      obtain ⟨b, off, rfl, hb, h0, h1⟩ := HS.out k hlt
      clear h1
      by_cases hz : Hs k = 0
      · have hz' : (Hs k != 0) = false := by simp [hz]
        have HZ := hide (cntH_none hz)
        clear hz
        go_wp2
        go_roundg f
        case measure => omega
        case rel => exact ⟨k + 1, by go_num, by rw [HZ.out], by omega, by omega, rfl⟩
      · have hz' : (Hs k != 0) = true := by simp [hz]
        have HZ := hide (cntH_some hz)
        clear hz
        go_wp2
        go_roundg f
        case measure => omega
        case rel => exact ⟨k + 1, by go_num, by rw [HZ.out]; go_num, by omega, by omega, rfl⟩
    · obtain rfl : k = n := by omega
      go_wp2
      go_ret
      exact ⟨rfl, rfl⟩

set_option maxHeartbeats 400000 in
theorem clone_any (w : World) (a : Option Addr) (len cap : Nat) (Hs : Nat → Int) (Ln : Nat → Nat) (hb : len ≤ 100000) (H : Sl w a len Hs Ln) :
    Calls Try.prog 16 #[.slice a len cap] w fun e w' => (∃ a' cap', e = .returned (.slice a' len cap') ∧ Sl w' a' len Hs Ln) ∧ Below w.heap.size w w' := by
  have hnil := fun (w : World) (a : Option Addr) (n c n' c' : Nat) => Lib.run_eql_slice_nil (P := Try.prog) w 31 52 a n c n' c' Try.underlying31
  cases a with
  | none =>
    have hl : len = 0 := by
      by_cases h : 0 < len
      · obtain ⟨b, off, e, _⟩ := H 0 h; cases e
      · omega
    subst hl
    go_enter Try.func16, Try.ntmps16
    go_wp2
    go_ret
    exact ⟨⟨none, 0, rfl, fun i hi => by omega⟩, Below.refl _ _⟩
  | some x =>
    have hmk := make_pairs 31 52 .u64 .u8 Try.underlying31 info52 len hb
    have HH := hide H
    clear H
    go_enter Try.func16, Try.ntmps16
    go_wp2
    go_loopg [4] len (fun f s4 wr => ∃ k : Nat, s4 = .int .i64 k ∧ k ≤ len ∧ len - k ≤ f ∧ Hid (Pair wr w.heap.size 52 .u64 .u8 len (fun i => if i < k then Hs i else 0) (fun i => if i < k then (Ln i : Int) else 0)) ∧ Hid (Below w.heap.size w wr))
    case atStart => exact ⟨0, rfl, Nat.zero_le _, by omega, (pair_made _ _ _ _ _).congr (fun i _ => by rw [if_neg (by omega), if_neg (by omega)]; exact ⟨rfl, rfl⟩), (Below.refl _ _).alloc (Nat.le_refl _) _⟩
    case round =>
      obtain ⟨k, rfl, hk, hgk, HR, HB⟩ := hrel
      by_cases hlt : k < len
      · obtain ⟨f, rfl⟩ : ∃ f, gk = f + 1 := ⟨gk - 1, by omega⟩
        obtain ⟨b, off, hx, hbb, hc0, hc1⟩ := HH.out k hlt
        simp only [Option.some.injEq] at hx
        subst hx
        have e0 := (HB.out.cell (p := ⟨b, off + k * 2, none⟩) hbb).trans hc0
        have e1 := (HB.out.cell (p := ⟨b, off + k * 2 + 1, none⟩) hbb).trans hc1
        have c2 := HR.out.c0 hlt
        have c3 := HR.out.c1 hlt
        have fz := HR.out.frozen
        rw [if_neg (Nat.lt_irrefl k)] at c2 c3
        have HS := hide (pair_step (X := Hs) (Y := fun i => (Ln i : Int)) HR.out HB.out (Nat.le_refl _))
        clear hc0 hc1
        go_wp2
        go_roundg f
        case measure => omega
        case rel => exact ⟨k + 1, by go_num, by omega, by omega, HS.out.1, HS.out.2⟩
      · obtain rfl : k = len := by omega
        go_wp2
        go_ret
        refine ⟨⟨_, _, rfl, fun i hi => ⟨w.heap.size, 0, rfl, HR.out.lt, ?_, ?_⟩⟩, HB.out⟩
        · have := HR.out.c0 hi
          rw [if_pos hi] at this
          rw [Nat.zero_add]; exact this
        · have := HR.out.c1 hi
          rw [if_pos hi] at this
          rw [Nat.zero_add]; exact this
end Go.Proofs.Qxb6601376a.SR

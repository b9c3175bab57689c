/-
  'Rows.FnSkipRoomDropInTwoStepsIsDropOnceSaid' PROVED. The frame is typed after the kit's own shell for slices; the walk is Qxb6601376aLaw.lean's 'SR.law'.
-/
import Derived.Test.Qxb6601376aRows
import Derived.Test.Qxb6601376aLaw
import Derived.WalkKit
import Derived.ProofKit
import Derived.OpenShut
import Derived.ShutString
import Derived.ChangeOld
import Derived.Below
import Derived.Deep.SlicePairs
namespace Go.Proofs.Qxb6601376a.fnSkipRoomDropInTwoStepsIsDropOnce
open Go.ChangeShapes Go.WideShapes Go.ChangeAt Go.RowKit
set_option linter.unusedVariables false

theorem own : ownKnob Try.prog.godebug = none := by kernel_rfl
theorem laidOut : laidOutB Try.prog = true := by kernel_rfl
theorem cells52 : Try.prog.cellsOf 52 = 2 := by kernel_rfl
theorem cells50 : Try.prog.cellsOf 50 = 1 := by kernel_rfl
theorem cells5 : Try.prog.cellsOf 5 = 1 := by kernel_rfl

/-- What the walk is told of the names that came in. -/
def IsNames (w : World) (a : Option Addr) (len : Nat) : Prop :=
  ∃ (Hs : Nat → Int) (Ln : Nat → Nat), SR.Sl w a len Hs Ln ∧ (∀ i, i < len → Ln i ≤ 255) ∧ ∀ i, i < len → 0 ≤ Hs i ∧ Hs i < 18446744073709551616

theorem names_of {H : Type} {enc : TypeId × Value → H} {w : World} {fuel : Nat} {a : Option Addr} {len cap : Nat} {x : DataW H × List MemPlace}
    (h : DataW.trod enc Try.prog w 0 (fun _ => true) true fuel 31 [.slice a len cap] = some x) : IsNames w a len := by
  rcases Deep.open_slice_pairs Try.underlying31 Try.underlying52 cells52 rfl rfl cells50 cells5 h with ⟨hcs, _⟩ | ⟨ad, len', cap', m, n, V0, V1, D0, D1, P0, P1, hcs, _, hl, _, hm, _, hc⟩
  · simp at hcs
    obtain ⟨rfl, rfl, rfl⟩ := hcs
    exact ⟨fun _ => 0, fun _ => 0, fun i hi => by omega, fun i hi => by omega, fun i hi => by omega⟩
  · simp at hcs
    obtain ⟨rfl, rfl, rfl⟩ := hcs
    have hlm : len ≤ m := by rw [hm]; simp; exact hl
    have each : ∀ i, i < len → ∃ q : Int × Nat, V0 i = .int .u64 q.1 ∧ V1 i = .int .u8 (q.2 : Int) ∧ q.2 ≤ 255 ∧ 0 ≤ q.1 ∧ q.1 < 18446744073709551616 := by
      intro i hi
      obtain ⟨_, _, g0, g1⟩ := hc i (by omega)
      obtain ⟨z0, e0, _, f0⟩ := DataW.trod_int Try.underlying50 g0
      obtain ⟨z1, e1, _, f1⟩ := DataW.trod_int Try.underlying5 g1
      have b0 := bounds_u64 f0
      have b1 := bounds_u8 f1
      simp only [List.cons.injEq, and_true] at e0 e1
      refine ⟨(z0, z1.toNat), e0, ?_, ?_, b0.1, ?_⟩
      · rw [e1]; congr 1; show z1 = ((z1.toNat : Nat) : Int); omega
      · show z1.toNat ≤ 255; omega
      · show z0 < 18446744073709551616; omega
    obtain ⟨q, hq⟩ := Deep.choose_lt each
    refine ⟨fun i => (q i).1, fun i => (q i).2, fun i hi => ?_, fun i hi => (hq i hi).2.2.1, fun i hi => (hq i hi).2.2.2⟩
    obtain ⟨b, off, spot⟩ := ad
    obtain ⟨g0, g1, _, _⟩ := hc i (by omega)
    have hspot : spot = none := by
      have := (hc 0 (by omega)).1
      simpa [Addr.add] using World.cell?_spot this
    subst hspot
    rw [add_plain] at g0 g1
    rw [(hq i hi).1] at g0
    rw [(hq i hi).2.1] at g1
    exact ⟨b, off, rfl, World.block_lt_of_cell? w _ g0, g0, g1⟩

/-! ### THE ROW's STEP -/
set_option maxRecDepth 100000 in
theorem lifted (os : Os) (started : os.Started) (H : Type) (enc : TypeId × Value → H) :
    ReturnsInHanded {} Try.checked os 7 .any (Rows.fnSkipRoomDropInTwoStepsIsDropOnceSpec.pre6 enc Try.prog Try.f7 Rows.fnSkipRoomDropInTwoStepsIsDropOnceRow.domain false) (Rows.fnSkipRoomDropInTwoStepsIsDropOnceSpec.post enc Try.prog Try.f7 false true false false) := by
  refine returnsInHanded_of_change (C := Try.checked) own started (by kernel_rfl) Try.func7
    (ChangeSpec.witness6 (enc := enc) (C := Try.checked) false ⟨#[], #[.slice none 0 0, .int .u8 0, .int .i64 0, .int .i64 0], []⟩ 8 (by kernel_rfl) (by kernel_rfl) (by kernel_rfl) (by kernel_rfl)) ?_
  intro W base args ds gs before hval0 hW hcnd _
  have hval : ∀ (j : Nat) t v, Try.f7.params[j]? = some t → args[j]? = some v → Value.okWide Try.prog W .any base t v := hval0
  have hW' := hW
  obtain ⟨p, q, hA0, hV, rfl, hfz, hnd⟩ := hW
  have hA : DataW.TrodAll enc Try.prog W 0 (fun _ => true) true Try.f7.params.toList args.toList ds p := hA0
  rw [Try.params7] at hA hval
  obtain ⟨v0, vs0, d0, ds0, p0, q0, hargs, rfl, rfl, h0, r0⟩ := trodAll_cons hA
  obtain ⟨v1, vs1, d1, ds1, p1, q1, rfl, rfl, rfl, h1, r1⟩ := trodAll_cons r0
  obtain ⟨v2, vs2, d2, ds2, p2, q2, rfl, rfl, rfl, h2, r2⟩ := trodAll_cons r1
  obtain ⟨v3, vs3, d3, ds3, p3, q3, rfl, rfl, rfl, h3, r3⟩ := trodAll_cons r2
  obtain ⟨rfl, rfl, rfl⟩ := trodAll_nil r3
  obtain rfl : args = #[v0, v1, v2, v3] := by cases args; simp_all
  obtain ⟨rfl, rfl⟩ := trodVars_none hV
  obtain ⟨a0, len0, cap0, rfl⟩ := okWide_slice Try.underlying31 (hval 0 31 v0 rfl rfl)
  have k0 := h0
  have lt0 : ∀ x ∈ p0, x.block < W.heap.size := by obtain ⟨m, hm⟩ := k0; exact DataW.trod_lt m _ _ _ hm
  obtain ⟨Hs, Ln, hsl, hLn, hHs⟩ : IsNames W a0 len0 := by
    obtain ⟨fuel, hf⟩ := h0
    exact names_of hf
  obtain ⟨a1, rfl, rfl, rfl, w1⟩ := open_int Try.underlying5 (hval 1 5 v1 rfl rfl) h1
  obtain ⟨a2, rfl, rfl, rfl, w2⟩ := open_int Try.underlying3 (hval 2 3 v2 rfl rfl) h2
  obtain ⟨a3, rfl, rfl, rfl, w3⟩ := open_int Try.underlying3 (hval 3 3 v3 rfl rfl) h3
  clear hA0 hval0
  refine (SR.law W a0 len0 cap0 a1 a2 a3 Hs Ln hsl (bounds_u8 w1).1 hLn hHs).mono fun e W' ⟨he, bel⟩ => ?_
  subst he
  exact ⟨_, rfl, _, _, _, [], _, [], hW', trodAll_mk1 (shut_bool Try.underlying4 _), (trodAll_cons_mk (Below.trod laidOut (by kernel_rfl) (of_decide_eq_true (by kernel_rfl)) k0 bel lt0) (trodAll_cons_mk (shut_int Try.underlying5 w1) (trodAll_cons_mk (shut_int Try.underlying3 w2) (trodAll_cons_mk (shut_int Try.underlying3 w3) trodAll_mk0)))), rfl, bel.frame _, fun h => by cases h⟩

theorem over : Rows.fnSkipRoomDropInTwoStepsIsDropOnceRow.holds Try.pinned (OpenSpec.ofChange Rows.fnSkipRoomDropInTwoStepsIsDropOnceSpec) :=
  OpenClaim.holds_of_wide 7 Try.f7 rfl rfl rfl rfl rfl rfl rfl ⟨rfl, rfl, rfl, rfl, rfl⟩ rfl rfl rfl rfl rfl (by kernel_rfl) Try.func7 (by kernel_rfl)
    (of_decide_eq_true (by kernel_rfl)) (by unfold Func.isWrapper; first | (rw [if_pos (by decide +kernel)]; kernel_rfl) | (rw [if_neg (by decide +kernel)]; exact ⟨rfl, rfl⟩))
    (fun os started H enc _ => lifted os started H enc)

theorem proved : Rows.FnSkipRoomDropInTwoStepsIsDropOnceSaid := over
end Go.Proofs.Qxb6601376a.fnSkipRoomDropInTwoStepsIsDropOnce

import Derived.Test.Qxb6001121aMem
import Derived.Test.Qxb6001121aPlain
import Derived.WalkSpells
import Derived.WalkLawsBesides
import Derived.Deep.QuietTactic
import Derived.BigQuiet
import Derived.Deep.LoopGhost
import Derived.RegionTactic
import Derived.BigRegion
import Derived.Laws.BitsAllLaws
namespace Go.Proofs.Qxb6001121a.HI
open Go.RowKit
set_option linter.unusedVariables false

def used (S : Nat → Slot) (g : Int) (p : Nat) : Bool := (S p).g == g

/-- The table with one more slot in use. -/
def put (N : Nat) (S : Nat → Slot) (g mv mh : Int) : Nat → Slot :=
  fun j => if j = probe N (used S g) N (mh.toNat % N) then ⟨g, mv, mh⟩ else S j

theorem and_mask (x : Int) (N : Nat) (hp : ∃ k, N = 2 ^ k) (hb : N ≤ 100000) (h0 : 0 ≤ x) (h1 : x < 18446744073709551616) :
    bits .and .u64 x ((N : Int) - 1) = ((x.toNat % N : Nat) : Int) := by
  obtain ⟨k, rfl⟩ := hp
  have hpos : 0 < 2 ^ k := Nat.two_pow_pos k
  rw [u64_and x _ h0 h1 (by omega) (by omega)]
  have e : (((2 ^ k : Nat) : Int) - 1).toNat = 2 ^ k - 1 := by omega
  rw [e, Nat.and_two_pow_sub_one_eq_mod]

theorem grownBy_set (w : World) (b o1 o2 o3 n : Nat) (v1 v2 v3 : Value) : w.grownBy ((((w.setCell ⟨b, o1, none⟩ v1).setCell ⟨b, o2, none⟩ v2).setCell ⟨b, o3, none⟩ v3).drewN n) (some b) := by
  refine ⟨rfl, rfl, rfl, by simp [World.drewN, World.setCell], fun k hk hne => ?_⟩
  have hk2 : k ≠ b := fun e => hne (by rw [e])
  show (((w.setCell ⟨b, o1, none⟩ v1).setCell ⟨b, o2, none⟩ v2).setCell ⟨b, o3, none⟩ v3).heap[k]? = _
  rw [Below.heap_setCell _ _ _ _ hk2, Below.heap_setCell _ _ _ _ hk2, Below.heap_setCell _ _ _ _ hk2]

set_option maxHeartbeats 400000 in
theorem place_any (w : World) (h b N cap : Nat) (u g mh mvv : Int) (mv : Value) (S : Nat → Slot) (H : Idx w h b N cap u g mv) (T : Tab w b cap S) (hl : N ≤ cap) (hb : N ≤ 100000) (hN : 1 ≤ N) (hpow : ∃ k, N = 2 ^ k)
    (hmh : 0 ≤ mh ∧ mh < 18446744073709551616) (hfree : ∃ p, p < N ∧ used S g p = false) :
    Calls Try.prog 32 #[.pointer (some ⟨h, 0, none⟩), .int .u64 mh, .int .i64 mvv] w fun e w' => e = .returned (.tuple #[]) ∧ Tab w' b cap (put N S g mvv mh) ∧ w.grownBy w' (some b) := by
  have k0 := H.c0
  have k2 := H.c2
  have hm0 := and_mask mh N hpow hb hmh.1 hmh.2
  have HM : Hid (∀ p : Nat, p < N → bits .and .u64 ((p : Int) + 1) ((N : Int) - 1) = (((p + 1) % N : Nat) : Int)) := fun p hp => by
    have := and_mask ((p : Int) + 1) N hpow hb (by omega) (by omega)
    rw [this]; congr 1
  have fz := T.frozen
  have HT : Hid (Tab w b cap S) := T
  obtain ⟨t, Ht⟩ : ∃ t, Hid (probe N (used S g) N (mh.toNat % N) = t) := ⟨_, rfl⟩
  have Hn : Hid (Near N (used S g) N (mh.toNat % N)) := by
    obtain ⟨p, hp, hU⟩ := hfree
    exact near_of hp hU _ (Nat.mod_lt _ (by omega))
  have Hput : Hid (put N S g mvv mh = fun j => if j = t then ⟨g, mvv, mh⟩ else S j) := by
    show put N S g mvv mh = _
    unfold put; rw [Ht.out]
  have Hp0 : Hid (mh.toNat % N < N) := Nat.mod_lt _ (by omega)
  clear T H hfree hpow hmh
  generalize mh.toNat % N = p0 at *
  go_enter Try.func32, Try.ntmps32
  go_wp2
  go_loopg [7] N (fun f s7 wx => ∃ p : Nat, s7 = .int .u64 p ∧ p < N ∧ Hid (probe N (used S g) f p = t) ∧ Hid (Near N (used S g) f p) ∧ ∃ n, wx = w.drewN n)
  case atStart => exact ⟨p0, rfl, Hp0.out, Ht, Hn, 0, rfl⟩
  case round =>
    obtain ⟨p, rfl, hp, HP, HN, n, rfl⟩ := hrel
    have t0 := HT.out.c0 (i := p) (by omega)
    have t1 := HT.out.c1 (i := p) (by omega)
    have t2 := HT.out.c2 (i := p) (by omega)
    have hm1 := HM.out p hp
    have hg := near_pos HN.out
    obtain ⟨f, rfl⟩ : ∃ f, gk = f + 1 := ⟨gk - 1, by omega⟩
    clear Ht Hn Hp0 HM
    go_wp2_with fail
    go_quiet (fail)
    go_wp2_with fail
    · have hu : ((S p).g == g) = true := by assumption
      go_roundg f
      case measure => omega
      case rel => exact ⟨(p + 1) % N, rfl, Nat.mod_lt _ (by omega), (probe_go N (used S g) f p hu).symm.trans HP.out, near_next hp HN.out hu, _, rfl⟩
    · have hu : ((S p).g == g) = false := by assumption
      have Hpt : Hid (p = t) := (probe_stop N (used S g) (f + 1) p hu).symm.trans HP.out
      clear HP HN hu
      go_region
      go_end0
      rw [← Hpt.out] at Hput
      refine ⟨rfl, ?_, ?_⟩
      · rw [Hput.out]; exact HT.out.set p ⟨g, mvv, mh⟩
      · exact grownBy_set _ _ _ _ _ _ _ _ _
end Go.Proofs.Qxb6001121a.HI

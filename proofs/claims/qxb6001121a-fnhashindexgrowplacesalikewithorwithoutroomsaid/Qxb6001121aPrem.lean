import Derived.Test.Qxb6001121aBuild
namespace Go.Proofs.Qxb6001121a.HI
open Go.RowKit
set_option linter.unusedVariables false

/-- What indexPremise asks. -/
structure Prem (n l1 l2 r : Nat) (g : Int) (G R : Nat → Int) : Prop where
  e1 : l1 = n
  e2 : l2 = n
  pw : n &&& (n - 1) = 0
  gs : ∀ i, i < n → G i ≤ g
  rs : ∀ j, j < r → R j ≤ g

theorem i64_and_nat (a b : Nat) (ha : a ≤ 100000) (hb : b ≤ 100000) : bits .and .i64 (a : Int) (b : Int) = ((a &&& b : Nat) : Int) := by
  have hx : a &&& b < 2 ^ 62 := Nat.and_lt_two_pow _ (by omega)
  show IntKind.i64.wrap ((BitVec.ofInt 64 (a : Int) &&& BitVec.ofInt 64 (b : Int)).toNat : Int) = _
  rw [BitVec.toNat_and, ofInt_u64 a (by omega), ofInt_u64 b (by omega), IntKind.wrap_i64]; omega

theorem and_pow (n : Nat) (hn : n ≤ 100000) (h : (bits .and .i64 (n : Int) ((n : Int) - 1) != 0) = false) : n &&& (n - 1) = 0 := by
  by_cases hz : n = 0
  · subst hz; rfl
  · have e : ((n : Int) - 1) = ((n - 1 : Nat) : Int) := by omega
    rw [e, i64_and_nat n (n - 1) (by omega) (by omega)] at h
    have h2 : ((n &&& (n - 1) : Nat) : Int) = 0 := by simpa using h
    omega

set_option maxRecDepth 100000 in
set_option maxHeartbeats 400000 in
theorem prem_any (w : World) (a0 a1 a2 a3 : Option Addr) (n l1 l2 r c0 c1 c2 c3 : Nat) (g : Int) (G R : Nat → Int) (hn : n ≤ 4096) (h1 : l1 ≤ 4096) (h2 : l2 ≤ 4096) (hr : r ≤ 8192)
    (s0 : Sl .u32 w a0 n G) (s3 : Sl .u32 w a3 r R) :
    Calls Try.prog 9 #[.slice a0 n c0, .slice a1 l1 c1, .slice a2 l2 c2, .slice a3 r c3, .int .u32 g] w fun e w' => (∃ b : Bool, e = .returned (.bool b) ∧ (b = true → Prem n l1 l2 r g G R)) ∧ w' = w := by
  by_cases e1 : l1 = n
  · by_cases e2 : l2 = n
    · subst e1 e2
      have n1 : ((l2 : Int) != (l2 : Int)) = false := by simp
      by_cases hb : (bits .and .i64 (l2 : Int) ((l2 : Int) - 1) != 0) = true
      · go_enter Try.func9, Try.ntmps9
        go_wp2
        go_ret
        exact ⟨⟨false, rfl, fun h => by cases h⟩, rfl⟩
      · have hb' : (bits .and .i64 (l2 : Int) ((l2 : Int) - 1) != 0) = false := by simpa using hb
        have HP := hide (and_pow l2 (by omega) hb')
        clear hb
        have H0 := hide s0
        have H3 := hide s3
        clear s0 s3
        go_enter Try.func9, Try.ntmps9
        go_wp2
        go_loopg [12] l2 (fun f s12 wr => ∃ k : Nat, s12 = .int .i64 k ∧ k ≤ l2 ∧ l2 - k ≤ f ∧ Hid (∀ i, i < k → G i ≤ g) ∧ w = wr)
        case atStart => exact ⟨0, rfl, Nat.zero_le _, by omega, fun i hi => by omega, rfl⟩
        case round =>
          obtain ⟨k, rfl, hk, hgk, HG, rfl⟩ := hrel
          by_cases hlt : k < l2
          · obtain ⟨f, rfl⟩ : ∃ f, gk = f + 1 := ⟨gk - 1, by omega⟩
            obtain ⟨b0, o0, hx0, hb0, hcell0⟩ := H0.out k hlt
            subst hx0
            by_cases hgt : g < G k
            · go_wp2
              go_ret
              exact ⟨⟨false, rfl, fun h => by cases h⟩, rfl⟩
            · go_wp2
              go_roundg f
              case measure => omega
              case rel =>
                refine ⟨k + 1, by go_num, by omega, by omega, fun i hi => ?_, rfl⟩
                by_cases e : i = k
                · subst e; omega
                · exact HG.out i (by omega)
          · obtain rfl : k = l2 := by omega
            go_wp2
            go_loopg [13] r (fun f s13 wr => ∃ j : Nat, s13 = .int .i64 j ∧ j ≤ r ∧ r - j ≤ f ∧ Hid (∀ i, i < j → R i ≤ g) ∧ w = wr)
            case atStart => exact ⟨0, rfl, Nat.zero_le _, by omega, fun i hi => by omega, rfl⟩
            case round =>
              obtain ⟨j, rfl, hj, hgj, HR, rfl⟩ := hrel
              by_cases hltj : j < r
              · obtain ⟨f, rfl⟩ : ∃ f, gk = f + 1 := ⟨gk - 1, by omega⟩
                obtain ⟨b0, o0, hx0, hb0, hcell0⟩ := H3.out j hltj
                subst hx0
                by_cases hgt : g < R j
                · go_wp2
                  go_ret
                  exact ⟨⟨false, rfl, fun h => by cases h⟩, rfl⟩
                · go_wp2
                  go_roundg f
                  case measure => omega
                  case rel =>
                    refine ⟨j + 1, by go_num, by omega, by omega, fun i hi => ?_, rfl⟩
                    by_cases e : i = j
                    · subst e; omega
                    · exact HR.out i (by omega)
              · obtain rfl : j = r := by omega
                go_wp2
                go_ret
                exact ⟨⟨true, rfl, fun _ => ⟨rfl, rfl, HP.out, HG.out, HR.out⟩⟩, rfl⟩
    · have n1 : ((l1 : Int) != (n : Int)) = false := by simp; omega
      have n2 : ((l2 : Int) != (n : Int)) = true := by simp; omega
      go_enter Try.func9, Try.ntmps9
      go_wp2
      go_ret
      exact ⟨⟨false, rfl, fun h => by cases h⟩, rfl⟩
  · have n1 : ((l1 : Int) != (n : Int)) = true := by simp; omega
    go_enter Try.func9, Try.ntmps9
    go_wp2
    go_ret
    exact ⟨⟨false, rfl, fun h => by cases h⟩, rfl⟩
end Go.Proofs.Qxb6001121a.HI

import Derived.Test.Qxb6601376aPut
import Derived.Test.Qxb6601376aZdrop
import Derived.Test.Qxb6601376aSame
namespace Go.Proofs.Qxb6601376a.SR
open Go.RowKit
set_option linter.unusedVariables false

set_option maxRecDepth 100000 in
set_option maxHeartbeats 400000 in
theorem law_early (w : World) (x : Option Addr) (n cap : Nat) (lg a b : Int) (h : 4096 < n ∨ 16 < lg) :
    Calls Try.prog 7 #[.slice x n cap, .int .u8 lg, .int .i64 a, .int .i64 b] w fun e w' => e = .returned (.bool true) ∧ Below w.heap.size w w' := by
  rcases h with h | h
  · by_cases h2 : n ≤ 1048576
    · go_enter Try.func7, Try.ntmps7
      go_wp2_with (go_at_call 20; go_in)
      go_ret
      exact ⟨rfl, Below.refl _ _⟩
    · have h3 : 1048576 < n := by omega
      go_enter Try.func7, Try.ntmps7
      go_wp2_with (go_at_call 20; go_in)
      go_ret
      exact ⟨rfl, Below.refl _ _⟩
  · by_cases h2 : n ≤ 1048576
    · by_cases h4 : n ≤ 4096
      · go_enter Try.func7, Try.ntmps7
        go_wp2_with (go_at_call 20; go_in)
        go_ret
        exact ⟨rfl, Below.refl _ _⟩
      · have h5 : 4096 < n := by omega
        go_enter Try.func7, Try.ntmps7
        go_wp2_with (go_at_call 20; go_in)
        go_ret
        exact ⟨rfl, Below.refl _ _⟩
    · have h3 : 1048576 < n := by omega
      go_enter Try.func7, Try.ntmps7
      go_wp2_with (go_at_call 20; go_in)
      go_ret
      exact ⟨rfl, Below.refl _ _⟩

/-- The table's size. -/
theorem size_of (k : Nat) (hk : k ≤ 16) : ∃ N : Nat, (2 : Int) ^ k = (N : Int) ∧ N = 2 ^ k ∧ 1 ≤ N ∧ N ≤ 65536 := by
  refine ⟨2 ^ k, by simp, rfl, Nat.two_pow_pos k, ?_⟩
  have : 2 ^ k ≤ 2 ^ 16 := Nat.pow_le_pow_right (by omega) hk
  omega

set_option maxRecDepth 100000 in
set_option maxHeartbeats 1000000 in
theorem law_full (w : World) (x : Option Addr) (n cap k N : Nat) (a b : Int) (Hs : Nat → Int) (Ln : Nat → Nat) (hn : n ≤ 4096) (hk : k ≤ 16) (hpw : (2 : Int) ^ k = (N : Int)) (hN1 : 1 ≤ N) (hN2 : N ≤ 65536) (s : Sl w x n Hs Ln) (hc : N ≤ cntH Hs n) :
    Calls Try.prog 7 #[.slice x n cap, .int .u8 k, .int .i64 a, .int .i64 b] w fun e w' => e = .returned (.bool true) ∧ Below w.heap.size w w' := by
  have HS := hide s
  clear s
  go_enter Try.func7, Try.ntmps7
  go_wp2_with (go_at_call 20; go_in)
  refine (count_any _ x n cap Hs Ln hn HS.out).mono ?_
  rintro e wx ⟨rfl, rfl⟩
  go_wp2_with fail
  go_ret
  exact ⟨rfl, Below.refl _ _⟩

set_option maxRecDepth 100000 in
set_option maxHeartbeats 1000000 in
theorem law_out (w : World) (x : Option Addr) (n cap k N : Nat) (a b : Int) (Hs : Nat → Int) (Ln : Nat → Nat) (hn : n ≤ 4096) (hk : k ≤ 16) (hpw : (2 : Int) ^ k = (N : Int)) (hN1 : 1 ≤ N) (hN2 : N ≤ 65536) (s : Sl w x n Hs Ln) (hc : cntH Hs n < N)
    (hab : b < 0 ∨ (0 ≤ b ∧ a < b) ∨ (0 ≤ b ∧ b ≤ a ∧ (n : Int) < a)) :
    Calls Try.prog 7 #[.slice x n cap, .int .u8 k, .int .i64 a, .int .i64 b] w fun e w' => e = .returned (.bool true) ∧ Below w.heap.size w w' := by
  have HS := hide s
  clear s
  rcases hab with h | ⟨h1, h2⟩ | ⟨h1, h2, h3⟩
  all_goals
    go_enter Try.func7, Try.ntmps7
    go_wp2_with (go_at_call 20; go_in)
    refine (count_any _ x n cap Hs Ln hn HS.out).mono ?_
    rintro e wx ⟨rfl, rfl⟩
    go_wp2_with fail
    go_ret
    exact ⟨rfl, Below.refl _ _⟩

theorem box4 {W : World} {b : Nat} {v0 v1 v2 v3 : Value} (h : W.heap[b]? = some (.cells #[v0, v1, v2, v3] 39 (0, 0))) : W.cell? ⟨b, 0, none⟩ = some v0 ∧ W.cell? ⟨b, 1, none⟩ = some v1 ∧ W.cell? ⟨b, 2, none⟩ = some v2 ∧ W.cell? ⟨b, 3, none⟩ = some v3 := by
  refine ⟨?_, ?_, ?_, ?_⟩ <;> simp [World.cell?, h]

set_option maxRecDepth 100000 in
set_option maxHeartbeats 1000000 in
theorem law_main (w : World) (x : Option Addr) (n cap k N a b : Nat) (Hs : Nat → Int) (Ln : Nat → Nat) (hn : n ≤ 4096) (hk : k ≤ 16) (hpw : (2 : Int) ^ k = (N : Int)) (hpow : N = 2 ^ k) (hN1 : 1 ≤ N) (hN2 : N ≤ 65536) (s : Sl w x n Hs Ln) (hc : cntH Hs n < N) (hba : b ≤ a) (han : a ≤ n)
    (hL : ∀ i, i < n → Ln i ≤ 255) (hH : ∀ i, i < n → 0 ≤ Hs i ∧ Hs i < 18446744073709551616) :
    Calls Try.prog 7 #[.slice x n cap, .int .u8 k, .int .i64 a, .int .i64 b] w fun e w' => e = .returned (.bool true) ∧ Below w.heap.size w w' := by
  have HS := hide s
  have HL := hide hL
  have HH := hide hH
  have HPW : Hid (∃ k, N = 2 ^ k) := ⟨k, hpow⟩
  have hat := At_bd n hL
  have ha1 := At_le (Ln := Ln) han
  have hb1 := At_le (Ln := Ln) hba
  have HD := hide (held_put (N := N) (Hs := Hs) (by omega) n (by omega))
  clear s hL hH hpow
  go_enter Try.func7, Try.ntmps7
  go_wp2_with (go_at_call 20; go_in)
  refine (count_any _ x n cap Hs Ln hn HS.out).mono ?_
  rintro e wx ⟨rfl, rfl⟩
  go_wp2_with fail
  refine (clone_any _ x n cap Hs Ln (by omega) HS.out).mono ?_
  rintro e w1 ⟨⟨x1, cap1, rfl, q1⟩, f1⟩
  have Q1 := hide q1
  have F1 := hide f1
  clear q1 f1 HS
  go_wp2_with fail
  refine (put_any _ x1 n cap1 N Hs Ln hn hN1 hN2 HPW.out hc HL.out HH.out Q1.out).mono ?_
  rintro e w2 ⟨n1, s1, t1, rfl, r1, o1, f2⟩
  have R1 := hide (r1.of_fr ((Fr.refl [] w2).alloc (.cells #[.slice (some ⟨n1, 0, none⟩) n n, .slice (some ⟨s1, 0, none⟩) (At Ln n) (At Ln n), .slice (some ⟨t1, 0, none⟩) N N, .int .i64 (cntH Hs n)] 39)) (by simp) (by simp) (by simp))
  have Q2 := hide ((Q1.out.of_below f2).of_below ((Below.refl _ _).alloc (Nat.le_refl _) (.cells #[.slice (some ⟨n1, 0, none⟩) n n, .slice (some ⟨s1, 0, none⟩) (At Ln n) (At Ln n), .slice (some ⟨t1, 0, none⟩) N N, .int .i64 (cntH Hs n)] 39)))
  have O1 := hide (show w.heap.size ≤ n1 ∧ n1 < s1 ∧ s1 < t1 ∧ t1 < w2.heap.size ∧ w.heap.size ≤ w2.heap.size from by
    have := F1.out.size; have := r1.ht.lt; have := f2.size; omega)
  have F2 := hide (F1.out.trans (f2.mono F1.out.size))
  have hbx := Deep.blk_alloc_new w2 (.cells #[.slice (some ⟨n1, 0, none⟩) n n, .slice (some ⟨s1, 0, none⟩) (At Ln n) (At Ln n), .slice (some ⟨t1, 0, none⟩) N N, .int .i64 (cntH Hs n)] 39)
  have hsz := Deep.nblk_alloc w2 (.cells #[.slice (some ⟨n1, 0, none⟩) n n, .slice (some ⟨s1, 0, none⟩) (At Ln n) (At Ln n), .slice (some ⟨t1, 0, none⟩) N N, .int .i64 (cntH Hs n)] 39)
  have B1 := hide hbx
  have Z1 := hide hsz
  clear r1 o1 f2 Q1 F1 hbx hsz
  go_wp2_with fail
  refine (put_any _ x1 n cap1 N Hs Ln hn hN1 hN2 HPW.out hc HL.out HH.out Q2.out).mono ?_
  rintro e w4 ⟨n2, s2, t2, rfl, r2, o2, f4⟩
  have F34 : Below w2.heap.size w2 w4 := ((Below.refl _ _).alloc (Nat.le_refl _) _).trans (f4.mono (by have := Z1.out; omega))
  have B1' := hide ((f4.block w2.heap.size (by have := Z1.out; omega)).trans B1.out)
  have R1' := hide (R1.out.of_fr (Fr.of_below f4 []) (by simp) (by simp) (by simp))
  have O2 := hide (show w2.heap.size < n2 ∧ n2 < s2 ∧ s2 < t2 ∧ t2 < w4.heap.size ∧ w2.heap.size ≤ w4.heap.size from by
    have := Z1.out; have := r2.ht.lt; have := f4.size; omega)
  have F4 := hide (F2.out.trans (F34.mono F2.out.size))
  have R2 := hide r2
  clear F34 r2 o2 f4 R1 B1 Z1 F2 Q2
  have R15 := hide (R1'.out.of_fr ((Fr.refl [] w4).alloc (.cells #[.slice (some ⟨n2, 0, none⟩) n n, .slice (some ⟨s2, 0, none⟩) (At Ln n) (At Ln n), .slice (some ⟨t2, 0, none⟩) N N, .int .i64 (cntH Hs n)] 39)) (by simp) (by simp) (by simp))
  have R25 := hide (R2.out.of_fr ((Fr.refl [] w4).alloc (.cells #[.slice (some ⟨n2, 0, none⟩) n n, .slice (some ⟨s2, 0, none⟩) (At Ln n) (At Ln n), .slice (some ⟨t2, 0, none⟩) N N, .int .i64 (cntH Hs n)] 39)) (by simp) (by simp) (by simp))
  have B25 := hide (Deep.blk_alloc_new w4 (.cells #[.slice (some ⟨n2, 0, none⟩) n n, .slice (some ⟨s2, 0, none⟩) (At Ln n) (At Ln n), .slice (some ⟨t2, 0, none⟩) N N, .int .i64 (cntH Hs n)] 39))
  have Z4 := hide (Deep.nblk_alloc w4 (.cells #[.slice (some ⟨n2, 0, none⟩) n n, .slice (some ⟨s2, 0, none⟩) (At Ln n) (At Ln n), .slice (some ⟨t2, 0, none⟩) N N, .int .i64 (cntH Hs n)] 39))
  obtain ⟨y0, y1, y2, y3⟩ := box4 ((Deep.blk_alloc_lt w4 (.cells #[.slice (some ⟨n2, 0, none⟩) n n, .slice (some ⟨s2, 0, none⟩) (At Ln n) (At Ln n), .slice (some ⟨t2, 0, none⟩) N N, .int .i64 (cntH Hs n)] 39) w2.heap.size (by have := O1.out; have := O2.out; omega)).trans B1'.out)
  have F5 := hide (F4.out.alloc F4.out.size (.cells #[.slice (some ⟨n2, 0, none⟩) n n, .slice (some ⟨s2, 0, none⟩) (At Ln n) (At Ln n), .slice (some ⟨t2, 0, none⟩) N N, .int .i64 (cntH Hs n)] 39))
  clear R1' R2 B1' F4
  go_wp2_with fail
  refine (zdrop_any _ n1 n s1 (At Ln n) t1 n N a Hs (spO Ln n) (putT N Hs n) Ln R15.out hn (Nat.le_refl _) han hN1 hN2 HPW.out (Nat.le_refl _) (by omega) HH.out HD.out (by have := O1.out; omega)).mono ?_
  rintro e w6 ⟨n3, rfl, r3, o3, f6⟩
  have R3 := hide r3
  have R26 := hide (R25.out.of_fr f6 (by have := O1.out; have := O2.out; simp; omega) (by have := O1.out; have := O2.out; simp; omega) (by have := O1.out; have := O2.out; simp; omega))
  have B26 := hide ((f6.block w4.heap.size (by have := Z4.out; omega) (by have := O1.out; have := O2.out; simp; omega)).trans B25.out)
  have O3 := hide (show w4.heap.size < n3 ∧ n3 < w6.heap.size ∧ w4.heap.size < w6.heap.size from by have := Z4.out; have := r3.hn.lt; have := f6.size; omega)
  have F6 := hide (F5.out.trans (f6.below w.heap.size F5.out.size (by have := O1.out; simp; omega)))
  have HD2 := hide (show Held N Hs (dropT N Hs n (putT N Hs n) (n - a)) a from by
    have := held_drop (by omega) HD.out (n - a) (by omega)
    rwa [show n - (n - a) = a from by omega] at this)
  clear r3 o3 f6 R15 R25 B25 Z4 F5 y0 y1 y2 y3
  go_wp2_with fail
  refine (zdrop_any _ n3 a s1 (At Ln n) t1 a N b Hs (spO Ln n) _ Ln R3.out (by omega) (Nat.le_refl _) hba hN1 hN2 HPW.out ha1 (by omega) (fun i hi => HH.out i (by omega)) HD2.out (by have := O1.out; omega)).mono ?_
  rintro e w7 ⟨n4, rfl, r4, o4, f7⟩
  rw [drop_two han hba] at r4
  have R4 := hide r4
  have R27 := hide (R26.out.of_fr f7 (by have := O1.out; have := O2.out; simp; omega) (by have := O1.out; have := O2.out; simp; omega) (by have := O1.out; have := O2.out; simp; omega))
  obtain ⟨y0, y1, y2, y3⟩ := box4 ((f7.block w4.heap.size (by have := O3.out; omega) (by have := O1.out; have := O2.out; simp; omega)).trans B26.out)
  have O4 := hide (show w6.heap.size ≤ n4 ∧ n4 < w7.heap.size ∧ w6.heap.size ≤ w7.heap.size from by have := r4.hn.lt; have := f7.size; omega)
  have F7 := hide (F6.out.trans (f7.below w.heap.size F6.out.size (by have := O1.out; simp; omega)))
  clear r4 o4 f7 R3 R26 B26 F6 HD2
  go_wp2_with fail
  refine (zdrop_any _ n2 n s2 (At Ln n) t2 n N b Hs (spO Ln n) (putT N Hs n) Ln R27.out hn (Nat.le_refl _) (by omega) hN1 hN2 HPW.out (Nat.le_refl _) (by omega) HH.out HD.out (by have := O2.out; omega)).mono ?_
  rintro e w8 ⟨n5, rfl, r5, o5, f8⟩
  have R5 := hide r5
  have R48 := hide (R4.out.of_fr f8 (by have := O1.out; have := O2.out; have := O3.out; have := O4.out; simp; omega) (by have := O1.out; have := O2.out; simp; omega) (by have := O1.out; have := O2.out; simp; omega))
  have F8 := hide (F7.out.trans (f8.below w.heap.size F7.out.size (by have := O1.out; have := O2.out; simp; omega)))
  clear r5 o5 f8 R4 R27 F7 y0 y1 y2 y3
  go_wp2_with fail
  refine (same_any _ b (At Ln b) N n4 b s1 (At Ln n) t1 n5 b s2 (At Ln n) t2 (cntH Hs b) _ Hs (spO Ln n) _ R48.out R5.out (by omega) (by omega) hN2 (Nat.le_refl _) (Nat.le_refl _) (by omega) (by omega)).mono ?_
  rintro e w9 ⟨rfl, f9⟩
  have F9 := hide (F8.out.trans (f9.mono F8.out.size))
  clear f9
  go_wp2_with fail
  go_ret
  exact ⟨rfl, F9.out⟩

theorem law (w : World) (x : Option Addr) (n cap : Nat) (lg a b : Int) (Hs : Nat → Int) (Ln : Nat → Nat) (s : Sl w x n Hs Ln) (hlg : 0 ≤ lg) (hL : ∀ i, i < n → Ln i ≤ 255) (hH : ∀ i, i < n → 0 ≤ Hs i ∧ Hs i < 18446744073709551616) :
    Calls Try.prog 7 #[.slice x n cap, .int .u8 lg, .int .i64 a, .int .i64 b] w fun e w' => e = .returned (.bool true) ∧ Below w.heap.size w w' := by
  by_cases h1 : 4096 < n ∨ 16 < lg
  · exact law_early w x n cap lg a b h1
  · obtain ⟨k, rfl⟩ := Int.eq_ofNat_of_zero_le hlg
    obtain ⟨N, hpw, hpow, hN1, hN2⟩ := size_of k (by omega)
    by_cases hc : N ≤ cntH Hs n
    · exact law_full w x n cap k N a b Hs Ln (by omega) (by omega) hpw hN1 hN2 s hc
    · by_cases hb : 0 ≤ b ∧ b ≤ a ∧ a ≤ n
      · obtain ⟨c, rfl⟩ := Int.eq_ofNat_of_zero_le hb.1
        obtain ⟨d, rfl⟩ := Int.eq_ofNat_of_zero_le (show 0 ≤ a by omega)
        exact law_main w x n cap k N d c Hs Ln (by omega) (by omega) hpw hpow hN1 hN2 s (by omega) (by omega) (by omega) hL hH
      · exact law_out w x n cap k N a b Hs Ln (by omega) (by omega) hpw hN1 hN2 s (by omega) (by omega)
end Go.Proofs.Qxb6601376a.SR

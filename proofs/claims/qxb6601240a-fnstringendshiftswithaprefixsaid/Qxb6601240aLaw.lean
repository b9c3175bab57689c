import Derived.Test.Qxb6601240aWalk
namespace Go.Proofs.Qxb6601240a.SE
open Go.RowKit

theorem zse (T : ByteArray) (i : Int) (w : World) (R : Nat × Nat) (hs : T.size ≤ 1048576) (h0 : 0 ≤ i) (hi : i < T.size) (HR : Hid (seL (T.data.toList.drop i.toNat) = R)) :
    Calls Try.prog 10 #[.string T, .int .i64 i] w fun e w' => e = .returned (.tuple #[.int .i64 (i + (R.1 : Int)), .int .i64 (R.2 : Int)]) ∧ Below w.heap.size w w' := by
  obtain ⟨n, rfl⟩ := Int.eq_ofNat_of_zero_le h0
  have hn : n < T.size := by omega
  rw [Int.toNat_natCast] at HR
  have hc := fun w' => se_any T n w' hs hn
  rw [HR.out] at hc
  go_enter Try.func10, Try.ntmps10
  go_wp2_with (go_at_call 20; refine (hc _).mono ?_; rintro e w' ⟨rfl, hb⟩)
  go_ret2
  exact ⟨by simp, hb⟩

theorem opens_yes (T : ByteArray) (i : Nat) (w : World) (hi : i < T.size) (h : ((T[i].toNat : Int) == 34) = true ∨ ((T[i].toNat : Int) == 39) = true) :
    Calls Try.prog 9 #[.string T, .int .i64 i] w fun e w' => e = .returned (.bool true) ∧ w' = w := by
  rcases h with h | h
  · go_enter Try.func9, Try.ntmps9
    go_wp2
    go_ret
    exact ⟨rfl, rfl⟩
  · by_cases h2 : ((T[i].toNat : Int) == 34) = true
    · go_enter Try.func9, Try.ntmps9
      go_wp2
      go_ret
      exact ⟨rfl, rfl⟩
    · have h3 : ((T[i].toNat : Int) == 34) = false := by simpa using h2
      clear h2
      go_enter Try.func9, Try.ntmps9
      go_wp2
      go_ret
      exact ⟨rfl, rfl⟩

theorem opens_no (T : ByteArray) (i : Nat) (w : World) (hi : i < T.size) (h : ((T[i].toNat : Int) == 34) = false) (h2 : ((T[i].toNat : Int) == 39) = false) :
    Calls Try.prog 9 #[.string T, .int .i64 i] w fun e w' => e = .returned (.bool false) ∧ w' = w := by
  go_enter Try.func9, Try.ntmps9
  go_wp2
  go_ret
  exact ⟨rfl, rfl⟩

theorem opens_out (T : ByteArray) (i : Int) (w : World) (hi : i < 0 ∨ (T.size : Int) ≤ i) :
    Calls Try.prog 9 #[.string T, .int .i64 i] w fun e w' => e = .returned (.bool false) ∧ w' = w := by
  rcases hi with hi | hi
  · go_enter Try.func9, Try.ntmps9
    go_wp2
    go_ret
    exact ⟨rfl, rfl⟩
  · have h0 : 0 ≤ i := by omega
    go_enter Try.func9, Try.ntmps9
    go_wp2
    go_ret
    exact ⟨rfl, rfl⟩

theorem data_append (p t : ByteArray) : (p ++ t).data.toList = p.data.toList ++ t.data.toList := by simp

theorem shift (p t : ByteArray) (i : Nat) : (p ++ t).data.toList.drop ((p.size : Int) + (i : Int)).toNat = t.data.toList.drop i := by
  rw [data_append, show ((p.size : Int) + (i : Int)).toNat = p.data.toList.length + i from by rw [← Lib.size_eq]; omega]
  exact drop_before _ _ _

theorem law_yes (p t : ByteArray) (i : Nat) (w : World) (hp : p.size ≤ 1048576) (ht : t.size ≤ 1048576) (hpt : p.size + t.size ≤ 1048576) (hi : i < t.size)
    (hop : ∀ w', Calls Try.prog 9 #[.string t, .int .i64 i] w' fun e w'' => e = .returned (.bool true) ∧ w'' = w') :
    Calls Try.prog 5 #[.string p, .string t, .int .i64 i] w fun e w' => e = .returned (.bool true) ∧ Below w.heap.size w w' := by
  obtain ⟨R, HR⟩ : ∃ R, Hid (seL (t.data.toList.drop i) = R) := ⟨_, rfl⟩
  have hsz : (p ++ t).size = p.size + t.size := by simp
  have hc1 := fun w' => zse t i w' R ht (by omega) (by omega) (by rw [Int.toNat_natCast]; exact HR)
  have hc2 := fun w' => zse (p ++ t) ((p.size : Int) + (i : Int)) w' R (by omega) (by omega) (by omega) (by rw [shift]; exact HR)
  have hR : R.1 ≤ t.size + 3 := by
    have a := seL_le (t.data.toList.drop i)
    rw [HR.out, len_drop] at a; omega
  have heq : ((p.size : Int) + (i : Int) + (R.1 : Int) == (i : Int) + (R.1 : Int) + (p.size : Int)) = true := by rw [beq_iff_eq]; omega
  clear hsz
  go_enter Try.func5, Try.ntmps5
  go_wp2_with (first | (go_at_call 14; go_in) | (go_at_call 9; refine (hop _).mono ?_; rintro e w' ⟨rfl, rfl⟩))
  refine (hc1 _).mono ?_
  rintro e w1 ⟨rfl, hb1⟩
  go_wp2_with fail
  refine (hc2 _).mono ?_
  rintro e w2 ⟨rfl, hb2⟩
  go_wp2_with fail
  go_ret
  exact ⟨rfl, hb1.trans (hb2.mono hb1.size)⟩

theorem law_not (p t : ByteArray) (i : Int) (w : World) (hp : p.size ≤ 1048576) (ht : t.size ≤ 1048576) (hpt : p.size + t.size ≤ 1048576)
    (hop : ∀ w', Calls Try.prog 9 #[.string t, .int .i64 i] w' fun e w'' => e = .returned (.bool false) ∧ w'' = w') :
    Calls Try.prog 5 #[.string p, .string t, .int .i64 i] w fun e w' => e = .returned (.bool true) ∧ Below w.heap.size w w' := by
  go_enter Try.func5, Try.ntmps5
  go_wp2_with (first | (go_at_call 14; go_in) | (go_at_call 9; refine (hop _).mono ?_; rintro e w' ⟨rfl, rfl⟩))
  go_ret
  exact ⟨rfl, Below.refl _ _⟩

theorem law_big (p t : ByteArray) (i : Int) (w : World) (h : 1048576 < p.size ∨ (p.size ≤ 1048576 ∧ 1048576 < t.size) ∨ (p.size ≤ 1048576 ∧ t.size ≤ 1048576 ∧ 1048576 < p.size + t.size)) :
    Calls Try.prog 5 #[.string p, .string t, .int .i64 i] w fun e w' => e = .returned (.bool true) ∧ Below w.heap.size w w' := by
  rcases h with h | ⟨h1, h2⟩ | ⟨h1, h2, h3⟩
  all_goals
    go_enter Try.func5, Try.ntmps5
    go_wp2
    go_ret
    exact ⟨rfl, Below.refl _ _⟩

theorem law (p t : ByteArray) (i : Int) (w : World) :
    Calls Try.prog 5 #[.string p, .string t, .int .i64 i] w fun e w' => e = .returned (.bool true) ∧ Below w.heap.size w w' := by
  by_cases hp : p.size ≤ 1048576
  · by_cases ht : t.size ≤ 1048576
    · by_cases hpt : p.size + t.size ≤ 1048576
      · by_cases h0 : 0 ≤ i
        · obtain ⟨n, rfl⟩ := Int.eq_ofNat_of_zero_le h0
          by_cases hn : n < t.size
          · by_cases h34 : ((t[n].toNat : Int) == 34) = true
            · exact law_yes p t n w hp ht hpt hn (fun w' => opens_yes t n w' hn (.inl h34))
            · by_cases h39 : ((t[n].toNat : Int) == 39) = true
              · exact law_yes p t n w hp ht hpt hn (fun w' => opens_yes t n w' hn (.inr h39))
              · exact law_not p t n w hp ht hpt (fun w' => opens_no t n w' hn (by simpa using h34) (by simpa using h39))
          · exact law_not p t n w hp ht hpt (fun w' => opens_out t n w' (.inr (by omega)))
        · exact law_not p t i w hp ht hpt (fun w' => opens_out t i w' (.inl (by omega)))
      · exact law_big p t i w (.inr (.inr ⟨hp, ht, by omega⟩))
    · exact law_big p t i w (.inr (.inl ⟨hp, by omega⟩))
  · exact law_big p t i w (.inl (by omega))
end Go.Proofs.Qxb6601240a.SE

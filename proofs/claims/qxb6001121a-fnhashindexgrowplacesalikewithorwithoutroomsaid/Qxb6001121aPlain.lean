/-
  PLAIN: probing an open-addressing table. No program in sight.
-/
namespace Go.Proofs.Qxb6001121a.HI

/-- The first place not in use from i on, N places in a ring; fuel. -/
def probe (N : Nat) (U : Nat → Bool) : Nat → Nat → Nat
  | 0, i => i
  | f + 1, i => if U i = true then probe N U f ((i + 1) % N) else i

theorem probe_go (N : Nat) (U : Nat → Bool) (f i : Nat) (h : U i = true) : probe N U (f + 1) i = probe N U f ((i + 1) % N) := by simp [probe, h]
theorem probe_stop (N : Nat) (U : Nat → Bool) (f i : Nat) (h : U i = false) : probe N U f i = i := by
  cases f <;> simp [probe, h]

theorem probe_lt (N : Nat) (U : Nat → Bool) (hN : 0 < N) : ∀ f i, i < N → probe N U f i < N
  | 0, i, h => h
  | f + 1, i, h => by
    unfold probe; split
    · exact probe_lt N U hN f _ (Nat.mod_lt _ hN)
    · exact h

/-- A free place within d steps. -/
def Near (N : Nat) (U : Nat → Bool) (f i : Nat) : Prop := ∃ d, d < f ∧ U ((i + d) % N) = false

theorem near_next {N : Nat} {U : Nat → Bool} {f i : Nat} (hi : i < N) (h : Near N U (f + 1) i) (hu : U i = true) : Near N U f ((i + 1) % N) := by
  obtain ⟨d, hd, hf⟩ := h
  cases d with
  | zero => rw [Nat.add_zero, Nat.mod_eq_of_lt hi, hu] at hf; simp at hf
  | succ d =>
    refine ⟨d, by omega, ?_⟩
    rw [Nat.mod_add_mod, show i + 1 + d = i + (d + 1) from by omega]; exact hf

theorem near_pos {N : Nat} {U : Nat → Bool} {f i : Nat} (h : Near N U f i) : 0 < f := by
  obtain ⟨d, hd, _⟩ := h; omega

theorem near_of {N : Nat} {U : Nat → Bool} {p : Nat} (hp : p < N) (hU : U p = false) (i : Nat) (hi : i < N) : Near N U N i := by
  by_cases h : i ≤ p
  · exact ⟨p - i, by omega, by rw [show i + (p - i) = p from by omega, Nat.mod_eq_of_lt hp]; exact hU⟩
  · refine ⟨p + N - i, by omega, ?_⟩
    rw [show i + (p + N - i) = p + N from by omega, Nat.add_mod_right, Nat.mod_eq_of_lt hp]; exact hU

/-- Probing finds a free place where there is one near. -/
theorem probe_free {N : Nat} {U : Nat → Bool} : ∀ f i, i < N → Near N U f i → U (probe N U f i) = false
  | 0, i, _, h => by have := near_pos h; omega
  | f + 1, i, hi, h => by
    unfold probe
    by_cases hu : U i = true
    · rw [if_pos hu]; exact probe_free f _ (Nat.mod_lt _ (by omega)) (near_next hi h hu)
    · rw [if_neg hu]; simpa using hu

/-- How many places below N are in use. -/
def cnt (U : Nat → Bool) : Nat → Nat
  | 0 => 0
  | n + 1 => cnt U n + (if U n = true then 1 else 0)

theorem cnt_le_of_full {U : Nat → Bool} : ∀ n, (∀ p, p < n → U p = true) → cnt U n = n
  | 0, _ => rfl
  | n + 1, h => by
    unfold cnt; rw [cnt_le_of_full n (fun p hp => h p (by omega)), if_pos (h n (by omega))]

theorem free_of_cnt {U : Nat → Bool} {n : Nat} (h : cnt U n < n) : ∃ p, p < n ∧ U p = false := by
  by_cases hx : ∃ p, p < n ∧ U p = false
  · exact hx
  · have := cnt_le_of_full (U := U) n (fun p hp => by
      cases hU : U p with
      | true => rfl
      | false => exact absurd ⟨p, hp, hU⟩ hx)
    omega

theorem cnt_set (U U' : Nat → Bool) (t : Nat) (h : ∀ p, p ≠ t → U' p = U p) : ∀ n, cnt U' n ≤ cnt U n + (if t < n then 1 else 0)
  | 0 => by simp [cnt]
  | n + 1 => by
    have ih := cnt_set U U' t h n
    unfold cnt
    by_cases e : n = t
    · subst e
      rw [if_neg (Nat.lt_irrefl n)] at ih
      rw [if_pos (Nat.lt_succ_self n)]
      split <;> split <;> omega
    · rw [h n e]
      by_cases ht : t < n
      · rw [if_pos ht] at ih
        rw [if_pos (show t < n + 1 from by omega)]; omega
      · rw [if_neg ht] at ih
        rw [if_neg (show ¬ t < n + 1 from by omega)]; omega

theorem cnt_none (U : Nat → Bool) (h : ∀ p, U p = false) : ∀ n, cnt U n = 0
  | 0 => rfl
  | n + 1 => by simp [cnt, h n, cnt_none U h n]
end Go.Proofs.Qxb6001121a.HI

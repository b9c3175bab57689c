/-
  PLAIN: a linear-probing table of numbers, filled in order and emptied the last first. No program in sight.
-/
namespace Go.Proofs.Qxb6601376a.SR

/-- The first place not in use from i on, N places in a ring; fuel. -/
def probe (N : Nat) (U : Nat → Bool) : Nat → Nat → Nat
  | 0, i => i
  | f + 1, i => if U i = true then probe N U f ((i + 1) % N) else i

theorem probe_go (N : Nat) (U : Nat → Bool) (f i : Nat) (h : U i = true) : probe N U (f + 1) i = probe N U f ((i + 1) % N) := by simp [probe, h]
theorem probe_stop (N : Nat) (U : Nat → Bool) (f i : Nat) (h : U i = false) : probe N U f i = i := by
  cases f <;> simp [probe, h]

theorem probe_lt (N : Nat) (U : Nat → Bool) (hN : 0 < N) : ∀ f i, i < N → probe N U f i < N
  | 0, i, h => h
  | f + 1, i, h => by
    unfold probe; split
    · exact probe_lt N U hN f _ (Nat.mod_lt _ hN)
    · exact h

/-- A free place within d steps. -/
def Near (N : Nat) (U : Nat → Bool) (f i : Nat) : Prop := ∃ d, d < f ∧ U ((i + d) % N) = false

theorem near_next {N : Nat} {U : Nat → Bool} {f i : Nat} (hi : i < N) (h : Near N U (f + 1) i) (hu : U i = true) : Near N U f ((i + 1) % N) := by
  obtain ⟨d, hd, hf⟩ := h
  cases d with
  | zero => rw [Nat.add_zero, Nat.mod_eq_of_lt hi, hu] at hf; simp at hf
  | succ d =>
    refine ⟨d, by omega, ?_⟩
    rw [Nat.mod_add_mod, show i + 1 + d = i + (d + 1) from by omega]; exact hf

theorem near_pos {N : Nat} {U : Nat → Bool} {f i : Nat} (h : Near N U f i) : 0 < f := by
  obtain ⟨d, hd, _⟩ := h; omega

theorem near_of {N : Nat} {U : Nat → Bool} {p : Nat} (hp : p < N) (hU : U p = false) (i : Nat) (hi : i < N) : Near N U N i := by
  by_cases h : i ≤ p
  · exact ⟨p - i, by omega, by rw [show i + (p - i) = p from by omega, Nat.mod_eq_of_lt hp]; exact hU⟩
  · refine ⟨p + N - i, by omega, ?_⟩
    rw [show i + (p + N - i) = p + N from by omega, Nat.add_mod_right, Nat.mod_eq_of_lt hp]; exact hU

/-- Probing finds a free place where there is one near. -/
theorem probe_free {N : Nat} {U : Nat → Bool} : ∀ f i, i < N → Near N U f i → U (probe N U f i) = false
  | 0, i, _, h => by have := near_pos h; omega
  | f + 1, i, hi, h => by
    unfold probe
    by_cases hu : U i = true
    · rw [if_pos hu]; exact probe_free f _ (Nat.mod_lt _ (by omega)) (near_next hi h hu)
    · rw [if_neg hu]; simpa using hu

/-- How many places below N are in use. -/
def cnt (U : Nat → Bool) : Nat → Nat
  | 0 => 0
  | n + 1 => cnt U n + (if U n = true then 1 else 0)

theorem cnt_le_of_full {U : Nat → Bool} : ∀ n, (∀ p, p < n → U p = true) → cnt U n = n
  | 0, _ => rfl
  | n + 1, h => by
    unfold cnt; rw [cnt_le_of_full n (fun p hp => h p (by omega)), if_pos (h n (by omega))]

theorem free_of_cnt {U : Nat → Bool} {n : Nat} (h : cnt U n < n) : ∃ p, p < n ∧ U p = false := by
  by_cases hx : ∃ p, p < n ∧ U p = false
  · exact hx
  · have := cnt_le_of_full (U := U) n (fun p hp => by
      cases hU : U p with
      | true => rfl
      | false => exact absurd ⟨p, hp, hU⟩ hx)
    omega

theorem cnt_set (U U' : Nat → Bool) (t : Nat) (h : ∀ p, p ≠ t → U' p = U p) : ∀ n, cnt U' n ≤ cnt U n + (if t < n then 1 else 0)
  | 0 => by simp [cnt]
  | n + 1 => by
    have ih := cnt_set U U' t h n
    unfold cnt
    by_cases e : n = t
    · subst e
      rw [if_neg (Nat.lt_irrefl n)] at ih
      rw [if_pos (Nat.lt_succ_self n)]
      split <;> split <;> omega
    · rw [h n e]
      by_cases ht : t < n
      · rw [if_pos ht] at ih
        rw [if_pos (show t < n + 1 from by omega)]; omega
      · rw [if_neg ht] at ih
        rw [if_neg (show ¬ t < n + 1 from by omega)]; omega

theorem cnt_zero (U : Nat → Bool) : ∀ n, (∀ p, p < n → U p = false) → cnt U n = 0
  | 0, _ => rfl
  | n + 1, h => by simp [cnt, h n (by omega), cnt_zero U n (fun p hp => h p (by omega))]

def upd (T : Nat → Int) (p : Nat) (v : Int) : Nat → Int := fun j => if j = p then v else T j
theorem upd_at (T : Nat → Int) (p : Nat) (v : Int) : upd T p v p = v := by simp [upd]
theorem upd_off (T : Nat → Int) (p : Nat) (v : Int) {j : Nat} (h : j ≠ p) : upd T p v j = T j := by simp [upd, h]

/-- Where name k is put: the first place that holds 0. -/
def place (N : Nat) (T : Nat → Int) (h : Int) : Nat := probe N (fun p => T p != 0) N (h.toNat % N)
/-- Where the number v is found. -/
def find (N : Nat) (T : Nat → Int) (v h : Int) : Nat := probe N (fun p => T p != v) N (h.toNat % N)

/-- The table behind k names. -/
def putT (N : Nat) (Hs : Nat → Int) : Nat → Nat → Int
  | 0 => fun _ => 0
  | k + 1 => if Hs k = 0 then putT N Hs k else upd (putT N Hs k) (place N (putT N Hs k) (Hs k)) ((k : Int) + 1)

theorem putT_none {N : Nat} {Hs : Nat → Int} {k : Nat} (h : Hs k = 0) : putT N Hs (k + 1) = putT N Hs k := by simp [putT, h]
theorem putT_some {N : Nat} {Hs : Nat → Int} {k : Nat} (h : ¬ Hs k = 0) : putT N Hs (k + 1) = upd (putT N Hs k) (place N (putT N Hs k) (Hs k)) ((k : Int) + 1) := by simp [putT, h]

/-- How many of the first k names are to be in the table. -/
def cntH (Hs : Nat → Int) : Nat → Nat
  | 0 => 0
  | k + 1 => cntH Hs k + (if Hs k = 0 then 0 else 1)
theorem cntH_none {Hs : Nat → Int} {k : Nat} (h : Hs k = 0) : cntH Hs (k + 1) = cntH Hs k := by simp [cntH, h]
theorem cntH_some {Hs : Nat → Int} {k : Nat} (h : ¬ Hs k = 0) : cntH Hs (k + 1) = cntH Hs k + 1 := by simp [cntH, h]
theorem cntH_le (Hs : Nat → Int) : ∀ k, cntH Hs k ≤ k
  | 0 => Nat.le_refl _
  | k + 1 => by have := cntH_le Hs k; unfold cntH; split <;> omega
theorem cntH_mono (Hs : Nat → Int) (k : Nat) : ∀ d, cntH Hs k ≤ cntH Hs (k + d)
  | 0 => Nat.le_refl _
  | d + 1 => by have := cntH_mono Hs k d; show cntH Hs k ≤ cntH Hs (k + d) + (if Hs (k + d) = 0 then 0 else 1); omega

theorem put_cnt (N : Nat) (Hs : Nat → Int) : ∀ k, cnt (fun p => putT N Hs k p != 0) N ≤ cntH Hs k
  | 0 => by rw [cnt_zero _ N (fun p _ => by simp [putT])]; exact Nat.zero_le _
  | k + 1 => by
    have ih := put_cnt N Hs k
    by_cases h : Hs k = 0
    · rw [putT_none h, cntH_none h]; exact ih
    · rw [putT_some h, cntH_some h]
      have := cnt_set (fun p => putT N Hs k p != 0) (fun p => upd (putT N Hs k) (place N (putT N Hs k) (Hs k)) ((k : Int) + 1) p != 0) (place N (putT N Hs k) (Hs k)) (fun p hp => by show (upd _ _ _ p != 0) = _; rw [upd_off _ _ _ hp]) N
      split at this <;> omega

/-- There is a free place ahead of each put. -/
theorem put_near {N : Nat} {Hs : Nat → Int} {k : Nat} (h : cntH Hs k < N) (i : Nat) (hi : i < N) : Near N (fun p => putT N Hs k p != 0) N i := by
  obtain ⟨p, hp, hU⟩ := free_of_cnt (U := fun p => putT N Hs k p != 0) (n := N) (by have := put_cnt N Hs k; omega)
  exact near_of hp hU i hi

/-- Every one of the first k names that is to be in the table is in it. -/
def Held (N : Nat) (Hs : Nat → Int) (T : Nat → Int) (k : Nat) : Prop := ∀ i, i < k → ¬ Hs i = 0 → ∃ p, p < N ∧ T p = (i : Int) + 1

theorem held_put {N : Nat} {Hs : Nat → Int} (hN : 0 < N) : ∀ k, cntH Hs k ≤ N → Held N Hs (putT N Hs k) k
  | 0, _ => fun i hi => by omega
  | k + 1, hc => by
    by_cases h : Hs k = 0
    · rw [putT_none h]
      rw [cntH_none h] at hc
      intro i hi hne
      by_cases e : i = k
      · subst e; exact absurd h hne
      · exact held_put hN k hc i (by omega) hne
    · rw [putT_some h]
      rw [cntH_some h] at hc
      have ih := held_put (Hs := Hs) hN k (by omega)
      have hlt : place N (putT N Hs k) (Hs k) < N := probe_lt N _ hN _ _ (Nat.mod_lt _ hN)
      have hfree : (putT N Hs k (place N (putT N Hs k) (Hs k)) != 0) = false := probe_free N _ (Nat.mod_lt _ hN) (put_near (by omega) _ (Nat.mod_lt _ hN))
      intro i hi hne
      by_cases e : i = k
      · subst e; exact ⟨_, hlt, upd_at _ _ _⟩
      · obtain ⟨p, hp, hT⟩ := ih i (by omega) hne
        refine ⟨p, hp, ?_⟩
        rw [upd_off]
        · exact hT
        · intro e2
          rw [← e2, hT] at hfree
          have : ((i : Int) + 1) = 0 := by simpa using hfree
          omega

/-- Name i is taken out. -/
def dropS (N : Nat) (Hs : Nat → Int) (T : Nat → Int) (i : Nat) : Nat → Int := if Hs i = 0 then T else upd T (find N T ((i : Int) + 1) (Hs i)) 0
theorem dropS_none {N : Nat} {Hs T : Nat → Int} {i : Nat} (h : Hs i = 0) : dropS N Hs T i = T := by simp [dropS, h]
theorem dropS_some {N : Nat} {Hs T : Nat → Int} {i : Nat} (h : ¬ Hs i = 0) : dropS N Hs T i = upd T (find N T ((i : Int) + 1) (Hs i)) 0 := by simp [dropS, h]

/-- The names m - 1, m - 2, .. taken out, j of them. -/
def dropT (N : Nat) (Hs : Nat → Int) (m : Nat) (T : Nat → Int) : Nat → Nat → Int
  | 0 => T
  | j + 1 => dropS N Hs (dropT N Hs m T j) (m - 1 - j)

theorem drop_near {N : Nat} {Hs T : Nat → Int} {i : Nat} (H : Held N Hs T (i + 1)) (h : ¬ Hs i = 0) (q : Nat) (hq : q < N) : Near N (fun p => T p != (i : Int) + 1) N q := by
  obtain ⟨p, hp, hT⟩ := H i (by omega) h
  exact near_of hp (by show (T p != (i : Int) + 1) = false; rw [hT]; simp) q hq

theorem held_dropS {N : Nat} {Hs T : Nat → Int} {i : Nat} (hN : 0 < N) (H : Held N Hs T (i + 1)) : Held N Hs (dropS N Hs T i) i := by
  by_cases h : Hs i = 0
  · rw [dropS_none h]; exact fun j hj hne => H j (by omega) hne
  · rw [dropS_some h]
    have hf : (T (find N T ((i : Int) + 1) (Hs i)) != (i : Int) + 1) = false := probe_free N _ (Nat.mod_lt _ hN) (drop_near H h _ (Nat.mod_lt _ hN))
    intro j hj hne
    obtain ⟨p, hp, hT⟩ := H j (by omega) hne
    refine ⟨p, hp, ?_⟩
    rw [upd_off]
    · exact hT
    · intro e
      rw [← e, hT] at hf
      have : ((j : Int) + 1) = (i : Int) + 1 := by simpa using hf
      omega

theorem held_drop {N : Nat} {Hs T : Nat → Int} {m : Nat} (hN : 0 < N) (H : Held N Hs T m) : ∀ j, j ≤ m → Held N Hs (dropT N Hs m T j) (m - j)
  | 0, _ => H
  | j + 1, hj => by
    have ih := held_drop hN H j (by omega)
    rw [show m - j = (m - 1 - j) + 1 from by omega] at ih
    have := held_dropS hN ih
    rw [show m - (j + 1) = m - 1 - j from by omega]; exact this

theorem drop_split {N : Nat} {Hs T : Nat → Int} {m a : Nat} (ha : a ≤ m) : ∀ j, j ≤ a → dropT N Hs m T (m - a + j) = dropT N Hs a (dropT N Hs m T (m - a)) j
  | 0, _ => rfl
  | j + 1, hj => by
    show dropS N Hs (dropT N Hs m T (m - a + j)) (m - 1 - (m - a + j)) = dropS N Hs (dropT N Hs a _ j) (a - 1 - j)
    rw [drop_split ha j (by omega), show m - 1 - (m - a + j) = a - 1 - j from by omega]

/-- In two steps as at once. -/
theorem drop_two {N : Nat} {Hs T : Nat → Int} {m a b : Nat} (ha : a ≤ m) (hb : b ≤ a) : dropT N Hs a (dropT N Hs m T (m - a)) (a - b) = dropT N Hs m T (m - b) := by
  rw [← drop_split ha (a - b) (by omega), show m - a + (a - b) = m - b from by omega]

/-- Where name k begins. -/
def At (Ln : Nat → Nat) : Nat → Nat
  | 0 => 0
  | k + 1 => At Ln k + Ln k
theorem At_mono (Ln : Nat → Nat) (k : Nat) : ∀ d, At Ln k ≤ At Ln (k + d)
  | 0 => Nat.le_refl _
  | d + 1 => by have := At_mono Ln k d; show _ ≤ At Ln (k + d) + Ln (k + d); omega
theorem At_le {Ln : Nat → Nat} {k m : Nat} (h : k ≤ m) : At Ln k ≤ At Ln m := by
  have := At_mono Ln k (m - k)
  rwa [show k + (m - k) = m from by omega] at this
theorem At_bd {Ln : Nat → Nat} : ∀ k, (∀ i, i < k → Ln i ≤ 255) → At Ln k ≤ k * 255
  | 0, _ => Nat.le_refl _
  | k + 1, h => by
    have a := At_bd k (fun i hi => h i (by omega))
    have b := h k (by omega)
    show At Ln k + Ln k ≤ _; omega

/-- The bytes of name i, j of them. -/
def spI (S : Nat → Int) (a i : Nat) : Nat → Nat → Int
  | 0 => S
  | j + 1 => upd (spI S a i j) (a + j) (((i : Int) + 3 * (j : Int)) % 256)
/-- The bytes of the first k names. -/
def spO (Ln : Nat → Nat) : Nat → Nat → Int
  | 0 => fun _ => 0
  | k + 1 => spI (spO Ln k) (At Ln k) k (Ln k)
end Go.Proofs.Qxb6601376a.SR

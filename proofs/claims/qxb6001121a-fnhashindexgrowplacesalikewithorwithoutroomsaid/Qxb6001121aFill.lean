/-
  PLAIN: filling a table with the pairs in use of an old one. No walk here.
-/
import Derived.Test.Qxb6001121aPlace
namespace Go.Proofs.Qxb6001121a.HI

/-- The pairs (value, hash) in use among the first n slots of O, in order. -/
def inuse (O : Nat → Slot) (g : Int) : Nat → List (Int × Int)
  | 0 => []
  | n + 1 => inuse O g n ++ (if (O n).g = g then [((O n).v, (O n).h)] else [])

/-- Each pair placed, one after the other. -/
def fillL (N : Nat) (g : Int) (S : Nat → Slot) (L : List (Int × Int)) : Nat → Slot := L.foldl (fun S x => put N S g x.1 x.2) S

theorem fillL_nil (N : Nat) (g : Int) (S : Nat → Slot) : fillL N g S [] = S := rfl
theorem fillL_snoc (N : Nat) (g : Int) (S : Nat → Slot) (L : List (Int × Int)) (x : Int × Int) : fillL N g S (L ++ [x]) = put N (fillL N g S L) g x.1 x.2 := by
  simp [fillL, List.foldl_append]

theorem inuse_hit (O : Nat → Slot) (g : Int) (n : Nat) (h : (O n).g = g) : inuse O g (n + 1) = inuse O g n ++ [((O n).v, (O n).h)] := by simp [inuse, h]
theorem inuse_miss (O : Nat → Slot) (g : Int) (n : Nat) (h : ¬ (O n).g = g) : inuse O g (n + 1) = inuse O g n := by simp [inuse, h]

theorem inuse_len (O : Nat → Slot) (g : Int) : ∀ n, (inuse O g n).length ≤ n
  | 0 => Nat.le_refl _
  | n + 1 => by
    have := inuse_len O g n
    unfold inuse; rw [List.length_append]; split <;> simp <;> omega

theorem inuse_congr {O O' : Nat → Slot} {g : Int} : ∀ n, (∀ i, i < n → O i = O' i) → inuse O g n = inuse O' g n
  | 0, _ => rfl
  | n + 1, h => by
    unfold inuse; rw [inuse_congr n (fun i hi => h i (by omega)), h n (by omega)]

theorem inuse_mem {O : Nat → Slot} {g : Int} : ∀ n x, x ∈ inuse O g n → ∃ i, i < n ∧ x = ((O i).v, (O i).h)
  | 0, x, h => by simp [inuse] at h
  | n + 1, x, h => by
    unfold inuse at h
    rcases List.mem_append.1 h with h | h
    · obtain ⟨i, hi, e⟩ := inuse_mem n x h
      exact ⟨i, by omega, e⟩
    · split at h
      · exact ⟨n, by omega, by simpa using h⟩
      · simp at h

/-- A row that holds just the pairs of L, all in use. -/
def ofList (g : Int) (L : List (Int × Int)) : Nat → Slot := fun i => ⟨g, (L.getD i (0, 0)).1, (L.getD i (0, 0)).2⟩

theorem inuse_ofList (g : Int) (L : List (Int × Int)) : ∀ n, n ≤ L.length → inuse (ofList g L) g n = L.take n
  | 0, _ => by simp [inuse]
  | n + 1, h => by
    rw [inuse_hit (ofList g L) g n rfl, inuse_ofList g L n (by omega)]
    have hn : n < L.length := by omega
    have e : L.getD n (0, 0) = L[n] := by simp [hn]
    show L.take n ++ [((L.getD n (0, 0)).1, (L.getD n (0, 0)).2)] = L.take (n + 1)
    rw [e, List.take_succ_eq_append_getElem hn]

theorem probe_congr (N : Nat) (U U' : Nat → Bool) (hN : 0 < N) (h : ∀ p, p < N → U p = U' p) : ∀ f i, i < N → probe N U f i = probe N U' f i
  | 0, i, _ => rfl
  | f + 1, i, hi => by
    unfold probe; rw [h i hi, probe_congr N U U' hN h f _ (Nat.mod_lt _ hN)]

/-- What the slot says, if it is in use. -/
def view (S : Nat → Slot) (g : Int) (p : Nat) : Option (Int × Int) := if (S p).g = g then some ((S p).v, (S p).h) else none

theorem used_view (S : Nat → Slot) (g : Int) (p : Nat) : used S g p = (view S g p).isSome := by
  unfold used view
  by_cases h : (S p).g = g <;> simp [h]

theorem put_view {N : Nat} {S S' : Nat → Slot} {g : Int} (hN : 0 < N) (h : ∀ p, p < N → view S g p = view S' g p) (mv mh : Int) : ∀ p, p < N → view (put N S g mv mh) g p = view (put N S' g mv mh) g p := by
  intro p hp
  have e : probe N (used S g) N (mh.toNat % N) = probe N (used S' g) N (mh.toNat % N) :=
    probe_congr N _ _ hN (fun q hq => by rw [used_view, used_view, h q hq]) N _ (Nat.mod_lt _ hN)
  unfold view put
  rw [e]
  by_cases hq : p = probe N (used S' g) N (mh.toNat % N)
  · rw [if_pos hq, if_pos hq]
  · rw [if_neg hq, if_neg hq]; exact h p hp

theorem fillL_view {N : Nat} {g : Int} (hN : 0 < N) : ∀ (L : List (Int × Int)) (S S' : Nat → Slot), (∀ p, p < N → view S g p = view S' g p) → ∀ p, p < N → view (fillL N g S L) g p = view (fillL N g S' L) g p
  | [], _, _, h => h
  | x :: L, _, _, h => fillL_view hN L _ _ (put_view hN h x.1 x.2)

theorem view_unused {S : Nat → Slot} {g : Int} {p : Nat} (h : used S g p = false) : view S g p = none := by
  rw [used_view] at h
  simpa using h

theorem cnt_zero (U : Nat → Bool) : ∀ n, (∀ p, p < n → U p = false) → cnt U n = 0
  | 0, _ => rfl
  | n + 1, h => by simp [cnt, h n (by omega), cnt_zero U n (fun p hp => h p (by omega))]

theorem cnt_put (N : Nat) (S : Nat → Slot) (g mv mh : Int) : cnt (used (put N S g mv mh) g) N ≤ cnt (used S g) N + 1 := by
  have := cnt_set (used S g) (used (put N S g mv mh) g) (probe N (used S g) N (mh.toNat % N)) (fun p hp => by unfold used put; rw [if_neg hp]) N
  split at this <;> omega

theorem cnt_fill {N : Nat} {g : Int} : ∀ (L : List (Int × Int)) (S : Nat → Slot), cnt (used (fillL N g S L) g) N ≤ cnt (used S g) N + L.length
  | [], S => by simp [fillL]
  | x :: L, S => by
    have a := cnt_fill (N := N) (g := g) L (put N S g x.1 x.2)
    have b := cnt_put N S g x.1 x.2
    show cnt (used (fillL N g (put N S g x.1 x.2) L) g) N ≤ _
    simp only [List.length_cons]; omega

/-- There is a free place as long as fewer pairs than places are in. -/
theorem fill_free {N : Nat} {g : Int} {S : Nat → Slot} {L : List (Int × Int)} (h0 : ∀ p, p < N → used S g p = false) (hl : L.length < N) : ∃ p, p < N ∧ used (fillL N g S L) g p = false := by
  refine free_of_cnt ?_
  have a := cnt_fill (N := N) (g := g) L S
  rw [cnt_zero _ N h0] at a; omega

/-- The cells of a row of pairs in use. -/
def flat (g : Int) : List (Int × Int) → List Value
  | [] => []
  | x :: L => .int .u32 g :: .int .i64 x.1 :: .int .u64 x.2 :: flat g L

theorem flat_snoc (g : Int) (x : Int × Int) : ∀ L, flat g (L ++ [x]) = flat g L ++ [.int .u32 g, .int .i64 x.1, .int .u64 x.2]
  | [] => rfl
  | y :: L => by simp [flat, flat_snoc g x L]

theorem flat_len (g : Int) : ∀ L, (flat g L).length = L.length * 3
  | [] => rfl
  | y :: L => by simp [flat, flat_len g L]; omega

theorem flat_at (g : Int) : ∀ (L : List (Int × Int)) (i : Nat), i < L.length → (flat g L)[i * 3]? = some (.int .u32 g) ∧ (flat g L)[i * 3 + 1]? = some (.int .i64 (L.getD i (0, 0)).1) ∧ (flat g L)[i * 3 + 2]? = some (.int .u64 (L.getD i (0, 0)).2)
  | [], i, h => by simp at h
  | y :: L, 0, h => by simp [flat]
  | y :: L, i + 1, h => by
    have := flat_at g L i (by simpa using h)
    rw [show (i + 1) * 3 = i * 3 + 1 + 1 + 1 from by omega]
    simp only [flat, List.getElem?_cons_succ, List.getD_cons_succ]
    exact this

/-- The next generation. -/
def nextG (g : Int) : Int := if g + 1 = 4294967296 then 1 else g + 1

theorem pow_of : ∀ n : Nat, n &&& (n - 1) = 0 → n = 0 ∨ ∃ k, n = 2 ^ k := by
  intro n
  induction n using Nat.strongRecOn with
  | ind n ih =>
    intro h
    by_cases hz : n = 0
    · exact .inl hz
    · refine .inr ?_
      have h2 : (n / 2) &&& ((n - 1) / 2) = 0 := by rw [← Nat.and_div_two, h]
      by_cases hodd : n % 2 = 1
      · rw [show (n - 1) / 2 = n / 2 from by omega, Nat.and_self] at h2
        exact ⟨0, by omega⟩
      · rw [show (n - 1) / 2 = n / 2 - 1 from by omega] at h2
        rcases ih (n / 2) (by omega) h2 with e | ⟨k, e⟩
        · omega
        · exact ⟨k + 1, by rw [Nat.pow_succ]; omega⟩

/-- The new size is a power of two. -/
theorem size_pow (n : Nat) (h : n &&& (n - 1) = 0) : ∃ k, max (2 * n) 128 = 2 ^ k := by
  rcases pow_of n h with rfl | ⟨k, rfl⟩
  · exact ⟨7, rfl⟩
  · by_cases hk : k < 6
    · refine ⟨7, ?_⟩
      have : 2 ^ k ≤ 2 ^ 6 := Nat.pow_le_pow_right (by omega) (by omega)
      omega
    · refine ⟨k + 1, ?_⟩
      have : 2 ^ 6 ≤ 2 ^ k := Nat.pow_le_pow_right (by omega) (by omega)
      rw [Nat.pow_succ]; omega
end Go.Proofs.Qxb6001121a.HI

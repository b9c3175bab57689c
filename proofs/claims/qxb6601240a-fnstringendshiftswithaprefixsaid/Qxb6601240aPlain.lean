/-
  THE PLAIN FUNCTION that plan.stringEnd computes, over the bytes from the opening quote on. No program in sight.
-/
import Derived.Lib.Strings
namespace Go.Proofs.Qxb6601240a.SE

/-- How many bytes at the head are q. -/
def run (q : UInt8) : List UInt8 → Nat
  | [] => 0
  | b :: r => if b = q then run q r + 1 else 0

/-- The loop of stringEnd over the bytes s: place j, lines so far l, fuel. -/
def scan (s c : List UInt8) (q : UInt8) : Nat → Nat → Nat → Nat × Nat
  | 0, _, l => (s.length, l)
  | f + 1, j, l =>
    if j < s.length then
      if s.getD j 0 = 10 then scan s c q f (j + 1) (l + 1)
      else if s.getD j 0 = 92 ∧ j + 1 < s.length ∧ (s.getD (j + 1) 0 = 34 ∨ s.getD (j + 1) 0 = 92) then scan s c q f (j + 2) l
      else if Go.Lib.hasPrefix (s.drop j) c = true then (j + c.length + (if c.length = 3 then run q (s.drop (j + c.length)) else 0), l)
      else scan s c q f (j + 1) l
    else (s.length, l)

/-- The closing quotes. -/
def closing (s : List UInt8) : List UInt8 :=
  if Go.Lib.hasPrefix s [s.getD 0 0, s.getD 0 0, s.getD 0 0] = true then [s.getD 0 0, s.getD 0 0, s.getD 0 0] else [s.getD 0 0]

def seL (s : List UInt8) : Nat × Nat := scan s (closing s) (s.getD 0 0) s.length (closing s).length 0

theorem scan_end (s c : List UInt8) (q : UInt8) (f j l : Nat) (h : ¬ j < s.length) : scan s c q f j l = (s.length, l) := by
  cases f with
  | zero => rfl
  | succ f => simp [scan, h]

theorem scan_line (s c : List UInt8) (q : UInt8) (f j l : Nat) (h : j < s.length) (h1 : s.getD j 0 = 10) : scan s c q (f + 1) j l = scan s c q f (j + 1) (l + 1) := by
  simp only [scan, if_pos h, if_pos h1]

theorem scan_esc (s c : List UInt8) (q : UInt8) (f j l : Nat) (h : j < s.length) (h1 : ¬ s.getD j 0 = 10) (h2 : s.getD j 0 = 92 ∧ j + 1 < s.length ∧ (s.getD (j + 1) 0 = 34 ∨ s.getD (j + 1) 0 = 92)) : scan s c q (f + 1) j l = scan s c q f (j + 2) l := by
  simp only [scan, if_pos h, if_neg h1, if_pos h2]

theorem scan_close (s c : List UInt8) (q : UInt8) (f j l : Nat) (h : j < s.length) (h1 : ¬ s.getD j 0 = 10) (h2 : ¬ (s.getD j 0 = 92 ∧ j + 1 < s.length ∧ (s.getD (j + 1) 0 = 34 ∨ s.getD (j + 1) 0 = 92))) (h3 : Go.Lib.hasPrefix (s.drop j) c = true) :
    scan s c q (f + 1) j l = (j + c.length + (if c.length = 3 then run q (s.drop (j + c.length)) else 0), l) := by
  simp only [scan, if_pos h, if_neg h1, if_neg h2, if_pos h3]

theorem scan_go (s c : List UInt8) (q : UInt8) (f j l : Nat) (h : j < s.length) (h1 : ¬ s.getD j 0 = 10) (h2 : ¬ (s.getD j 0 = 92 ∧ j + 1 < s.length ∧ (s.getD (j + 1) 0 = 34 ∨ s.getD (j + 1) 0 = 92))) (h3 : Go.Lib.hasPrefix (s.drop j) c = false) :
    scan s c q (f + 1) j l = scan s c q f (j + 1) l := by
  simp only [scan, if_pos h, if_neg h1, if_neg h2, h3]; simp

theorem run_end (q : UInt8) (s : List UInt8) (m : Nat) (h : ¬ m < s.length) : run q (s.drop m) = 0 := by
  rw [List.drop_of_length_le (by omega)]; rfl

theorem run_stop (q : UInt8) (s : List UInt8) (m : Nat) (h : m < s.length) (h1 : ¬ s.getD m 0 = q) : run q (s.drop m) = 0 := by
  rw [List.drop_eq_getElem_cons h]
  have e : s.getD m 0 = s[m] := by simp [h]
  rw [e] at h1
  simp [run, h1]

theorem run_go (q : UInt8) (s : List UInt8) (m : Nat) (h : m < s.length) (h1 : s.getD m 0 = q) : run q (s.drop m) = run q (s.drop (m + 1)) + 1 := by
  rw [List.drop_eq_getElem_cons h]
  have e : s.getD m 0 = s[m] := by simp [h]
  rw [e] at h1
  simp [run, h1]

/-- The bytes of a text from i on, byte by byte. -/
theorem byte_at (T : ByteArray) (i k : Nat) (h : i + k < T.size) : (T.data.toList.drop i).getD k 0 = T[i + k] := by
  have h1 : i + k < T.data.toList.length := by simpa using h
  have h2 : k < (T.data.toList.drop i).length := by simp; omega
  rw [List.getD_eq_getElem?_getD, List.getElem?_eq_getElem h2, List.getElem_drop]
  rfl

theorem len_drop (T : ByteArray) (i : Nat) : (T.data.toList.drop i).length = T.size - i := by rw [List.length_drop]; rfl

theorem closing_len (s : List UInt8) : (closing s).length = 1 ∨ (closing s).length = 3 := by
  unfold closing; split <;> simp

theorem u8_iff (x y : UInt8) : x = y ↔ (x.toNat : Int) = (y.toNat : Int) := by
  rw [← UInt8.toNat_inj]; omega

/-- What the two readings of the bytes share: the bytes L of the text T from i on. -/
structure Reads (T : ByteArray) (i : Nat) (L : List UInt8) : Prop where
  len : L.length = T.size - i
  byte : ∀ m, i ≤ m → (h : m < T.size) → L.getD (m - i) 0 = T[m]

theorem Reads.next {T : ByteArray} {i : Nat} {L : List UInt8} (R : Reads T i L) {m : Nat} (h1 : i + 1 ≤ m) (h : m + 1 < T.size) : L.getD (m - i + 1) 0 = T[m + 1] := by
  have := R.byte (m + 1) (by omega) h
  rw [show m + 1 - i = m - i + 1 from by omega] at this
  exact this

abbrev Esc (L : List UInt8) (k : Nat) : Prop := L.getD k 0 = 92 ∧ k + 1 < L.length ∧ (L.getD (k + 1) 0 = 34 ∨ L.getD (k + 1) 0 = 92)

theorem esc_one {T : ByteArray} {i : Nat} {L : List UInt8} (R : Reads T i L) {m : Nat} {e : Bool} (He : e = true ↔ Esc L (m - i)) (h1 : i + 1 ≤ m) (h : m < T.size)
    (a : (T[m].toNat : Int) = 92) (b : (m : Int) + 1 < (T.size : Int)) (c : (T[m + 1].toNat : Int) = 34) : true = e := by
  symm; rw [He]
  refine ⟨?_, ?_, .inl ?_⟩
  · rw [R.byte m (by omega) h, u8_iff]; exact a
  · rw [R.len]; omega
  · rw [R.next h1 (by omega), u8_iff]; exact c

theorem esc_two {T : ByteArray} {i : Nat} {L : List UInt8} (R : Reads T i L) {m : Nat} {e : Bool} (He : e = true ↔ Esc L (m - i)) (h1 : i + 1 ≤ m) (h : m < T.size)
    (a : (T[m].toNat : Int) = 92) (b : (m : Int) + 1 < (T.size : Int)) : (((T[m + 1].toNat : Int) == 34) || ((T[m + 1].toNat : Int) == 92)) = e := by
  rw [Bool.eq_iff_iff, He]
  unfold Esc
  rw [R.byte m (by omega) h, R.next h1 (by omega), R.len, u8_iff T[m], u8_iff T[m + 1] 34, u8_iff T[m + 1] 92]
  simp only [Bool.or_eq_true, beq_iff_eq]
  constructor
  · intro hh; exact ⟨a, by omega, hh⟩
  · intro hh; exact hh.2.2

theorem esc_three {T : ByteArray} {i : Nat} {L : List UInt8} (R : Reads T i L) {m : Nat} {e : Bool} (He : e = true ↔ Esc L (m - i)) (h1 : i + 1 ≤ m)
    (b : (T.size : Int) ≤ (m : Int) + 1) : false = e := by
  symm; rw [← Bool.not_eq_true, He]
  intro hh; have := hh.2.1; rw [R.len] at this; omega

theorem esc_four {T : ByteArray} {i : Nat} {L : List UInt8} (R : Reads T i L) {m : Nat} {e : Bool} (He : e = true ↔ Esc L (m - i)) (h1 : i + 1 ≤ m) (h : m < T.size)
    (a : ¬ (T[m].toNat : Int) = 92) : false = e := by
  symm; rw [← Bool.not_eq_true, He]
  intro hh; have := hh.1; rw [R.byte m (by omega) h, u8_iff] at this; exact a this

/-- The rounds, in the walk's own forms. -/
theorem st_line {T : ByteArray} {i : Nat} {L c : List UInt8} (Q : Reads T i L) {q : UInt8} {m l f : Nat} {R : Nat × Nat} (h1 : i + 1 ≤ m) (h : m < T.size)
    (a : ((T[m].toNat : Int) == 10) = true) (HS : scan L c q (f + 1) (m - i) l = R) : scan L c q f (m + 1 - i) (l + 1) = R := by
  rw [scan_line _ _ _ _ _ _ (by rw [Q.len]; omega) (by rw [Q.byte m (by omega) h, u8_iff]; simpa using a)] at HS
  rw [show m + 1 - i = m - i + 1 from by omega]; exact HS

theorem no_line {T : ByteArray} {i : Nat} {L : List UInt8} (Q : Reads T i L) {m : Nat} (h1 : i + 1 ≤ m) (h : m < T.size)
    (a : ((T[m].toNat : Int) == 10) = false) : ¬ L.getD (m - i) 0 = 10 := by
  rw [Q.byte m (by omega) h, u8_iff]
  have := beq_eq_false_iff_ne.1 a
  exact this

theorem st_esc {T : ByteArray} {i : Nat} {L c : List UInt8} (Q : Reads T i L) {q : UInt8} {m l f : Nat} {R : Nat × Nat} (h1 : i + 1 ≤ m) (h : m < T.size)
    (a : ((T[m].toNat : Int) == 10) = false) (He : true = true ↔ Esc L (m - i)) (HS : scan L c q (f + 1) (m - i) l = R) : scan L c q f (m + 2 - i) l = R ∧ m + 1 < T.size := by
  have he := He.1 rfl
  rw [scan_esc _ _ _ _ _ _ (by rw [Q.len]; omega) (no_line Q h1 h a) he] at HS
  refine ⟨by rw [show m + 2 - i = m - i + 2 from by omega]; exact HS, ?_⟩
  have := he.2.1; rw [Q.len] at this; omega

theorem st_go {T : ByteArray} {i : Nat} {L c : List UInt8} (Q : Reads T i L) {q : UInt8} {m l f : Nat} {R : Nat × Nat} (h1 : i + 1 ≤ m) (h : m < T.size)
    (a : ((T[m].toNat : Int) == 10) = false) (He : false = true ↔ Esc L (m - i)) (hp : Go.Lib.hasPrefix (L.drop (m - i)) c = false) (HS : scan L c q (f + 1) (m - i) l = R) : scan L c q f (m + 1 - i) l = R := by
  rw [scan_go _ _ _ _ _ _ (by rw [Q.len]; omega) (no_line Q h1 h a) (fun x => by have := He.2 x; simp at this) hp] at HS
  rw [show m + 1 - i = m - i + 1 from by omega]; exact HS

theorem st_close {T : ByteArray} {i : Nat} {L c : List UInt8} (Q : Reads T i L) {q : UInt8} {m l f : Nat} {R : Nat × Nat} (h1 : i + 1 ≤ m) (h : m < T.size)
    (a : ((T[m].toNat : Int) == 10) = false) (He : false = true ↔ Esc L (m - i)) (hp : Go.Lib.hasPrefix (L.drop (m - i)) c = true) (HS : scan L c q (f + 1) (m - i) l = R) :
    m + c.length - i + (if c.length = 3 then run q (L.drop (m + c.length - i)) else 0) = R.1 ∧ l = R.2 := by
  rw [scan_close _ _ _ _ _ _ (by rw [Q.len]; omega) (no_line Q h1 h a) (fun x => by have := He.2 x; simp at this) hp] at HS
  subst HS
  rw [show m + c.length - i = m - i + c.length from by omega]
  exact ⟨rfl, rfl⟩

theorem in_go {T : ByteArray} {i : Nat} {L : List UInt8} (Q : Reads T i L) {q : UInt8} {n c r : Nat} (h1 : i ≤ n) (h : n < T.size) (c3 : c = 3)
    (a : ((T[n].toNat : Int) == (q.toNat : Int)) = true) (HE : n - i + (if c = 3 then run q (L.drop (n - i)) else 0) = r) : n + 1 - i + (if c = 3 then run q (L.drop (n + 1 - i)) else 0) = r := by
  rw [if_pos c3] at HE ⊢
  rw [run_go q L (n - i) (by rw [Q.len]; omega) (by rw [Q.byte n h1 h, u8_iff]; simpa using a)] at HE
  rw [show n + 1 - i = n - i + 1 from by omega]; omega

theorem in_stop {T : ByteArray} {i : Nat} {L : List UInt8} (Q : Reads T i L) {q : UInt8} {n c r : Nat} (h1 : i ≤ n) (h : n < T.size)
    (a : ((T[n].toNat : Int) == (q.toNat : Int)) = false) (HE : n - i + (if c = 3 then run q (L.drop (n - i)) else 0) = r) : i + r = n := by
  rw [run_stop q L (n - i) (by rw [Q.len]; omega) (by rw [Q.byte n h1 h, u8_iff]; exact beq_eq_false_iff_ne.1 a)] at HE
  split at HE <;> omega

theorem in_end {T : ByteArray} {i : Nat} {L : List UInt8} (Q : Reads T i L) {q : UInt8} {n c r : Nat} (h1 : i ≤ n) (h : ¬ n < T.size)
    (HE : n - i + (if c = 3 then run q (L.drop (n - i)) else 0) = r) : i + r = n := by
  rw [run_end q L (n - i) (by rw [Q.len]; omega)] at HE
  split at HE <;> omega

theorem in_no {i : Nat} {L : List UInt8} {q : UInt8} {n c r : Nat} (h1 : i ≤ n) (c3 : ¬ c = 3)
    (HE : n - i + (if c = 3 then run q (L.drop (n - i)) else 0) = r) : i + r = n := by
  rw [if_neg c3] at HE; omega

theorem reads_of (T : ByteArray) (i : Nat) : Reads T i (T.data.toList.drop i) := ⟨len_drop T i, fun m h1 h => by
  have := byte_at T i (m - i) (by omega)
  rw [this]; congr 1; omega⟩

/-- The bytes from a place on are the same with a text put before. -/
theorem drop_before (A B : List UInt8) (i : Nat) : (A ++ B).drop (A.length + i) = B.drop i := by simp [List.drop_append]

theorem run_le (q : UInt8) : ∀ l : List UInt8, run q l ≤ l.length
  | [] => Nat.le_refl _
  | b :: r => by
    have := run_le q r
    unfold run; split <;> simp <;> omega

theorem scan_le (s c : List UInt8) (q : UInt8) : ∀ f j l, (scan s c q f j l).1 ≤ s.length + c.length
  | 0, j, l => by simp [scan]
  | f + 1, j, l => by
    have a := scan_le s c q f (j + 1) (l + 1)
    have b := scan_le s c q f (j + 2) l
    have d := scan_le s c q f (j + 1) l
    have e := run_le q (s.drop (j + c.length))
    rw [List.length_drop] at e
    unfold scan
    split
    · split
      · exact a
      · split
        · exact b
        · split
          · dsimp only; split <;> omega
          · exact d
    · simp

theorem seL_le (s : List UInt8) : (seL s).1 ≤ s.length + 3 := by
  have a := scan_le s (closing s) (s.getD 0 0) s.length (closing s).length 0
  have b := closing_len s
  unfold seL; omega
end Go.Proofs.Qxb6601240a.SE

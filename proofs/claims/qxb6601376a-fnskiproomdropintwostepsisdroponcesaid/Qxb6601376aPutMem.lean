/-
  MEMORY LAWS FOR putNames; the masks. No walk here.
-/
import Derived.Test.Qxb6601376aCopy
namespace Go.Proofs.Qxb6601376a.SR
open Go.RowKit

theorem and_mask_u (x : Int) (N : Nat) (hp : ∃ k, N = 2 ^ k) (hb : N ≤ 65536) (h0 : 0 ≤ x) (h1 : x < 18446744073709551616) :
    bits .and .u64 x ((N : Int) - 1) = ((x.toNat % N : Nat) : Int) := by
  obtain ⟨k, rfl⟩ := hp
  have hpos : 0 < 2 ^ k := Nat.two_pow_pos k
  rw [u64_and x _ h0 h1 (by omega) (by omega)]
  have e : (((2 ^ k : Nat) : Int) - 1).toNat = 2 ^ k - 1 := by omega
  rw [e, Nat.and_two_pow_sub_one_eq_mod]

theorem i64_and_nat (a b : Nat) (ha : a ≤ 100000) (hb : b ≤ 100000) : bits .and .i64 (a : Int) (b : Int) = ((a &&& b : Nat) : Int) := by
  have hx : a &&& b < 2 ^ 62 := Nat.and_lt_two_pow _ (by omega)
  show IntKind.i64.wrap ((BitVec.ofInt 64 (a : Int) &&& BitVec.ofInt 64 (b : Int)).toNat : Int) = _
  rw [BitVec.toNat_and, ofInt_u64 a (by omega), ofInt_u64 b (by omega), IntKind.wrap_i64]; omega

theorem and_mask_i (p N : Nat) (hp : ∃ k, N = 2 ^ k) (hb : N ≤ 65536) (h : p < N) : bits .and .i64 ((p : Int) + 1) ((N : Int) - 1) = (((p + 1) % N : Nat) : Int) := by
  obtain ⟨k, rfl⟩ := hp
  have hpos : 0 < 2 ^ k := Nat.two_pow_pos k
  have e1 : ((p : Int) + 1) = ((p + 1 : Nat) : Int) := by omega
  have e2 : (((2 ^ k : Nat) : Int) - 1) = ((2 ^ k - 1 : Nat) : Int) := by omega
  rw [e1, e2, i64_and_nat _ _ (by omega) (by omega), Nat.and_two_pow_sub_one_eq_mod]

theorem and_mask_w (x : Int) (N : Nat) (hp : ∃ k, N = 2 ^ k) (hb : N ≤ 65536) (h0 : 0 ≤ x) (h1 : x < 18446744073709551616) :
    bits .and .i64 (wrap64 x) ((N : Int) - 1) = ((x.toNat % N : Nat) : Int) := by
  obtain ⟨k, rfl⟩ := hp
  have hpos : 0 < 2 ^ k := Nat.two_pow_pos k
  have e2 : (((2 ^ k : Nat) : Int) - 1) = ((2 ^ k - 1 : Nat) : Int) := by omega
  have e1 : (BitVec.ofInt 64 (wrap64 x)).toNat = x.toNat := by
    rw [BitVec.toNat_ofInt]; unfold wrap64; omega
  have hlt : x.toNat % 2 ^ k < 2 ^ k := Nat.mod_lt _ hpos
  rw [e2]
  show IntKind.i64.wrap ((BitVec.ofInt 64 (wrap64 x) &&& BitVec.ofInt 64 ((2 ^ k - 1 : Nat) : Int)).toNat : Int) = _
  rw [BitVec.toNat_and, e1, ofInt_u64 _ (by omega), Nat.and_two_pow_sub_one_eq_mod, IntKind.wrap_i64]; omega

/-- What stands while the names are put. -/
structure PS (w wr : World) (rb rm nb sb tb n N tot : Nat) (X Y sp T : Nat → Int) (ix : Int) : Prop where
  hrb : wr.heap[rb]? = some (.cells #[.slice none 0 0, .slice none 0 0, .slice none 0 0, .int .i64 0] 39 (0, 0))
  hrm : wr.heap[rm]? = some (.cells #[.slice (some ⟨nb, 0, none⟩) n n, .slice (some ⟨sb, 0, none⟩) tot tot, .slice (some ⟨tb, 0, none⟩) N N, .int .i64 ix] 39 (0, 0))
  hnb : Pair wr nb 54 .i64 .u64 n X Y
  hsb : wr.rowIs sb 5 tot (fun x => .int .u8 (sp x))
  htb : wr.rowIs tb 3 N (fun p => .int .i64 (T p))
  bel : Below w.heap.size w wr
  ord : w.heap.size ≤ rb ∧ rb < rm ∧ rm < nb ∧ nb < sb ∧ sb < tb

section
variable {w wr : World} {rb rm nb sb tb n N tot : Nat} {X Y sp T : Nat → Int} {ix : Int}
theorem PS.rm0 (h : PS w wr rb rm nb sb tb n N tot X Y sp T ix) : wr.cell? ⟨rm, 0, none⟩ = some (.slice (some ⟨nb, 0, none⟩) n n) := by simp [World.cell?, h.hrm]
theorem PS.rm1 (h : PS w wr rb rm nb sb tb n N tot X Y sp T ix) : wr.cell? ⟨rm, 1, none⟩ = some (.slice (some ⟨sb, 0, none⟩) tot tot) := by simp [World.cell?, h.hrm]
theorem PS.rm2 (h : PS w wr rb rm nb sb tb n N tot X Y sp T ix) : wr.cell? ⟨rm, 2, none⟩ = some (.slice (some ⟨tb, 0, none⟩) N N) := by simp [World.cell?, h.hrm]
theorem PS.rm3 (h : PS w wr rb rm nb sb tb n N tot X Y sp T ix) : wr.cell? ⟨rm, 3, none⟩ = some (.int .i64 ix) := by simp [World.cell?, h.hrm]
theorem PS.rmf (h : PS w wr rb rm nb sb tb n N tot X Y sp T ix) (o : Nat) : wr.frozen? ⟨rm, o, none⟩ = false := by simp [World.frozen?, h.hrm]
theorem PS.rbc (h : PS w wr rb rm nb sb tb n N tot X Y sp T ix) : wr.cell? ⟨rb, 0, none⟩ = some (.slice none 0 0) ∧ wr.cell? ⟨rb, 1, none⟩ = some (.slice none 0 0) ∧ wr.cell? ⟨rb, 2, none⟩ = some (.slice none 0 0) ∧ wr.cell? ⟨rb, 3, none⟩ = some (.int .i64 0) := by simp [World.cell?, h.hrb]
theorem PS.rbf (h : PS w wr rb rm nb sb tb n N tot X Y sp T ix) (o : Nat) : wr.frozen? ⟨rb, o, none⟩ = false := by simp [World.frozen?, h.hrb]

theorem PS.drewN (h : PS w wr rb rm nb sb tb n N tot X Y sp T ix) (m : Nat) : PS w (wr.drewN m) rb rm nb sb tb n N tot X Y sp T ix :=
  ⟨h.hrb, h.hrm, h.hnb, h.hsb, h.htb, below_drewN h.bel m, h.ord⟩
theorem PS.drew (h : PS w wr rb rm nb sb tb n N tot X Y sp T ix) : PS w wr.drew rb rm nb sb tb n N tot X Y sp T ix :=
  ⟨h.hrb, h.hrm, h.hnb, h.hsb, h.htb, h.bel.drew, h.ord⟩

theorem PS.setN (h : PS w wr rb rm nb sb tb n N tot X Y sp T ix) (k : Nat) (x y : Int) :
    PS w ((wr.setCell ⟨nb, k * 2, none⟩ (.int .i64 x)).setCell ⟨nb, k * 2 + 1, none⟩ (.int .u64 y)) rb rm nb sb tb n N tot (fun j => if j = k then x else X j) (fun j => if j = k then y else Y j) sp T ix := by
  have o := h.ord
  have key : ∀ j, j ≠ nb → ((wr.setCell ⟨nb, k * 2, none⟩ (.int .i64 x)).setCell ⟨nb, k * 2 + 1, none⟩ (.int .u64 y)).heap[j]? = wr.heap[j]? := fun j hj => by
    rw [Below.heap_setCell _ _ _ _ hj, Below.heap_setCell _ _ _ _ hj]
  exact ⟨(key _ (by omega)).trans h.hrb, (key _ (by omega)).trans h.hrm, h.hnb.set k x y, h.hsb.of_block (key _ (by omega)), h.htb.of_block (key _ (by omega)), (h.bel.setCell (by show _ ≤ nb; omega) _).setCell (by show _ ≤ nb; omega) _, o⟩

theorem PS.setS (h : PS w wr rb rm nb sb tb n N tot X Y sp T ix) (p : Nat) (v : Int) : PS w (wr.setCell ⟨sb, p, none⟩ (.int .u8 v)) rb rm nb sb tb n N tot X Y (upd sp p v) T ix := by
  have o := h.ord
  have key : ∀ j, j ≠ sb → (wr.setCell ⟨sb, p, none⟩ (.int .u8 v)).heap[j]? = wr.heap[j]? := fun j hj => Below.heap_setCell _ _ _ _ hj
  refine ⟨(key _ (by omega)).trans h.hrb, (key _ (by omega)).trans h.hrm, h.hnb.of_block (key _ (by omega)), (h.hsb.set p _).congr (fun i _ => ?_), h.htb.of_block (key _ (by omega)), h.bel.setCell (by show _ ≤ sb; omega) _, o⟩
  unfold upd; split <;> rfl

theorem PS.setT (h : PS w wr rb rm nb sb tb n N tot X Y sp T ix) (p : Nat) (v : Int) : PS w (wr.setCell ⟨tb, p, none⟩ (.int .i64 v)) rb rm nb sb tb n N tot X Y sp (upd T p v) ix := by
  have o := h.ord
  have key : ∀ j, j ≠ tb → (wr.setCell ⟨tb, p, none⟩ (.int .i64 v)).heap[j]? = wr.heap[j]? := fun j hj => Below.heap_setCell _ _ _ _ hj
  refine ⟨(key _ (by omega)).trans h.hrb, (key _ (by omega)).trans h.hrm, h.hnb.of_block (key _ (by omega)), h.hsb.of_block (key _ (by omega)), (h.htb.set p _).congr (fun i _ => ?_), h.bel.setCell (by show _ ≤ tb; omega) _, o⟩
  unfold upd; split <;> rfl

theorem PS.setI (h : PS w wr rb rm nb sb tb n N tot X Y sp T ix) (v : Int) : PS w (wr.setCell ⟨rm, 3, none⟩ (.int .i64 v)) rb rm nb sb tb n N tot X Y sp T v := by
  have o := h.ord
  have key : ∀ j, j ≠ rm → (wr.setCell ⟨rm, 3, none⟩ (.int .i64 v)).heap[j]? = wr.heap[j]? := fun j hj => Below.heap_setCell _ _ _ _ hj
  refine ⟨(key _ (by omega)).trans h.hrb, ?_, h.hnb.of_block (key _ (by omega)), h.hsb.of_block (key _ (by omega)), h.htb.of_block (key _ (by omega)), h.bel.setCell (by show _ ≤ rm; omega) _, o⟩
  simp [World.setCell, Array.getElem?_modify, h.hrm]
end

/-- The room is copied into the result's variable. -/
theorem put_end {w wr W : World} {rb rm nb sb tb n N tot : Nat} {A Hs sp T : Nat → Int} {ix : Int} (h : PS w wr rb rm nb sb tb n N tot (fun j => if j < n then A j else 0) (fun j => if j < n then Hs j else 0) sp T ix) (v0 v1 v2 v3 : Value)
    (hW : W = (((wr.setCell ⟨rb, 0, none⟩ v0).setCell ⟨rb, 1, none⟩ v1).setCell ⟨rb, 2, none⟩ v2).setCell ⟨rb, 3, none⟩ v3) :
    (W.cell? ⟨rb, 0, none⟩ = some v0 ∧ W.cell? ⟨rb, 1, none⟩ = some v1 ∧ W.cell? ⟨rb, 2, none⟩ = some v2 ∧ W.cell? ⟨rb, 3, none⟩ = some v3) ∧ Rm W nb n sb tot tb N A Hs sp T ∧ Below w.heap.size w W := by
  have o := h.ord
  have key : ∀ j, j ≠ rb → W.heap[j]? = wr.heap[j]? := fun j hj => by
    rw [hW, Below.heap_setCell _ _ _ _ hj, Below.heap_setCell _ _ _ _ hj, Below.heap_setCell _ _ _ _ hj, Below.heap_setCell _ _ _ _ hj]
  have hb : W.heap[rb]? = some (.cells #[v0, v1, v2, v3] 39 (0, 0)) := by
    rw [hW]; simp [World.setCell, Array.getElem?_modify, h.hrb]
  have hbel : Below w.heap.size w W := by
    rw [hW]; exact (((h.bel.setCell (by show _ ≤ rb; omega) _).setCell (by show _ ≤ rb; omega) _).setCell (by show _ ≤ rb; omega) _).setCell (by show _ ≤ rb; omega) _
  clear hW
  refine ⟨⟨by simp [World.cell?, hb], by simp [World.cell?, hb], by simp [World.cell?, hb], by simp [World.cell?, hb]⟩, ⟨?_, h.hsb.of_block (key _ (by omega)), h.htb.of_block (key _ (by omega))⟩, hbel⟩
  exact (h.hnb.congr (fun j hj => by rw [if_pos hj, if_pos hj]; exact ⟨rfl, rfl⟩)).of_block (key _ (by omega))

theorem step_pair {k : Nat} {A : Nat → Int} : (fun j => if j = k then A k else if j < k then A j else 0) = (fun j => if j < k + 1 then A j else 0) := by
  funext j
  by_cases h1 : j = k
  · subst h1; rw [if_pos rfl, if_pos (by omega)]
  · rw [if_neg h1]
    by_cases h2 : j < k
    · rw [if_pos h2, if_pos (by omega)]
    · rw [if_neg h2, if_neg (by omega)]
end Go.Proofs.Qxb6601376a.SR

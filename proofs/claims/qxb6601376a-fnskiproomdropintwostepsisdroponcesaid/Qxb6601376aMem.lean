/-
  MEMORY OF THE SKIP ROOM: rows of pairs, rows of numbers, frames. No walk here.
-/
import Derived.Test.Qxb6601376aProg
import Derived.WalkKit
import Derived.Below
import Derived.WalkSmall
import Derived.Deep.OwnRows
namespace Go.Proofs.Qxb6601376a.SR
open Go.RowKit

theorem hide {p : Prop} (h : p) : Hid p := h

/-- Block b holds cap pairs of numbers, none frozen. -/
def Pair (w : World) (b : Nat) (t : TypeId) (k1 k2 : IntKind) (cap : Nat) (X Y : Nat → Int) : Prop :=
  ∃ c : Array Value, w.heap[b]? = some (.cells c t (0, 0)) ∧ c.size = cap * 2 ∧ ∀ i, i < cap → c[i * 2]? = some (.int k1 (X i)) ∧ c[i * 2 + 1]? = some (.int k2 (Y i))

section
variable {w w' : World} {b : Nat} {t : TypeId} {k1 k2 : IntKind} {cap : Nat} {X Y : Nat → Int}
theorem Pair.lt (h : Pair w b t k1 k2 cap X Y) : b < w.heap.size := by
  obtain ⟨c, hb, _, _⟩ := h
  obtain ⟨hlt, _⟩ := Array.getElem?_eq_some_iff.1 hb
  exact hlt
theorem Pair.c0 (h : Pair w b t k1 k2 cap X Y) {i : Nat} (hi : i < cap) : w.cell? ⟨b, i * 2, none⟩ = some (.int k1 (X i)) := by
  obtain ⟨c, hb, _, hc⟩ := h
  simp [World.cell?, hb, (hc i hi).1]
theorem Pair.c1 (h : Pair w b t k1 k2 cap X Y) {i : Nat} (hi : i < cap) : w.cell? ⟨b, i * 2 + 1, none⟩ = some (.int k2 (Y i)) := by
  obtain ⟨c, hb, _, hc⟩ := h
  simp [World.cell?, hb, (hc i hi).2]
theorem Pair.frozen (h : Pair w b t k1 k2 cap X Y) (o : Nat) : w.frozen? ⟨b, o, none⟩ = false := by
  obtain ⟨c, hb, _, _⟩ := h
  simp [World.frozen?, hb]
theorem Pair.of_block (h : Pair w b t k1 k2 cap X Y) (e : w'.heap[b]? = w.heap[b]?) : Pair w' b t k1 k2 cap X Y := by
  obtain ⟨c, hb, hn, hc⟩ := h
  exact ⟨c, e.trans hb, hn, hc⟩
theorem Pair.congr {X' Y' : Nat → Int} (h : Pair w b t k1 k2 cap X Y) (e : ∀ i, i < cap → X i = X' i ∧ Y i = Y' i) : Pair w b t k1 k2 cap X' Y' := by
  obtain ⟨c, hb, hn, hc⟩ := h
  exact ⟨c, hb, hn, fun i hi => by rw [← (e i hi).1, ← (e i hi).2]; exact hc i hi⟩
theorem Pair.set (h : Pair w b t k1 k2 cap X Y) (i : Nat) (x y : Int) :
    Pair ((w.setCell ⟨b, i * 2, none⟩ (.int k1 x)).setCell ⟨b, i * 2 + 1, none⟩ (.int k2 y)) b t k1 k2 cap (fun j => if j = i then x else X j) (fun j => if j = i then y else Y j) := by
  obtain ⟨c, hb, hn, hc⟩ := h
  refine ⟨(c.setIfInBounds (i * 2) (.int k1 x)).setIfInBounds (i * 2 + 1) (.int k2 y), ?_, by simpa using hn, fun j hj => ?_⟩
  · simp [World.setCell, Array.getElem?_modify, hb]
  · simp only [Array.getElem?_setIfInBounds, Array.size_setIfInBounds, hn]
    by_cases e : j = i
    · subst e
      refine ⟨?_, ?_⟩
      · rw [if_neg (by omega), if_pos rfl, if_pos (by omega), if_pos rfl]
      · rw [if_pos rfl, if_pos (by omega)]; simp
    · have := hc j hj
      rw [if_neg e, if_neg e]
      refine ⟨?_, ?_⟩
      · rw [if_neg (by omega), if_neg (by omega)]; exact this.1
      · rw [if_neg (by omega), if_neg (by omega)]; exact this.2
end

/-- What make lays: n zero pairs. -/
theorem pair_made (w : World) (n : Nat) (t : TypeId) (k1 k2 : IntKind) : Pair (w.alloc (.cells (madeCells #[.int k1 0, .int k2 0] (n * 2)) t)) w.heap.size t k1 k2 n (fun _ => 0) (fun _ => 0) := by
  refine ⟨_, Deep.blk_alloc_new _ _, size_madeCells _ _, fun i hi => ?_⟩
  unfold madeCells
  refine ⟨?_, ?_⟩
  · rw [Array.getElem?_map, Array.getElem?_range]
    simp; omega
  · rw [Array.getElem?_map, Array.getElem?_range]
    simp; omega

/-- One more pair written. -/
theorem pair_step {w wr : World} {c cap k : Nat} {t : TypeId} {k1 k2 : IntKind} {X Y : Nat → Int} (T : Pair wr c t k1 k2 cap (fun i => if i < k then X i else 0) (fun i => if i < k then Y i else 0)) (B : Below w.heap.size w wr) (hc : w.heap.size ≤ c) :
    Pair ((wr.setCell ⟨c, k * 2, none⟩ (.int k1 (X k))).setCell ⟨c, k * 2 + 1, none⟩ (.int k2 (Y k))) c t k1 k2 cap (fun i => if i < k + 1 then X i else 0) (fun i => if i < k + 1 then Y i else 0) ∧
    Below w.heap.size w ((wr.setCell ⟨c, k * 2, none⟩ (.int k1 (X k))).setCell ⟨c, k * 2 + 1, none⟩ (.int k2 (Y k))) := by
  refine ⟨(T.set k (X k) (Y k)).congr (fun j hj => ?_), (B.setCell hc _).setCell hc _⟩
  by_cases h1 : j = k
  · subst h1; rw [if_pos rfl, if_pos rfl, if_pos (by omega), if_pos (by omega)]; exact ⟨rfl, rfl⟩
  · rw [if_neg h1, if_neg h1]
    by_cases h2 : j < k
    · rw [if_pos h2, if_pos h2, if_pos (by omega), if_pos (by omega)]; exact ⟨rfl, rfl⟩
    · rw [if_neg h2, if_neg h2, if_neg (by omega), if_neg (by omega)]; exact ⟨rfl, rfl⟩

theorem info52 : (Try.prog.info? 52).map (fun i => (i.zero, i.size, i.bytes)) = some (some (.agg #[.int .u64 0, .int .u8 0]), 2, 16) := by kernel_rfl
theorem info54 : (Try.prog.info? 54).map (fun i => (i.zero, i.size, i.bytes)) = some (some (.agg #[.int .i64 0, .int .u64 0]), 2, 16) := by kernel_rfl
theorem info57 : (Try.prog.info? 57).map (fun i => (i.zero, i.size, i.bytes)) = some (some (.agg #[.int .i64 0, .int .u64 0]), 2, 16) := by kernel_rfl
theorem info3 : (Try.prog.info? 3).map (fun i => (i.zero, i.size, i.bytes)) = some (some (.int .i64 0), 1, 8) := by kernel_rfl
theorem info5 : (Try.prog.info? 5).map (fun i => (i.zero, i.size, i.bytes)) = some (some (.int .u8 0), 1, 1) := by kernel_rfl

theorem make_pairs (t e : TypeId) (k1 k2 : IntKind) (ht : Try.prog.underlying t = some (.slice e)) (hi : (Try.prog.info? e).map (fun i => (i.zero, i.size, i.bytes)) = some (some (.agg #[.int k1 0, .int k2 0]), 2, 16)) (n : Nat) (hn : n ≤ 100000) (w : World) :
    (Instr.makeSlice t (.int .i64 (n : Int)) (.int .i64 (n : Int))).run Try.prog w =
    .ok (.slice (some ⟨w.heap.size, 0, none⟩) n n) (w.alloc (.cells (madeCells #[.int k1 0, .int k2 0] (n * 2)) e)) := by
  obtain ⟨i, hi, hz, hs, hb⟩ := info_parts hi
  have := run_make (P := Try.prog) w t e i _ ht hi hz .i64 .i64 n n (by omega) (Int.le_refl _) (by rw [hb]; omega) (by omega)
  rw [hs] at this
  simp only [Int.toNat_natCast] at this
  exact this

/-- A slice of names that is read. -/
def Sl (w : World) (a : Option Addr) (len : Nat) (Hs : Nat → Int) (Ln : Nat → Nat) : Prop :=
  ∀ i, i < len → ∃ b off, a = some ⟨b, off, none⟩ ∧ b < w.heap.size ∧ w.cell? ⟨b, off + i * 2, none⟩ = some (.int .u64 (Hs i)) ∧ w.cell? ⟨b, off + i * 2 + 1, none⟩ = some (.int .u8 (Ln i))

theorem Sl.of_below {w w' : World} {a : Option Addr} {len : Nat} {Hs : Nat → Int} {Ln : Nat → Nat} (H : Sl w a len Hs Ln) (F : Below w.heap.size w w') : Sl w' a len Hs Ln := by
  intro i hi
  obtain ⟨b, off, rfl, hb, h0, h1⟩ := H i hi
  exact ⟨b, off, rfl, Nat.lt_of_lt_of_le hb F.size, (F.cell (p := ⟨b, off + i * 2, none⟩) hb).trans h0, (F.cell (p := ⟨b, off + i * 2 + 1, none⟩) hb).trans h1⟩
/-- w' is w with new blocks, and with writes to the blocks of M alone. -/
structure Fr (M : List Nat) (w w' : World) : Prop where
  os : w'.os = w.os
  tape : w'.tape = w.tape
  output : w'.output = w.output
  size : w.heap.size ≤ w'.heap.size
  block : ∀ k, k < w.heap.size → k ∉ M → w'.heap[k]? = w.heap[k]?

theorem Fr.refl (M : List Nat) (w : World) : Fr M w w := ⟨rfl, rfl, rfl, Nat.le_refl _, fun _ _ _ => rfl⟩
theorem Fr.trans {M : List Nat} {a b c : World} (h : Fr M a b) (k : Fr M b c) : Fr M a c :=
  ⟨k.os.trans h.os, k.tape.trans h.tape, k.output.trans h.output, Nat.le_trans h.size k.size, fun j hj hm => (k.block j (Nat.lt_of_lt_of_le hj h.size) hm).trans (h.block j hj hm)⟩
theorem Fr.mono {M M' : List Nat} {a b : World} (h : Fr M a b) (hs : ∀ k, k < a.heap.size → k ∈ M → k ∈ M') : Fr M' a b :=
  ⟨h.os, h.tape, h.output, h.size, fun k hk hm => h.block k hk (fun x => hm (hs k hk x))⟩
theorem Fr.drewN {M : List Nat} {a b : World} (h : Fr M a b) (n : Nat) : Fr M a (b.drewN n) := ⟨h.os, h.tape, h.output, h.size, h.block⟩
theorem Fr.drew {M : List Nat} {a b : World} (h : Fr M a b) : Fr M a b.drew := ⟨h.os, h.tape, h.output, h.size, h.block⟩
theorem Fr.alloc {M : List Nat} {a b : World} (h : Fr M a b) (o : Obj) : Fr M a (b.alloc o) :=
  ⟨h.os, h.tape, h.output, Nat.le_trans h.size (by rw [Deep.nblk_alloc]; omega), fun k hk hm => by rw [Deep.blk_alloc_lt _ _ _ (Nat.lt_of_lt_of_le hk h.size)]; exact h.block k hk hm⟩
theorem Fr.setCell {M : List Nat} {a b : World} (h : Fr M a b) {p : Addr} (hp : p.block ∈ M ∨ a.heap.size ≤ p.block) (v : Value) : Fr M a (b.setCell p v) :=
  ⟨h.os, h.tape, h.output, by rw [Deep.nblk_setCell]; exact h.size, fun k hk hm => by
    rw [Deep.blk_setCell_other _ _ _ _ (fun e => by subst e; rcases hp with hp | hp; exact hm hp; omega)]; exact h.block k hk hm⟩
theorem Fr.of_below {w w' : World} (h : Below w.heap.size w w') (M : List Nat) : Fr M w w' := ⟨h.os, h.tape, h.output, h.size, fun k hk _ => h.block k hk⟩
theorem Fr.of_grown {w w' : World} {b : Nat} {M : List Nat} (h : w.grownBy w' (some b)) (hb : b ∈ M) : Fr M w w' :=
  ⟨h.os, h.tape, h.output, h.size, fun k hk hm => h.block k hk (fun e => by cases e; exact hm hb)⟩
theorem Fr.of_grown_none {w w' : World} {M : List Nat} (h : w.grownBy w' none) : Fr M w w' :=
  ⟨h.os, h.tape, h.output, h.size, fun k hk hm => h.block k hk (by simp)⟩
theorem Fr.below {M : List Nat} {w w' : World} (h : Fr M w w') (B : Nat) (hB : B ≤ w.heap.size) (hm : ∀ k ∈ M, B ≤ k) : Below B w w' :=
  ⟨h.os, h.tape, h.output, h.size, fun k hk => h.block k (Nat.lt_of_lt_of_le hk hB) (fun x => by have := hm k x; omega)⟩


/-- A room's memory: the names, the bytes, the table. -/
structure Rm (w : World) (nb cm sb sc tb N : Nat) (A Hs sp T : Nat → Int) : Prop where
  hn : Pair w nb 54 .i64 .u64 cm A Hs
  hs : w.rowIs sb 5 sc (fun x => .int .u8 (sp x))
  ht : w.rowIs tb 3 N (fun p => .int .i64 (T p))

theorem Rm.of_fr {w w' : World} {nb cm sb sc tb N : Nat} {A Hs sp T : Nat → Int} {M : List Nat} (R : Rm w nb cm sb sc tb N A Hs sp T) (F : Fr M w w') (h1 : nb ∉ M) (h2 : sb ∉ M) (h3 : tb ∉ M) : Rm w' nb cm sb sc tb N A Hs sp T :=
  ⟨R.hn.of_block (F.block nb R.hn.lt h1), R.hs.of_block (F.block sb R.hs.lt h2), R.ht.of_block (F.block tb R.ht.lt h3)⟩
end Go.Proofs.Qxb6601376a.SR

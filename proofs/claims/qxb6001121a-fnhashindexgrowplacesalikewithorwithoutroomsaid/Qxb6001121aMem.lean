/-
  MEMORY OF THE HASH INDEX: a table of slots in a block, the index's struct in a block. No walk here.
-/
import Derived.Test.Qxb6001121aProg
import Derived.WalkKit
import Derived.Below
import Derived.WalkSmall
import Derived.Deep.OwnRows
import Derived.Laws.IdiomCopy
namespace Go.Proofs.Qxb6001121a.HI
open Go.RowKit

structure Slot where
  g : Int
  v : Int
  h : Int

/-- Block b holds cap slots, none frozen: slot i is S i. -/
def Tab (w : World) (b cap : Nat) (S : Nat → Slot) : Prop :=
  ∃ c : Array Value, w.heap[b]? = some (.cells c 47 (0, 0)) ∧ c.size = cap * 3 ∧
    ∀ i, i < cap → c[i * 3]? = some (.int .u32 (S i).g) ∧ c[i * 3 + 1]? = some (.int .i64 (S i).v) ∧ c[i * 3 + 2]? = some (.int .u64 (S i).h)

theorem Tab.lt {w : World} {b cap : Nat} {S : Nat → Slot} (h : Tab w b cap S) : b < w.heap.size := by
  obtain ⟨c, hb, _, _⟩ := h
  obtain ⟨hlt, _⟩ := Array.getElem?_eq_some_iff.1 hb
  exact hlt

theorem Tab.c0 {w : World} {b cap : Nat} {S : Nat → Slot} (h : Tab w b cap S) {i : Nat} (hi : i < cap) : w.cell? ⟨b, i * 3, none⟩ = some (.int .u32 (S i).g) := by
  obtain ⟨c, hb, _, hc⟩ := h
  simp [World.cell?, hb, (hc i hi).1]

theorem Tab.c1 {w : World} {b cap : Nat} {S : Nat → Slot} (h : Tab w b cap S) {i : Nat} (hi : i < cap) : w.cell? ⟨b, i * 3 + 1, none⟩ = some (.int .i64 (S i).v) := by
  obtain ⟨c, hb, _, hc⟩ := h
  simp [World.cell?, hb, (hc i hi).2.1]

theorem Tab.c2 {w : World} {b cap : Nat} {S : Nat → Slot} (h : Tab w b cap S) {i : Nat} (hi : i < cap) : w.cell? ⟨b, i * 3 + 2, none⟩ = some (.int .u64 (S i).h) := by
  obtain ⟨c, hb, _, hc⟩ := h
  simp [World.cell?, hb, (hc i hi).2.2]

theorem Tab.frozen {w : World} {b cap : Nat} {S : Nat → Slot} (h : Tab w b cap S) (o : Nat) : w.frozen? ⟨b, o, none⟩ = false := by
  obtain ⟨c, hb, _, _⟩ := h
  simp [World.frozen?, hb]

theorem Tab.of_block {w w' : World} {b cap : Nat} {S : Nat → Slot} (h : Tab w b cap S) (e : w'.heap[b]? = w.heap[b]?) : Tab w' b cap S := by
  obtain ⟨c, hb, hn, hc⟩ := h
  exact ⟨c, e.trans hb, hn, hc⟩

theorem Tab.congr {w : World} {b cap : Nat} {S S' : Nat → Slot} (h : Tab w b cap S) (e : ∀ i, i < cap → S i = S' i) : Tab w b cap S' := by
  obtain ⟨c, hb, hn, hc⟩ := h
  exact ⟨c, hb, hn, fun i hi => by rw [← e i hi]; exact hc i hi⟩

/-- One slot is stored. -/
theorem Tab.set {w : World} {b cap : Nat} {S : Nat → Slot} (h : Tab w b cap S) (i : Nat) (s : Slot) :
    Tab (((w.setCell ⟨b, i * 3, none⟩ (.int .u32 s.g)).setCell ⟨b, i * 3 + 1, none⟩ (.int .i64 s.v)).setCell ⟨b, i * 3 + 2, none⟩ (.int .u64 s.h)) b cap (fun j => if j = i then s else S j) := by
  obtain ⟨c, hb, hn, hc⟩ := h
  refine ⟨((c.setIfInBounds (i * 3) (.int .u32 s.g)).setIfInBounds (i * 3 + 1) (.int .i64 s.v)).setIfInBounds (i * 3 + 2) (.int .u64 s.h), ?_, by simpa using hn, fun j hj => ?_⟩
  · simp [World.setCell, Array.getElem?_modify, hb]
  · simp only [Array.getElem?_setIfInBounds, Array.size_setIfInBounds, hn]
    by_cases e : j = i
    · subst e
      rw [if_pos rfl]
      refine ⟨?_, ?_, ?_⟩
      · rw [if_neg (by omega), if_neg (by omega), if_pos rfl, if_pos (by omega)]
      · rw [if_neg (by omega), if_pos rfl, if_pos (by omega)]; simp
      · rw [if_pos rfl, if_pos (by omega)]; simp
    · rw [if_neg e]
      have := hc j hj
      refine ⟨?_, ?_, ?_⟩
      · rw [if_neg (by omega), if_neg (by omega), if_neg (by omega)]; exact this.1
      · rw [if_neg (by omega), if_neg (by omega), if_neg (by omega)]; exact this.2.1
      · rw [if_neg (by omega), if_neg (by omega), if_neg (by omega)]; exact this.2.2

/-- Block h holds the index's struct. -/
def Idx (w : World) (h : Nat) (b len cap : Nat) (u g : Int) (mv : Value) : Prop :=
  w.heap[h]? = some (.cells #[.slice (some ⟨b, 0, none⟩) len cap, .int .i64 u, .int .u32 g, mv] 49 (0, 0))

theorem Idx.lt {w : World} {h b len cap : Nat} {u g : Int} {mv : Value} (H : Idx w h b len cap u g mv) : h < w.heap.size := by
  obtain ⟨hlt, _⟩ := Array.getElem?_eq_some_iff.1 H
  exact hlt
theorem Idx.c0 {w : World} {h b len cap : Nat} {u g : Int} {mv : Value} (H : Idx w h b len cap u g mv) : w.cell? ⟨h, 0, none⟩ = some (.slice (some ⟨b, 0, none⟩) len cap) := by
  unfold Idx at H; simp [World.cell?, H]
theorem Idx.c2 {w : World} {h b len cap : Nat} {u g : Int} {mv : Value} (H : Idx w h b len cap u g mv) : w.cell? ⟨h, 2, none⟩ = some (.int .u32 g) := by
  unfold Idx at H; simp [World.cell?, H]
theorem Idx.c3 {w : World} {h b len cap : Nat} {u g : Int} {mv : Value} (H : Idx w h b len cap u g mv) : w.cell? ⟨h, 3, none⟩ = some mv := by
  unfold Idx at H; simp [World.cell?, H]
theorem Idx.frozen {w : World} {h b len cap : Nat} {u g : Int} {mv : Value} (H : Idx w h b len cap u g mv) (o : Nat) : w.frozen? ⟨h, o, none⟩ = false := by
  unfold Idx at H; simp [World.frozen?, H]
theorem Idx.of_block {w w' : World} {h b len cap : Nat} {u g : Int} {mv : Value} (H : Idx w h b len cap u g mv) (e : w'.heap[h]? = w.heap[h]?) : Idx w' h b len cap u g mv := e.trans H

theorem Idx.set0 {w : World} {h b len cap : Nat} {u g : Int} {mv : Value} (H : Idx w h b len cap u g mv) (b' len' cap' : Nat) : Idx (w.setCell ⟨h, 0, none⟩ (.slice (some ⟨b', 0, none⟩) len' cap')) h b' len' cap' u g mv := by
  unfold Idx at *; simp [World.setCell, Array.getElem?_modify, H]
theorem Idx.set2 {w : World} {h b len cap : Nat} {u g : Int} {mv : Value} (H : Idx w h b len cap u g mv) (g' : Int) : Idx (w.setCell ⟨h, 2, none⟩ (.int .u32 g')) h b len cap u g' mv := by
  unfold Idx at *; simp [World.setCell, Array.getElem?_modify, H]
theorem Idx.set3 {w : World} {h b len cap : Nat} {u g : Int} {mv : Value} (H : Idx w h b len cap u g mv) (mv' : Value) : Idx (w.setCell ⟨h, 3, none⟩ mv') h b len cap u g mv' := by
  unfold Idx at *; simp [World.setCell, Array.getElem?_modify, H]

end Go.Proofs.Qxb6001121a.HI

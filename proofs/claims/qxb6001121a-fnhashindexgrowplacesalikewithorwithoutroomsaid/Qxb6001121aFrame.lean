/-
  FRAMES; clear on a row of slots; append on an owned row as one step of a region that draws.
-/
import Derived.Test.Qxb6001121aMem
import Derived.Deep.RegionLaw
namespace Go.Proofs.Qxb6001121a.HI
open Go.RowKit

/-- w' is w with new blocks, and with writes to the blocks of M alone. -/
structure Fr (M : List Nat) (w w' : World) : Prop where
  os : w'.os = w.os
  tape : w'.tape = w.tape
  output : w'.output = w.output
  size : w.heap.size ≤ w'.heap.size
  block : ∀ k, k < w.heap.size → k ∉ M → w'.heap[k]? = w.heap[k]?

theorem Fr.refl (M : List Nat) (w : World) : Fr M w w := ⟨rfl, rfl, rfl, Nat.le_refl _, fun _ _ _ => rfl⟩
theorem Fr.trans {M : List Nat} {a b c : World} (h : Fr M a b) (k : Fr M b c) : Fr M a c :=
  ⟨k.os.trans h.os, k.tape.trans h.tape, k.output.trans h.output, Nat.le_trans h.size k.size, fun j hj hm => (k.block j (Nat.lt_of_lt_of_le hj h.size) hm).trans (h.block j hj hm)⟩
theorem Fr.mono {M M' : List Nat} {a b : World} (h : Fr M a b) (hs : ∀ k, k < a.heap.size → k ∈ M → k ∈ M') : Fr M' a b :=
  ⟨h.os, h.tape, h.output, h.size, fun k hk hm => h.block k hk (fun x => hm (hs k hk x))⟩
theorem Fr.drewN {M : List Nat} {a b : World} (h : Fr M a b) (n : Nat) : Fr M a (b.drewN n) := ⟨h.os, h.tape, h.output, h.size, h.block⟩
theorem Fr.drew {M : List Nat} {a b : World} (h : Fr M a b) : Fr M a b.drew := ⟨h.os, h.tape, h.output, h.size, h.block⟩
theorem Fr.alloc {M : List Nat} {a b : World} (h : Fr M a b) (o : Obj) : Fr M a (b.alloc o) :=
  ⟨h.os, h.tape, h.output, Nat.le_trans h.size (by rw [Deep.nblk_alloc]; omega), fun k hk hm => by rw [Deep.blk_alloc_lt _ _ _ (Nat.lt_of_lt_of_le hk h.size)]; exact h.block k hk hm⟩
theorem Fr.setCell {M : List Nat} {a b : World} (h : Fr M a b) {p : Addr} (hp : p.block ∈ M ∨ a.heap.size ≤ p.block) (v : Value) : Fr M a (b.setCell p v) :=
  ⟨h.os, h.tape, h.output, by rw [Deep.nblk_setCell]; exact h.size, fun k hk hm => by
    rw [Deep.blk_setCell_other _ _ _ _ (fun e => by subst e; rcases hp with hp | hp; exact hm hp; omega)]; exact h.block k hk hm⟩
theorem Fr.of_below {w w' : World} (h : Below w.heap.size w w') (M : List Nat) : Fr M w w' := ⟨h.os, h.tape, h.output, h.size, fun k hk _ => h.block k hk⟩
theorem Fr.of_grown {w w' : World} {b : Nat} {M : List Nat} (h : w.grownBy w' (some b)) (hb : b ∈ M) : Fr M w w' :=
  ⟨h.os, h.tape, h.output, h.size, fun k hk hm => h.block k hk (fun e => by cases e; exact hm hb)⟩
theorem Fr.of_grown_none {w w' : World} {M : List Nat} (h : w.grownBy w' none) : Fr M w w' :=
  ⟨h.os, h.tape, h.output, h.size, fun k hk hm => h.block k hk (by simp)⟩
theorem Fr.below {M : List Nat} {w w' : World} (h : Fr M w w') (B : Nat) (hB : B ≤ w.heap.size) (hm : ∀ k ∈ M, B ≤ k) : Below B w w' :=
  ⟨h.os, h.tape, h.output, h.size, fun k hk => h.block k (Nat.lt_of_lt_of_le hk hB) (fun x => by have := hm k x; omega)⟩

/-- What a row of stores does to its block. -/
theorem setCells_block (b : Nat) (t : TypeId) (z : Nat × Nat) : ∀ (L : List Value) (o : Nat) (w : World) (c : Array Value), w.heap[b]? = some (.cells c t z) →
    ∃ c' : Array Value, (w.setCells b o L).heap[b]? = some (.cells c' t z) ∧ c'.size = c.size ∧ ∀ j, c'[j]? = if o ≤ j ∧ j < o + L.length ∧ j < c.size then L[j - o]? else c[j]?
  | [], o, w, c, h => ⟨c, h, rfl, fun j => by rw [if_neg (by simp; omega)]⟩
  | v :: r, o, w, c, h => by
    have h1 : (w.setCell ⟨b, o, none⟩ v).heap[b]? = some (.cells (c.setIfInBounds o v) t z) := by simp [World.setCell, Array.getElem?_modify, h]
    obtain ⟨c', hb, hn, hc⟩ := setCells_block b t z r (o + 1) _ _ h1
    refine ⟨c', hb, by simpa using hn, fun j => ?_⟩
    rw [hc j, Array.size_setIfInBounds, Array.getElem?_setIfInBounds]
    by_cases e : j = o
    · subst e
      rw [if_neg (by omega), if_pos rfl]
      by_cases hj : j < c.size
      · rw [if_pos hj, if_pos (by simp; omega)]; simp
      · rw [if_neg hj, if_neg (by omega), Array.getElem?_eq_none (by omega)]
    · rw [if_neg (show ¬ o = j from fun x => e x.symm)]
      by_cases hj : o + 1 ≤ j ∧ j < o + 1 + r.length ∧ j < c.size
      · rw [if_pos hj, if_pos (by simp; omega), show j - o = (j - (o + 1)) + 1 from by omega, List.getElem?_cons_succ]
      · rw [if_neg hj, if_neg (by simp; omega)]

theorem setCells_other (b : Nat) : ∀ (L : List Value) (o : Nat) (w : World) (k : Nat), k ≠ b → (w.setCells b o L).heap[k]? = w.heap[k]?
  | [], _, _, _, _ => rfl
  | v :: r, o, w, k, h => by
    rw [World.setCells, setCells_other b r (o + 1) _ k h, Below.heap_setCell _ _ _ _ h]

theorem setCells_size (b : Nat) : ∀ (L : List Value) (o : Nat) (w : World), (w.setCells b o L).heap.size = w.heap.size ∧ (w.setCells b o L).os = w.os ∧ (w.setCells b o L).tape = w.tape ∧ (w.setCells b o L).output = w.output
  | [], _, _ => ⟨rfl, rfl, rfl, rfl⟩
  | v :: r, o, w => by
    rw [World.setCells]
    have := setCells_size b r (o + 1) (w.setCell ⟨b, o, none⟩ v)
    rw [this.1, this.2.1, this.2.2.1, this.2.2.2]
    exact ⟨by simp [World.setCell], rfl, rfl, rfl⟩

theorem grown_setCells (w : World) (b o : Nat) (L : List Value) : w.grownBy (w.setCells b o L) (some b) := by
  have h := setCells_size b L o w
  exact ⟨h.2.1, h.2.2.1, h.2.2.2, by rw [h.1]; exact Nat.le_refl _, fun k _ hk => setCells_other b L o w k (fun e => hk (by rw [e]))⟩

def zeros (n : Nat) : List Value := (Builtin.zeroCells #[.int .u32 0, .int .i64 0, .int .u64 0] n).toList

theorem zeros_len (n : Nat) : (zeros n).length = n * 3 := by simp [zeros, Builtin.zeroCells]
theorem zeros_at (n i : Nat) (hi : i < n) : (zeros n)[i * 3]? = some (.int .u32 0) ∧ (zeros n)[i * 3 + 1]? = some (.int .i64 0) ∧ (zeros n)[i * 3 + 2]? = some (.int .u64 0) := by
  unfold zeros Builtin.zeroCells
  refine ⟨?_, ?_, ?_⟩
  · rw [Array.getElem?_toList, Array.getElem?_map, Array.getElem?_range]
    simp; omega
  · rw [Array.getElem?_toList, Array.getElem?_map, Array.getElem?_range]
    simp; omega
  · rw [Array.getElem?_toList, Array.getElem?_map, Array.getElem?_range]
    simp; omega
theorem zeros_one (n : Nat) : ∀ v ∈ zeros n, v.oneCell' = true := by
  intro v hv
  simp only [zeros, Builtin.zeroCells, Array.toList_map, List.mem_map] at hv
  obtain ⟨j, _, rfl⟩ := hv
  have h3 : j % 3 = 0 ∨ j % 3 = 1 ∨ j % 3 = 2 := by omega
  rcases h3 with h | h | h <;> simp [h] <;> rfl

/-- clear(s) at a slice of slots that is a whole block. -/
theorem clear_slots (w : World) (b cap : Nat) (S : Nat → Slot) (T : Tab w b cap S) (hc : 0 < cap) :
    ∃ w', (∀ ty, (Builtin.clear_ #[45] ty #[.slice (some ⟨b, 0, none⟩) cap cap]).run Try.prog w = .ok (.tuple #[]) w') ∧ Tab w' b cap (fun _ => ⟨0, 0, 0⟩) ∧ w.grownBy w' (some b) := by
  refine ⟨w.setCells b 0 (zeros cap), fun ty => ?_, ?_, grown_setCells _ _ _ _⟩
  · have hst := run_storeCells_cells (P := Try.prog) b 0 (zeros cap) 0 w (fun j hj => by
        obtain ⟨c, hb, hn, _⟩ := T
        rw [zeros_len] at hj
        simp only [World.cell?, hb, Nat.zero_add]
        simp; omega) (fun j _ => T.frozen _) (zeros_one cap)
    simp only [Nat.add_zero] at hst
    obtain ⟨m, rfl⟩ : ∃ m, cap = m + 1 := ⟨cap - 1, by omega⟩
    have hz : (Builtin.zeroCells (Value.agg #[.int .u32 0, .int .i64 0, .int .u64 0]).cells (m + 1)).toList = zeros (m + 1) := rfl
    simp [Builtin.clear_, run_underlying Try.underlying45, hz, hst]
  · obtain ⟨c, hb, hn, _⟩ := T
    obtain ⟨c', hb', hn', hc'⟩ := setCells_block b 47 (0, 0) (zeros cap) 0 w c hb
    refine ⟨c', hb', hn'.trans hn, fun i hi => ?_⟩
    have hz := zeros_at cap i hi
    have hl := zeros_len cap
    refine ⟨?_, ?_, ?_⟩
    · rw [hc', if_pos (by omega)]; exact hz.1
    · rw [hc', if_pos (by omega)]; exact hz.2.1
    · rw [hc', if_pos (by omega)]; exact hz.2.2

/-- clear, as one step of a region that draws. -/
theorem step_clear {P : Program} {ops : Array Oper} {o : Oper} {a : Act} {w : World} {K : Act → World → Prop} {Q : Exit → Act → World → Prop} {E : Prop}
    (hg : o.guard = none) (s : Operand) (t : TypeId) (hop : o.op = Op.call { callee := Callee.builtin Builtin.clear, args := #[s], argTypes := #[t] })
    (v : Value) (hs : a.eval s = v) (w' : World) (hrun : ∀ ty, (Builtin.clear_ #[t] ty #[v]).run P w = .ok (.tuple #[]) w')
    (hK : K (a.put o.dst (.tuple #[])) w') :
    if Region.wanted o (yielded ops a.tmps) = true then Oper.wp P o a w K Q else E := by
  have hw : Region.wanted o (yielded ops a.tmps) = true := by simp [Region.wanted, hg]
  rw [if_pos hw]
  unfold Oper.wp
  simp [execOp, hop, resolve, invoke, builtin, hs, hrun, Result.andThen]
  exact hK

/-- append on a row that the call owns, as one step of a region that draws. -/
theorem step_append_own {P : Program} {ops : Array Oper} {o : Oper} {a : Act} {w : World} {K : Act → World → Prop} {Q : Exit → Act → World → Prop} {E : Prop}
    (hg : o.guard = none) (s x : Operand) (t : TypeId) (hop : o.op = Op.call { callee := Callee.builtin Builtin.append, args := #[s, x], argTypes := #[t, t] })
    (base : Nat) (e : TypeId) (i : TypeInfo) (z : Value) (size bytes : Nat) (h1 : P.underlying t = some (.slice e)) (h2 : P.info? e = some i) (h3 : i.zero = some z) (h4 : i.size = size) (h5 : i.bytes = bytes) (h6 : z.cells.size = size) (h7 : 0 < size)
    (v : Value) (n : Nat) (xs : List Value) (hs : a.eval s = v) (hown : w.ownsRow base e size v n xs)
    (ad : Addr) (m c : Nat) (news : List Value) (hx : a.eval x = .slice (some ad) m c) (hn : news.length = m * size) (hc : ∀ j u, news[j]? = some u → w.cell? (ad.add j) = some u) (h1c : ∀ u ∈ news, u.oneCell' = true)
    (b1 : n + m ≤ maxLen) (b2 : (n + m) * bytes ≤ 140737488355328) (hbase : base ≤ w.heap.size)
    (hK : ∀ v' w', w'.ownsRow base e size v' (n + m) (xs ++ news) → w.grownBy w' v.ownBlock → K (a.put o.dst v') w') :
    if Region.wanted o (yielded ops a.tmps) = true then Oper.wp P o a w K Q else E := by
  have hw : Region.wanted o (yielded ops a.tmps) = true := by simp [Region.wanted, hg]
  rw [if_pos hw]
  obtain ⟨v', w', hrun, r1, r2, _⟩ := run_append_own (P := P) w base t o.type e i z size bytes h1 h2 h3 h4 h5 h6 h7 v n xs hown ad m c news hn hc h1c b1 b2 hbase
  unfold Oper.wp
  simp [execOp, hop, resolve, invoke, builtin, hs, hx, hrun, Result.andThen]
  exact hK v' w' r1 r2
end Go.Proofs.Qxb6001121a.HI

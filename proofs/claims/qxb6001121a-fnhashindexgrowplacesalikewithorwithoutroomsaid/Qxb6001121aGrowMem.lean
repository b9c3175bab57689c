/-
  MEMORY LAWS FOR grow. No walk here.
-/
import Derived.Test.Qxb6001121aNext
import Derived.OwnWalk
namespace Go.Proofs.Qxb6001121a.HI
open Go.RowKit

/-- Block b begins with n slots: slot i is O i. -/
def Row (w : World) (b n : Nat) (O : Nat → Slot) : Prop :=
  ∃ c : Array Value, w.heap[b]? = some (.cells c 47 (0, 0)) ∧
    ∀ i, i < n → c[i * 3]? = some (.int .u32 (O i).g) ∧ c[i * 3 + 1]? = some (.int .i64 (O i).v) ∧ c[i * 3 + 2]? = some (.int .u64 (O i).h)

theorem Tab.row {w : World} {b cap : Nat} {S : Nat → Slot} (h : Tab w b cap S) {n : Nat} (hn : n ≤ cap) : Row w b n S := by
  obtain ⟨c, hb, _, hc⟩ := h
  exact ⟨c, hb, fun i hi => hc i (by omega)⟩
theorem Row.lt {w : World} {b n : Nat} {O : Nat → Slot} (h : Row w b n O) : b < w.heap.size := by
  obtain ⟨c, hb, _⟩ := h
  obtain ⟨hlt, _⟩ := Array.getElem?_eq_some_iff.1 hb
  exact hlt
theorem Row.of_block {w w' : World} {b n : Nat} {O : Nat → Slot} (h : Row w b n O) (e : w'.heap[b]? = w.heap[b]?) : Row w' b n O := by
  obtain ⟨c, hb, hc⟩ := h
  exact ⟨c, e.trans hb, hc⟩
theorem Row.c0 {w : World} {b n : Nat} {O : Nat → Slot} (h : Row w b n O) {i : Nat} (hi : i < n) : w.cell? ⟨b, i * 3, none⟩ = some (.int .u32 (O i).g) := by
  obtain ⟨c, hb, hc⟩ := h
  simp [World.cell?, hb, (hc i hi).1]
theorem Row.c1 {w : World} {b n : Nat} {O : Nat → Slot} (h : Row w b n O) {i : Nat} (hi : i < n) : w.cell? ⟨b, i * 3 + 1, none⟩ = some (.int .i64 (O i).v) := by
  obtain ⟨c, hb, hc⟩ := h
  simp [World.cell?, hb, (hc i hi).2.1]
theorem Row.c2 {w : World} {b n : Nat} {O : Nat → Slot} (h : Row w b n O) {i : Nat} (hi : i < n) : w.cell? ⟨b, i * 3 + 2, none⟩ = some (.int .u64 (O i).h) := by
  obtain ⟨c, hb, hc⟩ := h
  simp [World.cell?, hb, (hc i hi).2.2]

/-- What make lays: n zero slots. -/
theorem tab_made (w : World) (n : Nat) : Tab (w.alloc (.cells (madeCells #[.int .u32 0, .int .i64 0, .int .u64 0] (n * 3)) 47)) w.heap.size n (fun _ => ⟨0, 0, 0⟩) := by
  refine ⟨_, Deep.blk_alloc_new _ _, size_madeCells _ _, fun i hi => ?_⟩
  unfold madeCells
  refine ⟨?_, ?_, ?_⟩
  · rw [Array.getElem?_map, Array.getElem?_range]
    simp; omega
  · rw [Array.getElem?_map, Array.getElem?_range]
    simp; omega
  · rw [Array.getElem?_map, Array.getElem?_range]
    simp; omega

theorem info47 : (Try.prog.info? 47).map (fun i => (i.zero, i.size, i.bytes)) = some (some (.agg #[.int .u32 0, .int .i64 0, .int .u64 0]), 3, 24) := by kernel_rfl

theorem make_slots (n : Nat) (hn : n ≤ 100000) (w : World) : (Instr.makeSlice 45 (.int .i64 (n : Int)) (.int .i64 (n : Int))).run Try.prog w =
    .ok (.slice (some ⟨w.heap.size, 0, none⟩) n n) (w.alloc (.cells (madeCells #[.int .u32 0, .int .i64 0, .int .u64 0] (n * 3)) 47)) := by
  obtain ⟨i, hi, hz, hs, hb⟩ := info_parts info47
  have := run_make (P := Try.prog) w 45 47 i _ Try.underlying45 hi hz .i64 .i64 n n (by omega) (Int.le_refl _) (by rw [hb]; omega) (by omega)
  rw [hs] at this
  simp only [Int.toNat_natCast] at this
  exact this

/-- The slots that are to be placed again. -/
def Old (w : World) (v : Value) (n : Nat) (O : Nat → Slot) (h b : Nat) : Prop :=
  (v = .slice none 0 0 ∧ n = 0) ∨ ∃ ob oc, v = .slice (some ⟨ob, 0, none⟩) n oc ∧ n ≤ oc ∧ Row w ob n O ∧ ob ≠ h ∧ ob ≠ b

theorem Old.of_fr {w w' : World} {v : Value} {n : Nat} {O : Nat → Slot} {h b : Nat} (H : Old w v n O h b) (F : Fr [h, b] w w') : Old w' v n O h b := by
  rcases H with H | ⟨ob, oc, e, hn, R, h1, h2⟩
  · exact .inl H
  · exact .inr ⟨ob, oc, e, hn, R.of_block (F.block ob R.lt (by simp; exact ⟨h1, h2⟩)), h1, h2⟩

/-- A row built by append, as slots. -/
theorem old_of_own {w : World} {base : Nat} {v : Value} {g : Int} {L : List (Int × Int)} {h b : Nat} (H : w.ownsRow base 47 3 v L.length (flat g L)) (hh : h < base) (hb : b < base) : Old w v L.length (ofList g L) h b := by
  obtain ⟨_, H⟩ := H
  rcases H with ⟨e, hn⟩ | ⟨gb, cap, cur, e, hg, hh2, hn, _, hs, ht⟩
  · exact .inl ⟨e, hn⟩
  · refine .inr ⟨gb, cap, e, hn, ⟨cur, hh2, fun i hi => ?_⟩, by omega, by omega⟩
    have hf := flat_at g L i hi
    have key : ∀ j, j < L.length * 3 → cur[j]? = (flat g L)[j]? := fun j hj => by
      rw [← ht, List.getElem?_take, if_pos hj, Array.getElem?_toList]
    refine ⟨?_, ?_, ?_⟩
    · rw [key _ (by omega)]; exact hf.1
    · rw [key _ (by omega)]; exact hf.2.1
    · rw [key _ (by omega)]; exact hf.2.2

/-- Behind an append onto the owned row: what is known of the world and of the value. -/
theorem app_next {w wr W w6 : World} {h b n cap m : Nat} {u g : Int} {v v' : Value} {S : Nat → Slot} {xs news : List Value} (H : Idx wr h b n cap u g v) (T : Tab wr b cap S) (F : Fr [h] w wr) (hW : Fr [h] wr W) (hWh : W.heap[h]? = wr.heap[h]?)
    (hbh : b ≠ h) (hB : h < w.heap.size) (hBb : b < w.heap.size) (hown : wr.ownsRow w.heap.size 47 3 v m xs) (ho : w6.ownsRow w.heap.size 47 3 v' (m + 1) (xs ++ news)) (hg : W.grownBy w6 v.ownBlock) :
    (∃ gb cp, v' = .slice (some ⟨gb, 0, none⟩) (m + 1) cp) ∧ Idx w6 h b n cap u g v ∧ Tab w6 b cap S ∧ Fr [h] w w6 := by
  have key : ∀ k, k < w.heap.size → w6.heap[k]? = W.heap[k]? := fun k hk => by
    refine hg.block k (Nat.lt_of_lt_of_le hk (Nat.le_trans F.size hW.size)) (fun e => ?_)
    have := hown.lt k e.symm
    omega
  refine ⟨?_, ?_, ?_, ?_⟩
  · rcases ho.2 with ⟨_, e⟩ | ⟨gb, cp, _, e, _⟩
    · omega
    · exact ⟨gb, cp, e⟩
  · exact H.of_block ((key h hB).trans hWh)
  · exact T.of_block ((key b hBb).trans (hW.block b T.lt (by simp; exact hbh)))
  · exact ⟨hg.os.trans (hW.os.trans F.os), hg.tape.trans (hW.tape.trans F.tape), hg.output.trans (hW.output.trans F.output), Nat.le_trans F.size (Nat.le_trans hW.size hg.size), fun k hk hm =>
      (key k hk).trans ((hW.block k (Nat.lt_of_lt_of_le hk F.size) hm).trans (F.block k hk hm))⟩

/-- .. and behind the store into the field. -/
theorem app_stored {w w6 : World} {h b n cap m : Nat} {u g : Int} {v v' : Value} {S : Nat → Slot} {xs : List Value} (H : Idx w6 h b n cap u g v) (T : Tab w6 b cap S) (F : Fr [h] w w6) (hbh : b ≠ h) (hB : h < w.heap.size)
    (ho : w6.ownsRow w.heap.size 47 3 v' m xs) :
    Idx (w6.setCell ⟨h, 3, none⟩ v') h b n cap u g v' ∧ (w6.setCell ⟨h, 3, none⟩ v').ownsRow w.heap.size 47 3 v' m xs ∧ Tab (w6.setCell ⟨h, 3, none⟩ v') b cap S ∧ Fr [h] w (w6.setCell ⟨h, 3, none⟩ v') :=
  ⟨H.set3 _, ownsRow_setCell_below ho hB _, T.of_block (Deep.blk_setCell_other _ _ _ _ hbh), F.setCell (.inl (by simp)) _⟩

theorem cell_blk {w : World} {b : Nat} {c : Array Value} {t : TypeId} {z : Nat × Nat} (h : w.heap[b]? = some (.cells c t z)) (o : Nat) : w.cell? ⟨b, o, none⟩ = c[o]? := by
  unfold World.cell?
  rw [show w.heap[(⟨b, o, none⟩ : Addr).block]? = some (.cells c t z) from h]
  rfl

/-- Two new blocks. -/
theorem two_new (w : World) (o1 o2 : Obj) (M : List Nat) : Fr M w ((w.alloc o1).alloc o2) := ((Fr.refl _ _).alloc _).alloc _
theorem two_new_lt (w : World) (o1 o2 : Obj) (k : Nat) (hk : k < w.heap.size) : ((w.alloc o1).alloc o2).heap[k]? = w.heap[k]? := by
  rw [Deep.blk_alloc_lt _ _ _ (by rw [Deep.nblk_alloc]; omega), Deep.blk_alloc_lt _ _ _ hk]
theorem three_cells (w : World) (o1 : Obj) (x y z : Value) (n : Nat) : ∀ j u, ([x, y, z] : List Value)[j]? = some u → (((w.alloc o1).alloc (.cells #[x, y, z] 47)).drewN n).cell? ((⟨w.heap.size + 1, 0, none⟩ : Addr).add j) = some u := by
  intro j u hj
  have hb : ((w.alloc o1).alloc (.cells #[x, y, z] 47)).heap[w.heap.size + 1]? = some (.cells #[x, y, z] 47) := by
    have := Deep.blk_alloc_new (w.alloc o1) (.cells #[x, y, z] 47)
    rwa [Deep.nblk_alloc] at this
  have e : (((w.alloc o1).alloc (.cells #[x, y, z] 47)).drewN n).cell? ((⟨w.heap.size + 1, 0, none⟩ : Addr).add j) = (#[x, y, z] : Array Value)[j]? := by
    have ha : (⟨w.heap.size + 1, 0, none⟩ : Addr).add j = ⟨w.heap.size + 1, j, none⟩ := by unfold Addr.add; split <;> simp_all
    rw [ha]
    exact cell_blk (w := (w.alloc o1).alloc (.cells #[x, y, z] 47)) hb j
  rw [e]
  match j, hj with
  | 0, hj => simpa using hj
  | 1, hj => simpa using hj
  | 2, hj => simpa using hj
  | j + 3, hj => simp at hj
end Go.Proofs.Qxb6001121a.HI

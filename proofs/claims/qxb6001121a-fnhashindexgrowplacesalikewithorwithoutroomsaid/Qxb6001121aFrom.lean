import Derived.Test.Qxb6001121aGrow
import Derived.Lib.SliceRun
import Derived.Deep.OwnRows
namespace Go.Proofs.Qxb6001121a.HI
open Go.RowKit
set_option linter.unusedVariables false

theorem zgrow_any (w : World) (h b n cap N : Nat) (u g : Int) (S : Nat → Slot) (H : Idx w h b n cap u g (.slice none 0 0)) (T : Tab w b cap S) (hl : n ≤ cap) (hn : n ≤ 4096) (hcb : cap ≤ 100000) (hne : b ≠ h)
    (hN : N = max (2 * n) 128) (hpow : ∃ k, N = 2 ^ k) (h0 : 0 ≤ g) (h1 : g < 4294967296) (hS : ∀ p, p < cap → 0 ≤ (S p).g ∧ (S p).g ≤ g) (hh : ∀ p, p < n → 0 ≤ (S p).h ∧ (S p).h < 18446744073709551616) :
    Calls Try.prog 14 #[.pointer (some ⟨h, 0, none⟩)] w fun e w' => e = .returned (.tuple #[]) ∧ ∃ (bt capt : Nat) (mv : Value) (S0 : Nat → Slot),
      Idx w' h bt N capt u (nextG g) mv ∧ Tab w' bt capt (fillL N (nextG g) S0 (inuse S g n)) ∧ N ≤ capt ∧ (∀ p, p < N → used S0 (nextG g) p = false) ∧ bt ≠ h ∧ (bt = b ∨ w.heap.size ≤ bt) ∧ Fr [h, b] w w' := by
  have hc := hide (grow_any w h b n cap N u g S H T hl hn hcb hne hN hpow h0 h1 hS hh)
  clear H T hS hh hN hpow h0 h1
  go_enter Try.func14, Try.ntmps14
  go_wp2_with fail
  refine hc.out.mono ?_
  rintro e w' ⟨rfl, hx⟩
  go_wp2_with fail
  go_end0
  exact ⟨rfl, hx⟩

/-- A slice that is read: its first len elements are the numbers Z. -/
def Sl (k : IntKind) (w : World) (a : Option Addr) (len : Nat) (Z : Nat → Int) : Prop :=
  ∀ i, i < len → ∃ b off, a = some ⟨b, off, none⟩ ∧ b < w.heap.size ∧ w.cell? ⟨b, off + i, none⟩ = some (.int k (Z i))

theorem Sl.of_below {k : IntKind} {w w' : World} {a : Option Addr} {len : Nat} {Z : Nat → Int} (H : Sl k w a len Z) (F : Below w.heap.size w w') : Sl k w' a len Z := by
  intro i hi
  obtain ⟨b, off, rfl, hb, hc⟩ := H i hi
  exact ⟨b, off, rfl, Nat.lt_of_lt_of_le hb F.size, (F.cell (p := ⟨b, off + i, none⟩) hb).trans hc⟩

theorem info25 : (Try.prog.info? 25).map (fun i => (i.zero, i.size, i.bytes)) = some (some (.int .u32 0), 1, 4) := by kernel_rfl
theorem info3 : (Try.prog.info? 3).map (fun i => (i.zero, i.size, i.bytes)) = some (some (.int .i64 0), 1, 8) := by kernel_rfl
theorem info35 : (Try.prog.info? 35).map (fun i => (i.zero, i.size, i.bytes)) = some (some (.int .u64 0), 1, 8) := by kernel_rfl

/-- One more element copied. -/
theorem copy_step {w wr : World} {c e len k : Nat} {ki : IntKind} {Z : Nat → Int} (R : wr.rowIs c e len (fun j => if j < k then .int ki (Z j) else .int ki 0)) (F : Below w.heap.size w wr) (hc : w.heap.size ≤ c) :
    (wr.setCell ⟨c, k, none⟩ (.int ki (Z k))).rowIs c e len (fun j => if j < k + 1 then .int ki (Z j) else .int ki 0) ∧ Below w.heap.size w (wr.setCell ⟨c, k, none⟩ (.int ki (Z k))) := by
  refine ⟨(R.set k _).congr (fun j hj => ?_), F.setCell hc _⟩
  by_cases h1 : j = k
  · subst h1; rw [if_pos rfl, if_pos (by omega)]
  · rw [if_neg h1]
    by_cases h2 : j < k
    · rw [if_pos h2, if_pos (by omega)]
    · rw [if_neg h2, if_neg (by omega)]

theorem copy_done {wr : World} {c e len : Nat} {ki : IntKind} {Z : Nat → Int} (R : wr.rowIs c e len (fun j => if j < len then .int ki (Z j) else .int ki 0)) : Sl ki wr (some ⟨c, 0, none⟩) len Z := by
  intro i hi
  refine ⟨c, 0, rfl, R.lt, ?_⟩
  have := R.cell hi
  rw [if_pos hi] at this
  rw [Nat.zero_add]; exact this

theorem copy_start (w : World) (e len : Nat) (ki : IntKind) (Z : Nat → Int) : (w.alloc (.cells (madeCells #[.int ki 0] len) e)).rowIs w.heap.size e len (fun j => if j < 0 then .int ki (Z j) else .int ki 0) :=
  (World.rowIs_made w (.int ki 0) len e).congr (fun j _ => by rw [if_neg (by omega)])

set_option maxHeartbeats 400000 in
theorem clone10 (w : World) (a : Option Addr) (len cap : Nat) (Z : Nat → Int) (hb : len ≤ 100000) (H : Sl .u32 w a len Z) :
    Calls Try.prog 10 #[.slice a len cap] w fun e w' => (∃ a' cap', e = .returned (.slice a' len cap') ∧ Sl .u32 w' a' len Z) ∧ Below w.heap.size w w' := by
  have hnil := fun (w : World) (a : Option Addr) (n c n' c' : Nat) => Lib.run_eql_slice_nil (P := Try.prog) w 22 25 a n c n' c' Try.underlying22
  cases a with
  | none =>
    have hl : len = 0 := by
      by_cases h : 0 < len
      · obtain ⟨b, off, e, _⟩ := H 0 h; cases e
      · omega
    subst hl
    go_enter Try.func10, Try.ntmps10
    go_wp2
    go_ret
    exact ⟨⟨none, 0, rfl, fun i hi => by omega⟩, Below.refl _ _⟩
  | some x =>
    have hmk := run_make_row' (P := Try.prog) 22 25 (.int .u32 0) 4 Try.underlying22 info25 rfl .i64 .i64 len (by omega) (by omega)
    have HH : Hid (Sl .u32 w (some x) len Z) := H
    clear H
    go_enter Try.func10, Try.ntmps10
    go_wp2
    go_loopg [4] len (fun f s4 wr => ∃ k : Nat, s4 = .int .i64 k ∧ k ≤ len ∧ len - k ≤ f ∧ Hid (wr.rowIs w.heap.size 25 len (fun j => if j < k then .int .u32 (Z j) else .int .u32 0)) ∧ Hid (Below w.heap.size w wr))
    case atStart => exact ⟨0, rfl, Nat.zero_le _, by omega, copy_start _ _ _ _ _, (Below.refl _ _).alloc (Nat.le_refl _) _⟩
    case round =>
      obtain ⟨k, rfl, hk, hgk, HR, HB⟩ := hrel
      by_cases hlt : k < len
      · obtain ⟨f, rfl⟩ : ∃ f, gk = f + 1 := ⟨gk - 1, by omega⟩
        obtain ⟨b, off, hx, hbb, hcell⟩ := HH.out k hlt
        simp only [Option.some.injEq] at hx
        subst hx
        have c1 := (HB.out.cell (p := ⟨b, off + k, none⟩) hbb).trans hcell
        have c2 := HR.out.cell hlt
        have c3 := HR.out.frozen k
        rw [if_neg (Nat.lt_irrefl k)] at c2
        have HS := hide (copy_step HR.out HB.out (Nat.le_refl _))
        clear hcell
        go_wp2
        go_roundg f
        case measure => omega
        case rel => exact ⟨k + 1, by go_num, by omega, by omega, HS.out.1, HS.out.2⟩
      · obtain rfl : k = len := by omega
        go_wp2
        go_ret
        exact ⟨⟨_, _, rfl, copy_done HR.out⟩, HB.out⟩

set_option maxHeartbeats 400000 in
theorem clone11 (w : World) (a : Option Addr) (len cap : Nat) (Z : Nat → Int) (hb : len ≤ 100000) (H : Sl .i64 w a len Z) :
    Calls Try.prog 11 #[.slice a len cap] w fun e w' => (∃ a' cap', e = .returned (.slice a' len cap') ∧ Sl .i64 w' a' len Z) ∧ Below w.heap.size w w' := by
  have hnil := fun (w : World) (a : Option Addr) (n c n' c' : Nat) => Lib.run_eql_slice_nil (P := Try.prog) w 23 3 a n c n' c' Try.underlying23
  cases a with
  | none =>
    have hl : len = 0 := by
      by_cases h : 0 < len
      · obtain ⟨b, off, e, _⟩ := H 0 h; cases e
      · omega
    subst hl
    go_enter Try.func11, Try.ntmps11
    go_wp2
    go_ret
    exact ⟨⟨none, 0, rfl, fun i hi => by omega⟩, Below.refl _ _⟩
  | some x =>
    have hmk := run_make_row' (P := Try.prog) 23 3 (.int .i64 0) 8 Try.underlying23 info3 rfl .i64 .i64 len (by omega) (by omega)
    have HH : Hid (Sl .i64 w (some x) len Z) := H
    clear H
    go_enter Try.func11, Try.ntmps11
    go_wp2
    go_loopg [4] len (fun f s4 wr => ∃ k : Nat, s4 = .int .i64 k ∧ k ≤ len ∧ len - k ≤ f ∧ Hid (wr.rowIs w.heap.size 3 len (fun j => if j < k then .int .i64 (Z j) else .int .i64 0)) ∧ Hid (Below w.heap.size w wr))
    case atStart => exact ⟨0, rfl, Nat.zero_le _, by omega, copy_start _ _ _ _ _, (Below.refl _ _).alloc (Nat.le_refl _) _⟩
    case round =>
      obtain ⟨k, rfl, hk, hgk, HR, HB⟩ := hrel
      by_cases hlt : k < len
      · obtain ⟨f, rfl⟩ : ∃ f, gk = f + 1 := ⟨gk - 1, by omega⟩
        obtain ⟨b, off, hx, hbb, hcell⟩ := HH.out k hlt
        simp only [Option.some.injEq] at hx
        subst hx
        have c1 := (HB.out.cell (p := ⟨b, off + k, none⟩) hbb).trans hcell
        have c2 := HR.out.cell hlt
        have c3 := HR.out.frozen k
        rw [if_neg (Nat.lt_irrefl k)] at c2
        have HS := hide (copy_step HR.out HB.out (Nat.le_refl _))
        clear hcell
        go_wp2
        go_roundg f
        case measure => omega
        case rel => exact ⟨k + 1, by go_num, by omega, by omega, HS.out.1, HS.out.2⟩
      · obtain rfl : k = len := by omega
        go_wp2
        go_ret
        exact ⟨⟨_, _, rfl, copy_done HR.out⟩, HB.out⟩

set_option maxHeartbeats 400000 in
theorem clone12 (w : World) (a : Option Addr) (len cap : Nat) (Z : Nat → Int) (hb : len ≤ 100000) (H : Sl .u64 w a len Z) :
    Calls Try.prog 12 #[.slice a len cap] w fun e w' => (∃ a' cap', e = .returned (.slice a' len cap') ∧ Sl .u64 w' a' len Z) ∧ Below w.heap.size w w' := by
  have hnil := fun (w : World) (a : Option Addr) (n c n' c' : Nat) => Lib.run_eql_slice_nil (P := Try.prog) w 24 35 a n c n' c' Try.underlying24
  cases a with
  | none =>
    have hl : len = 0 := by
      by_cases h : 0 < len
      · obtain ⟨b, off, e, _⟩ := H 0 h; cases e
      · omega
    subst hl
    go_enter Try.func12, Try.ntmps12
    go_wp2
    go_ret
    exact ⟨⟨none, 0, rfl, fun i hi => by omega⟩, Below.refl _ _⟩
  | some x =>
    have hmk := run_make_row' (P := Try.prog) 24 35 (.int .u64 0) 8 Try.underlying24 info35 rfl .i64 .i64 len (by omega) (by omega)
    have HH : Hid (Sl .u64 w (some x) len Z) := H
    clear H
    go_enter Try.func12, Try.ntmps12
    go_wp2
    go_loopg [4] len (fun f s4 wr => ∃ k : Nat, s4 = .int .i64 k ∧ k ≤ len ∧ len - k ≤ f ∧ Hid (wr.rowIs w.heap.size 35 len (fun j => if j < k then .int .u64 (Z j) else .int .u64 0)) ∧ Hid (Below w.heap.size w wr))
    case atStart => exact ⟨0, rfl, Nat.zero_le _, by omega, copy_start _ _ _ _ _, (Below.refl _ _).alloc (Nat.le_refl _) _⟩
    case round =>
      obtain ⟨k, rfl, hk, hgk, HR, HB⟩ := hrel
      by_cases hlt : k < len
      · obtain ⟨f, rfl⟩ : ∃ f, gk = f + 1 := ⟨gk - 1, by omega⟩
        obtain ⟨b, off, hx, hbb, hcell⟩ := HH.out k hlt
        simp only [Option.some.injEq] at hx
        subst hx
        have c1 := (HB.out.cell (p := ⟨b, off + k, none⟩) hbb).trans hcell
        have c2 := HR.out.cell hlt
        have c3 := HR.out.frozen k
        rw [if_neg (Nat.lt_irrefl k)] at c2
        have HS := hide (copy_step HR.out HB.out (Nat.le_refl _))
        clear hcell
        go_wp2
        go_roundg f
        case measure => omega
        case rel => exact ⟨k + 1, by go_num, by omega, by omega, HS.out.1, HS.out.2⟩
      · obtain rfl : k = len := by omega
        go_wp2
        go_ret
        exact ⟨⟨_, _, rfl, copy_done HR.out⟩, HB.out⟩

end Go.Proofs.Qxb6001121a.HI

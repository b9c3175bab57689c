import Derived.Test.Qxb6601240aShelf
import Derived.Test.Qxb6601240aPlain
import Derived.WalkKit
import Derived.ProofKit
import Derived.WalkSpells
import Derived.WalkLawsBesides
import Derived.Below
import Derived.Deep.QuietTactic
import Derived.BigQuiet
import Derived.Deep.RegionWith
import Derived.Deep.CutRange
import Derived.Deep.LoopGhost
import Derived.Lib.IndexBytes
namespace Go.Proofs.Qxb6601240a.SE
open Go.RowKit

/-- The opening quote, cut out of the text, as a list. -/
theorem quote_list (T : ByteArray) (i : Nat) (hi : i < T.size) : (T.extract i (i + 1)).data.toList = [(T.data.toList.drop i).getD 0 0] := by
  rw [Lib.extract_data]
  have h2 : 0 < (T.data.toList.drop i).length := by rw [len_drop]; omega
  generalize T.data.toList.drop i = L at *
  cases L with
  | nil => simp at h2
  | cons a r => simp

theorem quote_size (T : ByteArray) (i : Nat) (hi : i < T.size) : (T.extract i (i + 1)).size = 1 := by
  rw [Lib.size_eq, quote_list T i hi]; rfl

theorem rep3 (q : UInt8) : Lib.repeatL [q] 3 = [q, q, q] := rfl

theorem fin {i n l : Nat} {R : Nat × Nat} (h : i + R.1 = n) (hl : l = R.2) : Ending.returned (.tuple #[.int .i64 (n : Int), .int .i64 (l : Int)]) = Ending.returned (.tuple #[.int .i64 ((i + R.1 : Nat) : Int), .int .i64 ((R.2 : Nat) : Int)]) := by
  rw [h, hl]

theorem index_one (Z : ByteArray) (q : UInt8) (h : Z.data.toList = [q]) : ∀ wx : World, (Instr.index 9 (.string Z) (.int .i64 0)).run Try.prog wx = .ok (.int .u8 (q.toNat : Int)) wx := by
  intro wx
  have hz : Z = ⟨#[q]⟩ := by
    cases Z with | mk d => cases d with | mk l => simp at h; subst h; rfl
  subst hz
  rw [run_index_string wx 9 _ .i64 0 Try.underlying9, dif_pos ⟨by omega, by show (0 : Int) < ((1 : Nat) : Int); omega⟩]
  rfl

set_option maxRecDepth 100000 in
set_option maxHeartbeats 400000 in
theorem se_any (T : ByteArray) (i : Nat) (w : World) (hs : T.size ≤ 1048576) (hi : i < T.size) :
    Calls Try.prog 20 #[.string T, .int .i64 i] w fun e w' => e = .returned (.tuple #[.int .i64 ((i + (seL (T.data.toList.drop i)).1 : Nat) : Int), .int .i64 (((seL (T.data.toList.drop i)).2 : Nat) : Int)]) ∧ Below w.heap.size w w' := by
  have hq1 := quote_size T i hi
  have hql := quote_list T i hi
  have hrep := fun w' => Try.strings_Repeat_main (T.extract i (i + 1)) 3 w' (by omega) (by omega) (by rw [hq1]; omega) (by rw [hq1]; omega)
  rw [hql, rep3] at hrep
  have HL : Hid ((T.extract i (i + 1)).data.toList = [(T.data.toList.drop i).getD 0 0]) := hql
  have HQ : Hid (Reads T i (T.data.toList.drop i)) := reads_of T i
  have HT : Hid (∀ m, i ≤ m → List.take (T.size - m) (List.drop m T.data.toList) = (T.data.toList.drop i).drop (m - i)) := fun m h1 => by
    rw [List.take_of_length_le (by rw [len_drop]; omega), List.drop_drop]; congr 1; omega
  clear hq1 hql
  generalize T.data.toList.drop i = L at *
  have Hcl : Hid (closing L = if Lib.hasPrefix L [L.getD 0 0, L.getD 0 0, L.getD 0 0] = true then [L.getD 0 0, L.getD 0 0, L.getD 0 0] else [L.getD 0 0]) := rfl
  obtain ⟨R, HR⟩ : ∃ R, Hid (seL L = R) := ⟨_, rfl⟩
  rw [HR.out]
  unfold seL at HR
  generalize L.getD 0 0 = q at *
  obtain ⟨hp, Hp⟩ : ∃ hp, Hid (Lib.hasPrefix L [q, q, q] = hp) := ⟨_, rfl⟩
  rw [Hp.out] at Hcl
  go_enter Try.func20, Try.ntmps20
  go_upto_region 3 with fail
  go_cut [21] from 16 (fun s21 wx => s21 = .bool hp ∧ Below w.heap.size w wx)
  case first =>
    go_region_with (first | (go_at_call 23; refine (hrep _).mono ?_; rintro e w' ⟨rfl, hb⟩) | (go_at_call 22; refine (Try.strings_HasPrefix _ _ _).mono ?_; rintro e w' ⟨rfl, rfl⟩))
    all_goals (go_wp2_with fail; go_meet)
    all_goals
      refine ⟨?_, ((Below.refl w.heap.size w).drew).trans hb⟩
      rw [HT.out i (Nat.le_refl i), Nat.sub_self, List.drop_zero, Hp.out]
  case rest =>
  obtain ⟨rfl, hb1⟩ := hcut
  go_upto_if 21 with fail
  go_cut [6, 7] from 22 (fun s6 s7 wx => ∃ Z C : ByteArray, s6 = .string Z ∧ s7 = .string C ∧ Hid (Z.data.toList = [q]) ∧ Hid (C.data.toList = closing L) ∧ Below w.heap.size w wx)
  case first =>
    cases hp
    · go_wp2_with fail
      go_meet
      exact ⟨_, _, rfl, rfl, HL, by rw [Hcl.out]; exact HL, hb1⟩
    · go_wp2_with (go_at_call 23; refine (hrep _).mono ?_; rintro e w' ⟨rfl, hb2⟩)
      go_meet
      exact ⟨_, _, rfl, rfl, HL, by rw [Hcl.out]; rfl, hb1.trans (hb2.mono hb1.size)⟩
  case rest =>
  obtain ⟨Z, C, rfl, rfl, HZ, HC, hb2⟩ := hcut
  have hix := index_one Z q HZ.out
  have HCs : Hid (C.size = (closing L).length) := by have := HC.out; rw [← this]; rfl
  have hc1 : 1 ≤ C.size := by have := closing_len L; rw [HCs.out]; omega
  have hc3 : C.size ≤ 3 := by have := closing_len L; rw [HCs.out]; omega
  clear hb1 hrep Hcl Hp
  go_wp2_with fail
  go_loopg [5, 8] L.length (fun g s5 s8 wr => ∃ m l : Nat, s8 = .int .i64 m ∧ s5 = .int .i64 l ∧ i + 1 ≤ m ∧ m ≤ T.size + 3 ∧ l ≤ m ∧ T.size - m ≤ g ∧ Hid (scan L (closing L) q g (m - i) l = R) ∧ Below w.heap.size w wr)
  case atStart => 
    refine ⟨i + C.size, 0, by go_num, rfl, by omega, by omega, by omega, by rw [HQ.out.len]; omega, ?_, hb2⟩
    rw [Nat.add_sub_cancel_left, HCs.out]; exact HR
  case round =>
    obtain ⟨m, l, rfl, rfl, hm1, hm2, hl, hg, HS, hbr⟩ := hrel
    clear hb2 HR
    by_cases hlt : m < T.size
    · obtain ⟨f, rfl⟩ : ∃ f, gk = f + 1 := ⟨gk - 1, by omega⟩
      obtain ⟨esc, He⟩ : ∃ esc : Bool, Hid (esc = true ↔ Esc L (m - i)) := ⟨decide _, decide_eq_true_iff⟩
      obtain ⟨hpc, Hpc⟩ : ∃ hpc, Hid (Lib.hasPrefix (L.drop (m - i)) (closing L) = hpc) := ⟨_, rfl⟩
      by_cases h10 : ((T[m].toNat : Int) == 10) = true
      · go_wp2_with fail
        go_roundg f
        case measure => omega
        case rel => exact ⟨m + 1, l + 1, by go_num, by go_num, by omega, by omega, by omega, by omega, st_line HQ.out hm1 hlt h10 HS.out, hbr⟩
      · have h10' : ((T[m].toNat : Int) == 10) = false := by simpa using h10
        clear h10
        go_upto_region 10 with fail
        go_cut [41] from 28 to 99 (fun s41 wx => s41 = .bool esc ∧ wx = wr)
        case first =>
          go_wp2_with fail
          all_goals (go_meet)
          all_goals (refine ⟨congrArg Value.bool ?_, rfl⟩)
          · exact esc_one HQ.out He.out hm1 hlt ‹_› ‹_› ‹_›
          · exact esc_two HQ.out He.out hm1 hlt ‹_› ‹_›
          · exact esc_three HQ.out He.out hm1 ‹_›
          · exact esc_four HQ.out He.out hm1 hlt ‹_›
        case rest =>
        obtain ⟨rfl, rfl⟩ := hcut
        cases esc
        · have hpx : ∀ b, Lib.hasPrefix (List.take (T.size - m) (List.drop m T.data.toList)) C.data.toList = b → Lib.hasPrefix (L.drop (m - i)) (closing L) = b := fun b hb => by
            rw [← HC.out, ← HT.out m (by omega)]; exact hb
          have Hpx := hpx
          have HPX : Hid (∀ b, Lib.hasPrefix (List.take (T.size - m) (List.drop m T.data.toList)) C.data.toList = b → Lib.hasPrefix (L.drop (m - i)) (closing L) = b) := hpx
          clear hpx Hpx
          go_wp2_with (go_at_call 22; refine (Try.strings_HasPrefix _ _ _).mono ?_; rintro e w' ⟨rfl, rfl⟩)
          · have hp1 : Lib.hasPrefix (List.take (T.size - m) (List.drop m T.data.toList)) C.data.toList = true := by assumption
            have hcl := st_close HQ.out hm1 hlt h10' He.out (HPX.out _ hp1) HS.out
            have HE : Hid (m + C.size - i + (if C.size = 3 then run q (L.drop (m + C.size - i)) else 0) = R.1 ∧ l = R.2) := by rw [HCs.out]; exact hcl
            clear hcl hp1 HPX He HS Hpc h10'
            go_loopg [9] T.size (fun g s9 wx => ∃ n : Nat, s9 = .int .i64 n ∧ m + C.size ≤ n ∧ n ≤ T.size + 3 ∧ T.size - n ≤ g ∧ Hid (n - i + (if C.size = 3 then run q (L.drop (n - i)) else 0) = R.1) ∧ Below w.heap.size w wx)
            case atStart => exact ⟨m + C.size, by go_num, by omega, by omega, by omega, HE.out.1, hbr⟩
            case round =>
              obtain ⟨n, rfl, hn1, hn2, hg2, HE2, hb3⟩ := hrel
              by_cases c3 : C.size = 3
              · have c3' : ((C.size : Int) == 3) = true := by rw [beq_iff_eq]; omega
                have C3 : Hid (C.size = 3) := c3
                clear c3
                by_cases hn : n < T.size
                · obtain ⟨g, rfl⟩ : ∃ g, gk = g + 1 := ⟨gk - 1, by omega⟩
                  go_wp2_with fail
                  go_quiet (fail)
                  go_wp2_with fail
                  · have hq : ((T[n].toNat : Int) == (q.toNat : Int)) = true := by assumption
                    go_roundg g
                    case measure => omega
                    case rel => exact ⟨n + 1, by go_num, by omega, by omega, by omega, in_go HQ.out (by omega) hn C3.out hq HE2.out, below_drewN hb3 _⟩
                  · have hq : ((T[n].toNat : Int) == (q.toNat : Int)) = false := by assumption
                    go_ret2
                    exact ⟨fin (in_stop HQ.out (by omega) hn hq HE2.out) HE.out.2, below_drewN hb3 _⟩
                · have hn' : decide ((n : Int) < (T.size : Int)) = false := decide_eq_false (by omega)
                  go_wp2_with fail
                  go_quiet (fail)
                  go_wp2_with fail
                  go_ret2
                  exact ⟨fin (in_end HQ.out (by omega) hn HE2.out) HE.out.2, below_drewN hb3 _⟩
              · have c3' : ((C.size : Int) == 3) = false := by rw [beq_eq_false_iff_ne]; omega
                have C3 : Hid (¬ C.size = 3) := c3
                clear c3
                go_wp2_with fail
                go_quiet (fail)
                go_wp2_with fail
                go_ret2
                exact ⟨fin (in_no (by omega) C3.out HE2.out) HE.out.2, below_drewN hb3 _⟩
          · have hp1 : Lib.hasPrefix (List.take (T.size - m) (List.drop m T.data.toList)) C.data.toList = false := by assumption
            go_roundg f
            case measure => omega
            case rel => exact ⟨m + 1, l, by go_num, rfl, by omega, by omega, by omega, by omega, st_go HQ.out hm1 hlt h10' He.out (HPX.out _ hp1) HS.out, hbr⟩
        · obtain ⟨HS2, hm3⟩ := st_esc HQ.out hm1 hlt h10' He.out HS.out
          have HS3 : Hid (scan L (closing L) q f (m + 2 - i) l = R) := HS2
          clear HS2
          go_wp2_with fail
          go_roundg f
          case measure => omega
          case rel => exact ⟨m + 2, l, by go_num, rfl, by omega, by omega, by omega, by omega, HS3, hbr⟩
    · go_wp2_with fail
      go_ret2
      have := HS.out
      rw [scan_end _ _ _ _ _ _ (by rw [HQ.out.len]; omega)] at this
      subst this
      refine ⟨congrArg Ending.returned (congrArg Value.tuple ?_), hbr⟩
      show #[Value.int .i64 (T.size : Int), Value.int .i64 (l : Int)] = #[Value.int .i64 ((i + L.length : Nat) : Int), Value.int .i64 (l : Int)]
      rw [HQ.out.len, show i + (T.size - i) = T.size from by omega]
end Go.Proofs.Qxb6601240a.SE

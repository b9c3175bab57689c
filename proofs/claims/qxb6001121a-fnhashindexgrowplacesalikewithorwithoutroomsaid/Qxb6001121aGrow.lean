import Derived.Test.Qxb6001121aGrowMem
import Derived.Deep.LoopGhost
import Derived.Deep.CutBlock
namespace Go.Proofs.Qxb6001121a.HI
open Go.RowKit
set_option linter.unusedVariables false

/-- What stands where the two ways of grow meet. -/
structure Met1 (w wx : World) (v : Value) (h b n N : Nat) (u g : Int) (S : Nat → Slot) : Prop where
  ex : ∃ (ol : Nat) (O S0 : Nat → Slot) (bt capt : Nat) (mv : Value), Old wx v ol O h bt ∧ ol ≤ n ∧ (∀ i, i < ol → 0 ≤ (O i).h ∧ (O i).h < 18446744073709551616) ∧
    inuse O g ol = inuse S g n ∧ Idx wx h bt N capt u g mv ∧ Tab wx bt capt S0 ∧ N ≤ capt ∧ capt ≤ 100000 ∧ (∀ p, p < capt → 0 ≤ (S0 p).g ∧ (S0 p).g ≤ g) ∧ bt ≠ h ∧ (bt = b ∨ w.heap.size ≤ bt) ∧ Fr [h] w wx

theorem hide {p : Prop} (h : p) : Hid p := h

theorem fr_end {w wc w' : World} {h b bt : Nat} (h1 : Fr [h] w wc) (h2 : Fr [h, bt] wc w') (hb : bt = b ∨ w.heap.size ≤ bt) : Fr [h, b] w w' := by
  have a : Fr [h, bt] w w' := (h1.mono (fun k _ hk => by simp at hk; simp [hk])).trans h2
  refine a.mono (fun k hk hm => ?_)
  simp at hm ⊢
  rcases hm with e | e
  · exact .inl e
  · rcases hb with e2 | e2
    · exact .inr (e.trans e2)
    · omega

/-- The way without room: a new table. -/
theorem met_new {w : World} {h b n cap N : Nat} {u g : Int} {S : Nat → Slot} (H : Idx w h b n cap u g (.slice none 0 0)) (T : Tab w b cap S) (hl : n ≤ cap) (hcb : N ≤ 100000) (hne : b ≠ h) (h0 : 0 ≤ g)
    (hh : ∀ p, p < n → 0 ≤ (S p).h ∧ (S p).h < 18446744073709551616) :
    Met1 w ((w.alloc (.cells (madeCells #[.int .u32 0, .int .i64 0, .int .u64 0] (N * 3)) 47)).setCell ⟨h, 0, none⟩ (.slice (some ⟨w.heap.size, 0, none⟩) N N)) (.slice (some ⟨b, 0, none⟩) n cap) h b n N u g S := by
  have hlt := H.lt
  have blt := T.lt
  have hw : w.heap.size ≠ h := by omega
  refine ⟨n, S, fun _ => ⟨0, 0, 0⟩, w.heap.size, N, .slice none 0 0, .inr ⟨b, cap, rfl, hl, ?_, hne, by omega⟩, Nat.le_refl _, hh, rfl, ?_, ?_, Nat.le_refl _, hcb, fun p _ => ⟨Int.le_refl _, h0⟩, hw, .inr (Nat.le_refl _), ?_⟩
  · refine ((T.of_block (Deep.blk_alloc_lt w _ _ blt)).of_block (Deep.blk_setCell_other _ _ _ _ ?_)).row hl
    exact hne
  · exact (H.of_block (Deep.blk_alloc_lt w _ _ hlt)).set0 _ _ _
  · exact (tab_made w N).of_block (Deep.blk_setCell_other _ _ _ _ hw)
  · exact ((Fr.refl _ _).alloc _).setCell (.inl (by simp)) _

theorem ofList_h {S : Nat → Slot} {g : Int} {n i : Nat} (hi : i < (inuse S g n).length) (hh : ∀ p, p < n → 0 ≤ (S p).h ∧ (S p).h < 18446744073709551616) : 0 ≤ (ofList g (inuse S g n) i).h ∧ (ofList g (inuse S g n) i).h < 18446744073709551616 := by
  have e : (inuse S g n).getD i (0, 0) = (inuse S g n)[i] := by simp [hi]
  obtain ⟨p, hp, hx⟩ := inuse_mem n _ (List.getElem_mem hi)
  have := hh p hp
  show 0 ≤ ((inuse S g n).getD i (0, 0)).2 ∧ ((inuse S g n).getD i (0, 0)).2 < _
  rw [e, hx]; exact this

/-- The way with room: the table is the old one, resliced; the slots in use have been set aside. -/
theorem met_room {w wr : World} {h b n cap N : Nat} {u g : Int} {v : Value} {S : Nat → Slot} (H : Idx wr h b n cap u g v) (T : Tab wr b cap S) (O : wr.ownsRow w.heap.size 47 3 v (inuse S g n).length (flat g (inuse S g n))) (F : Fr [h] w wr)
    (hroom : N ≤ cap) (hcb : cap ≤ 100000) (hne : b ≠ h) (hBh : h < w.heap.size) (hBb : b < w.heap.size) (hS : ∀ p, p < cap → 0 ≤ (S p).g ∧ (S p).g ≤ g) (hh : ∀ p, p < n → 0 ≤ (S p).h ∧ (S p).h < 18446744073709551616) :
    Met1 w (wr.setCell ⟨h, 0, none⟩ (.slice (some ⟨b, 0, none⟩) N cap)) v h b n N u g S := by
  refine ⟨(inuse S g n).length, ofList g (inuse S g n), S, b, cap, v, old_of_own (ownsRow_setCell_below O hBh _) hBh hBb, inuse_len S g n, fun i hi => ofList_h hi hh, ?_, H.set0 _ _ _, T.of_block (Deep.blk_setCell_other _ _ _ _ hne), hroom, hcb, hS, hne, .inl rfl, F.setCell (.inl (by simp)) _⟩
  rw [inuse_ofList g _ _ (Nat.le_refl _), List.take_length]

set_option maxRecDepth 100000 in
set_option maxHeartbeats 1000000 in
theorem grow_any (w : World) (h b n cap N : Nat) (u g : Int) (S : Nat → Slot) (H : Idx w h b n cap u g (.slice none 0 0)) (T : Tab w b cap S) (hl : n ≤ cap) (hn : n ≤ 4096) (hcb : cap ≤ 100000) (hne : b ≠ h)
    (hN : N = max (2 * n) 128) (hpow : ∃ k, N = 2 ^ k) (h0 : 0 ≤ g) (h1 : g < 4294967296) (hS : ∀ p, p < cap → 0 ≤ (S p).g ∧ (S p).g ≤ g) (hh : ∀ p, p < n → 0 ≤ (S p).h ∧ (S p).h < 18446744073709551616) :
    Calls Try.prog 28 #[.pointer (some ⟨h, 0, none⟩)] w fun e w' => e = .returned (.tuple #[]) ∧ ∃ (bt capt : Nat) (mv : Value) (S0 : Nat → Slot),
      Idx w' h bt N capt u (nextG g) mv ∧ Tab w' bt capt (fillL N (nextG g) S0 (inuse S g n)) ∧ N ≤ capt ∧ (∀ p, p < N → used S0 (nextG g) p = false) ∧ bt ≠ h ∧ (bt = b ∨ w.heap.size ≤ bt) ∧ Fr [h, b] w w' := by
  have k0 := H.c0
  have HN : Hid (N = max (2 * n) 128) := hN
  have hN1 : 128 ≤ N := by omega
  have hN2 : 2 * n ≤ N := by omega
  have hN3 : N ≤ 8192 := by omega
  have Hpow : Hid (∃ k, N = 2 ^ k) := hpow
  have HS : Hid (∀ p, p < cap → 0 ≤ (S p).g ∧ (S p).g ≤ g) := hS
  have Hhh : Hid (∀ p, p < n → 0 ≤ (S p).h ∧ (S p).h < 18446744073709551616) := hh
  have HH : Hid (Idx w h b n cap u g (.slice none 0 0)) := H
  have HT : Hid (Tab w b cap S) := T
  have Hg : Hid (0 ≤ g ∧ g < 4294967296) := ⟨h0, h1⟩
  clear hN hpow hS hh H T h0 h1
  obtain ⟨g', Hg'⟩ : ∃ g', Hid (nextG g = g') := ⟨_, rfl⟩
  rw [Hg'.out]
  obtain ⟨rm, Hrm⟩ : ∃ rm : Bool, Hid (rm = decide (N ≤ cap)) := ⟨_, rfl⟩
  go_enter Try.func28, Try.ntmps28
  go_upto_region 2 with fail
  go_cut [3, 20] from 9 (fun s3 s20 wx => s3 = .int .i64 N ∧ s20 = .bool rm ∧ w = wx)
  case first =>
    by_cases h128 : 2 * n < 128
    · have HN' : Hid (N = 128) := by have := HN.out; show N = 128; omega
      go_wp2_with fail
      go_meet
      refine ⟨by rw [HN'.out]; rfl, by rw [Hrm.out, HN'.out]; simp; omega, rfl⟩
    · have HN' : Hid (N = 2 * n) := by have := HN.out; show N = 2 * n; omega
      go_wp2_with fail
      go_meet
      refine ⟨by rw [HN'.out]; go_num, by rw [Hrm.out, HN'.out]; simp; omega, rfl⟩
  case rest =>
  obtain ⟨rfl, rfl, rfl⟩ := hcut
  clear HN
  go_upto_if 20 with fail
  go_cut [2] from 21 (fun s2 wx => Met1 w wx s2 h b n N u g S)
  case first =>
    cases rm
    case true =>
      have hroom : N ≤ cap := by simpa using Hrm.out
      have k3 := HH.out.c3
      have fz := HH.out.frozen
      obtain ⟨i0, hi, hz0, hz1, hz2⟩ := info_parts info47
      have hBh := HH.out.lt
      have hBb := HT.out.lt
      go_wp2_with fail
      go_loopg [31] n (fun f s31 wr => ∃ k : Nat, s31 = .int .i64 k ∧ k ≤ n ∧ n - k ≤ f ∧ ∃ v, Hid (Idx wr h b n cap u g v) ∧ Hid (wr.ownsRow w.heap.size 47 3 v (inuse S g k).length (flat g (inuse S g k))) ∧ Hid (Tab wr b cap S) ∧ Hid (Fr [h] w wr))
      case atStart =>
        exact ⟨0, rfl, Nat.zero_le _, by omega, _, HH.out.set3 _, World.ownsRow_nil _ _ _ _, HT.out.of_block (Deep.blk_setCell_other _ _ _ _ hne), (Fr.refl _ _).setCell (.inl (by simp)) _⟩
      case round =>
        obtain ⟨k, rfl, hk, hgk, v, HIr, HOr, HTr, HFr⟩ := hrel
        clear k3 fz k0
        by_cases hlt : k < n
        · obtain ⟨f, rfl⟩ : ∃ f, gk = f + 1 := ⟨gk - 1, by omega⟩
          have r0 := HTr.out.c0 (i := k) (by omega)
          have r1 := HTr.out.c1 (i := k) (by omega)
          have r2 := HTr.out.c2 (i := k) (by omega)
          have ka2 : ∀ o, (wr.alloc o).cell? ⟨h, 2, none⟩ = some (.int .u32 g) := fun o => (HIr.out.of_block (Deep.blk_alloc_lt wr o _ HIr.out.lt)).c2
          by_cases hu : ((S k).g == g) = true
          · have ka3 : ∀ o, (wr.alloc o).cell? ⟨h, 3, none⟩ = some v := fun o => (HIr.out.of_block (Deep.blk_alloc_lt wr o _ HIr.out.lt)).c3
            have ka4 : ∀ o1 m o2, (((wr.alloc o1).drewN m).alloc o2).cell? ⟨h, 3, none⟩ = some v := fun o1 m o2 => (HIr.out.of_block (w' := ((wr.alloc o1).drewN m).alloc o2) (two_new_lt wr o1 o2 _ HIr.out.lt)).c3
            go_upto_block 1 with fail
            go_cut [] from 32 to 52 (fun wx => ∃ v', Hid (Idx wx h b n cap u g v') ∧ Hid (wx.ownsRow w.heap.size 47 3 v' ((inuse S g k).length + 1) (flat g (inuse S g k) ++ [.int .u32 (S k).g, .int .i64 (S k).v, .int .u64 (S k).h])) ∧ Hid (Tab wx b cap S) ∧ Hid (Fr [h] w wx))
            case first =>
              go_wp2_with fail
              go_quiet (fail)
              go_wp2_with fail
              go_region_law (
                refine step_append_own rfl (.tmp 46) (.tmp 48) 45 rfl w.heap.size 47 i0 _ 3 24 Try.underlying45 hi hz0 hz1 hz2 rfl (by decide) v (inuse S g k).length (flat g (inuse S g k)) (by simp [Act.eval]) ?_ ⟨wr.heap.size + 1, 0, none⟩ 1 1 [.int .u32 (S k).g, .int .i64 (S k).v, .int .u64 (S k).h] (by simp [Act.eval]) rfl ?_ ?_ ?_ ?_ ?_ ?_
                · exact (HOr.out.alloc _).alloc _
                · exact three_cells _ _ _ _ _ _
                · intro x hx; simp at hx; rcases hx with rfl | rfl | rfl <;> rfl
                · have := inuse_len S g k; unfold maxLen; omega
                · have := inuse_len S g k; omega
                · have := HFr.out.size; simp [World.drewN]; omega
                intro v' w6 ho hgr
                obtain ⟨⟨gb, cp, rfl⟩, hI6, hT6, hF6⟩ := app_next HIr.out HTr.out HFr.out (two_new _ _ _ _) (two_new_lt _ _ _ _ HIr.out.lt) hne hBh hBb HOr.out ho ⟨hgr.os, hgr.tape, hgr.output, hgr.size, hgr.block⟩
                have k63 := hI6.c3
                have fz6 := hI6.frozen
                have HAP := hide (app_stored hI6 hT6 hF6 hne hBh ho)
                clear ho hgr hI6 hT6 hF6)
              all_goals
                go_wp2_with fail
                go_meet
                exact ⟨_, HAP.out.1, HAP.out.2.1, HAP.out.2.2.1, HAP.out.2.2.2⟩
            case rest =>
              obtain ⟨v', HI2, HO2, HT2, HF2⟩ := hcut
              go_wp2_with fail
              go_roundg f
              case measure => omega
              case rel =>
                refine ⟨k + 1, by go_num, by omega, by omega, v', HI2, ?_, HT2, HF2⟩
                rw [inuse_hit S g k (by simpa using hu), flat_snoc, List.length_append]
                have e : (S k).g = g := by simpa using hu
                rw [e] at HO2
                exact HO2
          · have hu' : ((S k).g == g) = false := by simpa using hu
            clear hu
            go_wp2_with fail
            go_quiet (fail)
            go_wp2_with fail
            go_roundg f
            case measure => omega
            case rel =>
              refine ⟨k + 1, by go_num, by omega, by omega, v, HIr.out.of_block (Deep.blk_alloc_lt wr _ _ HIr.out.lt), ?_, HTr.out.of_block (Deep.blk_alloc_lt wr _ _ HTr.out.lt), (HFr.out.alloc _).drewN _⟩
              rw [inuse_miss S g k (by simpa using hu')]
              exact HOr.out.alloc _
        · obtain rfl : k = n := by omega
          have k0 := HIr.out.c0
          have k3 := HIr.out.c3
          have fz := HIr.out.frozen
          go_wp2_with fail
          go_meet
          exact met_room HIr.out HTr.out HOr.out HFr.out hroom hcb hne hBh hBb HS.out Hhh.out
    case false =>
      have hmk := make_slots N (by omega)
      have fz : ∀ o, (w.alloc o).frozen? ⟨h, 0, none⟩ = false := fun o => (HH.out.of_block (Deep.blk_alloc_lt w o _ HH.out.lt)).frozen 0
      have kc : ∀ o, (w.alloc o).cell? ⟨h, 0, none⟩ = some (.slice (some ⟨b, 0, none⟩) n cap) := fun o => (HH.out.of_block (Deep.blk_alloc_lt w o _ HH.out.lt)).c0
      clear k0
      go_wp2_with fail
      go_meet
      exact met_new HH.out HT.out hl (by omega) hne Hg.out.1 Hhh.out
  case rest =>
  obtain ⟨⟨ol, O, S0, bt, capt, mv, hold, hol, HhO, Hin, hI, hT, hNc, hcc, hS0, hbt, hbtb, hF⟩⟩ := hcut
  have k2 := hI.c2
  have HhO' : Hid (∀ i, i < ol → 0 ≤ (O i).h ∧ (O i).h < 18446744073709551616) := HhO
  have Hin' : Hid (inuse O g ol = inuse S g n) := Hin
  have Hold : Hid (Old wc u2 ol O h bt) := hold
  have HF : Hid (Fr [h] w wc) := hF
  have hnx := next_any wc h bt N capt u g mv S0 hI hT hNc (by omega) hcc hbt Hg.out.1 Hg.out.2 hS0
  rw [Hg'.out] at hnx
  clear HhO Hin hold hF hI hT hS0 HH HT HS k0
  go_wp2_with fail
  refine hnx.mono ?_
  rintro e w3 ⟨rfl, S1, hI1, hT1, hU1, hF1⟩
  have Hold1 := Hold.out.of_fr hF1
  rcases Hold1 with ⟨rfl, rfl⟩ | ⟨ob, oc, rfl, hoc, hR, hob1, hob2⟩
  · go_wp2_with fail
    refine wp_loop_rounds 1 ?_
    rw [rounds_succ]
    go_wp2
    go_end0
    refine ⟨rfl, bt, capt, mv, S1, hI1, ?_, hNc, fun p hp => hU1 p (by omega), hbt, hbtb, ?_⟩
    · rw [← Hin'.out]; exact hT1
    · exact fr_end HF.out hF1 hbtb
  · have HU1 : Hid (∀ p, p < N → used S1 g' p = false) := fun p hp => hU1 p (by omega)
    have Hfree : Hid (∀ k, k ≤ ol → ∃ p, p < N ∧ used (fillL N g' S1 (inuse O g k)) g' p = false) := fun k hk => fill_free HU1.out (by have := inuse_len O g k; omega)
    have HF1 : Hid (Fr [h, bt] wc w3) := hF1
    have HI1 : Hid (Idx w3 h bt N capt u (g') mv) := hI1
    have HT1 : Hid (Tab w3 bt capt S1) := hT1
    have HR : Hid (Row w3 ob ol O) := hR
    clear hU1 hF1 hI1 hT1 hR hnx Hold
    go_wp2_with fail
    go_loopg [79] ol (fun f s79 wr => ∃ k : Nat, s79 = .int .i64 k ∧ k ≤ ol ∧ ol - k ≤ f ∧ Hid (Idx wr h bt N capt u g' mv) ∧ Hid (Tab wr bt capt (fillL N g' S1 (inuse O g k))) ∧ Hid (Fr [h, bt] w3 wr))
    case atStart => exact ⟨0, rfl, Nat.zero_le _, by omega, HI1, HT1, Fr.refl _ _⟩
    case round =>
      obtain ⟨k, rfl, hk, hgk, HIr, HTr, HFr⟩ := hrel
      by_cases hlt : k < ol
      · obtain ⟨f, rfl⟩ : ∃ f, gk = f + 1 := ⟨gk - 1, by omega⟩
        have HRr : Hid (Row wr ob ol O) := HR.out.of_block (HFr.out.block ob HR.out.lt (by simp; exact ⟨hob1, hob2⟩))
        have r0 := HRr.out.c0 hlt
        have r1 := HRr.out.c1 hlt
        have r2 := HRr.out.c2 hlt
        by_cases hu : ((O k).g == g) = true
        · have hpl := place_any (wr.alloc (.cells #[.int .u32 (O k).g, .int .i64 (O k).v, .int .u64 (O k).h] 47)) h bt N capt u g' (O k).h (O k).v mv _ (HIr.out.of_block (Deep.blk_alloc_lt _ _ _ HIr.out.lt)) (HTr.out.of_block (Deep.blk_alloc_lt _ _ _ HTr.out.lt)) hNc (by omega) (by omega) Hpow.out (HhO'.out k hlt) (Hfree.out k (by omega))
          have Hpl := hide hpl
          clear hpl
          go_wp2_with fail
          refine Hpl.out.mono ?_
          rintro e w5 ⟨rfl, hT5, hG5⟩
          have HT5 : Hid (Tab w5 bt capt (fillL N g' S1 (inuse O g (k + 1)))) := by
            show Tab w5 bt capt (fillL N g' S1 (inuse O g (k + 1)))
            rw [inuse_hit O g k (by simpa using hu), fillL_snoc]; exact hT5
          have HI5 : Hid (Idx w5 h bt N capt u g' mv) := (HIr.out.of_block (Deep.blk_alloc_lt _ _ _ HIr.out.lt)).of_block (hG5.block h (by rw [Deep.nblk_alloc]; have := HIr.out.lt; omega) (fun e => hbt (by cases e; rfl)))
          have HF5 : Hid (Fr [h, bt] w3 w5) := (HFr.out.alloc _).trans (Fr.of_grown hG5 (by simp))
          clear hT5 hG5 Hpl HIr HTr HFr HRr r0 r1 r2
          go_wp2_with fail
          go_roundg f
          case measure => omega
          case rel => exact ⟨k + 1, by go_num, by omega, by omega, HI5, HT5, HF5⟩
        · have hu' : ((O k).g == g) = false := by simpa using hu
          clear hu
          go_wp2_with fail
          go_roundg f
          case measure => omega
          case rel =>
            refine ⟨k + 1, by go_num, by omega, by omega, ?_, ?_, HFr.out.alloc _⟩
            · exact HIr.out.of_block (Deep.blk_alloc_lt _ _ _ HIr.out.lt)
            · rw [inuse_miss O g k (by simpa using hu')]
              exact HTr.out.of_block (Deep.blk_alloc_lt _ _ _ HTr.out.lt)
      · obtain rfl : k = ol := by omega
        go_wp2_with fail
        go_end0
        refine ⟨rfl, bt, capt, mv, S1, HIr.out, ?_, hNc, HU1.out, hbt, hbtb, ?_⟩
        · rw [← Hin'.out]; exact HTr.out
        · exact fr_end HF.out (HF1.out.trans HFr.out) hbtb
end Go.Proofs.Qxb6001121a.HI

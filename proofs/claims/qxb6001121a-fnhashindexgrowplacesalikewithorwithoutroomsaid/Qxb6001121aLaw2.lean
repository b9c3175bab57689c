import Derived.Test.Qxb6001121aLaw
namespace Go.Proofs.Qxb6001121a.HI
open Go.RowKit
set_option linter.unusedVariables false

theorem prem_laid {n r : Nat} {g : Int} {G V H R : Nat → Int} (P : Prem n n n r g G R) (hG : ∀ i, i < n → 0 ≤ G i) (hR : ∀ i, i < r → 0 ≤ R i) : ∀ p, p < n + r → 0 ≤ (laidS n G V H R p).g ∧ (laidS n G V H R p).g ≤ g := by
  intro p hp
  unfold laidS
  by_cases h : p < n
  · rw [if_pos h]; exact ⟨hG p h, P.gs p h⟩
  · rw [if_neg h]; exact ⟨hR _ (by omega), P.rs _ (by omega)⟩
theorem prem_nil {n r : Nat} {g : Int} {G R : Nat → Int} (P : Prem n n n r g G R) : Prem n n n 0 g G (fun _ => 0) := ⟨rfl, rfl, P.pw, P.gs, fun j hj => by omega⟩
theorem laid_h {n : Nat} {G V H R : Nat → Int} {p : Nat} (hp : p < n) : (laidS n G V H R p).h = H p := by
  unfold laidS; rw [if_pos hp]
theorem laid_same {n : Nat} {G V H R R' : Nat → Int} {i : Nat} (hi : i < n) : laidS n G V H R i = laidS n G V H R' i := by
  unfold laidS; rw [if_pos hi, if_pos hi]

set_option maxRecDepth 100000 in
set_option maxHeartbeats 1000000 in
theorem law_small (w : World) (a0 a1 a2 a3 : Option Addr) (l0 l1 l2 l3 c0 c1 c2 c3 : Nat) (g : Int) (G V H R : Nat → Int) (b0 : l0 ≤ 4096) (b1 : l1 ≤ 4096) (b2 : l2 ≤ 4096) (b3 : l3 ≤ 8192)
    (s0 : Sl .u32 w a0 l0 G) (s1 : Sl .i64 w a1 l1 V) (s2 : Sl .u64 w a2 l2 H) (s3 : Sl .u32 w a3 l3 R) (hg : 0 ≤ g ∧ g < 4294967296)
    (hG : ∀ i, i < l0 → 0 ≤ G i) (hH : ∀ i, i < l2 → 0 ≤ H i ∧ H i < 18446744073709551616) (hR : ∀ i, i < l3 → 0 ≤ R i) :
    Calls Try.prog 4 #[.slice a0 l0 c0, .slice a1 l1 c1, .slice a2 l2 c2, .slice a3 l3 c3, .int .u32 g] w fun e w' => e = .returned (.bool true) ∧ Below w.heap.size w w' := by
  have H0 := hide s0
  have H1 := hide s1
  have H2 := hide s2
  have H3 := hide s3
  have Hg := hide hg
  have HG := hide hG
  have HH := hide hH
  have HR := hide hR
  clear s0 s1 s2 s3 hg hG hH hR
  go_enter Try.func4, Try.ntmps4
  go_wp2_with (go_at_call 20; go_in)
  refine (prem_any _ a0 a1 a2 a3 l0 l1 l2 l3 c0 c1 c2 c3 g G R b0 b1 b2 b3 H0.out H3.out).mono ?_
  rintro e wx ⟨⟨b, rfl, hP⟩, rfl⟩
  cases b with
  | false =>
    clear hP
    go_wp2_with fail
    go_ret
    exact ⟨rfl, Below.refl _ _⟩
  | true =>
    have hp := hP rfl
    clear hP
    obtain rfl := hp.e1
    obtain rfl := hp.e2
    have HP := hide hp
    clear hp
    -- the clones
    go_wp2_with fail
    refine (clone10 _ a0 l2 c0 G (by omega) H0.out).mono ?_
    rintro e w1 ⟨⟨x0, d0, rfl, q0⟩, f1⟩
    have Q0 := hide q0
    have F1 := hide f1
    have Q1 := hide (H1.out.of_below f1)
    have Q2 := hide (H2.out.of_below f1)
    have Q3 := hide (H3.out.of_below f1)
    clear q0 f1 H0 H1 H2 H3
    go_wp2_with fail
    refine (clone11 _ a1 l2 c1 V (by omega) Q1.out).mono ?_
    rintro e w2 ⟨⟨x1, d1, rfl, q1⟩, f2⟩
    have P0 := hide (Q0.out.of_below f2)
    have P1 := hide q1
    have P2 := hide (Q2.out.of_below f2)
    have P3 := hide (Q3.out.of_below f2)
    have F2 := hide (F1.out.trans (f2.mono F1.out.size))
    clear q1 f2 Q0 Q1 Q2 Q3 F1
    go_wp2_with fail
    refine (clone12 _ a2 l2 c2 H (by omega) P2.out).mono ?_
    rintro e w3 ⟨⟨x2, d2, rfl, q2⟩, f3⟩
    have O0 := hide (P0.out.of_below f3)
    have O1 := hide (P1.out.of_below f3)
    have O2 := hide q2
    have O3 := hide (P3.out.of_below f3)
    have F3 := hide (F2.out.trans (f3.mono F2.out.size))
    clear q2 f3 P0 P1 P2 P3 F2
    go_wp2_with fail
    refine (clone10 _ a3 l3 c3 R (by omega) O3.out).mono ?_
    rintro e w4 ⟨⟨x3, d3, rfl, q3⟩, f4⟩
    have M0 := hide (O0.out.of_below f4)
    have M1 := hide (O1.out.of_below f4)
    have M2 := hide (O2.out.of_below f4)
    have M3 := hide q3
    have F4 := hide (F3.out.trans (f4.mono F3.out.size))
    clear q3 f4 O0 O1 O2 O3 F3
    -- the two indexes
    go_wp2_with fail
    refine (from_any _ x0 x1 x2 x3 l2 l3 d0 d1 d2 d3 g G V H R (by omega) b3 M0.out M1.out M2.out M3.out).mono ?_
    rintro e w5 ⟨ha, ba, rfl, ia, ta, na, la, ka, f5⟩
    have L0 := hide (M0.out.of_below f5)
    have L1 := hide (M1.out.of_below f5)
    have L2 := hide (M2.out.of_below f5)
    have IA := hide ia
    have TA := hide ta
    have LA := hide (show w4.heap.size ≤ ba ∧ w4.heap.size ≤ ha from ⟨la, ka⟩)
    have F5 := hide (F4.out.trans (f5.mono F4.out.size))
    have G5 := hide f5
    clear ia ta la ka f5 M0 M1 M2 M3
    go_wp2_with fail
    refine (from_any _ x0 x1 x2 none l2 0 d0 d1 d2 0 g G V H (fun _ => 0) (by omega) (by omega) L0.out L1.out L2.out (fun i hi => by omega)).mono ?_
    rintro e w6 ⟨hb, bb, rfl, ib, tb, nb, lb, kb, f6⟩
    have IA6 := hide (IA.out.of_block (f6.block ha IA.out.lt))
    have TA6 := hide (TA.out.of_block (f6.block ba TA.out.lt))
    have IB := hide ib
    have TB := hide tb
    have ORD := hide (show wx.heap.size ≤ ba ∧ wx.heap.size ≤ ha ∧ ba < w5.heap.size ∧ ha < w5.heap.size ∧ w5.heap.size ≤ bb ∧ w5.heap.size ≤ hb ∧ bb < w6.heap.size ∧ hb < w6.heap.size ∧ w5.heap.size ≤ w6.heap.size from
      ⟨Nat.le_trans F4.out.size LA.out.1, Nat.le_trans F4.out.size LA.out.2, TA.out.lt, IA.out.lt, lb, kb, tb.lt, ib.lt, f6.size⟩)
    have F6 := hide (F5.out.trans (f6.mono F5.out.size))
    clear ib tb lb kb f6 L0 L1 L2 IA TA LA F5 G5 F4
    obtain ⟨N, hN⟩ : ∃ N, Hid (N = max (2 * l2) 128) := ⟨_, rfl⟩
    have hpow := hide (size_pow l2 HP.out.pw)
    rw [← hN.out] at hpow
    have hN1 : 128 ≤ N := by have := hN.out; omega
    have hN3 : N ≤ 8192 := by have := hN.out; omega
    -- they grow
    go_wp2_with fail
    refine (zgrow_any _ ha ba l2 (l2 + l3) N 0 g _ IA6.out TA6.out (by omega) b2 (by omega) na hN.out hpow.out Hg.out.1 Hg.out.2 (prem_laid HP.out HG.out HR.out) (fun p hp => by rw [laid_h hp]; exact HH.out p hp)).mono ?_
    rintro e w7 ⟨rfl, ta, pa, ma, Sa, ia7, ta7, hca, hua, nta, dta, f7⟩
    have IA7 := hide ia7
    have TA7 := hide ta7
    have UA := hide hua
    have IB7 := hide (IB.out.of_fr f7 (by have := ORD.out; simp; omega))
    have TB7 := hide (TB.out.of_fr f7 (by have := ORD.out; simp; omega))
    have F7 := hide (F6.out.trans (f7.below wx.heap.size (Nat.le_trans F6.out.size (Nat.le_refl _)) (by have := ORD.out; simp; omega)))
    have D7 := hide (show ta ≠ hb ∧ ta ≠ bb ∧ w6.heap.size ≤ w7.heap.size from by have := ORD.out; have := f7.size; rcases dta with e | e <;> omega)
    clear ia7 ta7 hua f7 dta IA6 TA6 IB TB F6
    go_wp2_with fail
    refine (zgrow_any _ hb bb l2 (l2 + 0) N 0 g _ IB7.out TB7.out (by omega) b2 (by omega) nb hN.out hpow.out Hg.out.1 Hg.out.2 (prem_laid (prem_nil HP.out) HG.out (fun i hi => by omega)) (fun p hp => by rw [laid_h hp]; exact HH.out p hp)).mono ?_
    rintro e w8 ⟨rfl, tb, pb, mb, Sb, ib8, tb8, hcb, hub, ntb, dtb, f8⟩
    have IB8 := hide ib8
    have TB8 := hide tb8
    have IA8 := hide (IA7.out.of_fr f8 (by have := ORD.out; simp; omega))
    have TA8 := hide (TA7.out.of_fr f8 (by have := D7.out; simp; omega))
    have F8 := hide (F7.out.trans (f8.below wx.heap.size F7.out.size (by have := ORD.out; have := F7.out.size; simp; omega)))
    have ALK := hide (fun p hp => alike (g := g) (g' := nextG g) (n := l2) (S := laidS l2 G V H R) (S' := laidS l2 G V H fun _ => 0) (show 0 < N by omega) UA.out hub (fun i hi => laid_same hi) p hp)
    clear ib8 tb8 hub f8 dtb IA7 TA7 IB7 TB7 F7 UA HP HG HH HR
    generalize fillL N (nextG g) Sa (inuse (laidS l2 G V H R) g l2) = A at *
    generalize fillL N (nextG g) Sb (inuse (laidS l2 G V H fun _ => 0) g l2) = B at *
    generalize nextG g = g' at *
    have ng : (g' != g') = false := by simp
    have nN : ((N : Int) != (N : Int)) = false := by simp
    clear hN hpow ORD D7 Hg na nb nta ntb
    go_wp2_with fail
    refine (len_any _ ha ta N pa 0 g' ma IA8.out).mono ?_
    rintro e wy ⟨rfl, hw⟩
    obtain rfl := hw.symm
    clear hw
    go_wp2_with fail
    refine (len_any _ hb tb N pb 0 g' mb IB8.out).mono ?_
    rintro e wy ⟨rfl, hw⟩
    obtain rfl := hw.symm
    clear hw
    go_wp2_with fail
    refine (gen_any _ ha ta N pa 0 g' ma IA8.out).mono ?_
    rintro e wy ⟨rfl, hw⟩
    obtain rfl := hw.symm
    clear hw
    go_wp2_with fail
    refine (gen_any _ hb tb N pb 0 g' mb IB8.out).mono ?_
    rintro e wy ⟨rfl, hw⟩
    obtain rfl := hw.symm
    clear hw
    go_wp2_with fail
    go_loopg [16] N (fun f s16 wr => ∃ p : Nat, s16 = .int .i64 p ∧ p ≤ N ∧ N - p ≤ f ∧ Hid (Below w8.heap.size w8 wr))
    case atStart => exact ⟨0, rfl, Nat.zero_le _, by omega, Below.refl _ _⟩
    case round =>
      obtain ⟨p, rfl, hp, hgp, HB⟩ := hrel
      by_cases hlt : p < N
      · obtain ⟨f, rfl⟩ : ∃ f, gk = f + 1 := ⟨gk - 1, by omega⟩
        have IAr := hide (IA8.out.of_block (HB.out.block ha IA8.out.lt))
        have TAr := hide (TA8.out.of_block (HB.out.block ta TA8.out.lt))
        have IBr := hide (IB8.out.of_block (HB.out.block hb IB8.out.lt))
        have TBr := hide (TB8.out.of_block (HB.out.block tb TB8.out.lt))
        have AL := hide (ALK.out p hlt)
        go_wp2_with fail
        refine (slot_any _ ha ta N pa p 0 g' ma A IAr.out TAr.out hca hlt (by omega)).mono ?_
        rintro e wa ⟨rfl, fa⟩
        have FA := hide fa
        have HBa := hide (HB.out.trans (fa.mono HB.out.size))
        clear fa HB
        go_wp2_with fail
        refine (slot_any _ hb tb N pb p 0 g' mb B (IBr.out.of_block (FA.out.block hb IBr.out.lt)) (TBr.out.of_block (FA.out.block tb TBr.out.lt)) hcb hlt (by omega)).mono ?_
        rintro e wb ⟨rfl, fb⟩
        have HBb := hide (HBa.out.trans (fb.mono HBa.out.size))
        have al := AL.out
        clear fb HBa FA IAr TAr IBr TBr AL
        generalize A p = s at *
        generalize B p = t at *
        rcases al with rfl | ⟨u1, u2⟩
        · by_cases hu : (s.g == g') = true
          · go_wp2_with fail
            go_roundg f
            case measure => omega
            case rel => exact ⟨p + 1, by go_num, by omega, by omega, HBb⟩
          · have hu' : (s.g == g') = false := by simpa using hu
            clear hu
            go_wp2_with fail
            go_roundg f
            case measure => omega
            case rel => exact ⟨p + 1, by go_num, by omega, by omega, HBb⟩
        · go_wp2_with fail
          go_roundg f
          case measure => omega
          case rel => exact ⟨p + 1, by go_num, by omega, by omega, HBb⟩
      · go_wp2_with fail
        go_ret
        exact ⟨rfl, F8.out.trans (HB.out.mono F8.out.size)⟩
end Go.Proofs.Qxb6001121a.HI

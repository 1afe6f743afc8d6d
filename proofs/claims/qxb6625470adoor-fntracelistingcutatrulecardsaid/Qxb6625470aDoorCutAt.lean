import Derived.Test.Qxb6625470aDoorParts
import Derived.Deep.RegionHeld3
namespace Go.Proofs.Qxb6625470aDoor
open Go.RowKit
set_option linter.unusedVariables false
set_option linter.unusedSimpArgs false
attribute [local go_sem] Go.wp_at_zero Go.wp_at_succ

structure Now (w wE wG W : World) : Prop where
  a : Below w.heap.size w W
  b : Below wE.heap.size wE W
  c : Below wG.heap.size wG W

theorem Now.step {w wE wG W W' : World} (h : Now w wE wG W) (k : Below W.heap.size W W') : Now w wE wG W' :=
  ⟨h.a.trans (k.mono h.a.size), h.b.trans (k.mono h.b.size), h.c.trans (k.mono h.c.size)⟩

theorem own0_rd {w : World} {g N cap : Nat} {xs : List UInt8} (h : Own0 w (.slice (some ⟨g, 0, none⟩) N cap) xs) : Rd w (some ⟨g, 0, none⟩) N (cU xs) ∧ N ≤ cap ∧ cap ≤ maxLen := by
  obtain ⟨ao, c, e, hr, h1, h2, _, _⟩ := h.own.rd
  injection e with e1 e2 e3
  subst e1 e2 e3
  exact ⟨hr, h1, h2⟩

set_option maxRecDepth 100000 in
set_option maxHeartbeats 25600000 in
theorem cut_any (a0 : Option Addr) (n0 c0 : Nat) (al : Option Addr) (L cl : Nat) (a2 : Option Addr) (n2 c2 : Nat) (am : Option Addr) (R cm : Nat) (a4 : Option Addr) (n4 c4 : Nat) (a5 : Option Addr) (n5 c5 : Nat) (mi : Int)
    (input lines : List UInt8) (zs : List Int) (ms : List Sl) (zss : List (List Int)) (add : List Bool) (outs : List Int) (w : World)
    (hI : In w a0 n0 c0 al L cl a2 n2 c2 am R cm a4 n4 c4 a5 n5 c5 input lines zs ms zss add outs) (o3 : SlIn am R cm) (htab : Tab w) :
    Calls Tryd.prog 4 #[.slice a0 n0 c0, .slice al L cl, .slice a2 n2 c2, .slice am R cm, .slice a4 n4 c4, .slice a5 n5 c5, .int .i64 mi] w fun e w' => e = .returned (.bool true) ∧ Below w.heap.size w w' := by
  have HI := Lib.hid hI
  have HO3 := Lib.hid o3
  have HTAB := Lib.hid htab
  have m0 : Hid (n0 ≤ maxLen) := Nat.le_trans hI.p0 hI.q0
  have m1 : Hid (L ≤ maxLen) := Nat.le_trans hI.p1 hI.q1
  have m2 : Hid (n2 ≤ maxLen) := Nat.le_trans hI.p2 hI.q2
  have m3 : Hid (R ≤ maxLen) := Nat.le_trans hI.p3 hI.q3
  have m4 : Hid (n4 ≤ maxLen) := Nat.le_trans hI.p4 hI.q4
  have m5 : Hid (n5 ≤ maxLen) := Nat.le_trans hI.p5 hI.q5
  clear hI htab o3
  go_enter Tryd.func4, Tryd.ntmps4
  go_wp2_with fail
  refine (bytes12 a0 n0 c0 al L cl a2 n2 c2 am R cm a4 n4 c4 a5 n5 c5 ms zss mi _ m0.out m1.out m2.out m3.out m4.out m5.out HI.out.made).mono ?_
  rintro e w1 ⟨v1, rfl, hb1⟩
  cases v1 with
  | false =>
    go_wp2
    go_ret
    exact ⟨rfl, hb1⟩
  | true =>
    go_wp2_with fail
    refine (sizeOK_any a0 n0 c0 al L cl a2 n2 c2 am R cm a4 n4 c4 a5 n5 c5 ms zss _ m0.out m1.out m2.out m3.out m4.out m5.out (HI.out.made.below hb1)).mono ?_
    rintro e w2 ⟨v2, rfl, hz, hb2⟩
    have hb12 := hb1.trans (hb2.mono hb1.size)
    cases v2 with
    | false =>
      go_wp2
      go_ret
      exact ⟨rfl, hb12⟩
    | true =>
      have HZ := Lib.hid (hz rfl)
      have hR := HZ.out.b3
      clear hz
      by_cases hneg : mi < 0
      · go_wp2
        go_ret
        exact ⟨rfl, hb12⟩
      · by_cases hbig : (R : Int) < mi
        · go_wp2
          go_ret
          exact ⟨rfl, hb12⟩
        · obtain ⟨m, rfl⟩ : ∃ m : Nat, mi = (m : Int) := ⟨mi.toNat, by omega⟩
          have hmR : m ≤ R := by omega
          clear hneg hbig
          go_wp2_with fail
          refine (valid_any al L cl a2 n2 c2 am R cm a4 n4 c4 a5 n5 c5 zs ms zss outs _ m1.out m2.out m3.out m4.out m5.out HI.out.l2 (HI.out.r2.below hb12) (HI.out.made.below hb12) HI.out.l5 (HI.out.r5.below hb12)).mono ?_
          rintro e w3 ⟨v3, rfl, hg, hb3⟩
          have hb13 := hb12.trans (hb3.mono hb12.size)
          cases v3 with
          | false =>
            go_wp2
            go_ret
            exact ⟨rfl, hb13⟩
          | true =>
            have HG := Lib.hid (hg rfl)
            clear hg hb1 hb2 hb12 hb3
            have hun := unfold_any a0 n0 c0 al L cl a2 n2 c2 am R cm a4 n4 c4 a5 n5 c5 input lines zs ms zss add outs w3 HZ.out HG.out HI.out.l0 HI.out.l1 HI.out.l2 (HI.out.r2.below hb13) (HI.out.made.below hb13) HI.out.l4 (HI.out.r4.below hb13) HI.out.l5 (HI.out.r5.below hb13)
            obtain ⟨T, hTd⟩ : ∃ T, total input lines zs zss add outs R = T := ⟨_, rfl⟩
            rw [hTd] at hun
            have HTL : Hid ((listing input lines zs zss add outs R).length = T) := (listing_length input lines zs zss add outs R).trans hTd
            clear hTd
            go_wp2_with fail
            refine hun.mono ?_
            rintro e w4 ⟨hor, hb4⟩
            have HB : Hid (Below w.heap.size w w4) := hb13.trans (hb4.mono hb13.size)
            clear hun hb13 hb4
            rcases hor with rfl | ⟨rfl, hTle⟩
            · go_wp2
              go_ret
              exact ⟨rfl, HB.out⟩
            · have HTE : Hid ((listing input lines zs zss add outs R).length ≤ 16777216) := by
                show _ ≤ _
                rw [HTL.out]; exact hTle
              clear hTle
              have hR0 := HI.out.r0.below HB.out
              go_upto_if 79 with fail
              go_cut [0] from 78 (fun s wx => Cp w4 n0 (cU input) s wx)
              case first =>
                rcases HI.out.o0 with ⟨rfl, rfl, rfl⟩ | ⟨ad, rfl⟩
                · go_wp2
                  go_meet
                  case rel => exact ⟨⟨none, 0, rfl, Or.inl rfl, Or.inl ⟨rfl, rfl, rfl⟩, Nat.le_refl _, Nat.zero_le _, Below.refl _ _⟩⟩
                · obtain ⟨M, W', hmk, hcp, hr, hbb⟩ := copy_new 22 5 _ 1 Tryd.underlying22 Tryd.info5 (by omega) n0 c0 (by have := HZ.out.b0; omega) w4 _ _ hR0 (cU_one input)
                  go_wp2
                  go_meet
                  case rel => exact ⟨⟨_, _, rfl, hr, Or.inr ⟨_, _, rfl⟩, Nat.le_refl _, m0.out, hbb⟩⟩
              case rest =>
                obtain ⟨wA, hwA⟩ : ∃ wA, wA = wc := ⟨_, rfl⟩
                subst hwA
                obtain ⟨d0, e0, rfl, x0r, x0o, x0p, x0q, x0b⟩ := hcut.ex
                have X0 : Hid (Rd wA d0 n0 (cU input) ∧ SlOK d0 n0 e0 ∧ n0 ≤ e0 ∧ e0 ≤ maxLen ∧ Below w4.heap.size w4 wA) := ⟨x0r, x0o, x0p, x0q, x0b⟩
                clear x0r x0o x0p x0q x0b hR0
                have HBA : Hid (Below w.heap.size w wA) := HB.out.trans (X0.out.2.2.2.2.mono HB.out.size)
                have hR1 := HI.out.r1.below HBA.out
                go_upto_if 88 with fail
                go_cut [1] from 87 (fun s wx => Cp wA L (cU lines) s wx)
                case first =>
                  rcases HI.out.o1 with ⟨rfl, rfl, rfl⟩ | ⟨ad, rfl⟩
                  · go_wp2
                    go_meet
                    case rel => exact ⟨⟨none, 0, rfl, Or.inl rfl, Or.inl ⟨rfl, rfl, rfl⟩, Nat.le_refl _, Nat.zero_le _, Below.refl _ _⟩⟩
                  · obtain ⟨M, W', hmk, hcp, hr, hbb⟩ := copy_new 22 5 _ 1 Tryd.underlying22 Tryd.info5 (by omega) L cl (by have := HZ.out.b1; omega) wA _ _ hR1 (cU_one lines)
                    go_wp2
                    go_meet
                    case rel => exact ⟨⟨_, _, rfl, hr, Or.inr ⟨_, _, rfl⟩, Nat.le_refl _, m1.out, hbb⟩⟩
                case rest =>
                  obtain ⟨wB, hwA⟩ : ∃ wA, wA = wc := ⟨_, rfl⟩
                  subst hwA
                  obtain ⟨d1, e1, rfl, x1r, x1o, x1p, x1q, x1b⟩ := hcut.ex
                  have X1 : Hid (Rd wB d1 L (cU lines) ∧ SlOK d1 L e1 ∧ L ≤ e1 ∧ e1 ≤ maxLen ∧ Below wA.heap.size wA wB) := ⟨x1r, x1o, x1p, x1q, x1b⟩
                  clear x1r x1o x1p x1q x1b hR1
                  have HBB : Hid (Below w.heap.size w wB) := HBA.out.trans (X1.out.2.2.2.2.mono HBA.out.size)
                  have hR2 := HI.out.r2.below HBB.out
                  go_upto_if 97 with fail
                  go_cut [2] from 96 (fun s wx => Cp wB n2 (cI zs) s wx)
                  case first =>
                    rcases HI.out.o2 with ⟨rfl, rfl, rfl⟩ | ⟨ad, rfl⟩
                    · go_wp2
                      go_meet
                      case rel => exact ⟨⟨none, 0, rfl, Or.inl rfl, Or.inl ⟨rfl, rfl, rfl⟩, Nat.le_refl _, Nat.zero_le _, Below.refl _ _⟩⟩
                    · obtain ⟨M, W', hmk, hcp, hr, hbb⟩ := copy_new 23 3 _ 8 Tryd.underlying23 Tryd.info3 (by omega) n2 c2 (by have := HZ.out.b2; omega) wB _ _ hR2 (cI_one zs)
                      go_wp2
                      go_meet
                      case rel => exact ⟨⟨_, _, rfl, hr, Or.inr ⟨_, _, rfl⟩, Nat.le_refl _, m2.out, hbb⟩⟩
                  case rest =>
                    obtain ⟨wC, hwA⟩ : ∃ wA, wA = wc := ⟨_, rfl⟩
                    subst hwA
                    obtain ⟨d2, e2, rfl, x2r, x2o, x2p, x2q, x2b⟩ := hcut.ex
                    have X2 : Hid (Rd wC d2 n2 (cI zs) ∧ SlOK d2 n2 e2 ∧ n2 ≤ e2 ∧ e2 ≤ maxLen ∧ Below wB.heap.size wB wC) := ⟨x2r, x2o, x2p, x2q, x2b⟩
                    clear x2r x2o x2p x2q x2b hR2
                    have HBC : Hid (Below w.heap.size w wC) := HBB.out.trans (X2.out.2.2.2.2.mono HBB.out.size)
                    have hR4 := HI.out.r4.below HBC.out
                    go_upto_if 106 with fail
                    go_cut [4] from 105 (fun s wx => Cp wC n4 (cB add) s wx)
                    case first =>
                      rcases HI.out.o4 with ⟨rfl, rfl, rfl⟩ | ⟨ad, rfl⟩
                      · go_wp2
                        go_meet
                        case rel => exact ⟨⟨none, 0, rfl, Or.inl rfl, Or.inl ⟨rfl, rfl, rfl⟩, Nat.le_refl _, Nat.zero_le _, Below.refl _ _⟩⟩
                      · obtain ⟨M, W', hmk, hcp, hr, hbb⟩ := copy_new 25 4 _ 1 Tryd.underlying25 Tryd.info4 (by omega) n4 c4 (by have := HZ.out.b4; omega) wC _ _ hR4 (cB_one add)
                        go_wp2
                        go_meet
                        case rel => exact ⟨⟨_, _, rfl, hr, Or.inr ⟨_, _, rfl⟩, Nat.le_refl _, m4.out, hbb⟩⟩
                    case rest =>
                      obtain ⟨wD, hwA⟩ : ∃ wA, wA = wc := ⟨_, rfl⟩
                      subst hwA
                      obtain ⟨d4, e4, rfl, x4r, x4o, x4p, x4q, x4b⟩ := hcut.ex
                      have X4 : Hid (Rd wD d4 n4 (cB add) ∧ SlOK d4 n4 e4 ∧ n4 ≤ e4 ∧ e4 ≤ maxLen ∧ Below wC.heap.size wC wD) := ⟨x4r, x4o, x4p, x4q, x4b⟩
                      clear x4r x4o x4p x4q x4b hR4
                      have HBD : Hid (Below w.heap.size w wD) := HBC.out.trans (X4.out.2.2.2.2.mono HBC.out.size)
                      have hR5 := HI.out.r5.below HBD.out
                      go_upto_if 115 with fail
                      go_cut [5] from 114 (fun s wx => Cp wD n5 (cI outs) s wx)
                      case first =>
                        rcases HI.out.o5 with ⟨rfl, rfl, rfl⟩ | ⟨ad, rfl⟩
                        · go_wp2
                          go_meet
                          case rel => exact ⟨⟨none, 0, rfl, Or.inl rfl, Or.inl ⟨rfl, rfl, rfl⟩, Nat.le_refl _, Nat.zero_le _, Below.refl _ _⟩⟩
                        · obtain ⟨M, W', hmk, hcp, hr, hbb⟩ := copy_new 23 3 _ 8 Tryd.underlying23 Tryd.info3 (by omega) n5 c5 (by have := HZ.out.b5; omega) wD _ _ hR5 (cI_one outs)
                          go_wp2
                          go_meet
                          case rel => exact ⟨⟨_, _, rfl, hr, Or.inr ⟨_, _, rfl⟩, Nat.le_refl _, m5.out, hbb⟩⟩
                      case rest =>
                        obtain ⟨wE, hwA⟩ : ∃ wA, wA = wc := ⟨_, rfl⟩
                        subst hwA
                        obtain ⟨d5, e5, rfl, x5r, x5o, x5p, x5q, x5b⟩ := hcut.ex
                        have X5 : Hid (Rd wE d5 n5 (cI outs) ∧ SlOK d5 n5 e5 ∧ n5 ≤ e5 ∧ e5 ≤ maxLen ∧ Below wD.heap.size wD wE) := ⟨x5r, x5o, x5p, x5q, x5b⟩
                        clear x5r x5o x5p x5q x5b hR5
                        have HBE : Hid (Below w.heap.size w wE) := HBD.out.trans (X5.out.2.2.2.2.mono HBD.out.size)
                        have b4 := X5.out.2.2.2.2
                        have b3 := X4.out.2.2.2.2.trans (b4.mono X4.out.2.2.2.2.size)
                        have b2 := X2.out.2.2.2.2.trans (b3.mono X2.out.2.2.2.2.size)
                        have b1 := X1.out.2.2.2.2.trans (b2.mono X1.out.2.2.2.2.size)
                        have HA : Hid (Args wE d0 n0 e0 d1 L e1 d2 n2 e2 am R cm d4 n4 e4 d5 n5 e5 input lines zs ms zss add outs) := by
                          refine ⟨HZ.out, HG.out, X0.out.1.below b1, HI.out.l0, ?_, X1.out.1.below b2, HI.out.l1, X1.out.2.1, X1.out.2.2.1, X1.out.2.2.2.1, X2.out.1.below b3, HI.out.l2, HI.out.made.below HBE.out, X4.out.1.below b4, HI.out.l4, X5.out.1, HI.out.l5⟩
                          intro h
                          rcases X0.out.2.1 with ⟨_, _, h1⟩ | ⟨_, _, h1⟩
                          · exact h1
                          · rw [h] at h1; cases h1
                        have P0 : Hid (n0 ≤ e0 ∧ e0 ≤ maxLen) := ⟨X0.out.2.2.1, X0.out.2.2.2.1⟩
                        have hn4 : R = n4 := HG.out.added.symm
                        subst hn4
                        have hsm := fun W => slice_to24 am R cm m HO3.out hmR HI.out.p3 HI.out.q3 W
                        have hsa := fun W => slice_to25 d4 R e4 m (by rcases X4.out.2.1 with h | ⟨b, o, h⟩; exact Or.inl h; exact Or.inr ⟨_, h⟩) (by omega) X4.out.2.2.1 X4.out.2.2.2.1 W
                        have HARGS : Hid (∀ W, Below wE.heap.size wE W → Args W d0 n0 e0 d1 L e1 d2 n2 e2 am R cm d4 R e4 d5 n5 e5 input lines zs ms zss add outs) := fun W hW =>
                          { HA.out with in0 := HA.out.in0.below hW, li0 := HA.out.li0.below hW, at0 := HA.out.at0.below hW, made := HA.out.made.below hW, ad0 := HA.out.ad0.below hW, ou0 := HA.out.ou0.below hW }
                        have HTE2 : Hid ((listing input lines zs (zss.take m) (add.take m) outs m).length ≤ 16777216) := by
                          show _ ≤ _
                          rw [listing_cut m R]
                          have h1 := HTE.out
                          have h2 := headTo_mono input lines zs zss add hmR
                          simp only [listing, List.length_append] at h1 ⊢
                          omega
                        clear b1 b2 b3 b4 X0 X1 X2 X4 X5 HB HBA HBB HBC HBD hcut
                        go_wp2_with fail
                        refine (zz_any d0 n0 e0 d1 L e1 d2 n2 e2 am R cm d4 R e4 d5 n5 e5 input lines zs ms zss add outs wE HA.out P0.out.1 P0.out.2 (HTAB.out.keep (HBE.out.block 1 HTAB.out.lt)) HTE.out).mono ?_
                        rintro e wF ⟨N, g, cap, hN, rfl, hO, hbF⟩
                        have HN := Lib.hid hN
                        have HOF := Lib.hid hO
                        have HBF : Hid (Below w.heap.size w wF) := HBE.out.trans (hbF.mono HBE.out.size)
                        have HBEF := Lib.hid hbF
                        clear hN hO hbF
                        have hcall : ∀ W, Same wF W → Calls Tryd.prog 9 #[.slice d0 n0 e0, .slice d1 L e1, .slice d2 n2 e2, .slice am m cm, .slice d4 m e4, .slice d5 n5 e5] W fun e w' => ∃ N2 g2 cap2, Hid ((headTo input lines zs zss add m ++ (sFin.data.toList ++ linesOf lines zs outs)).length = N2) ∧ e = .returned (.tuple #[.slice (some ⟨g2, 0, none⟩) N2 cap2, .int .i64 (N2 : Int), .bool true]) ∧ Hid (Own0 w' (.slice (some ⟨g2, 0, none⟩) N2 cap2) (headTo input lines zs zss add m ++ (sFin.data.toList ++ linesOf lines zs outs))) ∧ Hid (Below wF.heap.size wF w') := by
                          intro W hW
                          have hWb : Below wF.heap.size wF W := ⟨hW.1, hW.2.1, hW.2.2.1, by rw [hW.2.2.2]; exact Nat.le_refl _, fun k _ => by rw [hW.2.2.2]⟩
                          have hEW : Below wE.heap.size wE W := HBEF.out.trans (hWb.mono HBEF.out.size)
                          have hwW : Below w.heap.size w W := HBF.out.trans (hWb.mono HBF.out.size)
                          refine (zz_any d0 n0 e0 d1 L e1 d2 n2 e2 am m cm d4 m e4 d5 n5 e5 input lines zs (ms.take m) (zss.take m) (add.take m) outs W ((HARGS.out W hEW).cut m hmR) P0.out.1 P0.out.2 (HTAB.out.keep (hwW.block 1 HTAB.out.lt)) HTE2.out).mono ?_
                          rintro e w' ⟨N2, g2, cap2, h1, rfl, h2, h3⟩
                          rw [listing_cut m R] at h1 h2
                          exact ⟨N2, g2, cap2, h1, rfl, h2, hWb.trans (h3.mono hWb.size)⟩
                        go_wp2
                        go_region_held3 (fun W => True) (exact trivial) ((go_at_call 9; refine (hcall _ (by exact ⟨rfl, rfl, rfl, rfl⟩)).mono ?_; rintro e wG ⟨N2, g2, cap2, hN2, rfl, hOG, hbG⟩))
                        clear hcall
                        obtain ⟨X, hX, hX0, hXn⟩ := headTo_pre (input := input) (lines := lines) (zs := zs) (zss := zss) (add := add) m R hmR
                        obtain ⟨Z, hZ⟩ := headTo_open (input := input) (lines := lines) (zs := zs) (zss := zss) (add := add) m
                        obtain ⟨tl, htl⟩ : ∃ tl, tl = sFin.data.toList ++ linesOf lines zs outs := ⟨_, rfl⟩
                        obtain ⟨hm, hhm⟩ : ∃ hm, hm = headTo input lines zs zss add m := ⟨_, rfl⟩
                        rw [← hhm] at hX hZ
                        have hfull : listing input lines zs zss add outs R = (hm ++ X) ++ tl := by
                          unfold listing
                          rw [hX, htl, List.append_assoc]
                        rw [← hhm, ← htl] at hN2 hOG
                        have HN1 := HN.out
                        have HOF1 := HOF.out
                        rw [hfull] at HN1 HOF1
                        obtain ⟨lt, hlt⟩ : ∃ lt, tl.length = lt := ⟨_, rfl⟩
                        obtain ⟨lh, hlh⟩ : ∃ lh, hm.length = lh := ⟨_, rfl⟩
                        obtain ⟨lx, hlx⟩ : ∃ lx, X.length = lx := ⟨_, rfl⟩
                        obtain rfl : N = lh + lx + lt := by rw [← HN1]; simp only [List.length_append]; omega
                        obtain rfl : N2 = lh + lt := by have := hN2.out; rw [← this]; simp only [List.length_append]; omega
                        have hsz : lh + lx + lt ≤ 16777216 := by have := HTE.out; rw [hfull] at this; rw [← HN1]; exact this
                        have HNW : Hid (Now w wE wG wG) := ⟨HBF.out.trans (hbG.out.mono HBF.out.size), HBEF.out.trans (hbG.out.mono HBEF.out.size), Below.refl _ _⟩
                        obtain ⟨f1, f2, f3⟩ := own0_rd (HOF1.below hbG.out)
                        obtain ⟨k1, k2, k3⟩ := own0_rd hOG.out
                        have F1 := Lib.hid f1
                        have K1 := Lib.hid k1
                        have F3 := Lib.hid f3
                        have K3 := Lib.hid k3
                        have HX0 := Lib.hid hX0
                        have HXN := Lib.hid hXn
                        have HZ2 := Lib.hid hZ
                        have HTL2 := Lib.hid htl
                        have LT := Lib.hid hlt
                        have LH := Lib.hid hlh
                        have LX := Lib.hid hlx
                        have HF2 := Lib.hid f2
                        have HK2 := Lib.hid k2
                        unfold maxLen at f3 k3
                        clear hX hX0 hXn hZ htl hhm hfull HN1 HOF1 hlt hlh hlx f1 k1 hN2 hOG hbG HN HOF HTE HTE2
                        have hkc := fun (W : World) (C : Array Value) (n c : Nat) => Lib.run_convert_bytes_const (P := Tryd.prog) W 22 5 C n c Tryd.underlying22 Tryd.underlying5
                        have HAL : Hid (∀ (W : World) (o : Obj), Below W.heap.size W (W.alloc o)) := fun W o => (Below.refl _ _).alloc (Nat.le_refl _) o
                        have HNA : Hid (∀ o, Now w wE wG (wG.alloc o)) := fun o => HNW.out.step (HAL.out wG o)
                        have HLT : Hid (sFin.data.toList.length + (linesOf lines zs outs).length ≤ 1000000000) := by
                          show _ ≤ _
                          have h1 := LT.out
                          rw [HTL2.out, List.length_append] at h1
                          omega
                        have HFA : Hid (∀ {ao : Option Addr} {n : Nat} {f : Nat → Value}, Rd wE ao n f → Far (some wG.heap.size) ao n) := fun h => h.far (fun g hg => by
                          have h1 := HNW.out.b.size
                          have h2 : wG.heap.size = g := Option.some.inj hg
                          omega)
                        go_wp2_with fail
                        refine (lines_any _ sFin.data.toList d1 L e1 lines d2 n2 e2 zs d5 n5 e5 outs _ (by exact own_const wG _ sFin rfl (by decide)) HA.out.li2 (by exact (HARGS.out _ (HNA.out _).b).li0) HI.out.l1 HA.out.li3 HA.out.li4 (by exact (HARGS.out _ (HNA.out _).b).at0) HI.out.l2 m2.out (by exact (HARGS.out _ (HNA.out _).b).ou0) HI.out.l5 m5.out (by exact HFA.out HA.out.li0) (by exact HFA.out HA.out.at0) (by exact HFA.out HA.out.ou0) HG.out.out HLT.out).mono ?_
                        rintro e wH ⟨vT, rfl, hOT, hgT, hLT⟩
                        have HNH : Hid (Now w wE wG wH) := HNW.out.step (below_grown (HAL.out wG _) hgT (fun k hk => by have := Option.some.inj hk; simp at this; omega))
                        rw [← HTL2.out] at hOT
                        obtain ⟨aT, cT, eT, rT, pT, qT, -, -⟩ := hOT.rd
                        rw [LT.out] at eT rT pT
                        subst eT
                        have HRT := Lib.hid rT
                        have hltm : Hid (lt ≤ maxLen) := by show lt ≤ maxLen; unfold maxLen; omega
                        have hlen1 : Hid (((hm ++ X) ++ tl).length = lh + lx + lt) := by
                          show _ = _
                          rw [List.length_append, List.length_append, LT.out, LH.out, LX.out]
                        have hlen2 : Hid ((hm ++ tl).length = lh + lt) := by
                          show _ = _
                          rw [List.length_append, LT.out, LH.out]
                        clear hOT hgT hLT rT pT qT
                        go_wp2_with fail
                        refine (suffix_yes g 0 (lh + lx + lt) cap aT lt cT (hm ++ X) tl _ HF2.out F3.out hltm.out LT.out hlen1.out (F1.out.below HNH.out.c) HRT.out).mono ?_
                        rintro e wI ⟨rfl, hbI⟩
                        have HNI := Lib.hid (HNH.out.step hbI)
                        have HRT2 := Lib.hid (HRT.out.below hbI)
                        clear hbI
                        go_wp2_with fail
                        refine (suffix_yes g2 0 (lh + lt) cap2 aT lt cT hm tl _ HK2.out K3.out hltm.out LT.out hlen2.out (K1.out.below HNI.out.c) HRT2.out).mono ?_
                        rintro e wJ ⟨rfl, hbJ⟩
                        have HNJ := Lib.hid (HNI.out.step hbJ)
                        clear hbJ
                        have HC : Hid (∀ o, Src (wJ.alloc o) d0 n0 input) := fun o => src_all (HARGS.out _ ((HNJ.out.step (HAL.out wJ o)).b)).in0 HI.out.l0
                        have HC0 : Hid (d0 = none → e0 = 0) := HA.out.in2
                        have hn0 := HZ.out.b0
                        have hl0 : Hid (sIn.data.toList.length + n0 ≤ 140737488355328) := by show _ ≤ _; rw [lenIn]; omega
                        have j1 : IntKind.i64.wrap ((lh : Int) + (lx : Int)) = (lh : Int) + (lx : Int) := by rw [IntKind.wrap_i64]; omega
                        have j2 : IntKind.i64.wrap (lh : Int) = (lh : Int) := by rw [IntKind.wrap_i64]; omega
                        have j3 : (lh : Int) + (lx : Int) ≤ (cap : Int) := by have := HF2.out; omega
                        have j4 : (lh : Int) ≤ (cap2 : Int) := by have := HK2.out; omega
                        have j5 : (0 : Int) ≤ (lh : Int) + (lx : Int) := by omega
                        go_wp2_with (at_builtin; refine wp_app rfl _ _ rfl _ sIn.data.toList rfl (by exact own_const wJ _ sIn rfl (by decide)) _ _ _ input rfl (by exact HC.out _) (by exact HC0.out) hl0.out ?_; intro vO wK hoK hgK haK; refine Hid.out ?_)
                        refine Lib.hid ?_
                        have HNK : Hid (Now w wE wG wK) := HNJ.out.step (below_grown (HAL.out wJ _) hgK (fun k hk => by have := Option.some.inj hk; simp at this; omega))
                        obtain ⟨lo, hlo⟩ : ∃ lo, (sIn.data.toList ++ input).length = lo := ⟨_, rfl⟩
                        obtain ⟨aO, cO, eO, rO, pO, qO, -, -⟩ := hoK.rd
                        rw [hlo] at eO rO pO
                        subst eO
                        have HRO := Lib.hid rO
                        have LO2 := Lib.hid hlo
                        have hlom : Hid (lo ≤ maxLen) := by show lo ≤ maxLen; rw [← hlo, List.length_append, lenIn, HI.out.l0]; unfold maxLen; omega
                        clear hoK hgK haK rO pO qO hlo
                        have RC : Hid (∀ W, Below wG.heap.size wG W → Rd W (some ⟨g2, 0, none⟩) lh (cU hm)) := fun W hW => (((K1.out.below hW).short (by omega)).congr fun j hj => (cU_append_left hm tl j (by rw [LH.out]; exact hj)).symm)
                        have RF : Hid (∀ W, Below wG.heap.size wG W → Rd W (some ⟨g, 0, none⟩) (lh + lx) (cU (hm ++ X))) := fun W hW => (((F1.out.below hW).short (by omega)).congr fun j hj => (cU_append_left (hm ++ X) tl j (by rw [List.length_append, LH.out, LX.out]; exact hj)).symm)
                        go_wp2_with fail
                        refine (prefix_yes (some ⟨g2, 0, none⟩) lh cap2 aO lo cO (sIn.data.toList ++ input) Z _ (by have := HK2.out; omega) K3.out hlom.out LO2.out (by rw [← HZ2.out]; exact LH.out) (by rw [← HZ2.out]; exact RC.out _ HNK.out.c) HRO.out).mono ?_
                        rintro e wL ⟨rfl, hbL⟩
                        have HNL := Lib.hid (HNK.out.step hbL)
                        clear hbL
                        go_wp2_with fail
                        refine (prefix_yes (some ⟨g, 0, none⟩) (lh + lx) cap (some ⟨g2, 0, none⟩) lh cap2 hm X _ (by have := HF2.out; omega) F3.out (by unfold maxLen; omega) LH.out (by rw [List.length_append, LH.out, LX.out]) (RF.out _ HNL.out.c) (RC.out _ HNL.out.c)).mono ?_
                        rintro e wM ⟨rfl, hbM⟩
                        have HNM := Lib.hid (HNL.out.step hbM)
                        clear hbM
                        by_cases hmeq : m = R
                        · have hx0 : lx = 0 := by rw [← LX.out, HX0.out hmeq]; rfl
                          subst hx0 hmeq
                          go_wp2
                          all_goals
                            go_ret
                            exact ⟨rfl, HNM.out.a⟩
                        · have hml : m < R := by omega
                          obtain ⟨Y, hY⟩ := HXN.out hml
                          have HY := Lib.hid hY
                          have hdl : 22 ≤ lx := by
                            rw [← LX.out, hY]
                            simp only [List.length_append, lenPre]
                            omega
                          have hcl2 : ¬ cap = lh := by have := HF2.out; omega
                          have hme : ((m : Int) == (R : Int)) = false := by simp; omega
                          have j6 : (lh : Int) ≤ (cap : Int) := by omega
                          have j7 : IntKind.i64.wrap ((m : Int) + 1) = (m : Int) + 1 := by rw [IntKind.wrap_i64]; omega
                          have HD0 : Hid ((Lib.decDigits (m + 1)).length ≤ 20) := by
                            show _ ≤ _
                            rw [Lib.decDigits_length]
                            have := Lib.numDigits_eq (m + 1) (by omega) (by omega)
                            split at this <;> omega
                          clear hY
                          go_wp2_with fail
                          refine (dec_any _ sPre.data.toList (m + 1) ((m : Int) + 1) (by omega) _ (by omega) (by omega) (by exact own_const wM _ sPre rfl (by decide)) (by rw [lenPre]; omega)).mono ?_
                          rintro e wN ⟨vN, rfl, hoN, hgN, hlN⟩
                          have HBN : Hid (Below wM.heap.size wM wN) := below_grown (HAL.out wM _) hgN (fun k hk => by have := Option.some.inj hk; simp at this; omega)
                          have HNewN : Hid (New wM vN) := by
                            intro k hk
                            rcases hlN with h | h
                            · rw [h] at hk; have := Option.some.inj hk; simp at this; omega
                            · have := h k hk; simp at this; omega
                          have HON := Lib.hid hoN
                          clear hoN hgN hlN
                          have l1 : Hid ((sPre.data.toList ++ Lib.decDigits (m + 1)).length + sPost.size ≤ 140737488355328) := by
                            show _ ≤ _
                            have := HD0.out
                            rw [List.length_append, lenPre, Lib.size_eq, lenPost]
                            omega
                          go_wp2_with (at_builtin; refine wp_appS rfl _ _ rfl vN _ rfl HON.out sPost rfl l1.out ?_; intro vP wP hoP hgP haP; refine Hid.out ?_)
                          refine Lib.hid ?_
                          have HBP : Hid (Below wM.heap.size wM wP) := below_grown HBN.out hgP (fun k hk => HNewN.out k hk)
                          have HNewP : Hid (New wM vP) := HNewN.out.later HBN.out.size (later_of haP)
                          have HOP := Lib.hid hoP
                          clear hoP hgP haP
                          have s1 : Hid (Src wP d0 n0 input) := src_all (HARGS.out _ ((HNM.out.step HBP.out).b)).in0 HI.out.l0
                          have l2 : Hid ((sPre.data.toList ++ Lib.decDigits (m + 1) ++ sPost.data.toList).length + n0 ≤ 140737488355328) := by
                            show _ ≤ _
                            have := HD0.out
                            rw [List.length_append, List.length_append, lenPre, lenPost]
                            omega
                          go_wp2_with (at_builtin; refine wp_app rfl _ _ rfl vP _ rfl HOP.out _ _ _ input rfl s1.out HC0.out l2.out ?_; intro vQ wQ hoQ hgQ haQ; refine Hid.out ?_)
                          refine Lib.hid ?_
                          have HBQ : Hid (Below wM.heap.size wM wQ) := below_grown HBP.out hgQ (fun k hk => HNewP.out k hk)
                          have HNQ := Lib.hid (HNM.out.step HBQ.out)
                          obtain ⟨ln, hln⟩ : ∃ ln, (sPre.data.toList ++ Lib.decDigits (m + 1) ++ sPost.data.toList ++ input).length = ln := ⟨_, rfl⟩
                          obtain ⟨aQ, cQ, eQ, rQ, pQ, qQ, -, -⟩ := hoQ.rd
                          rw [hln] at eQ rQ pQ
                          subst eQ
                          have HRQ := Lib.hid rQ
                          have LN := Lib.hid hln
                          have hlnm : Hid (ln ≤ maxLen) := by
                            show ln ≤ maxLen
                            have h1 := LX.out
                            rw [HY.out, List.length_append, hln] at h1
                            unfold maxLen
                            omega
                          have hXY : Hid (((sPre.data.toList ++ Lib.decDigits (m + 1) ++ sPost.data.toList ++ input) ++ Y).length = lx) := by
                            show _ = _
                            rw [← HY.out]; exact LX.out
                          have RR : Hid (Rd wQ (some ⟨g, lh, none⟩) lx (cU ((sPre.data.toList ++ Lib.decDigits (m + 1) ++ sPost.data.toList ++ input) ++ Y))) := by
                            rw [← HY.out]
                            have h1 := (RF.out _ HNQ.out.c).drop (i := lh) (m := lx) (g := cU X) (Nat.le_refl _) (fun j hj => by
                              have h2 := cU_append_right hm X j
                              rw [LH.out] at h2
                              exact h2)
                            rw [Nat.zero_add] at h1
                            exact h1
                          clear hoQ hgQ haQ rQ pQ qQ hln
                          go_wp2_with fail
                          refine (prefix_yes (some ⟨g, lh, none⟩) lx (cap - lh) aQ ln cQ (sPre.data.toList ++ Lib.decDigits (m + 1) ++ sPost.data.toList ++ input) Y _ (by have := HF2.out; omega) (by have := F3.out; omega) hlnm.out LN.out hXY.out RR.out HRQ.out).mono ?_
                          rintro e wR ⟨rfl, hbR⟩
                          go_wp2
                          go_ret
                          exact ⟨rfl, (HNQ.out.step hbR).a⟩
end Go.Proofs.Qxb6625470aDoor

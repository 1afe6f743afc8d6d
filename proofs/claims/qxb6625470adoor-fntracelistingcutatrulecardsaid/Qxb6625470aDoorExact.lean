import Derived.Test.Qxb6625470aDoorCopy
namespace Go.Proofs.Qxb6625470aDoor
open Go.RowKit
set_option linter.unusedVariables false
set_option linter.unusedSimpArgs false

/-- A slice is nil, or it has an address. -/
def SlIn (a : Option Addr) (n c : Nat) : Prop := (a = none ∧ n = 0 ∧ c = 0) ∨ ∃ ad, a = some ad

/-- The six arguments as they came in. -/
structure In (w : World) (a0 : Option Addr) (n0 c0 : Nat) (al : Option Addr) (L cl : Nat) (a2 : Option Addr) (n2 c2 : Nat) (am : Option Addr) (R cm : Nat) (a4 : Option Addr) (n4 c4 : Nat) (a5 : Option Addr) (n5 c5 : Nat)
    (input lines : List UInt8) (zs : List Int) (ms : List Sl) (zss : List (List Int)) (add : List Bool) (outs : List Int) : Prop where
  o0 : SlIn a0 n0 c0
  r0 : Rd w a0 n0 (cU input)
  l0 : input.length = n0
  p0 : n0 ≤ c0
  q0 : c0 ≤ maxLen
  o1 : SlIn al L cl
  r1 : Rd w al L (cU lines)
  l1 : lines.length = L
  p1 : L ≤ cl
  q1 : cl ≤ maxLen
  o2 : SlIn a2 n2 c2
  r2 : Rd w a2 n2 (cI zs)
  l2 : zs.length = n2
  p2 : n2 ≤ c2
  q2 : c2 ≤ maxLen
  made : MadeIs w am R ms zss
  p3 : R ≤ cm
  q3 : cm ≤ maxLen
  o4 : SlIn a4 n4 c4
  r4 : Rd w a4 n4 (cB add)
  l4 : add.length = n4
  p4 : n4 ≤ c4
  q4 : c4 ≤ maxLen
  o5 : SlIn a5 n5 c5
  r5 : Rd w a5 n5 (cI outs)
  l5 : outs.length = n5
  p5 : n5 ≤ c5
  q5 : c5 ≤ maxLen

set_option maxRecDepth 100000 in
set_option maxHeartbeats 12800000 in
theorem exact_any (a0 : Option Addr) (n0 c0 : Nat) (al : Option Addr) (L cl : Nat) (a2 : Option Addr) (n2 c2 : Nat) (am : Option Addr) (R cm : Nat) (a4 : Option Addr) (n4 c4 : Nat) (a5 : Option Addr) (n5 c5 : Nat)
    (input lines : List UInt8) (zs : List Int) (ms : List Sl) (zss : List (List Int)) (add : List Bool) (outs : List Int) (w : World)
    (hI : In w a0 n0 c0 al L cl a2 n2 c2 am R cm a4 n4 c4 a5 n5 c5 input lines zs ms zss add outs) (htab : Tab w) :
    Calls Tryd.prog 3 #[.slice a0 n0 c0, .slice al L cl, .slice a2 n2 c2, .slice am R cm, .slice a4 n4 c4, .slice a5 n5 c5] w fun e w' => e = .returned (.bool true) ∧ Below w.heap.size w w' := by
  have HI := Lib.hid hI
  have HTAB := Lib.hid htab
  have m0 : Hid (n0 ≤ maxLen) := Nat.le_trans hI.p0 hI.q0
  have m1 : Hid (L ≤ maxLen) := Nat.le_trans hI.p1 hI.q1
  have m2 : Hid (n2 ≤ maxLen) := Nat.le_trans hI.p2 hI.q2
  have m3 : Hid (R ≤ maxLen) := Nat.le_trans hI.p3 hI.q3
  have m4 : Hid (n4 ≤ maxLen) := Nat.le_trans hI.p4 hI.q4
  have m5 : Hid (n5 ≤ maxLen) := Nat.le_trans hI.p5 hI.q5
  clear hI htab
  go_enter Tryd.func3, Tryd.ntmps3
  go_wp2_with fail
  refine (bytes5 a0 n0 c0 al L cl a2 n2 c2 am R cm a4 n4 c4 a5 n5 c5 ms zss _ m0.out m1.out m2.out m3.out m4.out m5.out HI.out.made).mono ?_
  rintro e w1 ⟨v1, rfl, hb1⟩
  cases v1 with
  | false =>
    go_wp2
    go_ret
    exact ⟨rfl, hb1⟩
  | true =>
    go_wp2_with fail
    refine (sizeOK_any a0 n0 c0 al L cl a2 n2 c2 am R cm a4 n4 c4 a5 n5 c5 ms zss _ m0.out m1.out m2.out m3.out m4.out m5.out (HI.out.made.below hb1)).mono ?_
    rintro e w2 ⟨v2, rfl, hz, hb2⟩
    have hb12 := hb1.trans (hb2.mono hb1.size)
    cases v2 with
    | false =>
      go_wp2
      go_ret
      exact ⟨rfl, hb12⟩
    | true =>
      have HZ := Lib.hid (hz rfl)
      clear hz
      go_wp2_with fail
      refine (valid_any al L cl a2 n2 c2 am R cm a4 n4 c4 a5 n5 c5 zs ms zss outs _ m1.out m2.out m3.out m4.out m5.out HI.out.l2 (HI.out.r2.below hb12) (HI.out.made.below hb12) HI.out.l5 (HI.out.r5.below hb12)).mono ?_
      rintro e w3 ⟨v3, rfl, hg, hb3⟩
      have hb13 := hb12.trans (hb3.mono hb12.size)
      cases v3 with
      | false =>
        go_wp2
        go_ret
        exact ⟨rfl, hb13⟩
      | true =>
        have HG := Lib.hid (hg rfl)
        have HB := Lib.hid hb13
        clear hg hb1 hb2 hb12 hb3 hb13
        have hR0 := HI.out.r0.below HB.out
        go_upto_if 47 with fail
        go_cut [0] from 46 (fun s wx => Cp w3 n0 (cU input) s wx)
        case first =>
          rcases HI.out.o0 with ⟨rfl, rfl, rfl⟩ | ⟨ad, rfl⟩
          · go_wp2
            go_meet
            case rel => exact ⟨⟨none, 0, rfl, Or.inl rfl, Or.inl ⟨rfl, rfl, rfl⟩, Nat.le_refl _, Nat.zero_le _, Below.refl _ _⟩⟩
          · obtain ⟨M, W', hmk, hcp, hr, hbb⟩ := copy_new 22 5 _ 1 Tryd.underlying22 Tryd.info5 (by omega) n0 c0 (by have := HZ.out.b0; omega) w3 _ _ hR0 (cU_one input)
            go_wp2
            go_meet
            case rel => exact ⟨⟨_, _, rfl, hr, Or.inr ⟨_, _, rfl⟩, Nat.le_refl _, m0.out, hbb⟩⟩
        case rest =>
          obtain ⟨wA, hwA⟩ : ∃ wA, wA = wc := ⟨_, rfl⟩
          subst hwA
          obtain ⟨d0, e0, rfl, x0r, x0o, x0p, x0q, x0b⟩ := hcut.ex
          have X0 : Hid (Rd wA d0 n0 (cU input) ∧ SlOK d0 n0 e0 ∧ n0 ≤ e0 ∧ e0 ≤ maxLen ∧ Below w3.heap.size w3 wA) := ⟨x0r, x0o, x0p, x0q, x0b⟩
          clear x0r x0o x0p x0q x0b hR0
          have HBA : Hid (Below w.heap.size w wA) := HB.out.trans (X0.out.2.2.2.2.mono HB.out.size)
          have hR1 := HI.out.r1.below HBA.out
          go_upto_if 56 with fail
          go_cut [1] from 55 (fun s wx => Cp wA L (cU lines) s wx)
          case first =>
            rcases HI.out.o1 with ⟨rfl, rfl, rfl⟩ | ⟨ad, rfl⟩
            · go_wp2
              go_meet
              case rel => exact ⟨⟨none, 0, rfl, Or.inl rfl, Or.inl ⟨rfl, rfl, rfl⟩, Nat.le_refl _, Nat.zero_le _, Below.refl _ _⟩⟩
            · obtain ⟨M, W', hmk, hcp, hr, hbb⟩ := copy_new 22 5 _ 1 Tryd.underlying22 Tryd.info5 (by omega) L cl (by have := HZ.out.b1; omega) wA _ _ hR1 (cU_one lines)
              go_wp2
              go_meet
              case rel => exact ⟨⟨_, _, rfl, hr, Or.inr ⟨_, _, rfl⟩, Nat.le_refl _, m1.out, hbb⟩⟩
          case rest =>
            obtain ⟨wB, hwA⟩ : ∃ wA, wA = wc := ⟨_, rfl⟩
            subst hwA
            obtain ⟨d1, e1, rfl, x1r, x1o, x1p, x1q, x1b⟩ := hcut.ex
            have X1 : Hid (Rd wB d1 L (cU lines) ∧ SlOK d1 L e1 ∧ L ≤ e1 ∧ e1 ≤ maxLen ∧ Below wA.heap.size wA wB) := ⟨x1r, x1o, x1p, x1q, x1b⟩
            clear x1r x1o x1p x1q x1b hR1
            have HBB : Hid (Below w.heap.size w wB) := HBA.out.trans (X1.out.2.2.2.2.mono HBA.out.size)
            have hR2 := HI.out.r2.below HBB.out
            go_upto_if 65 with fail
            go_cut [2] from 64 (fun s wx => Cp wB n2 (cI zs) s wx)
            case first =>
              rcases HI.out.o2 with ⟨rfl, rfl, rfl⟩ | ⟨ad, rfl⟩
              · go_wp2
                go_meet
                case rel => exact ⟨⟨none, 0, rfl, Or.inl rfl, Or.inl ⟨rfl, rfl, rfl⟩, Nat.le_refl _, Nat.zero_le _, Below.refl _ _⟩⟩
              · obtain ⟨M, W', hmk, hcp, hr, hbb⟩ := copy_new 23 3 _ 8 Tryd.underlying23 Tryd.info3 (by omega) n2 c2 (by have := HZ.out.b2; omega) wB _ _ hR2 (cI_one zs)
                go_wp2
                go_meet
                case rel => exact ⟨⟨_, _, rfl, hr, Or.inr ⟨_, _, rfl⟩, Nat.le_refl _, m2.out, hbb⟩⟩
            case rest =>
              obtain ⟨wC, hwA⟩ : ∃ wA, wA = wc := ⟨_, rfl⟩
              subst hwA
              obtain ⟨d2, e2, rfl, x2r, x2o, x2p, x2q, x2b⟩ := hcut.ex
              have X2 : Hid (Rd wC d2 n2 (cI zs) ∧ SlOK d2 n2 e2 ∧ n2 ≤ e2 ∧ e2 ≤ maxLen ∧ Below wB.heap.size wB wC) := ⟨x2r, x2o, x2p, x2q, x2b⟩
              clear x2r x2o x2p x2q x2b hR2
              have HBC : Hid (Below w.heap.size w wC) := HBB.out.trans (X2.out.2.2.2.2.mono HBB.out.size)
              have hR4 := HI.out.r4.below HBC.out
              go_upto_if 74 with fail
              go_cut [4] from 73 (fun s wx => Cp wC n4 (cB add) s wx)
              case first =>
                rcases HI.out.o4 with ⟨rfl, rfl, rfl⟩ | ⟨ad, rfl⟩
                · go_wp2
                  go_meet
                  case rel => exact ⟨⟨none, 0, rfl, Or.inl rfl, Or.inl ⟨rfl, rfl, rfl⟩, Nat.le_refl _, Nat.zero_le _, Below.refl _ _⟩⟩
                · obtain ⟨M, W', hmk, hcp, hr, hbb⟩ := copy_new 25 4 _ 1 Tryd.underlying25 Tryd.info4 (by omega) n4 c4 (by have := HZ.out.b4; omega) wC _ _ hR4 (cB_one add)
                  go_wp2
                  go_meet
                  case rel => exact ⟨⟨_, _, rfl, hr, Or.inr ⟨_, _, rfl⟩, Nat.le_refl _, m4.out, hbb⟩⟩
              case rest =>
                obtain ⟨wD, hwA⟩ : ∃ wA, wA = wc := ⟨_, rfl⟩
                subst hwA
                obtain ⟨d4, e4, rfl, x4r, x4o, x4p, x4q, x4b⟩ := hcut.ex
                have X4 : Hid (Rd wD d4 n4 (cB add) ∧ SlOK d4 n4 e4 ∧ n4 ≤ e4 ∧ e4 ≤ maxLen ∧ Below wC.heap.size wC wD) := ⟨x4r, x4o, x4p, x4q, x4b⟩
                clear x4r x4o x4p x4q x4b hR4
                have HBD : Hid (Below w.heap.size w wD) := HBC.out.trans (X4.out.2.2.2.2.mono HBC.out.size)
                have hR5 := HI.out.r5.below HBD.out
                go_upto_if 83 with fail
                go_cut [5] from 82 (fun s wx => Cp wD n5 (cI outs) s wx)
                case first =>
                  rcases HI.out.o5 with ⟨rfl, rfl, rfl⟩ | ⟨ad, rfl⟩
                  · go_wp2
                    go_meet
                    case rel => exact ⟨⟨none, 0, rfl, Or.inl rfl, Or.inl ⟨rfl, rfl, rfl⟩, Nat.le_refl _, Nat.zero_le _, Below.refl _ _⟩⟩
                  · obtain ⟨M, W', hmk, hcp, hr, hbb⟩ := copy_new 23 3 _ 8 Tryd.underlying23 Tryd.info3 (by omega) n5 c5 (by have := HZ.out.b5; omega) wD _ _ hR5 (cI_one outs)
                    go_wp2
                    go_meet
                    case rel => exact ⟨⟨_, _, rfl, hr, Or.inr ⟨_, _, rfl⟩, Nat.le_refl _, m5.out, hbb⟩⟩
                case rest =>
                  obtain ⟨wE, hwA⟩ : ∃ wA, wA = wc := ⟨_, rfl⟩
                  subst hwA
                  obtain ⟨d5, e5, rfl, x5r, x5o, x5p, x5q, x5b⟩ := hcut.ex
                  have X5 : Hid (Rd wE d5 n5 (cI outs) ∧ SlOK d5 n5 e5 ∧ n5 ≤ e5 ∧ e5 ≤ maxLen ∧ Below wD.heap.size wD wE) := ⟨x5r, x5o, x5p, x5q, x5b⟩
                  clear x5r x5o x5p x5q x5b hR5
                  have HBE : Hid (Below w.heap.size w wE) := HBD.out.trans (X5.out.2.2.2.2.mono HBD.out.size)
                  have b4 := X5.out.2.2.2.2
                  have b3 := X4.out.2.2.2.2.trans (b4.mono X4.out.2.2.2.2.size)
                  have b2 := X2.out.2.2.2.2.trans (b3.mono X2.out.2.2.2.2.size)
                  have b1 := X1.out.2.2.2.2.trans (b2.mono X1.out.2.2.2.2.size)
                  have HA : Hid (Args wE d0 n0 e0 d1 L e1 d2 n2 e2 am R cm d4 n4 e4 d5 n5 e5 input lines zs ms zss add outs) := by
                    refine ⟨HZ.out, HG.out, X0.out.1.below b1, HI.out.l0, ?_, X1.out.1.below b2, HI.out.l1, X1.out.2.1, X1.out.2.2.1, X1.out.2.2.2.1, X2.out.1.below b3, HI.out.l2, HI.out.made.below HBE.out, X4.out.1.below b4, HI.out.l4, X5.out.1, HI.out.l5⟩
                    intro h
                    rcases X0.out.2.1 with ⟨_, _, h1⟩ | ⟨_, _, h1⟩
                    · exact h1
                    · rw [h] at h1; cases h1
                  have P0 : Hid (n0 ≤ e0 ∧ e0 ≤ maxLen) := ⟨X0.out.2.2.1, X0.out.2.2.2.1⟩
                  obtain ⟨T, hTd⟩ : ∃ T, total input lines zs zss add outs R = T := ⟨_, rfl⟩
                  have HTL : Hid ((listing input lines zs zss add outs R).length = T) := (listing_length input lines zs zss add outs R).trans hTd
                  have hun := unfold_any d0 n0 e0 d1 L e1 d2 n2 e2 am R cm d4 n4 e4 d5 n5 e5 input lines zs ms zss add outs wE HZ.out HG.out HI.out.l0 HI.out.l1 HI.out.l2 HA.out.at0 HA.out.made HI.out.l4 HA.out.ad0 HI.out.l5 HA.out.ou0
                  rw [hTd] at hun
                  have HTD := Lib.hid hTd
                  clear hTd b1 b2 b3 b4 X0 X1 X2 X4 X5 HB HBA HBB HBC HBD hcut
                  go_wp2_with fail
                  refine hun.mono ?_
                  rintro e wF ⟨hor, hbF⟩
                  have HBF : Hid (Below w.heap.size w wF) := HBE.out.trans (hbF.mono HBE.out.size)
                  have hargs : ∀ W, Below wE.heap.size wE W → Args W d0 n0 e0 d1 L e1 d2 n2 e2 am R cm d4 n4 e4 d5 n5 e5 input lines zs ms zss add outs := fun W hW =>
                    { HA.out with in0 := HA.out.in0.below hW, li0 := HA.out.li0.below hW, at0 := HA.out.at0.below hW, made := HA.out.made.below hW, ad0 := HA.out.ad0.below hW, ou0 := HA.out.ou0.below hW }
                  have HARGS := Lib.hid hargs
                  clear hargs hun
                  rcases hor with rfl | ⟨rfl, hTle⟩
                  · go_wp2
                    go_ret
                    exact ⟨rfl, HBF.out⟩
                  · have HTE : Hid ((listing input lines zs zss add outs R).length ≤ 16777216) := by
                      show _ ≤ _
                      rw [HTL.out]; exact hTle
                    have HBEF := Lib.hid hbF
                    clear hbF
                    go_wp2_with fail
                    refine (zz_any d0 n0 e0 d1 L e1 d2 n2 e2 am R cm d4 n4 e4 d5 n5 e5 input lines zs ms zss add outs wF (HARGS.out wF HBEF.out) P0.out.1 P0.out.2 (HTAB.out.keep (HBF.out.block 1 HTAB.out.lt)) HTE.out).mono ?_
                    rintro e wG ⟨N, g, cap, hN, rfl, hO, hbG⟩
                    obtain rfl : N = T := hN.symm.trans HTL.out
                    have HO := Lib.hid hO
                    have HBG : Hid (Below w.heap.size w wG) := HBF.out.trans (hbG.mono HBF.out.size)
                    have HBEG : Hid (Below wE.heap.size wE wG) := HBEF.out.trans (hbG.mono HBEF.out.size)
                    clear hO hbG hN
                    go_wp2_with fail
                    refine (listing_any d0 n0 e0 d1 L e1 d2 n2 e2 am R cm d4 n4 e4 d5 n5 e5 input lines zs ms zss add outs wG (HARGS.out wG HBEG.out) HTE.out).mono ?_
                    rintro e wH ⟨vH, rfl, hOH, hNH, hbH⟩
                    obtain ⟨ao, ca, eH, hrH, _, _, _, _⟩ := hOH.rd
                    rw [HTL.out] at eH hrH
                    subst eH
                    have HRG : Hid (Rd wH (some ⟨g, 0, none⟩) N (cU (listing input lines zs zss add outs R))) := by
                      obtain ⟨ao', ca', e', hr', _, _, _, h6⟩ := HO.out.own.rd
                      rw [HTL.out] at e' hr'
                      injection e' with e1 e2 e3
                      subst e1
                      exact hr'.below hbH
                    have HRH := Lib.hid hrH
                    have HBH : Hid (Below w.heap.size w wH) := HBG.out.trans (hbH.mono HBG.out.size)
                    clear hOH hNH hbH hrH
                    go_wp2_with fail
                    refine (equal_same (some ⟨g, 0, none⟩) N cap ao ca (listing input lines zs zss add outs R) wH (by unfold maxLen; omega) HRG.out HRH.out).mono ?_
                    rintro e wI ⟨rfl, hbI⟩
                    go_wp2
                    go_ret
                    exact ⟨rfl, HBH.out.trans (hbI.mono HBH.out.size)⟩
end Go.Proofs.Qxb6625470aDoor

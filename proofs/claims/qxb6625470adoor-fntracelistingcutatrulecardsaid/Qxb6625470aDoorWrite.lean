import Derived.Test.Qxb6625470aDoorPut
namespace Go.Proofs.Qxb6625470aDoor
open Go.RowKit
set_option linter.unusedVariables false
set_option linter.unusedSimpArgs false
attribute [local go_sem] Go.wp_at_zero Go.wp_at_succ

set_option maxRecDepth 100000 in
set_option maxHeartbeats 6400000 in
/-- (*bufio.Writer).Write. -/
theorem write_any (b bw bb cw : Nat) (v : Value) (bs ps q : List UInt8) (ao : Option Addr) (m c : Nat) (w : World) (h : Pipe w b bw bb cw v bs ps) (hq : q.length = m) (hmc : m ≤ c) (hcm : c ≤ maxLen) (hnil : ao = none → c = 0)
    (hrd : Rd w ao m (cU q)) (hfar : FarS (PS b bw bb cw v) ao m) (hlim : bs.length + ps.length + m ≤ 1000000000) :
    Calls Tryd.prog 23 #[.pointer (some ⟨bw, 0, none⟩), .slice ao m c] w fun e w' => e = .returned (.tuple #[.int .i64 (m : Int), .nilIface]) ∧ ∃ v' bs' ps', bs' ++ ps' = bs ++ ps ++ q ∧ Pipe w' b bw bb cw v' bs' ps' ∧ FrS (PS b bw bb cw v) w w' ∧ Later w v v' := by
  have H0 : Hid (WR w b bw bb cw v bs ps q m (.slice ao m c) (.int .i64 0) w) := ⟨⟨ao, 0, m, c, q, bs, ps, v, rfl, rfl, by omega, hmc, hcm, hnil, hq, hrd, hfar, rfl, h, FrS.refl _ _, Or.inl rfl⟩⟩
  have HLIM : Hid (bs.length + ps.length + m ≤ 1000000000) := hlim
  have HQ : Hid (q.length = m) := hq
  clear h hq hmc hcm hnil hrd hfar hlim
  go_enter Tryd.func23, Tryd.ntmps23
  go_wp2
  go_loopw [1, 4] (fun p nn wr => WR w b bw bb cw v bs ps q m p nn wr) (fun p nn wr => mea bw p wr)
  case atStart => exact H0.out
  case round =>
    obtain ⟨ap, t, m', c', q', bs', ps', v', rfl, rfl, htm, hmc, hcm, hnil, hq', hrd, hfar, heq, hP, hF, hL⟩ := hrel
    obtain ⟨n', hn'⟩ : ∃ n', ps'.length = n' := ⟨_, rfl⟩
    have hlen : bs'.length + n' + m' = bs.length + ps.length + m := by
      have := congrArg List.length heq
      simp only [List.length_append] at this
      rw [HQ.out] at this
      omega
    have hlim := HLIM.out
    have hle := hP.le
    unfold maxLen at hcm
    have HP := Lib.hid hP
    have HQ' := Lib.hid hq'
    have HE := Lib.hid heq
    have HN := Lib.hid hn'
    have HR := Lib.hid hrd
    rw [hn'] at hle
    clear hP hq' heq hrd H0
    go_wp2_with fail
    refine (avail b bw bb cw v' bs' ps' _ HP.out).mono ?_
    rintro e w1 ⟨rfl, hb1⟩
    rw [HN.out]
    have c0 := (HP.out.below hb1).c0
    by_cases hgt : 65536 < m' + n'
    · go_wp2_with fail
      refine (buffered b bw bb cw v' bs' ps' _ (HP.out.below hb1)).mono ?_
      rintro e w2 ⟨rfl, hb2⟩
      rw [HN.out]
      have HP2 := Lib.hid ((HP.out.below hb1).below hb2)
      have hm0 : 0 < m' := by omega
      obtain ⟨b0, o0, e0, _⟩ := HR.out.get 0 hm0
      subst e0
      have hfb : ¬ PS b bw bb cw v b0 := hfar b0 o0 rfl hm0
      have hb0 : b0 < w.heap.size := by
        obtain ⟨b0', o0', e0, hc⟩ := HR.out.get 0 hm0
        simp only [Option.some.injEq, Addr.mk.injEq, and_true] at e0
        obtain ⟨rfl, rfl⟩ := e0
        exact World.block_lt_of_cell? w _ hc
      have hF2 := (hF.below hb1).below hb2
      have hR2 : Hid (Rd w2 (some ⟨b0, o0, none⟩) m' (cU q')) := HR.out.frs hF2 hfar
      have hm : mea bw (.slice (some ⟨b0, o0, none⟩) m' c') wr = m' + n' := by
        unfold mea
        rw [HP.out.c2, HN.out]
        simp
      by_cases hz : n' = 0
      · subst hz
        have hps : ps' = [] := List.length_eq_zero_iff.1 HN.out
        subst hps
        have c3 := HP2.out.c3
        have hmt := fun w => meth_cnt ⟨cw, 0, none⟩ w
        go_wp2_with fail
        refine (cntWrite cw b v' bs' q' ⟨b0, o0, none⟩ m' c' _ HP2.out.cnt HP2.out.buf (Ne.symm HP2.out.d3) HP2.out.f3 HQ'.out (by omega) (by intro e; exact hfb (Or.inl e)) (by have := hR2.out.src (k := m') HQ'.out; rwa [List.take_of_length_le (Nat.le_of_eq HQ'.out)] at this) (by omega)).mono ?_
        rintro e w3 ⟨rfl, v3, hB3, hC3, hF3, hL3⟩
        have HP3 := Lib.hid (HP2.out.pass hB3 hC3 hF3 hL3)
        have d0 := HP3.out.c0
        have z0 := HP3.out.z
        clear hB3 hC3
        go_wp2
        go_roundw
        case rel =>
          refine ⟨_, t + m', 0, c' - m', [], bs' ++ q', [], v3, rfl, by push_cast; rfl, by omega, by omega, by unfold maxLen; omega, ?_, by simp, Or.inl rfl, fun _ _ _ h => absurd h (by omega), by simpa using HE.out, HP3.out.setE, ?_, ?_⟩
          · intro h
            split at h <;> simp at h
          · exact (hF2.trans (FrS.cs (bw := bw) (bb := bb) hF3) (fun i _ h => h) (fun i hi h => PS.later hL i hi h)).setCell _ _ (Or.inr (Or.inl rfl))
          · exact hL.trans hF2.size hL3
        case measure =>
          rw [hm]
          unfold mea
          rw [HP3.out.setE.c2]
          simp
          omega
      · obtain ⟨k, hk⟩ : ∃ k, k = Nat.min m' (65536 - n') := ⟨_, rfl⟩
        have hk2 : k = 65536 - n' := by rw [hk]; exact Nat.min_eq_right (by omega)
        have hcopy := put_copy HP2.out HN.out c' HQ'.out hR2.out k hk
        have HK := Lib.hid hk
        have hkm : k ≤ m' := by omega
        have hkc : k ≤ c' := by omega
        have hkn : n' + k = 65536 := by omega
        clear hk hk2
        have c1 := HP2.out.c1
        have c2 := HP2.out.c2
        rw [HN.out] at c2
        have z2 := HP2.out.z
        have hz0 : ((n' : Int) == 0) = false := by simp; omega
        have i1 : (n' : Int) ≤ 65536 := by omega
        have i2 : (0 : Int) ≤ (n' : Int) := by omega
        go_wp2
        go_region_held3 (fun W => W.cell? ⟨bw, 1, none⟩ = some (.slice (some ⟨bb, 0, none⟩) 65536 65536) ∧ W.cell? ⟨bw, 2, none⟩ = some (.int .i64 (n' : Int))) (first | go_keep | exact ⟨hPut.c1, hPut.c2⟩) ((refine step_copyE (by rfl) _ _ _ (by rfl) (by rfl) (by rfl) _ _ (hcopy _ _ _ _ (by exact ⟨rfl, rfl, rfl, rfl⟩) (by intro hlt; split <;> first | omega | simp)) ?_; intro W' hPut))
        have HPUT := Lib.hid hPut
        have d2 := hPut.c2
        have y2 := hPut.z
        have i3 : IntKind.i64.wrap ((n' : Int) + (k : Int)) = (n' : Int) + (k : Int) := by rw [IntKind.wrap_i64]; omega
        clear hPut hcopy c0 c1 c2 z2
        go_wp2_with fail
        all_goals
          refine (flush_any b bw bb cw v' bs' (ps' ++ q'.take k) _ HPUT.out.pipe (by rw [List.length_append, HN.out, List.length_take, HQ'.out]; omega)).mono ?_
          rintro e w3 ⟨rfl, v3, hP3, hF3, hL3⟩
          have HP3 := Lib.hid hP3
          clear hP3
          go_wp2
          go_roundw
          case rel =>
            have hF4 : FrS (PS b bw bb cw v') w2 w3 := (HPUT.out.fr.setCell _ _ (Or.inr (Or.inl rfl))).trans hF3 (fun i _ h => h) (fun i _ h => h)
            have hL4 : Later w2 v' v3 := by
              rcases hL3 with h | h
              · exact Or.inl h
              · exact Or.inr fun g hg => Nat.le_trans (by have := (HPUT.out.fr.setCell ⟨bw, 2, none⟩ (.int .i64 ((n' : Int) + (k : Int))) (Or.inr (Or.inl rfl))).size; exact this) (h g hg)
            refine ⟨_, t + k, m' - k, c' - k, q'.drop k, bs' ++ (ps' ++ q'.take k), [], v3, rfl, by push_cast; rfl, by omega, by omega, by unfold maxLen; omega, ?_, by rw [List.length_drop, HQ'.out], ?_, ?_, ?_, HP3.out, ?_, ?_⟩
            · intro h
              simp at h
            · exact HR.out.drop (i := k) (m := m' - k) (by omega) (fun j hj => by simp [cU, List.getD_eq_getElem?_getD, List.getElem?_drop])
            · intro b1 o1 e1 _
              simp only [Option.some.injEq, Addr.mk.injEq, and_true] at e1
              rw [← e1.1]; exact hfb
            · rw [← HE.out]
              simp only [List.append_assoc, List.nil_append, List.append_nil, List.take_append_drop]
            · exact hF2.trans hF4 (fun i _ h => h) (fun i hi h => PS.later hL i hi h)
            · exact hL.trans hF2.size hL4
          case measure =>
            rw [hm]
            unfold mea
            rw [HP3.out.c2]
            simp
            omega
    · have hk : m' = Nat.min m' (65536 - n') := (Nat.min_eq_left (by omega)).symm
      have HP1 := Lib.hid (HP.out.below hb1)
      have hF1 := hF.below hb1
      have hR1 : Hid (Rd w1 ap m' (cU q')) := HR.out.frs hF1 hfar
      have hcopy := put_copy HP1.out HN.out c' HQ'.out hR1.out m' hk
      have HK := Lib.hid hk
      clear hk
      have c1 := HP1.out.c1
      have c2 := HP1.out.c2
      rw [HN.out] at c2
      have z2 := HP1.out.z
      have i1 : (n' : Int) ≤ 65536 := by omega
      have i2 : (0 : Int) ≤ (n' : Int) := by omega
      go_wp2
      go_region_held3 (fun W => W.cell? ⟨bw, 1, none⟩ = some (.slice (some ⟨bb, 0, none⟩) 65536 65536) ∧ W.cell? ⟨bw, 2, none⟩ = some (.int .i64 (n' : Int))) (first | go_keep | exact ⟨hPut.c1, hPut.c2⟩) ((refine step_copyE (by rfl) _ _ _ (by rfl) (by rfl) (by rfl) _ _ (hcopy _ _ _ _ (by exact ⟨rfl, rfl, rfl, rfl⟩) (by intro hlt; split <;> first | omega | simp)) ?_; intro W' hPut))
      have HPUT := Lib.hid hPut
      have d2 := hPut.c2
      have y2 := hPut.z
      have i3 : IntKind.i64.wrap ((n' : Int) + (m' : Int)) = (n' : Int) + (m' : Int) := by rw [IntKind.wrap_i64]; omega
      clear hPut hcopy c0 c1 c2 z2
      go_wp2
      all_goals
        go_ret2
        refine ⟨by first | omega | (simp; omega), v', bs', ps' ++ q'.take m', ?_, HPUT.out.pipe, ?_, hL⟩
        · have := HE.out
          simp only [List.append_assoc] at this
          rw [List.take_of_length_le (Nat.le_of_eq HQ'.out)]
          exact this
        · exact (hF1.trans HPUT.out.fr (fun i _ h => h) (fun i hi h => PS.later hL i hi h)).setCell _ _ (Or.inr (Or.inl rfl))
end Go.Proofs.Qxb6625470aDoor

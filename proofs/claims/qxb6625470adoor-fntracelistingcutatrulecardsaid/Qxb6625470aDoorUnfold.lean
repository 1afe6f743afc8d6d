import Derived.Test.Qxb6625470aDoorValid
import Derived.Test.Qxb6625470aDoorPlain
import Derived.Lib.ItoaLen
namespace Go.Proofs.Qxb6625470aDoor
open Go.RowKit
set_option linter.unusedVariables false
set_option linter.unusedSimpArgs false

theorem dLen_eq (n : Nat) : dLen n = Lib.nDigits n := by
  induction n using Nat.strongRecOn with
  | _ n ih =>
    by_cases h : n < 10
    · rw [dLen_small h, Lib.nDigits_small h]
    · rw [dLen_big h, Lib.nDigits_big h, ih (n / 10) (by omega)]

/-- lawUnfold: no answer, or the length of the listing, which is small. -/
def RU (T : Nat) (w : World) (e : Ending) (w' : World) : Prop :=
  (e = .returned (.tuple #[.int .i64 0, .bool false]) ∨ (e = .returned (.tuple #[.int .i64 (T : Int), .bool true]) ∧ T ≤ 16777216)) ∧ Below w.heap.size w w'

/-- What a place that is OK says, in numbers. -/
theorem pl_parts {L : Nat} {zs : List Int} {p : Int} (h : plOK L zs p = true) :
    ∃ k x y : Nat, p = (k : Int) ∧ k + 1 < zs.length ∧ zs.getD k 0 = (x : Int) ∧ zs.getD (k + 1) 0 = (y : Int) ∧ x ≤ y ∧ y ≤ L := by
  simp only [plOK, Bool.and_eq_true, decide_eq_true_eq] at h
  obtain ⟨⟨h1, h2⟩, ⟨h3, h4⟩, h5⟩ := h
  obtain ⟨k, rfl⟩ := Int.eq_ofNat_of_zero_le h1
  rw [Int.toNat_natCast] at h3 h4 h5
  obtain ⟨x, hx⟩ := Int.eq_ofNat_of_zero_le h3
  obtain ⟨y, hy⟩ := Int.eq_ofNat_of_zero_le (show 0 ≤ zs.getD (k + 1) 0 by omega)
  exact ⟨k, x, y, rfl, by omega, hx, hy, by omega, by omega⟩

theorem lineOf_eq {lines : List UInt8} {zs : List Int} {k x y : Nat} (hx : zs.getD k 0 = (x : Int)) (hy : zs.getD (k + 1) 0 = (y : Int)) : lineOf lines zs (k : Int) = (lines.drop x).take (y - x) := by
  unfold lineOf
  rw [Int.toNat_natCast, hx, hy, Int.toNat_natCast, Int.toNat_natCast]

theorem lineOf_length {lines : List UInt8} {zs : List Int} {k x y L : Nat} (hx : zs.getD k 0 = (x : Int)) (hy : zs.getD (k + 1) 0 = (y : Int)) (hxy : x ≤ y) (hL : lines.length = L) (hy2 : y ≤ L) : (lineOf lines zs (k : Int)).length = y - x := by
  rw [lineOf_eq hx hy, List.length_take, List.length_drop]
  omega

theorem linesOf_bound {lines : List UInt8} {zs ps : List Int} {L : Nat} (hL : lines.length = L) (h : ∀ p ∈ ps, plOK L zs p = true) : (linesOf lines zs ps).length ≤ ps.length * L := by
  induction ps with
  | nil => simp [linesOf]
  | cons p ps ih =>
    have e : linesOf lines zs (p :: ps) = lineOf lines zs p ++ linesOf lines zs ps := by simp [linesOf]
    obtain ⟨k, x, y, rfl, _, hx, hy, hxy, hy2⟩ := pl_parts (h p (by simp))
    have := ih fun q hq => h q (by simp [hq])
    rw [e, List.length_append, lineOf_length hx hy hxy hL hy2, List.length_cons, Nat.add_mul, Nat.one_mul]
    omega

/-- The cells of a slice of ints at one place. -/
theorem Rd.at {w wr : World} {ao : Option Addr} {n : Nat} {f : Nat → Value} (h : Rd w ao n f) (hb : Below w.heap.size w wr) (j : Nat) (hj : j < n) : ∃ b o, ao = some ⟨b, o, none⟩ ∧ wr.cell? ⟨b, o + j, none⟩ = some (f j) := by
  rcases h with h | ⟨b, o, e, hc⟩
  · omega
  · exact ⟨b, o, e, by rw [hb.cell (World.block_lt_of_cell? w _ (hc j hj))]; exact hc j hj⟩

theorem declen_at (a : Int) (n : Nat) (w : World) (ha : a = (n : Int)) (h : n ≤ 1000000) :
    Calls Tryd.prog 18 #[.int .i64 a] w fun e w' => ∃ d : Nat, e = .returned (.int .i64 (d : Int)) ∧ d ≤ 20 ∧ Hid (d = Lib.nDigits n) ∧ w' = w := by
  subst ha
  refine (declen_any n w h).mono ?_
  rintro e w' ⟨rfl, rfl⟩
  exact ⟨dLen n, rfl, by rw [dLen_eq]; exact Lib.nDigits_le20 n (by omega), dLen_eq n, rfl⟩

set_option maxRecDepth 100000 in
set_option maxHeartbeats 3200000 in
theorem unfold_any (a0 : Option Addr) (n0 c0 : Nat) (a1 : Option Addr) (n1 c1 : Nat) (a2 : Option Addr) (n2 c2 : Nat) (am : Option Addr) (R cm : Nat) (a4 : Option Addr) (n4 c4 : Nat) (a5 : Option Addr) (n5 c5 : Nat)
    (input lines : List UInt8) (zs : List Int) (ms : List Sl) (zss : List (List Int)) (add : List Bool) (outs : List Int) (w : World)
    (hs : Sized n0 n1 n2 R n4 n5 ms) (hg : Good n1 zs zss R n4 outs) (hin : input.length = n0) (hli : lines.length = n1) (hz : zs.length = n2) (hat : Rd w a2 n2 (cI zs)) (hm : MadeIs w am R ms zss) (had : add.length = n4) (hadd : Rd w a4 n4 (cB add)) (hol : outs.length = n5) (ho : Rd w a5 n5 (cI outs)) :
    Calls Tryd.prog 8 #[.slice a0 n0 c0, .slice a1 n1 c1, .slice a2 n2 c2, .slice am R cm, .slice a4 n4 c4, .slice a5 n5 c5] w (RU (total input lines zs zss add outs R) w) := by
  obtain ⟨q0, q1, q2, q3, q4, q5, q6⟩ := hs
  obtain ⟨hR4, g1, g2⟩ := hg
  have hR4' := hR4.symm
  clear hR4
  subst hR4'
  obtain ⟨M, hM⟩ : ∃ M : Nat, (R + 1) * n0 = M := ⟨_, rfl⟩
  have hM2 : M ≤ 45813334016 := by
    rw [← hM]; exact Nat.le_trans (Nat.mul_le_mul (show R + 1 ≤ 43691 by omega) q0) (by decide)
  have hMi : ((R : Int) + 1) * (n0 : Int) = (M : Int) := by rw [← hM]; push_cast; rfl
  have HM : Hid ((R + 1) * n0 = M) := hM
  have HG1 : Hid (∀ j, j < R → ∀ p ∈ zss.getD j [], plOK n1 zs p = true) := g1
  have HG2 : Hid (∀ p ∈ outs, plOK n1 zs p = true) := g2
  have HQ6 : Hid (∀ j, j < R → (ms.getD j Sl.nil).n ≤ 131072) := q6
  have HT : Hid (total input lines zs zss add outs R = 59 + M + sumTo (fun t => 62 + Lib.nDigits (t + 1)) R + sumTo (fun k => times add R k * lenOf lines zs zss k) R + (linesOf lines zs outs).length) := by
    show total input lines zs zss add outs R = _
    rw [total, hin, hM]
  have HLI : Hid (lines.length = n1) := hli
  have HZ : Hid (zs.length = n2) := hz
  have HAD : Hid (add.length = R) := had
  have HOL : Hid (outs.length = n5) := hol
  clear hM g1 g2 q6 hin hli hz had hol
  go_enter Tryd.func8, Tryd.ntmps8
  go_wp2
  all_goals first | (go_ret2; exact ⟨Or.inl rfl, Below.refl _ _⟩) | skip
  go_loop [15, 16] (fun t i => ∃ k s : Nat, k ≤ R ∧ s ≤ 16777216 ∧ t = .int .i64 s ∧ i = .int .i64 ((k : Int) + 1) ∧ Hid (s = 59 + M + sumTo (fun t => 62 + Lib.nDigits (t + 1)) k)) (fun _ i => R + 1 - (intOf i).toNat)
  case atStart => exact ⟨0, 59 + M, by omega, by omega, by go_num, rfl, rfl⟩
  case round =>
    obtain ⟨k, s, hk, hs, rfl, rfl, hu⟩ := hrel
    by_cases hlt : k < R
    · go_wp2_with fail
      refine (declen_at _ (k + 1) _ (by omega) (by omega)).mono ?_
      rintro e w1 ⟨dl, rfl, hdl, hde, rfl⟩
      have hu' : Hid (s + (22 + dl + 23 + 17) = 59 + M + sumTo (fun t => 62 + Lib.nDigits (t + 1)) (k + 1)) := by
        show _ = _
        rw [sumTo_two, hu.out, hde.out]; omega
      by_cases hc : (16777216 : Int) < (s : Int) + (22 + (dl : Int) + 23 + 17)
      · have hc' : decide ((16777216 : Int) < (s : Int) + (22 + (dl : Int) + 23 + 17)) = true := decide_eq_true hc
        clear hc
        go_wp2_with fail
        go_ret2
        exact ⟨Or.inl rfl, Below.refl _ _⟩
      · have hc' : decide ((16777216 : Int) < (s : Int) + (22 + (dl : Int) + 23 + 17)) = false := decide_eq_false hc
        have hs' : s + (22 + dl + 23 + 17) ≤ 16777216 := by omega
        clear hc
        go_wp2_with fail
        go_round
        case rel => exact ⟨k + 1, s + (22 + dl + 23 + 17), by omega, hs', by go_num, by go_num, hu'⟩
        case measure => simp [intOf]; omega
    · have hkR : k = R := by omega
      subst hkR
      go_wp2
      go_loopw [15, 17] (fun t i wr => ∃ j s : Nat, j ≤ k ∧ s ≤ 16777216 ∧ t = .int .i64 s ∧ i = .int .i64 (j : Int) ∧ Below w.heap.size w wr ∧ Hid (s = 59 + M + sumTo (fun t => 62 + Lib.nDigits (t + 1)) k + sumTo (fun j => times add k j * lenOf lines zs zss j) j)) (fun _ i _ => k - (intOf i).toNat)
      case atStart => exact ⟨0, s, by omega, by omega, rfl, rfl, Below.refl _ _, hu⟩
      case round =>
        obtain ⟨j, s2, hj, hs2, rfl, rfl, hb, hv⟩ := hrel
        by_cases hjl : j < k
        · obtain ⟨i0, i1, i2, i3⟩ := hm.inner j hjl
          obtain ⟨b, o, e, hcw⟩ := hm.row.at hb j hjl
          subst e
          have hq6 := HQ6.out j hjl
          have hg1 := HG1.out j hjl
          unfold cS at hcw
          generalize (ms.getD j Sl.nil).a = ai at hcw i3
          generalize (ms.getD j Sl.nil).n = ni at hcw i0 i1 i3 hq6
          generalize (ms.getD j Sl.nil).c = ci at hcw i1 i2
          have HZK : Hid (∃ zk, zss.getD j [] = zk) := ⟨_, rfl⟩
          obtain ⟨zk, hzk⟩ := HZK.out
          rw [hzk] at i0 i3 hg1
          have HZE : Hid (zss.getD j [] = zk) := hzk
          have HG : Hid (∀ p ∈ zk, plOK n1 zs p = true) := hg1
          have HLZ : Hid (zk.length = ni) := i0
          clear hzk HZK hg1 i0
          obtain ⟨wo, rfl⟩ : ∃ wo : World, wo = wr := ⟨_, rfl⟩
          go_wp2
          go_loopw [18, 61] (fun l i wr => ∃ t lt : Nat, t ≤ ni ∧ l = .int .i64 (lt : Int) ∧ i = .int .i64 (t : Int) ∧ Below w.heap.size w wr ∧ Hid (lt = (linesOf lines zs (zk.take t)).length) ∧ Hid (lt ≤ t * 1048576)) (fun _ i _ => ni - (intOf i).toNat)
          case atStart => exact ⟨0, 0, by omega, rfl, rfl, hb, by show 0 = (linesOf lines zs (zk.take 0)).length; simp [linesOf], by show 0 ≤ 0 * 1048576; omega⟩
          case round =>
            obtain ⟨t, lt, ht, rfl, rfl, hb2, hlt2, hbd⟩ := hrel
            have hbd' : lt ≤ 137438953472 := by have := hbd.out; omega
            by_cases htl : t < ni
            · have hzl := HLZ.out
              obtain ⟨bi, oi, ei, hci⟩ := i3.at hb2 t htl
              subst ei
              have hpl : plOK n1 zs (zk.getD t 0) = true := HG.out _ (by rw [List.getD_eq_getElem?_getD, List.getElem?_eq_getElem (by omega)]; exact List.getElem_mem _)
              obtain ⟨k0, x, y, hp, hk0, hx, hy, hxy, hyL⟩ := pl_parts hpl
              have hzz := HZ.out
              obtain ⟨b2, o2, e2, hcx⟩ := hat.at hb2 k0 (by omega)
              obtain ⟨b2', o2', e2', hcy⟩ := hat.at hb2 (k0 + 1) (by omega)
              rw [e2] at e2'
              simp only [Option.some.injEq, Addr.mk.injEq, and_true] at e2'
              obtain ⟨rfl, rfl⟩ := e2'
              subst e2
              have hlen := lineOf_length (lines := lines) hx hy hxy HLI.out hyL
              have hnew : Hid (lt + (y - x) = (linesOf lines zs (zk.take (t + 1))).length) := by
                show _ = _
                rw [linesOf_take lines zs zk t (by omega), List.length_append, ← hlt2.out, hp, hlen]
              have hbn : Hid (lt + (y - x) ≤ (t + 1) * 1048576) := by
                have := hbd.out
                show lt + (y - x) ≤ (t + 1) * 1048576
                omega
              unfold cI at hci hcx hcy
              rw [hp] at hci
              rw [hx] at hcx
              rw [hy] at hcy
              have i2a : (k0 : Int) + 1 < (n2 : Int) := by omega
              have i2b : (k0 : Int) < (n2 : Int) := by omega
              clear hpl hp hx hy hlen hzl hzz hbd hlt2
              go_wp2
              go_quiet (fail)
              go_wp2
              go_roundw
              case rel => exact ⟨t + 1, lt + (y - x), by omega, by go_num, by go_num, hb2.trans (drewN_below _ _ |>.mono hb2.size), hnew, hbn⟩
              case measure => simp [intOf]; omega
            · have hle : Hid (lt = lenOf lines zs zss j) := by
                show lt = lenOf lines zs zss j
                rw [lenOf, HZE.out, hlt2.out, List.take_of_length_le (by have := HLZ.out; omega)]
              clear hlt2 hbd
              by_cases hbig : (16777216 : Int) < (lt : Int)
              · have hc : decide ((16777216 : Int) < (lt : Int)) = true := decide_eq_true hbig
                clear hbig
                go_wp2
                go_ret2
                exact ⟨Or.inl rfl, hb2⟩
              · have hc : decide ((16777216 : Int) < (lt : Int)) = false := decide_eq_false hbig
                have hsm : lt ≤ 16777216 := by omega
                have hsm' := hsm
                clear hbig
                obtain ⟨b4, o4, e4, hc4⟩ := hadd.at hb2 j hjl
                subst e4
                unfold cB at hc4
                generalize hav : add.getD j false = av at hc4
                have HAV : Hid (add.getD j false = av) := hav
                clear hav
                cases av with
                | true =>
                  obtain ⟨Q, hQ⟩ : ∃ Q : Nat, (k - j) * lt = Q := ⟨_, rfl⟩
                  have hQi : ((k : Int) - (j : Int)) * (lt : Int) = (Q : Int) := by
                    rw [← hQ]; push_cast [Int.ofNat_sub (show j ≤ k by omega)]; rfl
                  have hQ2 : Q ≤ 1466000000000 := by
                    rw [← hQ]; exact Nat.le_trans (Nat.mul_le_mul (show k - j ≤ 87380 by omega) hsm') (by decide)
                  have hnx : Hid (s2 + Q = 59 + M + sumTo (fun t => 62 + Lib.nDigits (t + 1)) k + sumTo (fun j => times add k j * lenOf lines zs zss j) (j + 1)) := by
                    show _ = _
                    have htm : times add k j * lenOf lines zs zss j = Q := by rw [← hle.out, times, HAV.out, if_pos rfl, hQ]
                    rw [sumTo_two (fun j => times add k j * lenOf lines zs zss j) j, htm, hv.out]
                    omega
                  clear hQ
                  by_cases hc2 : (16777216 : Int) < (s2 : Int) + (Q : Int)
                  · have hc' : decide ((16777216 : Int) < (s2 : Int) + (Q : Int)) = true := decide_eq_true hc2
                    clear hc2
                    go_wp2
                    go_ret2
                    exact ⟨Or.inl rfl, hb2⟩
                  · have hc' : decide ((16777216 : Int) < (s2 : Int) + (Q : Int)) = false := decide_eq_false hc2
                    have hs' : s2 + Q ≤ 16777216 := by omega
                    clear hc2
                    go_wp2
                    go_roundw
                    case rel => exact ⟨j + 1, s2 + Q, by omega, hs', by go_num, by go_num, hb2, hnx⟩
                    case measure => simp [intOf]; omega
                | false =>
                  obtain ⟨Q, hQ⟩ : ∃ Q : Nat, (2 * (k - j)) * lt = Q := ⟨_, rfl⟩
                  have hQi : (2 * ((k : Int) - (j : Int))) * (lt : Int) = (Q : Int) := by
                    rw [← hQ]; push_cast [Int.ofNat_sub (show j ≤ k by omega)]; rfl
                  have hQ2 : Q ≤ 1466000000000 := by
                    rw [← hQ]; exact Nat.le_trans (Nat.mul_le_mul (show 2 * (k - j) ≤ 87380 by omega) hsm') (by decide)
                  have hnx : Hid (s2 + Q = 59 + M + sumTo (fun t => 62 + Lib.nDigits (t + 1)) k + sumTo (fun j => times add k j * lenOf lines zs zss j) (j + 1)) := by
                    show _ = _
                    have htm : times add k j * lenOf lines zs zss j = Q := by rw [← hle.out, times, HAV.out, if_neg (by decide), hQ]
                    rw [sumTo_two (fun j => times add k j * lenOf lines zs zss j) j, htm, hv.out]
                    omega
                  clear hQ
                  by_cases hc2 : (16777216 : Int) < (s2 : Int) + (Q : Int)
                  · have hc' : decide ((16777216 : Int) < (s2 : Int) + (Q : Int)) = true := decide_eq_true hc2
                    clear hc2
                    go_wp2
                    go_ret2
                    exact ⟨Or.inl rfl, hb2⟩
                  · have hc' : decide ((16777216 : Int) < (s2 : Int) + (Q : Int)) = false := decide_eq_false hc2
                    have hs' : s2 + Q ≤ 16777216 := by omega
                    clear hc2
                    go_wp2
                    go_roundw
                    case rel => exact ⟨j + 1, s2 + Q, by omega, hs', by go_num, by go_num, hb2, hnx⟩
                    case measure => simp [intOf]; omega
        · have hjk : j = k := by omega
          subst hjk
          have HV : Hid (s2 = 59 + M + sumTo (fun t => 62 + Lib.nDigits (t + 1)) j + sumTo (fun i => times add j i * lenOf lines zs zss i) j) := hv
          clear hv
          obtain ⟨wo, rfl⟩ : ∃ wo : World, wo = wr := ⟨_, rfl⟩
          go_wp2
          go_loopw [15, 99] (fun l i wr => ∃ t lt : Nat, t ≤ n5 ∧ lt ≤ 16777216 ∧ l = .int .i64 (lt : Int) ∧ i = .int .i64 (t : Int) ∧ Below w.heap.size w wr ∧ Hid (lt = s2 + (linesOf lines zs (outs.take t)).length)) (fun _ i _ => n5 - (intOf i).toNat)
          case atStart => exact ⟨0, s2, by omega, hs2, rfl, rfl, hb, by show s2 = s2 + (linesOf lines zs (outs.take 0)).length; simp [linesOf]⟩
          case round =>
            obtain ⟨t, lt, ht, hlm, rfl, rfl, hb2, hlt2⟩ := hrel
            by_cases htl : t < n5
            · have hzl := HOL.out
              obtain ⟨bi, oi, ei, hci⟩ := ho.at hb2 t htl
              subst ei
              have hpl : plOK n1 zs (outs.getD t 0) = true := HG2.out _ (by rw [List.getD_eq_getElem?_getD, List.getElem?_eq_getElem (by omega)]; exact List.getElem_mem _)
              obtain ⟨k0, x, y, hp, hk0, hx, hy, hxy, hyL⟩ := pl_parts hpl
              have hzz := HZ.out
              obtain ⟨b2, o2, e2, hcx⟩ := hat.at hb2 k0 (by omega)
              obtain ⟨b2', o2', e2', hcy⟩ := hat.at hb2 (k0 + 1) (by omega)
              rw [e2] at e2'
              simp only [Option.some.injEq, Addr.mk.injEq, and_true] at e2'
              obtain ⟨rfl, rfl⟩ := e2'
              subst e2
              have hlen := lineOf_length (lines := lines) hx hy hxy HLI.out hyL
              have hnew : Hid (lt + (y - x) = s2 + (linesOf lines zs (outs.take (t + 1))).length) := by
                show _ = _
                rw [linesOf_take lines zs outs t (by omega), List.length_append, hlt2.out, hp, hlen]
                omega
              unfold cI at hci hcx hcy
              rw [hp] at hci
              rw [hx] at hcx
              rw [hy] at hcy
              have i2a : (k0 : Int) + 1 < (n2 : Int) := by omega
              have i2b : (k0 : Int) < (n2 : Int) := by omega
              clear hpl hp hx hy hlen hzl hzz hlt2
              by_cases hc2 : (16777216 : Int) < (lt : Int) + ((y : Int) - (x : Int))
              · have hc' : decide ((16777216 : Int) < (lt : Int) + ((y : Int) - (x : Int))) = true := decide_eq_true hc2
                clear hc2
                go_wp2
                go_quiet (fail)
                go_wp2
                go_ret2
                exact ⟨Or.inl rfl, hb2.trans (drewN_below _ _ |>.mono hb2.size)⟩
              · have hc' : decide ((16777216 : Int) < (lt : Int) + ((y : Int) - (x : Int))) = false := decide_eq_false hc2
                have hs' : lt + (y - x) ≤ 16777216 := by omega
                clear hc2
                go_wp2
                go_quiet (fail)
                go_wp2
                go_roundw
                case rel => exact ⟨t + 1, lt + (y - x), by omega, hs', by go_num, by go_num, hb2.trans (drewN_below _ _ |>.mono hb2.size), hnew⟩
                case measure => simp [intOf]; omega
            · have hfin : Hid (total input lines zs zss add outs j = lt) := by
                show _ = _
                rw [HT.out, hlt2.out, HV.out, List.take_of_length_le (by have := HOL.out; omega)]
              clear hlt2
              go_wp2
              go_ret2
              exact ⟨Or.inr ⟨by rw [hfin.out]; rfl, by rw [hfin.out]; exact hlm⟩, hb2⟩
end Go.Proofs.Qxb6625470aDoor

import Derived.Test.Qxb6625853aWalks
namespace Go.Proofs.Qxb6625853a.fnFieldTestSplitAtAnyPoint
open Go.ChangeShapes Go.WideShapes Go.ChangeAt Go.RowKit
set_option linter.unusedVariables false
set_option linter.unusedSimpArgs false

set_option maxRecDepth 100000 in
set_option maxHeartbeats 800000 in
theorem out1 (lo hi m d : Int) (hc : cyc lo hi m = false) (w : World) :
    Calls Try.prog 4 #[.int .u64 lo, .int .u64 hi, .int .u64 m, .int .u64 d] w fun e w' => e = .returned (.bool true) ∧ Below w.heap.size w w' := by
  go_enter Try.func4, Try.ntmps4
  go_wp2_with fail
  refine (cyc_any _ _ _ _).mono ?_
  rintro e w2 ⟨rfl, rfl⟩
  go_wp2_with fail
  go_ret
  exact ⟨rfl, Below.refl _ _⟩

set_option maxRecDepth 100000 in
set_option maxHeartbeats 800000 in
theorem out2 (lo hi m d : Int) (hc : cyc lo hi m = true) (he : (m == hi) = true) (w : World) :
    Calls Try.prog 4 #[.int .u64 lo, .int .u64 hi, .int .u64 m, .int .u64 d] w fun e w' => e = .returned (.bool true) ∧ Below w.heap.size w w' := by
  go_enter Try.func4, Try.ntmps4
  go_wp2_with fail
  refine (cyc_any _ _ _ _).mono ?_
  rintro e w2 ⟨rfl, rfl⟩
  go_wp2_with fail
  go_ret
  exact ⟨rfl, Below.refl _ _⟩

set_option maxRecDepth 100000 in
set_option maxHeartbeats 3200000 in
theorem core (lo hi m d : Int) (hm : cyc lo hi m = true) (he : (m == hi) = false) (v a b : Bool) (hc : cyc lo hi d = v)
    (h1 : sel lo (wr (hi - lo)) 1 d = v) (h2 : sel lo (wr (m - lo)) 1 d = a) (h3 : sel (IntKind.u64.wrap (m + 1)) (wr (hi - IntKind.u64.wrap (m + 1))) 1 d = b)
    (h4 : sel lo (wr (hi - lo)) 0 d = !v) (h5 : sel lo (wr (m - lo)) 0 d = !a) (h6 : sel (IntKind.u64.wrap (m + 1)) (wr (hi - IntKind.u64.wrap (m + 1))) 0 d = !b)
    (hv : v = (a || b)) (hab : (a && b) = false) (w : World) :
    Calls Try.prog 4 #[.int .u64 lo, .int .u64 hi, .int .u64 m, .int .u64 d] w fun e w' => e = .returned (.bool true) ∧ Below w.heap.size w w' := by
  subst hv
  cases a <;> cases b
  case true.true => simp at hab
  all_goals
    clear hab
    simp only [Bool.not_true, Bool.not_false, Bool.or_true, Bool.or_false, Bool.true_or, Bool.false_or] at h1 h2 h3 h4 h5 h6 hc
    go_enter Try.func4, Try.ntmps4
    go_wp2_with fail
    refine (cyc_any _ _ _ _).mono ?_
    rintro e w0 ⟨rfl, rfl⟩
    go_wp2_with fail
    refine (fields_false _ _ _).mono ?_
    rintro e w1 ⟨rfl, hb1⟩
    go_wp2_with fail
    refine (fields_false _ _ _).mono ?_
    rintro e w2 ⟨rfl, hb2⟩
    go_wp2_with fail
    refine (fields_false _ _ _).mono ?_
    rintro e w3 ⟨rfl, hb3⟩
    go_wp2_with fail
    refine (fields_true _ _ _).mono ?_
    rintro e w4 ⟨rfl, hb4⟩
    go_wp2_with fail
    refine (fields_true _ _ _).mono ?_
    rintro e w5 ⟨rfl, hb5⟩
    go_wp2_with fail
    refine (fields_true _ _ _).mono ?_
    rintro e w6 ⟨rfl, hb6⟩
    go_wp2_with fail
    refine (sel_any _ _ _ _ _).mono ?_
    rintro e w6 ⟨rfl, rfl⟩
    go_wp2_with fail
    refine (sel_any _ _ _ _ _).mono ?_
    rintro e w6 ⟨rfl, rfl⟩
    go_wp2_with fail
    refine (sel_any _ _ _ _ _).mono ?_
    rintro e w6 ⟨rfl, rfl⟩
    go_wp2_with fail
    refine (sel_any _ _ _ _ _).mono ?_
    rintro e w6 ⟨rfl, rfl⟩
    go_wp2_with fail
    refine (sel_any _ _ _ _ _).mono ?_
    rintro e w6 ⟨rfl, rfl⟩
    go_wp2_with fail
    refine (sel_any _ _ _ _ _).mono ?_
    rintro e w6 ⟨rfl, rfl⟩
    go_wp2_with fail
    refine (cyc_any _ _ _ _).mono ?_
    rintro e w6 ⟨rfl, rfl⟩
    go_wp2_with fail
    go_ret
    exact ⟨rfl, by
      have s1 := hb1.size
      have s2 := hb2.size
      have s3 := hb3.size
      have s4 := hb4.size
      have s5 := hb5.size
      exact ((((hb1.trans (hb2.mono (by omega))).trans (hb3.mono (by omega))).trans (hb4.mono (by omega))).trans (hb5.mono (by omega))).trans (hb6.mono (by omega))⟩

theorem cyc_iff (lo hi d : Int) : cyc lo hi d = true ↔ ((lo ≤ hi ∧ lo ≤ d ∧ d ≤ hi) ∨ (¬ lo ≤ hi ∧ (lo ≤ d ∨ d ≤ hi))) := by
  unfold cyc
  by_cases h : lo ≤ hi <;> simp [h]

theorem split_law (lo hi m d : Int) (h1 : 0 ≤ lo) (h2 : lo ≤ 18446744073709551615) (h3 : 0 ≤ hi) (h4 : hi ≤ 18446744073709551615) (h5 : 0 ≤ m) (h6 : m ≤ 18446744073709551615) (h7 : 0 ≤ d) (h8 : d ≤ 18446744073709551615)
    (hm : cyc lo hi m = true) (he : m ≠ hi) :
    cyc lo hi d = (cyc lo m d || cyc (wr (m + 1)) hi d) ∧ (cyc lo m d && cyc (wr (m + 1)) hi d) = false := by
  rw [wr_eq]
  rw [cyc_iff] at hm
  have e : (m + 1) % 18446744073709551616 = (if m = 18446744073709551615 then 0 else m + 1) := by split <;> omega
  rw [e]
  generalize (if m = 18446744073709551615 then 0 else m + 1) = n at e ⊢
  constructor
  · rw [Bool.eq_iff_iff, Bool.or_eq_true, cyc_iff, cyc_iff, cyc_iff]
    omega
  · rw [Bool.eq_false_iff, ne_eq, Bool.and_eq_true, cyc_iff, cyc_iff]
    omega

theorem walk (a0 : Int) (a1 : Int) (a2 : Int) (a3 : Int) (w0 : (Lit.int .u64 a0).wf = true) (w1 : (Lit.int .u64 a1).wf = true) (w2 : (Lit.int .u64 a2).wf = true) (w3 : (Lit.int .u64 a3).wf = true) (w : World) :
    Calls Try.prog 4 #[.int .u64 a0, .int .u64 a1, .int .u64 a2, .int .u64 a3] w fun e w' => e = .returned (.bool true) ∧ Below w.heap.size w w' := by
  have b0 := bounds_u64 w0
  have b1 := bounds_u64 w1
  have b2 := bounds_u64 w2
  have b3 := bounds_u64 w3
  by_cases hm : cyc a0 a1 a2 = true
  · by_cases he : a2 = a1
    · exact out2 a0 a1 a2 a3 hm (by rw [beq_iff_eq]; exact he) w
    · have n0 : 0 ≤ wr (a2 + 1) := by rw [wr_eq]; omega
      have n1 : wr (a2 + 1) ≤ 18446744073709551615 := by rw [wr_eq]; omega
      obtain ⟨e1, e2⟩ := split_law a0 a1 a2 a3 b0.1 b0.2 b1.1 b1.2 b2.1 b2.2 b3.1 b3.2 hm he
      exact core a0 a1 a2 a3 hm (beq_eq_false_iff_ne.2 he) _ _ _ rfl (sel_in a0 a1 a3 b0.1 b0.2 b1.1 b1.2 b3.1 b3.2) (sel_in a0 a2 a3 b0.1 b0.2 b2.1 b2.2 b3.1 b3.2)
        (sel_in (wr (a2 + 1)) a1 a3 n0 n1 b1.1 b1.2 b3.1 b3.2) (sel_out a0 a1 a3 b0.1 b0.2 b1.1 b1.2 b3.1 b3.2) (sel_out a0 a2 a3 b0.1 b0.2 b2.1 b2.2 b3.1 b3.2)
        (sel_out (wr (a2 + 1)) a1 a3 n0 n1 b1.1 b1.2 b3.1 b3.2) e1 e2 w
  · exact out1 a0 a1 a2 a3 (Bool.eq_false_iff.2 hm) w
end Go.Proofs.Qxb6625853a.fnFieldTestSplitAtAnyPoint

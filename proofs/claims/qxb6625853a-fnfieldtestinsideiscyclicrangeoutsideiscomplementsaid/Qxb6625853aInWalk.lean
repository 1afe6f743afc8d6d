import Derived.Test.Qxb6625853aWalks
namespace Go.Proofs.Qxb6625853a.fnFieldTestInsideIsCyclicRangeOutsideIsComplement
open Go.ChangeShapes Go.WideShapes Go.ChangeAt Go.RowKit
set_option linter.unusedVariables false
set_option linter.unusedSimpArgs false

set_option maxRecDepth 100000 in
set_option maxHeartbeats 800000 in
theorem core (lo hi d : Int) (v nv : Bool) (hc : cyc lo hi d = v) (h1 : sel lo (wr (hi - lo)) 1 d = v) (h0 : sel lo (wr (hi - lo)) 0 d = nv) (hn : nv = !v) (w : World) :
    Calls Try.prog 3 #[.int .u64 lo, .int .u64 hi, .int .u64 d] w fun e w' => e = .returned (.bool true) ∧ Below w.heap.size w w' := by
  subst hn
  cases v
  all_goals
    simp only [Bool.not_true, Bool.not_false] at h0
    go_enter Try.func3, Try.ntmps3
    go_wp2_with fail
    refine (fields_false _ _ _).mono ?_
    rintro e w1 ⟨rfl, hb1⟩
    go_wp2_with fail
    refine (fields_true _ _ _).mono ?_
    rintro e w2 ⟨rfl, hb2⟩
    go_wp2_with fail
    refine (cyc_any _ _ _ _).mono ?_
    rintro e w2 ⟨rfl, rfl⟩
    go_wp2_with fail
    refine (sel_any _ _ _ _ _).mono ?_
    rintro e w2 ⟨rfl, rfl⟩
    go_wp2_with fail
    refine (sel_any _ _ _ _ _).mono ?_
    rintro e w2 ⟨rfl, rfl⟩
    go_wp2_with fail
    go_ret
    exact ⟨rfl, hb1.trans (hb2.mono hb1.size)⟩

theorem walk (a0 : Int) (a1 : Int) (a2 : Int) (w0 : (Lit.int .u64 a0).wf = true) (w1 : (Lit.int .u64 a1).wf = true) (w2 : (Lit.int .u64 a2).wf = true) (w : World) :
    Calls Try.prog 3 #[.int .u64 a0, .int .u64 a1, .int .u64 a2] w fun e w' => e = .returned (.bool true) ∧ Below w.heap.size w w' := by
  have b0 := bounds_u64 w0
  have b1 := bounds_u64 w1
  have b2 := bounds_u64 w2
  exact core a0 a1 a2 _ _ rfl (sel_in a0 a1 a2 b0.1 b0.2 b1.1 b1.2 b2.1 b2.2) (sel_out a0 a1 a2 b0.1 b0.2 b1.1 b1.2 b2.1 b2.2) rfl w
end Go.Proofs.Qxb6625853a.fnFieldTestInsideIsCyclicRangeOutsideIsComplement

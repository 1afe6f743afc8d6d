import Derived.Test.Qxb6625853aRows
import Derived.WalkKit
import Derived.ProofKit
import Derived.OpenShut
import Derived.ShutString
import Derived.WalkSpells
import Derived.WalkLawsBesides
namespace Go.Proofs.Qxb6625853a
open Go.ChangeShapes Go.WideShapes Go.ChangeAt Go.RowKit
set_option linter.unusedVariables false
set_option linter.unusedSimpArgs false

def sel (lo span i d : Int) : Bool := (decide (IntKind.u64.wrap (d - lo) ≤ span) == (i == 1))
def wr (a : Int) : Int := IntKind.u64.wrap a
def cyc (lo hi d : Int) : Bool := if lo ≤ hi then decide (lo ≤ d) && decide (d ≤ hi) else decide (lo ≤ d) || decide (d ≤ hi)

set_option maxRecDepth 100000 in
set_option maxHeartbeats 400000 in
theorem sel_any (lo span i d : Int) (w : World) :
    Calls Try.prog 7 #[.int .u64 lo, .int .u64 span, .int .u64 i, .int .u64 d] w fun e w' => e = .returned (.bool (sel lo span i d)) ∧ w' = w := by
  go_enter Try.func7, Try.ntmps7
  go_wp2
  go_ret
  exact ⟨rfl, rfl⟩

set_option maxRecDepth 100000 in
set_option maxHeartbeats 400000 in
theorem cyc_any (lo hi d : Int) (w : World) :
    Calls Try.prog 6 #[.int .u64 lo, .int .u64 hi, .int .u64 d] w fun e w' => e = .returned (.bool (cyc lo hi d)) ∧ w' = w := by
  by_cases h : lo ≤ hi
  · by_cases h1 : lo ≤ d
    · by_cases h2 : d ≤ hi
      · have hk : cyc lo hi d = true := by simp [cyc, h, h1, h2]
        go_enter Try.func6, Try.ntmps6
        go_wp2
        go_ret
        exact ⟨by first | rfl | (rw [hk]; rfl), rfl⟩
      · have hk : cyc lo hi d = false := by simp [cyc, h, h1, h2]
        go_enter Try.func6, Try.ntmps6
        go_wp2
        go_ret
        exact ⟨by first | rfl | (rw [hk]; rfl), rfl⟩
    · have hk : cyc lo hi d = false := by simp [cyc, h, h1]
      go_enter Try.func6, Try.ntmps6
      go_wp2
      go_ret
      exact ⟨by first | rfl | (rw [hk]; rfl), rfl⟩
  · by_cases h1 : lo ≤ d
    · have hk : cyc lo hi d = true := by simp [cyc, h, h1]
      go_enter Try.func6, Try.ntmps6
      go_wp2
      go_ret
      exact ⟨by first | rfl | (rw [hk]; rfl), rfl⟩
    · by_cases h2 : d ≤ hi
      · have hk : cyc lo hi d = true := by simp [cyc, h, h1, h2]
        go_enter Try.func6, Try.ntmps6
        go_wp2
        go_ret
        exact ⟨by first | rfl | (rw [hk]; rfl), rfl⟩
      · have hk : cyc lo hi d = false := by simp [cyc, h, h1, h2]
        go_enter Try.func6, Try.ntmps6
        go_wp2
        go_ret
        exact ⟨by first | rfl | (rw [hk]; rfl), rfl⟩

set_option maxRecDepth 100000 in
set_option maxHeartbeats 400000 in
theorem field_true (lo hi : Int) (w : World) :
    Calls Try.prog 8 #[.int .u64 lo, .int .u64 hi, .bool true] w fun e w' => e = .returned (.agg #[.int .u64 lo, .int .u64 (wr (hi - lo)), .int .u64 0]) ∧ Below w.heap.size w w' := by
  go_enter Try.func8, Try.ntmps8
  go_wp2
  refine bodyPost_ret (v := .agg #[.int .u64 lo, .int .u64 (wr (hi - lo)), .int .u64 0]) (by simp [results, Try.results8, go_sem, wr]) rfl ⟨rfl, ?_⟩
  exact ((Below.refl _ _).alloc (Nat.le_refl _) _).alloc (by simp) _

set_option maxRecDepth 100000 in
set_option maxHeartbeats 400000 in
theorem field_false (lo hi : Int) (w : World) :
    Calls Try.prog 8 #[.int .u64 lo, .int .u64 hi, .bool false] w fun e w' => e = .returned (.agg #[.int .u64 lo, .int .u64 (wr (hi - lo)), .int .u64 1]) ∧ Below w.heap.size w w' := by
  go_enter Try.func8, Try.ntmps8
  go_wp2
  refine bodyPost_ret (v := .agg #[.int .u64 lo, .int .u64 (wr (hi - lo)), .int .u64 1]) (by simp [results, Try.results8, go_sem, wr]) rfl ⟨rfl, ?_⟩
  exact ((Below.refl _ _).alloc (Nat.le_refl _) _).alloc (by simp) _

set_option maxRecDepth 100000 in
set_option maxHeartbeats 400000 in
theorem fields_true (lo hi : Int) (w : World) :
    Calls Try.prog 5 #[.int .u64 lo, .int .u64 hi, .bool true] w fun e w' => e = .returned (.tuple #[.int .u64 lo, .int .u64 (wr (hi - lo)), .int .u64 0]) ∧ Below w.heap.size w w' := by
  go_enter Try.func5, Try.ntmps5
  go_wp2_with fail
  refine (field_true _ _ _).mono ?_
  rintro e w1 ⟨rfl, hb1⟩
  go_wp2_with fail
  go_region
  go_wp2_with fail
  go_ret3
  exact ⟨rfl, (hb1.alloc hb1.size _).drew⟩

set_option maxRecDepth 100000 in
set_option maxHeartbeats 400000 in
theorem fields_false (lo hi : Int) (w : World) :
    Calls Try.prog 5 #[.int .u64 lo, .int .u64 hi, .bool false] w fun e w' => e = .returned (.tuple #[.int .u64 lo, .int .u64 (wr (hi - lo)), .int .u64 1]) ∧ Below w.heap.size w w' := by
  go_enter Try.func5, Try.ntmps5
  go_wp2_with fail
  refine (field_false _ _ _).mono ?_
  rintro e w1 ⟨rfl, hb1⟩
  go_wp2_with fail
  go_region
  go_wp2_with fail
  go_ret3
  exact ⟨rfl, (hb1.alloc hb1.size _).drew⟩

/-! ### The plain law -/
theorem wr_eq (a : Int) : wr a = a % 18446744073709551616 := by
  unfold wr
  simp [IntKind.wrap, IntKind.bits, IntKind.signed]

theorem sel_in (lo hi d : Int) (h1 : 0 ≤ lo) (h2 : lo ≤ 18446744073709551615) (h3 : 0 ≤ hi) (h4 : hi ≤ 18446744073709551615) (h5 : 0 ≤ d) (h6 : d ≤ 18446744073709551615) :
    sel lo (wr (hi - lo)) 1 d = cyc lo hi d := by
  have e : decide (IntKind.u64.wrap (d - lo) ≤ wr (hi - lo)) = cyc lo hi d := by
    show decide (wr (d - lo) ≤ wr (hi - lo)) = cyc lo hi d
    rw [wr_eq, wr_eq]
    unfold cyc
    by_cases h : lo ≤ hi
    · rw [if_pos h, ← Bool.decide_and]
      apply decide_eq_decide.2
      omega
    · rw [if_neg h, ← Bool.decide_or]
      apply decide_eq_decide.2
      omega
  unfold sel
  rw [e]
  simp

theorem sel_out (lo hi d : Int) (h1 : 0 ≤ lo) (h2 : lo ≤ 18446744073709551615) (h3 : 0 ≤ hi) (h4 : hi ≤ 18446744073709551615) (h5 : 0 ≤ d) (h6 : d ≤ 18446744073709551615) :
    sel lo (wr (hi - lo)) 0 d = !cyc lo hi d := by
  have e := sel_in lo hi d h1 h2 h3 h4 h5 h6
  unfold sel at e ⊢
  simp only [beq_self_eq_true, beq_true] at e
  rw [e]
  simp
end Go.Proofs.Qxb6625853a

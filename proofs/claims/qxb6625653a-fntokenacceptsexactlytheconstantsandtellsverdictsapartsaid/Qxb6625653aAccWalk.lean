import Derived.Test.Qxb6625653aWalks
namespace Go.Proofs.Qxb6625653a.fnTokenAcceptsExactlyTheConstantsAndTellsVerdictsApart
open Go.ChangeShapes Go.WideShapes Go.ChangeAt Go.RowKit
set_option linter.unusedVariables false
set_option linter.unusedSimpArgs false

/-! ### The plain law -/
theorem ok_cases {o b : Int} (h : okB o b = true) : o = 0 ∨ ((o = 1 ∨ o = 2) ∧ (b = 0 ∨ b = 1 ∨ b = 2)) := by
  simp [okB] at h
  omega

theorem tok_zero (b : Int) : tokS 0 b = sInc := by simp [tokS, okB]

theorem tok_empty {o b : Int} (h : okB o b = false) : tokS o b = ByteArray.empty := by simp [tokS, h]

theorem tok_some {o b : Int} (h : okB o b = true) : (tokS o b).toList.isEmpty = false := by
  rcases ok_cases h with rfl | ⟨rfl | rfl, rfl | rfl | rfl⟩
  · rw [tok_zero]; decide +kernel
  all_goals decide +kernel

theorem tok_same {ao ab bo bb : Int} (ha : okB ao ab = true) (hb : okB bo bb = true) : ((tokS ao ab).toList == (tokS bo bb).toList) = sameB ao ab bo bb := by
  rcases ok_cases ha with rfl | ⟨rfl | rfl, rfl | rfl | rfl⟩
  · rcases ok_cases hb with rfl | ⟨rfl | rfl, rfl | rfl | rfl⟩
    · rw [tok_zero, tok_zero]; simp [sameB]
    all_goals (rw [tok_zero]; simp [sameB]; decide +kernel)
  all_goals
    rcases ok_cases hb with rfl | ⟨rfl | rfl, rfl | rfl | rfl⟩
    · rw [tok_zero]; simp [sameB]; decide +kernel
    all_goals decide +kernel

set_option maxRecDepth 100000 in
set_option maxHeartbeats 1600000 in
theorem walkTT (ao ab bo bb : Int) (ha : okB ao ab = true) (hb : okB bo bb = true) (sv : Bool) (hs : sameB ao ab bo bb = sv) (w : World) :
    Calls Try.prog 3 #[.int .i64 ao, .int .i64 ab, .int .i64 bo, .int .i64 bb] w fun e w' => e = .returned (.bool true) ∧ Below w.heap.size w w' := by
  have ea := tok_some ha
  have eb := tok_some hb
  have es := tok_same ha hb
  rw [hs] at es
  cases sv
  all_goals
    go_enter Try.func3, Try.ntmps3
    go_wp2_with fail
    refine (ztoken _ _ _).mono ?_
    rintro e w1 ⟨rfl, hb1⟩
    go_wp2_with fail
    refine (ztoken _ _ _).mono ?_
    rintro e w2 ⟨rfl, hb2⟩
    go_wp2_with fail
    refine (valid_any _ _ _).mono ?_
    rintro e w2 ⟨rfl, rfl⟩
    go_wp2_with fail
    refine (valid_any _ _ _).mono ?_
    rintro e w2 ⟨rfl, rfl⟩
    go_wp2_with fail
    refine (same_any _ _ _ _ _).mono ?_
    rintro e w2 ⟨rfl, rfl⟩
    go_wp2_with fail
    go_ret
    exact ⟨rfl, hb1.trans (hb2.mono hb1.size)⟩

set_option maxRecDepth 100000 in
set_option maxHeartbeats 1600000 in
theorem walkR (ao ab bo bb : Int) (va vb : Bool) (ha : okB ao ab = va) (hb : okB bo bb = vb) (hn : (va && vb) = false) (w : World) :
    Calls Try.prog 3 #[.int .i64 ao, .int .i64 ab, .int .i64 bo, .int .i64 bb] w fun e w' => e = .returned (.bool true) ∧ Below w.heap.size w w' := by
  have ea : (tokS ao ab).toList.isEmpty = !va := by
    cases va
    · rw [tok_empty ha]; decide +kernel
    · exact tok_some ha
  have eb : (tokS bo bb).toList.isEmpty = !vb := by
    cases vb
    · rw [tok_empty hb]; decide +kernel
    · exact tok_some hb
  cases va <;> cases vb
  all_goals simp only [Bool.not_true, Bool.not_false] at ea eb
  case true.true => simp at hn
  all_goals
    clear hn
    go_enter Try.func3, Try.ntmps3
    go_wp2_with fail
    refine (ztoken _ _ _).mono ?_
    rintro e w1 ⟨rfl, hb1⟩
    go_wp2_with fail
    refine (ztoken _ _ _).mono ?_
    rintro e w2 ⟨rfl, hb2⟩
    go_wp2_with fail
    refine (valid_any _ _ _).mono ?_
    rintro e w2 ⟨rfl, rfl⟩
    go_wp2_with fail
    refine (valid_any _ _ _).mono ?_
    rintro e w2 ⟨rfl, rfl⟩
    go_wp2_with fail
    go_ret
    exact ⟨rfl, hb1.trans (hb2.mono hb1.size)⟩

theorem walk (a0 : Int) (a1 : Int) (a2 : Int) (a3 : Int) (w : World) :
    Calls Try.prog 3 #[.int .i64 a0, .int .i64 a1, .int .i64 a2, .int .i64 a3] w fun e w' => e = .returned (.bool true) ∧ Below w.heap.size w w' := by
  by_cases ha : okB a0 a1 = true
  · by_cases hb : okB a2 a3 = true
    · exact walkTT a0 a1 a2 a3 ha hb _ rfl w
    · exact walkR a0 a1 a2 a3 _ _ rfl rfl (by rw [Bool.eq_false_iff.2 hb, Bool.and_false]) w
  · exact walkR a0 a1 a2 a3 _ _ rfl rfl (by rw [Bool.eq_false_iff.2 ha, Bool.false_and]) w
end Go.Proofs.Qxb6625653a.fnTokenAcceptsExactlyTheConstantsAndTellsVerdictsApart

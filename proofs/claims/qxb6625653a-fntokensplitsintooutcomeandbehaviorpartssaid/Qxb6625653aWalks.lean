import Derived.Test.Qxb6625653aRows
import Derived.WalkKit
import Derived.ProofKit
import Derived.OpenShut
import Derived.ShutString
import Derived.WalkSpells
import Derived.WalkLawsBesides
namespace Go.Proofs.Qxb6625653a
open Go.ChangeShapes Go.WideShapes Go.ChangeAt Go.RowKit
set_option linter.unusedVariables false
set_option linter.unusedSimpArgs false

def sInc : ByteArray := ⟨#[105, 110, 99, 111, 110, 99, 108, 117, 115, 105, 118, 101]⟩
def sOcc : ByteArray := ⟨#[111, 99, 99, 117, 114, 114, 101, 100]⟩
def sPre : ByteArray := ⟨#[112, 114, 101, 118, 101, 110, 116, 101, 100]⟩
def sWait : ByteArray := ⟨#[47, 119, 97, 105, 116]⟩
def sAbort : ByteArray := ⟨#[47, 97, 98, 111, 114, 116]⟩

def word (o : Int) : ByteArray := if o = 1 then sOcc else sPre
def tail (b : Int) : ByteArray := if b = 0 then ByteArray.empty else if b = 1 then sWait else sAbort
def okB (o b : Int) : Bool := decide (o = 0) || ((decide (o = 1) || decide (o = 2)) && (decide (0 ≤ b) && decide (b ≤ 2)))
def tokS (o b : Int) : ByteArray := if okB o b = false then ByteArray.empty else if o = 0 then sInc else word o ++ tail b

theorem ret_two {s s' : ByteArray} {b b' : Bool} (h : s = s') (h' : b = b') : Ending.returned (.tuple #[.string s, .bool b]) = .returned (.tuple #[.string s', .bool b']) := by rw [h, h']

set_option maxRecDepth 100000 in
set_option maxHeartbeats 800000 in
theorem token_zero (b : Int) (w : World) :
    Calls Try.prog 10 #[.agg #[.int .i64 0, .int .i64 b]] w fun e w' => e = .returned (.tuple #[.string (tokS 0 b), .bool (okB 0 b)]) ∧ Below w.heap.size w w' := by
  go_enter Try.func10, Try.ntmps10
  go_wp2
  go_ret2
  exact ⟨ret_two (by simp [tokS, okB, sInc]) (by simp [okB]), (Below.refl _ _).alloc (Nat.le_refl _) _⟩

set_option maxRecDepth 100000 in
set_option maxHeartbeats 800000 in
theorem token_else (o b : Int) (h0 : (o == 0) = false) (h1 : (o == 1) = false) (h2 : (o == 2) = false) (w : World) :
    Calls Try.prog 10 #[.agg #[.int .i64 o, .int .i64 b]] w fun e w' => e = .returned (.tuple #[.string (tokS o b), .bool (okB o b)]) ∧ Below w.heap.size w w' := by
  have e0 : ¬ o = 0 := beq_eq_false_iff_ne.1 h0
  have e1 : ¬ o = 1 := beq_eq_false_iff_ne.1 h1
  have e2 : ¬ o = 2 := beq_eq_false_iff_ne.1 h2
  have hk : okB o b = false := by simp [okB, e0, e1, e2]
  have ht : tokS o b = ByteArray.empty := by simp [tokS, hk]
  clear e0 e1 e2
  go_enter Try.func10, Try.ntmps10
  go_wp2
  go_ret2
  exact ⟨ret_two (by rw [ht]; rfl) hk.symm, (Below.refl _ _).alloc (Nat.le_refl _) _⟩

set_option maxRecDepth 100000 in
set_option maxHeartbeats 800000 in
theorem token_one (b : Int) (w : World) :
    Calls Try.prog 10 #[.agg #[.int .i64 1, .int .i64 b]] w fun e w' => e = .returned (.tuple #[.string (tokS 1 b), .bool (okB 1 b)]) ∧ Below w.heap.size w w' := by
  by_cases b0 : b = 0
  · subst b0
    go_enter Try.func10, Try.ntmps10
    go_wp2
    go_ret2
    exact ⟨ret_two (by decide +kernel) (by simp [okB]), (Below.refl _ _).alloc (Nat.le_refl _) _⟩
  · by_cases b1 : b = 1
    · subst b1
      go_enter Try.func10, Try.ntmps10
      go_wp2
      go_ret2
      exact ⟨ret_two (by decide +kernel) (by simp [okB]), (Below.refl _ _).alloc (Nat.le_refl _) _⟩
    · by_cases b2 : b = 2
      · subst b2
        go_enter Try.func10, Try.ntmps10
        go_wp2
        go_ret2
        exact ⟨ret_two (by decide +kernel) (by simp [okB]), (Below.refl _ _).alloc (Nat.le_refl _) _⟩
      · have hk : okB 1 b = false := by simp [okB]; omega
        have ht : tokS 1 b = ByteArray.empty := by simp [tokS, hk]
        have h0 : (b == 0) = false := beq_eq_false_iff_ne.2 b0
        have h1 : (b == 1) = false := beq_eq_false_iff_ne.2 b1
        have h2 : (b == 2) = false := beq_eq_false_iff_ne.2 b2
        clear b0 b1 b2
        go_enter Try.func10, Try.ntmps10
        go_wp2
        go_ret2
        exact ⟨ret_two (by rw [ht]; rfl) hk.symm, (Below.refl _ _).alloc (Nat.le_refl _) _⟩
set_option maxRecDepth 100000 in
set_option maxHeartbeats 800000 in
theorem token_two (b : Int) (w : World) :
    Calls Try.prog 10 #[.agg #[.int .i64 2, .int .i64 b]] w fun e w' => e = .returned (.tuple #[.string (tokS 2 b), .bool (okB 2 b)]) ∧ Below w.heap.size w w' := by
  by_cases b0 : b = 0
  · subst b0
    go_enter Try.func10, Try.ntmps10
    go_wp2
    go_ret2
    exact ⟨ret_two (by decide +kernel) (by simp [okB]), (Below.refl _ _).alloc (Nat.le_refl _) _⟩
  · by_cases b1 : b = 1
    · subst b1
      go_enter Try.func10, Try.ntmps10
      go_wp2
      go_ret2
      exact ⟨ret_two (by decide +kernel) (by simp [okB]), (Below.refl _ _).alloc (Nat.le_refl _) _⟩
    · by_cases b2 : b = 2
      · subst b2
        go_enter Try.func10, Try.ntmps10
        go_wp2
        go_ret2
        exact ⟨ret_two (by decide +kernel) (by simp [okB]), (Below.refl _ _).alloc (Nat.le_refl _) _⟩
      · have hk : okB 2 b = false := by simp [okB]; omega
        have ht : tokS 2 b = ByteArray.empty := by simp [tokS, hk]
        have h0 : (b == 0) = false := beq_eq_false_iff_ne.2 b0
        have h1 : (b == 1) = false := beq_eq_false_iff_ne.2 b1
        have h2 : (b == 2) = false := beq_eq_false_iff_ne.2 b2
        clear b0 b1 b2
        go_enter Try.func10, Try.ntmps10
        go_wp2
        go_ret2
        exact ⟨ret_two (by rw [ht]; rfl) hk.symm, (Below.refl _ _).alloc (Nat.le_refl _) _⟩

theorem token_any (o b : Int) (w : World) :
    Calls Try.prog 10 #[.agg #[.int .i64 o, .int .i64 b]] w fun e w' => e = .returned (.tuple #[.string (tokS o b), .bool (okB o b)]) ∧ Below w.heap.size w w' := by
  by_cases h0 : o = 0
  · subst h0; exact token_zero b w
  by_cases h1 : o = 1
  · subst h1; exact token_one b w
  by_cases h2 : o = 2
  · subst h2; exact token_two b w
  exact token_else o b (beq_eq_false_iff_ne.2 h0) (beq_eq_false_iff_ne.2 h1) (beq_eq_false_iff_ne.2 h2) w

set_option maxRecDepth 100000 in
set_option maxHeartbeats 800000 in
theorem ztoken (o b : Int) (w : World) :
    Calls Try.prog 5 #[.agg #[.int .i64 o, .int .i64 b]] w fun e w' => e = .returned (.tuple #[.string (tokS o b), .bool (okB o b)]) ∧ Below w.heap.size w w' := by
  go_enter Try.func5, Try.ntmps5
  go_wp2_with fail
  refine (token_any _ _ _).mono ?_
  rintro e w1 ⟨rfl, hb1⟩
  go_wp2_with fail
  go_ret2
  exact ⟨rfl, ((Below.refl _ _).alloc (Nat.le_refl _) _).trans (hb1.mono (by simp))⟩

theorem valid_any (o b : Int) (w : World) :
    Calls Try.prog 6 #[.int .i64 o, .int .i64 b] w fun e w' => e = .returned (.bool (okB o b)) ∧ w' = w := by
  by_cases h0 : o = 0
  · subst h0
    go_enter Try.func6, Try.ntmps6
    go_wp2
    go_ret
    exact ⟨by simp [okB], rfl⟩
  by_cases h12 : o = 1 ∨ o = 2
  · by_cases hb0 : 0 ≤ b
    · by_cases hb2 : b ≤ 2
      · have hk : okB o b = true := by rcases h12 with rfl | rfl <;> simp [okB, hb0, hb2]
        rcases h12 with rfl | rfl
        all_goals
          go_enter Try.func6, Try.ntmps6
          go_wp2
          go_ret
          exact ⟨by first | rfl | rw [hk]; rfl, rfl⟩
      · have hk : okB o b = false := by rcases h12 with rfl | rfl <;> simp [okB, hb0, hb2]
        rcases h12 with rfl | rfl
        all_goals
          go_enter Try.func6, Try.ntmps6
          go_wp2
          go_ret
          exact ⟨by first | rfl | rw [hk]; rfl, rfl⟩
    · have hk : okB o b = false := by rcases h12 with rfl | rfl <;> simp [okB, hb0]
      rcases h12 with rfl | rfl
      all_goals
        go_enter Try.func6, Try.ntmps6
        go_wp2
        go_ret
        exact ⟨by first | rfl | rw [hk]; rfl, rfl⟩
  · have h1 : ¬ o = 1 := fun h => h12 (Or.inl h)
    have h2 : ¬ o = 2 := fun h => h12 (Or.inr h)
    have hk : okB o b = false := by simp [okB, h0, h1, h2]
    have e0 : (o == 0) = false := beq_eq_false_iff_ne.2 h0
    have e1 : (o != 1) = true := bne_iff_ne.2 h1
    have e2 : (o != 2) = true := bne_iff_ne.2 h2
    clear h0 h1 h2 h12
    go_enter Try.func6, Try.ntmps6
    go_wp2
    go_ret
    exact ⟨by first | rfl | rw [hk]; rfl, rfl⟩

def sameB (ao ab bo bb : Int) : Bool := decide (ao = bo) && (decide (ao = 0) || decide (ab = bb))

theorem same_any (ao ab bo bb : Int) (w : World) :
    Calls Try.prog 7 #[.int .i64 ao, .int .i64 ab, .int .i64 bo, .int .i64 bb] w fun e w' => e = .returned (.bool (sameB ao ab bo bb)) ∧ w' = w := by
  by_cases h : ao = bo
  · subst h
    by_cases h0 : ao = 0
    · subst h0
      go_enter Try.func7, Try.ntmps7
      go_wp2
      go_ret
      exact ⟨by simp [sameB], rfl⟩
    · have e0 : (ao == 0) = false := beq_eq_false_iff_ne.2 h0
      by_cases h1 : ab = bb
      · subst h1
        clear h0
        go_enter Try.func7, Try.ntmps7
        go_wp2
        go_ret
        exact ⟨by simp [sameB], rfl⟩
      · have hk : sameB ao ab ao bb = false := by simp [sameB, h0, h1]
        have e1 : (ab == bb) = false := beq_eq_false_iff_ne.2 h1
        clear h0 h1
        go_enter Try.func7, Try.ntmps7
        go_wp2
        go_ret
        exact ⟨by first | rfl | rw [hk]; rfl, rfl⟩
  · have hk : sameB ao ab bo bb = false := by simp [sameB, h]
    have e : (ao != bo) = true := bne_iff_ne.2 h
    clear h
    go_enter Try.func7, Try.ntmps7
    go_wp2
    go_ret
    exact ⟨by first | rfl | rw [hk]; rfl, rfl⟩

set_option maxRecDepth 100000 in
set_option maxHeartbeats 800000 in
theorem slash_any (s : ByteArray) (hs : s.size ≤ maxLen) (v : Bool) (hv : s.data.toList.contains 47 = v) (w : World) :
    Calls Try.prog 8 #[.string s] w fun e w' => e = .returned (.bool v) ∧ w' = w := by
  unfold maxLen at hs
  have HV : Hid (s.data.toList.contains 47 = v) := hv
  clear hv
  go_enter Try.func8, Try.ntmps8
  go_wp2
  go_loop [3] (fun i => ∃ k : Nat, k ≤ s.size ∧ i = .int .i64 k ∧ Hid (∀ j, (hj : j < s.size) → j < k → s[j] ≠ 47)) (fun i => s.size - (intOf i).toNat)
  case atStart => exact ⟨0, Nat.zero_le _, rfl, fun j hj h => absurd h (by omega)⟩
  case round =>
    obtain ⟨k, hk, rfl, hu⟩ := hrel
    by_cases hlt : k < s.size
    · by_cases hc : (s[k].toNat : Int) = 47
      · have e1 : ((s[k].toNat : Int) == 47) = true := by rw [beq_iff_eq]; exact hc
        obtain rfl : true = v := by
          have h47 : s[k] = 47 := UInt8.toNat_inj.1 (by show s[k].toNat = 47; omega)
          rw [← HV.out]
          symm
          rw [List.contains_iff_mem, ← h47]
          exact List.getElem_mem (l := s.data.toList) (by simpa using hlt)
        clear hc
        go_wp2
        go_ret
        exact ⟨rfl, rfl⟩
      · have e1 : ((s[k].toNat : Int) == 47) = false := beq_eq_false_iff_ne.2 hc
        have hnew : Hid (∀ j, (hj : j < s.size) → j < k + 1 → s[j] ≠ 47) := fun j hj h => by
          rcases Nat.lt_or_ge j k with h' | h'
          · exact hu.out j hj h'
          · obtain rfl : j = k := by omega
            intro h47
            exact hc (by rw [h47]; rfl)
        clear hc
        go_wp2
        go_round
        case rel => exact ⟨k + 1, by omega, by go_num, hnew⟩
        case measure => simp [intOf]; omega
    · obtain rfl : false = v := by
        rw [← HV.out]
        symm
        rw [Bool.eq_false_iff, ne_eq, List.contains_iff_mem]
        intro hm
        obtain ⟨j, hj, h47⟩ := List.getElem_of_mem hm
        have hj' : j < s.size := by simpa using hj
        exact hu.out j hj' (by omega) h47
      go_wp2
      go_ret
      exact ⟨rfl, rfl⟩
end Go.Proofs.Qxb6625653a

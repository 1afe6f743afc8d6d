import Derived.Test.Qxb6625470aDoorUnfold
namespace Go.Proofs.Qxb6625470aDoor
open Go.RowKit
set_option linter.unusedVariables false
set_option linter.unusedSimpArgs false

set_option maxRecDepth 100000 in
set_option maxHeartbeats 800000 in
/-- lawEqual of two slices that hold the same bytes. -/
theorem equal_same (aa : Option Addr) (n ca : Nat) (ab : Option Addr) (cb : Nat) (xs : List UInt8) (w : World) (hn : n ≤ maxLen) (ha : Rd w aa n (cU xs)) (hb : Rd w ab n (cU xs)) :
    Calls Tryd.prog 10 #[.slice aa n ca, .slice ab n cb] w fun e w' => e = .returned (.bool true) ∧ Below w.heap.size w w' := by
  unfold maxLen at hn
  go_enter Tryd.func10, Tryd.ntmps10
  go_wp2
  go_loopw [5] (fun i wr => ∃ k : Nat, k ≤ n ∧ i = .int .i64 (k : Int) ∧ Below w.heap.size w wr) (fun i _ => n - (intOf i).toNat)
  case atStart => exact ⟨0, by omega, rfl, Below.refl _ _⟩
  case round =>
    obtain ⟨k, hk, rfl, hb2⟩ := hrel
    by_cases hlt : k < n
    · obtain ⟨b1, o1, e1, hc1⟩ := ha.at hb2 k hlt
      obtain ⟨b3, o3, e3, hc3⟩ := hb.at hb2 k hlt
      subst e1
      subst e3
      unfold cU at hc1 hc3
      generalize ((xs.getD k 0).toNat : Int) = q at hc1 hc3
      have i1 : (k : Int) < (n : Int) := by omega
      have i0 : (0 : Int) ≤ (k : Int) := by omega
      go_wp2
      go_quiet (fail)
      go_wp2
      go_roundw
      case rel => exact ⟨k + 1, by omega, by go_num, hb2.trans (drewN_below _ _ |>.mono hb2.size)⟩
      case measure => simp [intOf]; omega
    · go_wp2
      go_ret
      exact ⟨rfl, hb2⟩

/-- A stretch of a slice that is read. -/
theorem Rd.drop {w : World} {b o n i m : Nat} {f g : Nat → Value} (h : Rd w (some ⟨b, o, none⟩) n f) (hm : i + m ≤ n) (hg : ∀ j, j < m → g j = f (i + j)) : Rd w (some ⟨b, o + i, none⟩) m g := by
  rcases h with h | ⟨b', o', e, hc⟩
  · exact Or.inl (by omega)
  · simp only [Option.some.injEq, Addr.mk.injEq, and_true] at e
    obtain ⟨rfl, rfl⟩ := e
    exact Or.inr ⟨b, o + i, rfl, fun j hj => by rw [hg j hj, Nat.add_assoc]; exact hc (i + j) (by omega)⟩

theorem cU_append_left (xs ys : List UInt8) (j : Nat) (h : j < xs.length) : cU xs j = cU (xs ++ ys) j := by
  simp [cU, List.getElem?_append_left h]

theorem cU_append_right (xs ys : List UInt8) (j : Nat) : cU ys j = cU (xs ++ ys) (xs.length + j) := by
  simp only [cU, List.getD_eq_getElem?_getD]
  rw [List.getElem?_append_right (by omega), Nat.add_sub_cancel_left]

theorem Rd.congr {w : World} {ao : Option Addr} {n : Nat} {f g : Nat → Value} (h : Rd w ao n f) (hg : ∀ j, j < n → f j = g j) : Rd w ao n g := by
  rcases h with h | ⟨b, o, e, hc⟩
  · exact Or.inl h
  · exact Or.inr ⟨b, o, e, fun j hj => by rw [← hg j hj]; exact hc j hj⟩

theorem Rd.short {w : World} {ao : Option Addr} {n m : Nat} {f : Nat → Value} (h : Rd w ao n f) (hm : m ≤ n) : Rd w ao m f := by
  rcases h with h | ⟨b, o, e, hc⟩
  · exact Or.inl (by omega)
  · exact Or.inr ⟨b, o, e, fun j hj => hc j (by omega)⟩

set_option maxRecDepth 100000 in
set_option maxHeartbeats 800000 in
/-- lawHasPrefix where the one begins with the other. -/
theorem prefix_yes (aa : Option Addr) (n ca : Nat) (ab : Option Addr) (m cb : Nat) (xs ys : List UInt8) (w : World) (hn : n ≤ ca) (hca : ca ≤ maxLen) (hm : m ≤ maxLen) (hx : xs.length = m) (hxy : (xs ++ ys).length = n) (ha : Rd w aa n (cU (xs ++ ys))) (hb : Rd w ab m (cU xs)) :
    Calls Tryd.prog 15 #[.slice aa n ca, .slice ab m cb] w fun e w' => e = .returned (.bool true) ∧ Below w.heap.size w w' := by
  have hmn : m ≤ n := by rw [← hxy, List.length_append]; omega
  have hA : Rd w aa m (cU xs) := (ha.short hmn).congr fun j hj => (cU_append_left xs ys j (by omega)).symm
  have HM : Hid (m ≤ maxLen) := hm
  unfold maxLen at hca hm
  clear ha
  have g1 : decide ((m : Int) ≤ (n : Int)) = true := by simp; omega
  go_enter Tryd.func15, Tryd.ntmps15
  go_wp2_with fail
  refine (equal_same aa m ca ab cb xs _ HM hA hb).mono ?_
  rintro e w1 ⟨rfl, hb1⟩
  go_wp2_with fail
  go_ret
  exact ⟨rfl, hb1⟩

set_option maxRecDepth 100000 in
set_option maxHeartbeats 800000 in
/-- lawHasSuffix where the one ends with the other. -/
theorem suffix_yes (b o n ca : Nat) (ab : Option Addr) (m cb : Nat) (xs ys : List UInt8) (w : World) (hn : n ≤ ca) (hca : ca ≤ maxLen) (hm : m ≤ maxLen) (hx : ys.length = m) (hxy : (xs ++ ys).length = n) (ha : Rd w (some ⟨b, o, none⟩) n (cU (xs ++ ys))) (hb : Rd w ab m (cU ys)) :
    Calls Tryd.prog 14 #[.slice (some ⟨b, o, none⟩) n ca, .slice ab m cb] w fun e w' => e = .returned (.bool true) ∧ Below w.heap.size w w' := by
  have hmn : m ≤ n := by rw [← hxy, List.length_append]; omega
  have hxl : xs.length = n - m := by rw [← hxy, List.length_append]; omega
  have hA : Rd w (some ⟨b, o + (n - m), none⟩) m (cU ys) := ha.drop (by omega) fun j hj => by rw [cU_append_right xs ys j, hxl]
  have HM : Hid (m ≤ maxLen) := hm
  unfold maxLen at hca hm
  clear ha hxl hx hxy
  have g1 : decide ((m : Int) ≤ (n : Int)) = true := by simp; omega
  have hnm : n - (n - m) = m := by omega
  by_cases hcap : ca = n - m
  · have hm0 : m = 0 := by omega
    have hZ : ∀ ao, Rd w ao m (cU ys) := fun ao => Or.inl hm0
    have HZ := HM
    clear hm0 hA
    subst hcap
    go_enter Tryd.func14, Tryd.ntmps14
    go_wp2_with fail
    refine (equal_same _ m _ ab cb ys _ HM (hZ _) hb).mono ?_
    rintro e w1 ⟨rfl, hb1⟩
    go_wp2_with fail
    go_ret
    exact ⟨rfl, hb1⟩
  · go_enter Tryd.func14, Tryd.ntmps14
    go_wp2_with fail
    refine (equal_same _ m _ ab cb ys _ HM hA hb).mono ?_
    rintro e w1 ⟨rfl, hb1⟩
    go_wp2_with fail
    go_ret
    exact ⟨rfl, hb1⟩
end Go.Proofs.Qxb6625470aDoor

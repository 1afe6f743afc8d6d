import Derived.Test.Qxb6625653aWalks
namespace Go.Proofs.Qxb6625653a.fnTokenSplitsIntoOutcomeAndBehaviorParts
open Go.ChangeShapes Go.WideShapes Go.ChangeAt Go.RowKit
set_option linter.unusedVariables false
set_option linter.unusedSimpArgs false

set_option maxRecDepth 100000 in
set_option maxHeartbeats 800000 in
theorem prefix_any (s p : ByteArray) (hs : s.size ≤ maxLen) (hle : p.size ≤ s.size) (he : ∀ j (h1 : j < s.size) (h2 : j < p.size), s[j] = p[j]) (w : World) :
    Calls Try.prog 9 #[.string s, .string p] w fun e w' => e = .returned (.bool true) ∧ Below w.heap.size w w' := by
  unfold maxLen at hs
  have HE : Hid (∀ j (h1 : j < s.size) (h2 : j < p.size), s[j] = p[j]) := he
  clear he
  go_enter Try.func9, Try.ntmps9
  go_wp2
  go_loopw [5] (fun i wr => ∃ k : Nat, k ≤ p.size ∧ i = .int .i64 k ∧ Below w.heap.size w wr) (fun i _ => p.size - (intOf i).toNat)
  case atStart => exact ⟨0, Nat.zero_le _, rfl, Below.refl _ _⟩
  case round =>
    obtain ⟨k, hk, rfl, hb⟩ := hrel
    by_cases hlt : k < p.size
    · have hlt' : k < s.size := by omega
      have e1 : ((s[k].toNat : Int) != (p[k].toNat : Int)) = false := by rw [HE.out k hlt' hlt]; simp
      go_wp2
      go_region
      go_wp2
      go_roundw
      case rel => exact ⟨k + 1, by omega, by go_num, hb.drew⟩
      case measure => simp [intOf]; omega
    · go_wp2
      go_ret
      exact ⟨rfl, hb⟩

set_option maxRecDepth 100000 in
set_option maxHeartbeats 1600000 in
theorem walk1 (o1 o2 b : Int) (t1 u1 t2 u2 n s : ByteArray) (ho1 : 1 ≤ o1) (ho1' : o1 ≤ 2) (ho2 : 1 ≤ o2) (ho2' : o2 ≤ 2) (hb0 : 0 ≤ b) (hbb : b ≤ 2)
  (k1 : okB o1 b = true) (k2 : okB o1 0 = true) (k3 : okB o2 b = true) (k4 : okB o2 0 = true) (k5 : okB 0 b = true)
  (e1 : tokS o1 b = t1) (e2 : tokS o1 0 = u1) (e3 : tokS o2 b = t2) (e4 : tokS o2 0 = u2) (e5 : tokS 0 b = n)
  (f1 : u1.toList.isEmpty = false) (f2 : u2.toList.isEmpty = false) (f3 : n.toList.isEmpty = false)
  (S1 : Hid (u1.data.toList.contains 47 = false)) (S2 : Hid (u2.data.toList.contains 47 = false)) (S3 : Hid (n.data.toList.contains 47 = false))
  (z1 : u1.size ≤ maxLen) (z2 : u2.size ≤ maxLen) (z3 : n.size ≤ maxLen) (z4 : t1.size ≤ maxLen) (z5 : t2.size ≤ maxLen)
  (vv vb : Bool) (g1 : (u1.toList == u2.toList) = vv) (g2 : (o1 == o2) = vv) (g3 : (n.toList == u1.toList) = false) (g4 : (n.toList == u2.toList) = false) (g5 : ¬ n.toList = u1.toList)
  (l1 : u1.size ≤ t1.size) (l2 : u2.size ≤ t2.size)
  (P1 : Hid (∀ j (h1 : j < t1.size) (h2 : j < u1.size), t1[j] = u1[j])) (P2 : Hid (∀ j (h1 : j < t2.size) (h2 : j < u2.size), t2[j] = u2[j]))
  (x1 : t1.extract u1.size t1.size = s) (x2 : t2.extract u2.size t2.size = s)
  (y1 : s.toList.isEmpty = vb) (y2 : (b == 0) = vb) (y3 : vb = false → 2 ≤ s.size ∧ s.size ≤ maxLen) (y4 : vb = false → ∀ h : 0 < s.size, ((s[0].toNat : Int) != 47) = false)
  (y5 : vb = false → Hid ((s.extract 1 s.size).data.toList.contains 47 = false))
  (w : World) :
    Calls Try.prog 4 #[.int .i64 o1, .int .i64 o2, .int .i64 b] w fun e w' => e = .returned (.bool true) ∧ Below w.heap.size w w' := by
  unfold maxLen at z4 z5
  cases vb
  case false =>
    obtain ⟨y6, y7⟩ := y3 rfl
    have y8 := y4 rfl (by omega)
    have y9 := y5 rfl
    clear y3 y4 y5
    cases vv
    all_goals
      go_enter Try.func4, Try.ntmps4
      go_wp2_with fail
      refine (ztoken _ _ _).mono ?_
      rintro e w1 ⟨rfl, hb1⟩
      go_wp2_with fail
      refine (ztoken _ _ _).mono ?_
      rintro e w2 ⟨rfl, hb2⟩
      go_wp2_with fail
      refine (ztoken _ _ _).mono ?_
      rintro e w3 ⟨rfl, hb3⟩
      go_wp2_with fail
      refine (ztoken _ _ _).mono ?_
      rintro e w4 ⟨rfl, hb4⟩
      go_wp2_with fail
      refine (ztoken _ _ _).mono ?_
      rintro e w5 ⟨rfl, hb5⟩
      go_wp2_with fail
      refine (slash_any _ z1 _ S1 _).mono ?_
      rintro e w5 ⟨rfl, rfl⟩
      go_wp2_with fail
      refine (slash_any _ z2 _ S2 _).mono ?_
      rintro e w5 ⟨rfl, rfl⟩
      go_wp2_with fail
      refine (slash_any _ z3 _ S3 _).mono ?_
      rintro e w5 ⟨rfl, rfl⟩
      go_wp2_with fail
      refine (prefix_any _ _ (by unfold maxLen; omega) l1 P1 _).mono ?_
      rintro e w6 ⟨rfl, hb6⟩
      go_wp2_with fail
      refine (prefix_any _ _ (by unfold maxLen; omega) l2 P2 _).mono ?_
      rintro e w7 ⟨rfl, hb7⟩
      go_wp2_with fail
      refine (slash_any _ (by unfold maxLen at *; simp; omega) _ y9 _).mono ?_
      rintro e w7 ⟨rfl, rfl⟩
      go_wp2_with fail
      go_ret
      exact ⟨rfl, by
        have s1 := hb1.size
        have s2 := hb2.size
        have s3 := hb3.size
        have s4 := hb4.size
        have s5 := hb5.size
        have s6 := hb6.size
        exact (((((hb1.trans (hb2.mono (by omega))).trans (hb3.mono (by omega))).trans (hb4.mono (by omega))).trans (hb5.mono (by omega))).trans (hb6.mono (by omega))).trans (hb7.mono (by omega))⟩
  case true =>
    clear y3 y4 y5
    cases vv
    all_goals
      go_enter Try.func4, Try.ntmps4
      go_wp2_with fail
      refine (ztoken _ _ _).mono ?_
      rintro e w1 ⟨rfl, hb1⟩
      go_wp2_with fail
      refine (ztoken _ _ _).mono ?_
      rintro e w2 ⟨rfl, hb2⟩
      go_wp2_with fail
      refine (ztoken _ _ _).mono ?_
      rintro e w3 ⟨rfl, hb3⟩
      go_wp2_with fail
      refine (ztoken _ _ _).mono ?_
      rintro e w4 ⟨rfl, hb4⟩
      go_wp2_with fail
      refine (ztoken _ _ _).mono ?_
      rintro e w5 ⟨rfl, hb5⟩
      go_wp2_with fail
      refine (slash_any _ z1 _ S1 _).mono ?_
      rintro e w5 ⟨rfl, rfl⟩
      go_wp2_with fail
      refine (slash_any _ z2 _ S2 _).mono ?_
      rintro e w5 ⟨rfl, rfl⟩
      go_wp2_with fail
      refine (slash_any _ z3 _ S3 _).mono ?_
      rintro e w5 ⟨rfl, rfl⟩
      go_wp2_with fail
      refine (prefix_any _ _ (by unfold maxLen; omega) l1 P1 _).mono ?_
      rintro e w6 ⟨rfl, hb6⟩
      go_wp2_with fail
      refine (prefix_any _ _ (by unfold maxLen; omega) l2 P2 _).mono ?_
      rintro e w7 ⟨rfl, hb7⟩
      go_wp2_with fail
      go_ret
      exact ⟨rfl, by
        have s1 := hb1.size
        have s2 := hb2.size
        have s3 := hb3.size
        have s4 := hb4.size
        have s5 := hb5.size
        have s6 := hb6.size
        exact (((((hb1.trans (hb2.mono (by omega))).trans (hb3.mono (by omega))).trans (hb4.mono (by omega))).trans (hb5.mono (by omega))).trans (hb6.mono (by omega))).trans (hb7.mono (by omega))⟩

theorem tok_join {o b : Int} (ho : o = 1 ∨ o = 2) (hb : b = 0 ∨ b = 1 ∨ b = 2) : tokS o b = tokS o 0 ++ tail b := by
  rcases ho with rfl | rfl <;> rcases hb with rfl | rfl | rfl <;> decide +kernel

theorem pre_join (p q s : ByteArray) (h : s = p ++ q) : ∀ j (h1 : j < s.size) (h2 : j < p.size), s[j] = p[j] := by
  subst h
  intro j h1 h2
  exact ByteArray.getElem_append_left h2

theorem tok_inc (b : Int) : tokS 0 b = sInc := by simp [tokS, okB]

set_option maxRecDepth 100000 in
theorem walkIn (o1 o2 b : Int) (h1 : o1 = 1 ∨ o1 = 2) (h2 : o2 = 1 ∨ o2 = 2) (hb : b = 0 ∨ b = 1 ∨ b = 2) (w : World) :
    Calls Try.prog 4 #[.int .i64 o1, .int .i64 o2, .int .i64 b] w fun e w' => e = .returned (.bool true) ∧ Below w.heap.size w w' := by
  have p1 := pre_join _ _ _ (tok_join h1 hb)
  have p2 := pre_join _ _ _ (tok_join h2 hb)
  refine walk1 o1 o2 b (tokS o1 b) (tokS o1 0) (tokS o2 b) (tokS o2 0) (tokS 0 b) (tail b) (by omega) (by omega) (by omega) (by omega) (by omega) (by omega)
    (by simp [okB]; omega) (by simp [okB]; omega) (by simp [okB]; omega) (by simp [okB]; omega) (by simp [okB]) rfl rfl rfl rfl rfl
    ?_ ?_ ?_ ?_ ?_ ?_ ?_ ?_ ?_ ?_ ?_ (decide (o1 = o2)) (decide (b = 0)) ?_ ?_ ?_ ?_ ?_ ?_ ?_ p1 p2 ?_ ?_ ?_ ?_ ?_ ?_ ?_ w
  all_goals clear p1 p2
  all_goals rcases h1 with rfl | rfl <;> rcases h2 with rfl | rfl <;> rcases hb with rfl | rfl | rfl
  all_goals first | (decide +kernel) | (show _ = _; decide +kernel) | (intro _; show _ = _; decide +kernel)

set_option maxRecDepth 100000 in
set_option maxHeartbeats 1600000 in
theorem walkOut (o1 o2 b : Int) (h : o1 < 1 ∨ (1 ≤ o1 ∧ 2 < o1) ∨ (1 ≤ o1 ∧ o1 ≤ 2 ∧ o2 < 1) ∨ (1 ≤ o1 ∧ o1 ≤ 2 ∧ 1 ≤ o2 ∧ 2 < o2) ∨ (1 ≤ o1 ∧ o1 ≤ 2 ∧ 1 ≤ o2 ∧ o2 ≤ 2 ∧ b < 0) ∨ (1 ≤ o1 ∧ o1 ≤ 2 ∧ 1 ≤ o2 ∧ o2 ≤ 2 ∧ 0 ≤ b ∧ 2 < b)) (w : World) :
    Calls Try.prog 4 #[.int .i64 o1, .int .i64 o2, .int .i64 b] w fun e w' => e = .returned (.bool true) ∧ Below w.heap.size w w' := by
  rcases h with h1 | ⟨h1, h2⟩ | ⟨h1, h2, h3⟩ | ⟨h1, h2, h3, h4⟩ | ⟨h1, h2, h3, h4, h5⟩ | ⟨h1, h2, h3, h4, h5, h6⟩
  all_goals
    go_enter Try.func4, Try.ntmps4
    go_wp2_with fail
    go_ret
    exact ⟨rfl, Below.refl _ _⟩

theorem walk (a0 : Int) (a1 : Int) (a2 : Int) (w : World) :
    Calls Try.prog 4 #[.int .i64 a0, .int .i64 a1, .int .i64 a2] w fun e w' => e = .returned (.bool true) ∧ Below w.heap.size w w' := by
  by_cases h : (1 ≤ a0 ∧ a0 ≤ 2) ∧ (1 ≤ a1 ∧ a1 ≤ 2) ∧ (0 ≤ a2 ∧ a2 ≤ 2)
  · exact walkIn a0 a1 a2 (by omega) (by omega) (by omega) w
  · exact walkOut a0 a1 a2 (by omega) w
end Go.Proofs.Qxb6625653a.fnTokenSplitsIntoOutcomeAndBehaviorParts

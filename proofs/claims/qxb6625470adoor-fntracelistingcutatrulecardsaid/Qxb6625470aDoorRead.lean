import Derived.Test.Qxb6625470aDoorBase
namespace Go.Proofs.Qxb6625470aDoor
open Go.RowKit
set_option linter.unusedVariables false
set_option linter.unusedSimpArgs false

/-- Some bool comes back, of which Φ holds. -/
def RB (Φ : Bool → World → Prop) (e : Ending) (w' : World) : Prop := ∃ v : Bool, e = .returned (.bool v) ∧ Φ v w'

structure Sl where
  a : Option Addr
  n : Nat
  c : Nat

def Sl.nil : Sl := ⟨none, 0, 0⟩
def cS (ms : List Sl) (j : Nat) : Value := .slice (ms.getD j Sl.nil).a (ms.getD j Sl.nil).n (ms.getD j Sl.nil).c

/-- The rows of a slice of slices of ints. -/
structure MadeIs (w : World) (am : Option Addr) (R : Nat) (ms : List Sl) (zss : List (List Int)) : Prop where
  len : ms.length = R
  lenz : zss.length = R
  row : Rd w am R (cS ms)
  inner : ∀ j, j < R → (zss.getD j []).length = (ms.getD j Sl.nil).n ∧ (ms.getD j Sl.nil).n ≤ (ms.getD j Sl.nil).c ∧ (ms.getD j Sl.nil).c ≤ maxLen ∧ Rd w (ms.getD j Sl.nil).a (ms.getD j Sl.nil).n (cI (zss.getD j []))

theorem MadeIs.below {w w' : World} {am : Option Addr} {R : Nat} {ms : List Sl} {zss : List (List Int)} (h : MadeIs w am R ms zss) (hb : Below w.heap.size w w') : MadeIs w' am R ms zss :=
  ⟨h.len, h.lenz, h.row.below hb, fun j hj => ⟨(h.inner j hj).1, (h.inner j hj).2.1, (h.inner j hj).2.2.1, (h.inner j hj).2.2.2.below hb⟩⟩

set_option maxRecDepth 100000 in
set_option maxHeartbeats 1600000 in
theorem bytes5 (a0 : Option Addr) (n0 c0 : Nat) (a1 : Option Addr) (n1 c1 : Nat) (a2 : Option Addr) (n2 c2 : Nat) (am : Option Addr) (R cm : Nat) (a4 : Option Addr) (n4 c4 : Nat) (a5 : Option Addr) (n5 c5 : Nat) (ms : List Sl) (zss : List (List Int)) (w : World)
    (h0 : n0 ≤ maxLen) (h1 : n1 ≤ maxLen) (h2 : n2 ≤ maxLen) (h3 : R ≤ maxLen) (h4 : n4 ≤ maxLen) (h5 : n5 ≤ maxLen) (hm : MadeIs w am R ms zss) :
    Calls Tryd.prog 5 #[.slice a0 n0 c0, .slice a1 n1 c1, .slice a2 n2 c2, .slice am R cm, .slice a4 n4 c4, .slice a5 n5 c5] w (RB fun v w' => Below w.heap.size w w') := by
  have hin : ∀ k, k < R → ∃ b o a n c, am = some ⟨b, o, none⟩ ∧ w.cell? ⟨b, o + k, none⟩ = some (.slice a n c) ∧ n ≤ 2 ^ 63 - 1 := by
    intro k hk
    rcases hm.row with h | ⟨b, o, e, hc⟩
    · omega
    · obtain ⟨_, i1, i2, _⟩ := hm.inner k hk
      exact ⟨b, o, _, _, _, e, hc k hk, by unfold maxLen at i2; omega⟩
  have HI : Hid (∀ k, k < R → ∃ b o a n c, am = some ⟨b, o, none⟩ ∧ w.cell? ⟨b, o + k, none⟩ = some (.slice a n c) ∧ n ≤ 2 ^ 63 - 1) := hin
  clear hin hm
  unfold maxLen at h0 h1 h2 h3 h4 h5
  go_enter Tryd.func5, Tryd.ntmps5
  go_wp2
  all_goals first | (go_ret; exact ⟨_, rfl, Below.refl _ _⟩) | skip
  go_loop [13, 14] (fun z i => ∃ k s : Nat, k ≤ R ∧ s ≤ 1048576 ∧ z = .int .i64 s ∧ i = .int .i64 k) (fun _ i => R - (intOf i).toNat)
  case atStart => exact ⟨0, n0 + n1 + n2 + R, by omega, by omega, by go_num, rfl⟩
  case round =>
    obtain ⟨k, s, hk, hs, rfl, rfl⟩ := hrel
    by_cases hlt : k < R
    · obtain ⟨b, o, a, n, c, rfl, hc, hn⟩ := HI.out k hlt
      go_wp2
      all_goals first | (go_ret; exact ⟨_, rfl, Below.refl _ _⟩) | skip
      go_round
      case rel => exact ⟨k + 1, s + n, by omega, by omega, by go_num, by go_num⟩
      case measure => simp [intOf]; omega
    · go_wp2
      all_goals (go_ret; exact ⟨_, rfl, Below.refl _ _⟩)

set_option maxRecDepth 100000 in
set_option maxHeartbeats 1600000 in
theorem bytes12 (a0 : Option Addr) (n0 c0 : Nat) (a1 : Option Addr) (n1 c1 : Nat) (a2 : Option Addr) (n2 c2 : Nat) (am : Option Addr) (R cm : Nat) (a4 : Option Addr) (n4 c4 : Nat) (a5 : Option Addr) (n5 c5 : Nat) (ms : List Sl) (zss : List (List Int)) (m : Int) (w : World)
    (h0 : n0 ≤ maxLen) (h1 : n1 ≤ maxLen) (h2 : n2 ≤ maxLen) (h3 : R ≤ maxLen) (h4 : n4 ≤ maxLen) (h5 : n5 ≤ maxLen) (hm : MadeIs w am R ms zss) :
    Calls Tryd.prog 12 #[.slice a0 n0 c0, .slice a1 n1 c1, .slice a2 n2 c2, .slice am R cm, .slice a4 n4 c4, .slice a5 n5 c5, .int .i64 m] w (RB fun v w' => Below w.heap.size w w') := by
  have hin : ∀ k, k < R → ∃ b o a n c, am = some ⟨b, o, none⟩ ∧ w.cell? ⟨b, o + k, none⟩ = some (.slice a n c) ∧ n ≤ 2 ^ 63 - 1 := by
    intro k hk
    rcases hm.row with h | ⟨b, o, e, hc⟩
    · omega
    · obtain ⟨_, i1, i2, _⟩ := hm.inner k hk
      exact ⟨b, o, _, _, _, e, hc k hk, by unfold maxLen at i2; omega⟩
  have HI : Hid (∀ k, k < R → ∃ b o a n c, am = some ⟨b, o, none⟩ ∧ w.cell? ⟨b, o + k, none⟩ = some (.slice a n c) ∧ n ≤ 2 ^ 63 - 1) := hin
  clear hin hm
  unfold maxLen at h0 h1 h2 h3 h4 h5
  go_enter Tryd.func12, Tryd.ntmps12
  go_wp2
  all_goals first | (go_ret; exact ⟨_, rfl, Below.refl _ _⟩) | skip
  go_loop [15, 16] (fun z i => ∃ k s : Nat, k ≤ R ∧ s ≤ 1048576 ∧ z = .int .i64 s ∧ i = .int .i64 k) (fun _ i => R - (intOf i).toNat)
  case atStart => exact ⟨0, n0 + n1 + n2 + R, by omega, by omega, by go_num, rfl⟩
  case round =>
    obtain ⟨k, s, hk, hs, rfl, rfl⟩ := hrel
    by_cases hlt : k < R
    · obtain ⟨b, o, a, n, c, rfl, hc, hn⟩ := HI.out k hlt
      go_wp2
      all_goals first | (go_ret; exact ⟨_, rfl, Below.refl _ _⟩) | skip
      go_round
      case rel => exact ⟨k + 1, s + n, by omega, by omega, by go_num, by go_num⟩
      case measure => simp [intOf]; omega
    · go_wp2
      all_goals (go_ret; exact ⟨_, rfl, Below.refl _ _⟩)


/-- What lawSizeOK tells where it answers true. -/
structure Sized (n0 n1 n2 R n4 n5 : Nat) (ms : List Sl) : Prop where
  b0 : n0 ≤ 1048576
  b1 : n1 ≤ 1048576
  b2 : n2 ≤ 131072
  b3 : R ≤ 43690
  b4 : n4 ≤ 1048576
  b5 : n5 ≤ 131072
  inner : ∀ j, j < R → (ms.getD j Sl.nil).n ≤ 131072

set_option maxRecDepth 100000 in
set_option maxHeartbeats 1600000 in
theorem sizeOK_any (a0 : Option Addr) (n0 c0 : Nat) (a1 : Option Addr) (n1 c1 : Nat) (a2 : Option Addr) (n2 c2 : Nat) (am : Option Addr) (R cm : Nat) (a4 : Option Addr) (n4 c4 : Nat) (a5 : Option Addr) (n5 c5 : Nat) (ms : List Sl) (zss : List (List Int)) (w : World)
    (h0 : n0 ≤ maxLen) (h1 : n1 ≤ maxLen) (h2 : n2 ≤ maxLen) (h3 : R ≤ maxLen) (h4 : n4 ≤ maxLen) (h5 : n5 ≤ maxLen) (hm : MadeIs w am R ms zss) :
    Calls Tryd.prog 6 #[.slice a0 n0 c0, .slice a1 n1 c1, .slice a2 n2 c2, .slice am R cm, .slice a4 n4 c4, .slice a5 n5 c5] w (RB fun v w' => (v = true → Sized n0 n1 n2 R n4 n5 ms) ∧ Below w.heap.size w w') := by
  have hin : ∀ k, k < R → ∃ b o a n c, am = some ⟨b, o, none⟩ ∧ w.cell? ⟨b, o + k, none⟩ = some (.slice a n c) ∧ n ≤ 2 ^ 63 - 1 ∧ Hid ((ms.getD k Sl.nil).n = n) := by
    intro k hk
    rcases hm.row with h | ⟨b, o, e, hc⟩
    · omega
    · obtain ⟨_, i1, i2, _⟩ := hm.inner k hk
      exact ⟨b, o, _, _, _, e, hc k hk, by unfold maxLen at i2; omega, rfl⟩
  have HI : Hid (∀ k, k < R → ∃ b o a n c, am = some ⟨b, o, none⟩ ∧ w.cell? ⟨b, o + k, none⟩ = some (.slice a n c) ∧ n ≤ 2 ^ 63 - 1 ∧ Hid ((ms.getD k Sl.nil).n = n)) := hin
  clear hin hm
  unfold maxLen at h0 h1 h2 h3 h4 h5
  by_cases g1 : n0 ≤ 1048576 ∧ n1 ≤ 1048576 ∧ n2 ≤ 131072
  · by_cases g2 : R ≤ 43690 ∧ n4 ≤ 1048576 ∧ n5 ≤ 131072
    · obtain ⟨q0, q1, q2⟩ := g1
      obtain ⟨q3, q4, q5⟩ := g2
      go_enter Tryd.func6, Tryd.ntmps6
      go_wp2
      all_goals first | (go_ret; exact ⟨_, rfl, by simp, Below.refl _ _⟩) | skip
      go_loop [13, 14] (fun z i => ∃ k s : Nat, k ≤ R ∧ s ≤ 1048576 ∧ z = .int .i64 s ∧ i = .int .i64 k ∧ Hid (∀ j, j < k → (ms.getD j Sl.nil).n ≤ 131072)) (fun _ i => R - (intOf i).toNat)
      case atStart => exact ⟨0, n0 + n1 + 8 * n2 + 24 * R + n4 + 8 * n5, by omega, by omega, by go_num, rfl, fun j hj => absurd hj (by omega)⟩
      case round =>
        obtain ⟨k, s, hk, hs, rfl, rfl, hu⟩ := hrel
        by_cases hlt : k < R
        · obtain ⟨b, o, a, n, c, rfl, hc, hn, hms⟩ := HI.out k hlt
          go_wp2
          all_goals first | (go_ret; exact ⟨_, rfl, by simp, Below.refl _ _⟩) | skip
          have hn2 : n ≤ 131072 := by omega
          go_round
          case rel => exact ⟨k + 1, s + 8 * n, by omega, by omega, by go_num, by go_num, fun j hj => by
            rcases Nat.lt_or_ge j k with h' | h'
            · exact hu.out j h'
            · obtain rfl : j = k := by omega
              rw [hms.out]; exact hn2⟩
          case measure => simp [intOf]; omega
        · go_wp2
          go_ret
          exact ⟨_, rfl, fun _ => ⟨q0, q1, q2, q3, q4, q5, fun j hj => hu.out j (by omega)⟩, Below.refl _ _⟩
    · have g2' : 43690 < R ∨ (R ≤ 43690 ∧ 1048576 < n4) ∨ (R ≤ 43690 ∧ n4 ≤ 1048576 ∧ 131072 < n5) := by omega
      obtain ⟨q0, q1, q2⟩ := g1
      clear g2 HI
      rcases g2' with q3 | ⟨q3, q4⟩ | ⟨q3, q4, q5⟩
      all_goals
        go_enter Tryd.func6, Tryd.ntmps6
        go_wp2
        go_ret
        exact ⟨_, rfl, by simp, Below.refl _ _⟩
  · have g1' : 1048576 < n0 ∨ (n0 ≤ 1048576 ∧ 1048576 < n1) ∨ (n0 ≤ 1048576 ∧ n1 ≤ 1048576 ∧ 131072 < n2) := by omega
    clear g1 HI
    rcases g1' with q3 | ⟨q3, q4⟩ | ⟨q3, q4, q5⟩
    all_goals
      go_enter Tryd.func6, Tryd.ntmps6
      go_wp2
      go_ret
      exact ⟨_, rfl, by simp, Below.refl _ _⟩
end Go.Proofs.Qxb6625470aDoor

import Derived.Test.Qxb6625470aDoorRows
import Derived.WalkKit
import Derived.WalkSpells
import Derived.WalkLawsBesides
import Derived.Deep.QuietTactic
import Derived.BigQuiet
namespace Go.Proofs.Qxb6625470aDoor
open Go.RowKit
set_option linter.unusedVariables false
set_option linter.unusedSimpArgs false

/-- What a slice's elements read as: there is none, or they lie in a row of one block. -/
def Rd (w : World) (ao : Option Addr) (n : Nat) (f : Nat → Value) : Prop :=
  n = 0 ∨ ∃ b o, ao = some ⟨b, o, none⟩ ∧ ∀ j, j < n → w.cell? ⟨b, o + j, none⟩ = some (f j)

def cI (zs : List Int) (j : Nat) : Value := .int .i64 (zs.getD j 0)
def cU (bs : List UInt8) (j : Nat) : Value := .int .u8 ((bs.getD j 0).toNat : Int)
def cB (bs : List Bool) (j : Nat) : Value := .bool (bs.getD j false)

theorem Rd.below {w w' : World} {ao : Option Addr} {n : Nat} {f : Nat → Value} (h : Rd w ao n f) (hb : Below w.heap.size w w') : Rd w' ao n f := by
  rcases h with h | ⟨b, o, rfl, hc⟩
  · exact Or.inl h
  · refine Or.inr ⟨b, o, rfl, fun j hj => ?_⟩
    have := hc j hj
    rw [hb.cell (World.block_lt_of_cell? w _ this)]
    exact this

theorem Below.all {w w1 w2 : World} (h : Below w.heap.size w w1) (k : Below w1.heap.size w1 w2) : Below w.heap.size w w2 := h.trans (k.mono h.size)

def plOK (L : Nat) (at_ : List Int) (p : Int) : Bool :=
  decide (0 ≤ p) && decide (p < (at_.length : Int) - 1) && (decide (0 ≤ at_.getD p.toNat 0) && decide (at_.getD p.toNat 0 ≤ at_.getD (p.toNat + 1) 0) && decide (at_.getD (p.toNat + 1) 0 ≤ (L : Int)))

theorem drewN_below (w : World) (n : Nat) : Below w.heap.size w (w.drewN n) := ⟨rfl, rfl, rfl, Nat.le_refl _, fun _ _ => rfl⟩

set_option maxRecDepth 100000 in
set_option maxHeartbeats 800000 in
theorem place_in (al : Option Addr) (L cl b o c k n : Nat) (x y : Int) (v1 v2 v3 : Bool) (w : World) (hL : L ≤ maxLen) (hn : n ≤ maxLen) (hk : k + 1 < n)
    (hx : w.cell? ⟨b, o + k, none⟩ = some (.int .i64 x)) (hy : w.cell? ⟨b, o + (k + 1), none⟩ = some (.int .i64 y))
    (h1 : decide (0 ≤ x) = v1) (h2 : decide (x ≤ y) = v2) (h3 : decide (y ≤ (L : Int)) = v3) :
    Calls Tryd.prog 17 #[.slice al L cl, .slice (some ⟨b, o, none⟩) n c, .int .i64 (k : Int)] w fun e w' => e = .returned (.bool (v1 && v2 && v3)) ∧ Below w.heap.size w w' := by
  unfold maxLen at hL hn
  have i1 : (0 : Int) ≤ (k : Int) := by omega
  have i2 : (k : Int) + 1 < (n : Int) := by omega
  have i3 : (k : Int) < (n : Int) := by omega
  cases v1
  · go_enter Tryd.func17, Tryd.ntmps17
    go_wp2
    go_quiet (fail)
    go_wp2
    go_ret
    exact ⟨rfl, drewN_below _ _⟩
  · cases v2
    · go_enter Tryd.func17, Tryd.ntmps17
      go_wp2
      go_quiet (fail)
      go_wp2
      go_ret
      exact ⟨rfl, drewN_below _ _⟩
    · cases v3
      all_goals
        go_enter Tryd.func17, Tryd.ntmps17
        go_wp2
        go_quiet (fail)
        go_wp2
        go_ret
        exact ⟨rfl, drewN_below _ _⟩

theorem cI_get {zs : List Int} {j : Nat} : cI zs j = .int .i64 (zs.getD j 0) := rfl

set_option maxRecDepth 100000 in
set_option maxHeartbeats 800000 in
theorem place_lo (al : Option Addr) (L cl : Nat) (ao : Option Addr) (n c : Nat) (p : Int) (w : World) (hp : p < 0) :
    Calls Tryd.prog 17 #[.slice al L cl, .slice ao n c, .int .i64 p] w fun e w' => e = .returned (.bool false) ∧ Below w.heap.size w w' := by
  go_enter Tryd.func17, Tryd.ntmps17
  go_wp2
  go_ret
  exact ⟨rfl, Below.refl _ _⟩

set_option maxRecDepth 100000 in
set_option maxHeartbeats 800000 in
theorem place_hi (al : Option Addr) (L cl : Nat) (ao : Option Addr) (n c : Nat) (p : Int) (w : World) (hn : n ≤ maxLen) (hp : 0 ≤ p) (hp2 : (n : Int) - 1 ≤ p) :
    Calls Tryd.prog 17 #[.slice al L cl, .slice ao n c, .int .i64 p] w fun e w' => e = .returned (.bool false) ∧ Below w.heap.size w w' := by
  unfold maxLen at hn
  go_enter Tryd.func17, Tryd.ntmps17
  go_wp2
  go_ret
  exact ⟨rfl, Below.refl _ _⟩

theorem place_any (al : Option Addr) (L cl : Nat) (ao : Option Addr) (n c : Nat) (zs : List Int) (p : Int) (w : World) (hL : L ≤ maxLen) (hn : n ≤ maxLen) (hz : zs.length = n) (hr : Rd w ao n (cI zs)) :
    Calls Tryd.prog 17 #[.slice al L cl, .slice ao n c, .int .i64 p] w fun e w' => e = .returned (.bool (plOK L zs p)) ∧ Below w.heap.size w w' := by
  by_cases h1 : p < 0
  · have e : plOK L zs p = false := by
      have : ¬ 0 ≤ p := by omega
      simp [plOK, this]
    rw [e]
    exact place_lo al L cl ao n c p w h1
  · by_cases h2 : (n : Int) - 1 ≤ p
    · have e : plOK L zs p = false := by
        have : ¬ p < (zs.length : Int) - 1 := by omega
        simp [plOK, this]
      rw [e]
      exact place_hi al L cl ao n c p w hn (by omega) h2
    · obtain ⟨k, rfl⟩ := Int.eq_ofNat_of_zero_le (show 0 ≤ p by omega)
      rcases hr with hr | ⟨b, o, rfl, hc⟩
      · omega
      · have hx := hc k (by omega)
        have hy := hc (k + 1) (by omega)
        have e : plOK L zs (k : Int) = (decide (0 ≤ zs.getD k 0) && decide (zs.getD k 0 ≤ zs.getD (k + 1) 0) && decide (zs.getD (k + 1) 0 ≤ (L : Int))) := by
          have h0 : (0 : Int) ≤ (k : Int) := by omega
          have h3 : (k : Int) < (zs.length : Int) - 1 := by omega
          simp [plOK, h3]
        rw [e]
        exact place_in al L cl b o c k n _ _ _ _ _ w hL hn (by omega) hx hy rfl rfl rfl

theorem ret_int {k : IntKind} {a b : Int} (h : a = b) : Ending.returned (.int k a) = .returned (.int k b) := by rw [h]
theorem ret_bool {a b : Bool} (h : a = b) : Ending.returned (.bool a) = .returned (.bool b) := by rw [h]

/-- lawDecLen: how many decimal digits (n from 1 on). -/
def nDig : Nat → Nat → Nat
  | 0, _ => 1
  | f + 1, n => if n < 10 then 1 else nDig f (n / 10) + 1

theorem nDig_le (f n : Nat) : nDig f n ≤ f + 1 := by
  induction f generalizing n with
  | zero => simp [nDig]
  | succ f ih =>
    unfold nDig
    split
    · omega
    · have := ih (n / 10); omega

theorem nDig_enough (f n : Nat) (h : n ≤ f) : nDig (f + 1) n = nDig f n := by
  induction f generalizing n with
  | zero =>
    have : n = 0 := by omega
    subst this
    simp [nDig]
  | succ f ih =>
    by_cases hn : n < 10
    · rw [nDig, if_pos hn, nDig, if_pos hn]
    · have e1 : nDig (f + 1 + 1) n = nDig (f + 1) (n / 10) + 1 := by rw [nDig, if_neg hn]
      have e2 : nDig (f + 1) n = nDig f (n / 10) + 1 := by rw [nDig, if_neg hn]
      rw [e1, e2, ih (n / 10) (by omega)]

theorem nDig_fuel (f g n : Nat) (h : n ≤ f) (hg : f ≤ g) : nDig g n = nDig f n := by
  obtain ⟨k, rfl⟩ := Nat.exists_eq_add_of_le hg
  clear hg
  induction k with
  | zero => rfl
  | succ k ih => rw [show f + (k + 1) = (f + k) + 1 by omega, nDig_enough (f + k) n (by omega), ih]

def dLen (n : Nat) : Nat := nDig n n

theorem dLen_small {n : Nat} (h : n < 10) : dLen n = 1 := by
  unfold dLen
  cases n with
  | zero => rfl
  | succ n => rw [nDig, if_pos h]

theorem dLen_big {n : Nat} (h : ¬ n < 10) : dLen n = dLen (n / 10) + 1 := by
  unfold dLen
  obtain ⟨m, rfl⟩ : ∃ m, n = m + 1 := ⟨n - 1, by omega⟩
  rw [nDig, if_neg h, nDig_fuel ((m + 1) / 10) m ((m + 1) / 10) (Nat.le_refl _) (by omega)]

theorem dLen_pos (n : Nat) : 1 ≤ dLen n := by
  by_cases h : n < 10
  · rw [dLen_small h]; omega
  · rw [dLen_big h]; omega

theorem dLen_le (n : Nat) : dLen n ≤ n + 1 := nDig_le n n

set_option maxRecDepth 100000 in
set_option maxHeartbeats 800000 in
theorem declen_any (n : Nat) (w : World) (h : n ≤ 1000000) :
    Calls Tryd.prog 18 #[.int .i64 (n : Int)] w fun e w' => e = .returned (.int .i64 (dLen n : Int)) ∧ w' = w := by
  have hdl := dLen_le n
  go_enter Tryd.func18, Tryd.ntmps18
  go_wp2
  go_loop [0, 3] (fun i d => ∃ k r : Nat, k ≤ 1000000 ∧ r ≤ 1000001 ∧ i = .int .i64 k ∧ d = .int .i64 r ∧ Hid (r + dLen k = dLen n + 1)) (fun i _ => (intOf i).toNat)
  case atStart => exact ⟨n, 1, h, by omega, rfl, rfl, by show 1 + dLen n = dLen n + 1; omega⟩
  case round =>
    obtain ⟨k, r, hk, hr, rfl, rfl, hd⟩ := hrel
    by_cases hlt : k < 10
    · have hdd := hd.out
      rw [dLen_small hlt] at hdd
      have HD : Hid (r = dLen n) := by show r = dLen n; omega
      clear hdd hd
      go_wp2
      go_ret
      exact ⟨ret_int (by rw [HD.out]), rfl⟩
    · have hdd := hd.out
      rw [dLen_big hlt] at hdd
      have hp := dLen_pos (k / 10)
      have HD : Hid (r + 1 + dLen (k / 10) = dLen n + 1) := by show r + 1 + dLen (k / 10) = dLen n + 1; omega
      have hr2 : r + 1 ≤ 1000001 := by omega
      clear hdd hd hp
      go_wp2
      go_round
      case rel => exact ⟨k / 10, r + 1, by omega, hr2, by go_num, by go_num, HD⟩
      case measure => simp [intOf]; omega
end Go.Proofs.Qxb6625470aDoor

import Derived.Test.Qxb6627189aRows
import Derived.WalkKit
import Derived.ProofKit
import Derived.OpenShut
import Derived.ShutString
import Derived.Laws.IdiomStrings
namespace Go.Proofs.Qxb6627189a
open Go.ChangeShapes Go.WideShapes Go.ChangeAt Go.RowKit
set_option linter.unusedVariables false
set_option linter.unusedSimpArgs false

def up (a : Int) : Bool := decide (65 ≤ a) && decide (a ≤ 90)
def code (s : ByteArray) : Bool := decide (s.size = 3) && s.data.toList.all (fun b => up (b.toNat : Int))

theorem upper_calls (a : Int) (w : World) :
    Calls Try.prog 7 #[.int .u8 a] w fun e w' => e = .returned (.bool (up a)) ∧ w' = w := by
  unfold up
  by_cases h1 : 65 ≤ a
  · by_cases h2 : a ≤ 90
    · go_enter Try.func7, Try.ntmps7
      go_wp2
      go_ret
      exact ⟨by simp [h1, h2], rfl⟩
    · go_enter Try.func7, Try.ntmps7
      go_wp2
      go_ret
      exact ⟨by simp [h2], rfl⟩
  · go_enter Try.func7, Try.ntmps7
    go_wp2
    go_ret
    exact ⟨by have h3 : ¬ 65 ≤ a := by omega
              simp [h3], rfl⟩

theorem bytes5_calls (s : ByteArray) (i b : Int) (w : World) (hs : s.size ≤ maxLen) :
    Calls Try.prog 5 #[.string s, .int .i64 i, .int .u8 b] w fun e w' => e = .returned (.bool (decide (s.size ≤ 1048576))) ∧ w' = w := by
  unfold maxLen at hs
  by_cases h1 : (1048576 : Int) < (s.size : Int)
  · go_enter Try.func5, Try.ntmps5
    go_wp2
    go_ret
    exact ⟨by simp; omega, rfl⟩
  · go_enter Try.func5, Try.ntmps5
    go_wp2
    go_ret
    exact ⟨by simp; omega, rfl⟩

theorem bytes9_calls (s : ByteArray) (i : Int) (w : World) (hs : s.size ≤ maxLen) :
    Calls Try.prog 9 #[.string s, .int .i64 i] w fun e w' => e = .returned (.bool (decide (s.size ≤ 1048576))) ∧ w' = w := by
  unfold maxLen at hs
  by_cases h1 : (1048576 : Int) < (s.size : Int)
  · go_enter Try.func9, Try.ntmps9
    go_wp2
    go_ret
    exact ⟨by simp; omega, rfl⟩
  · go_enter Try.func9, Try.ntmps9
    go_wp2
    go_ret
    exact ⟨by simp; omega, rfl⟩

theorem code_no (s : ByteArray) (w : World) (h : s.size ≠ 3) :
    Calls Try.prog 6 #[.string s] w fun e w' => e = .returned (.bool (code s)) ∧ w' = w := by
  have h3 : ((s.size : Int) != 3) = true := by rw [bne_iff_ne]; omega
  go_enter Try.func6, Try.ntmps6
  go_wp2
  go_ret
  exact ⟨by simp [code, h], rfl⟩

def gb (s : ByteArray) (j : Nat) : Int := ((s.data.toList.getD j 0).toNat : Int)

theorem code_three (s : ByteArray) (h : s.size = 3) : code s = (up (gb s 0) && up (gb s 1) && up (gb s 2)) := by
  obtain ⟨⟨l⟩⟩ := s
  match l, h with
  | [a, b, c], _ => simp [code, gb, ByteArray.size, Bool.and_assoc]

theorem up_no (a : Int) (h : a < 65 ∨ 90 < a) : up a = false := by
  unfold up
  rcases h with h | h
  · have : ¬ 65 ≤ a := by omega
    simp [this]
  · have : ¬ a ≤ 90 := by omega
    simp [this]

theorem up_yes (a : Int) (h : 65 ≤ a) (h' : a ≤ 90) : up a = true := by
  simp [up, h, h']

theorem code_false (s : ByteArray) (h : s.size = 3) (k : Nat) (hk : k < 3) (hu : up (gb s k) = false) : code s = false := by
  rw [code_three s h]
  match k, hk with
  | 0, _ => simp [hu]
  | 1, _ => simp [hu]
  | 2, _ => simp [hu]

theorem code_true (s : ByteArray) (h : s.size = 3) (hu : ∀ j, j < 3 → up (gb s j) = true) : code s = true := by
  rw [code_three s h, hu 0 (by omega), hu 1 (by omega), hu 2 (by omega)]; rfl

theorem ret_bool {a b : Bool} (h : a = b) : Ending.returned (.bool a) = .returned (.bool b) := by rw [h]

set_option maxRecDepth 100000 in
set_option maxHeartbeats 800000 in
theorem code_yes (s : ByteArray) (w : World) (h : s.size = 3) :
    Calls Try.prog 6 #[.string s] w fun e w' => e = .returned (.bool (code s)) ∧ Below w.heap.size w w' := by
  have hconv := run_bytes_of_string (P := Try.prog) w 9 24 5 s Try.underlying9 Try.underlying24 Try.underlying5
  generalize hC : bytesRow s (grownCap w s.size 0 5) = C at hconv
  have hcell : ∀ j, j < 3 → (w.alloc (.cells C 5 (C.size, C.size + 1))).cell? ⟨w.heap.size, j, none⟩ = some (.int .u8 (gb s j)) := by
    intro j hj
    have hj' : j < s.data.size := by have : s.data.size = 3 := h; omega
    rw [World.cell?_alloc_mark, ← hC, bytesRow_at _ _ _ hj', gb]
    rw [List.getD, Array.getElem?_toList, Array.getElem?_eq_getElem hj']; rfl
  clear hC
  have HF : Hid (∀ k, k < 3 → up (gb s k) = false → code s = false) := fun k hk hu => code_false s h k hk hu
  have HT : Hid ((∀ j, j < 3 → up (gb s j) = true) → code s = true) := code_true s h
  have HC : Hid (∀ j, j < 3 → (w.alloc (.cells C 5 (C.size, C.size + 1))).cell? ⟨w.heap.size, j, none⟩ = some (.int .u8 (gb s j))) := hcell
  clear hcell
  go_enter Try.func6, Try.ntmps6
  go_wp2
  go_loop [11] (fun i => ∃ k : Nat, k ≤ 3 ∧ i = .int .i64 k ∧ Hid (∀ j, j < k → up (gb s j) = true)) (fun i => 3 - (intOf i).toNat)
  case atStart => exact ⟨0, by omega, rfl, fun j hj => absurd hj (by omega)⟩
  case round =>
    obtain ⟨k, hk, rfl, hu⟩ := hrel
    by_cases hlt : k < 3
    · have hck := HC.out k hlt
      by_cases h1 : gb s k < 65
      · go_wp2
        go_ret
        exact ⟨ret_bool (HF.out k hlt (up_no _ (Or.inl h1))).symm, ((Below.refl _ _).alloc (Nat.le_refl _) _).drew⟩
      · by_cases h2 : 90 < gb s k
        · go_wp2
          go_ret
          exact ⟨ret_bool (HF.out k hlt (up_no _ (Or.inr h2))).symm, ((Below.refl _ _).alloc (Nat.le_refl _) _).drew⟩
        · have hnew : Hid (∀ j, j < k + 1 → up (gb s j) = true) := fun j hj => by
            rcases Nat.lt_or_ge j k with h' | h'
            · exact hu.out j h'
            · obtain rfl : j = k := by omega
              exact up_yes _ (by omega) (by omega)
          go_wp2
          go_round
          case rel => exact ⟨k + 1, by omega, by go_num, hnew⟩
          case measure => simp [intOf]; omega
    · go_wp2
      go_ret
      exact ⟨ret_bool (HT.out fun j hj => hu.out j (by omega)).symm, ((Below.refl _ _).alloc (Nat.le_refl _) _).drew⟩

theorem code_any (s : ByteArray) (w : World) :
    Calls Try.prog 6 #[.string s] w fun e w' => e = .returned (.bool (code s)) ∧ Below w.heap.size w w' := by
  by_cases h : s.size = 3
  · exact code_yes s w h
  · refine (code_no s w h).mono ?_
    rintro e w' ⟨rfl, rfl⟩
    exact ⟨rfl, Below.refl _ _⟩

def put (s : ByteArray) (k : Nat) (b : UInt8) : ByteArray := ⟨(s.data.toList.set k b).toArray⟩

set_option maxRecDepth 100000 in
set_option maxHeartbeats 800000 in
theorem put_calls (s : ByteArray) (k : Nat) (b : UInt8) (i c : Int) (hi : i = k) (hc : c = (b.toNat : Int)) (hk : k < s.size) (w : World) :
    Calls Try.prog 8 #[.string s, .int .i64 i, .int .u8 c] w fun e w' => e = .returned (.string (put s k b)) ∧ Below w.heap.size w w' := by
  subst hi hc
  have hconv := run_bytes_of_string (P := Try.prog) w 9 24 5 s Try.underlying9 Try.underlying24 Try.underlying5
  generalize hC : bytesRow s (grownCap w s.size 0 5) = C at hconv
  have hcell : ∀ j (hj : j < s.data.size), (w.alloc (.cells C 5 (C.size, C.size + 1))).cell? ⟨w.heap.size, j, none⟩ = some (.int .u8 (s.data[j].toNat : Int)) := by
    intro j hj
    rw [World.cell?_alloc_mark, ← hC, bytesRow_at _ _ _ hj]
  have hsz : s.size ≤ C.size := by rw [← hC]; simp [bytesRow]
  clear hC
  have hc0 := hcell k hk
  have hz0 : (w.alloc (.cells C 5 (C.size, C.size + 1))).frozen? ⟨w.heap.size, k, none⟩ = false := by
    rw [World.frozen?_alloc_mark]
    simp; omega
  have hback := run_convert_bytes_back (P := Try.prog) ((w.alloc (.cells C 5 (C.size, C.size + 1))).setCell ⟨w.heap.size, k, none⟩ (.int .u8 (b.toNat : Int))).drew 24 9 5 ⟨w.heap.size, 0, none⟩ (grownCap w s.size 0 5) (s.data.toList.set k b) Try.underlying24 Try.underlying5 Try.underlying9 (fun j hj => by
      show ((w.alloc (.cells C 5 (C.size, C.size + 1))).setCell ⟨w.heap.size, k, none⟩ (.int .u8 (b.toNat : Int))).cell? ((⟨w.heap.size, 0, none⟩ : Addr).add j) = _
      have hj' : j < s.data.size := by simpa using hj
      rw [add_plain, Nat.zero_add]
      by_cases e : j = k
      · subst e
        rw [World.cell?_setCell_same _ _ _ hc0]
        simp
      · rw [World.cell?_setCell_other _ _ _ _ (by simp [e]), hcell j hj']
        simp [Ne.symm e])
  rw [List.length_set, Array.length_toList] at hback
  clear hcell
  have hsd : s.data.size = s.size := rfl
  rw [hsd] at hback
  clear hsd
  obtain ⟨r, hr⟩ : ∃ r, put s k b = r := ⟨_, rfl⟩
  have hr' : ByteArray.mk (s.data.toList.set k b).toArray = r := hr
  rw [hr'] at hback
  rw [hr]
  clear hr hr'
  go_enter Try.func8, Try.ntmps8
  go_wp2
  go_ret
  exact ⟨rfl, (((Below.refl _ _).alloc (Nat.le_refl _) _).setCell (Nat.le_refl _) _).drew⟩
end Go.Proofs.Qxb6627189a

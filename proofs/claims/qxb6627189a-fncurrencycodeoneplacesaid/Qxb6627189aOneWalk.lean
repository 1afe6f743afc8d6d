import Derived.Test.Qxb6627189aWalks
import Derived.WalkKit
import Derived.ProofKit
import Derived.OpenShut
import Derived.ShutString
namespace Go.Proofs.Qxb6627189a.fnCurrencyCodeOnePlace
open Go.ChangeShapes Go.WideShapes Go.ChangeAt Go.RowKit
open Go.ChangeMaps (open_string shut_string)
set_option linter.unusedSimpArgs false
set_option linter.unusedVariables false      -- a walk need not use every 'w<i>' (that an integer argument fits its kind)

/-! ### THE PLAIN LAW -/
theorem put_size (s : ByteArray) (k : Nat) (b : UInt8) : (put s k b).size = s.size := by
  show (List.set s.data.toList k b).toArray.size = s.data.size
  simp

theorem code_put (s : ByteArray) (h : s.size = 3) (k : Nat) (hk : k < 3) (b : UInt8) : code (put s k b) = (up (b.toNat : Int) && code (put s k 65)) := by
  obtain ⟨⟨l⟩⟩ := s
  match l, h, k, hk with
  | [x, y, z], _, 0, _ => simp [code, put, ByteArray.size, up]
  | [x, y, z], _, 1, _ => simp [code, put, ByteArray.size, up]; simp [Bool.and_assoc, Bool.and_comm, Bool.and_left_comm]
  | [x, y, z], _, 2, _ => simp [code, put, ByteArray.size, up]; simp [Bool.and_assoc, Bool.and_comm, Bool.and_left_comm]

theorem put_same (s : ByteArray) (k : Nat) (hk : k < s.data.size) : put s k s.data[k] = s := by
  obtain ⟨d⟩ := s
  unfold put
  congr 1
  apply Array.ext
  · simp
  · intro i h1 h2
    simp [List.getElem_set]
    intro h; subst h; rfl

theorem code_bbb (b : UInt8) : code ⟨#[b, b, b]⟩ = up (b.toNat : Int) := by
  simp [code, ByteArray.size]

theorem code_same (s : ByteArray) (h : s.size = 3) (k : Nat) (hk : k < 3) (hk' : k < s.size) : code s = (up ((s[k]'hk').toNat : Int) && code (put s k 65)) := by
  have h1 := put_same s k hk'
  have h2 := code_put s h k hk (s.data[k]'hk')
  rw [h1] at h2
  exact h2

set_option maxRecDepth 100000 in
set_option maxHeartbeats 1600000 in
theorem walk3 (s : ByteArray) (k : Nat) (b : UInt8) (h3 : s.size = 3) (hk : k < 3) (hk' : k < s.size) (vA vs vb : Bool)
    (hA : code (put s k 65) = vA) (hv : up ((s[k]'hk').toNat : Int) = vs) (hvb : up (b.toNat : Int) = vb) (w : World) :
    Calls Try.prog 3 #[.string s, .int .i64 k, .int .u8 (b.toNat : Int)] w fun e w' => e = .returned (.bool true) ∧ Below w.heap.size w w' := by
  have hb : (b.toNat : Int) ≤ 255 := by have := b.toNat_lt; omega
  have hback : ∀ W : World, (convert 24 9 (.slice (some ⟨W.heap.size, 0, none⟩) 3 3)).run Try.prog (W.alloc (.cells #[.int .u8 (b.toNat : Int), .int .u8 (b.toNat : Int), .int .u8 (b.toNat : Int)] 5)) = .ok (.string ⟨#[b, b, b]⟩) (W.alloc (.cells #[.int .u8 (b.toNat : Int), .int .u8 (b.toNat : Int), .int .u8 (b.toNat : Int)] 5)) := by
    intro W
    refine run_convert_bytes_back (P := Try.prog) _ 24 9 5 ⟨W.heap.size, 0, none⟩ 3 [b, b, b] Try.underlying24 Try.underlying5 Try.underlying9 (fun j hj => ?_)
    rw [add_plain, Nat.zero_add, World.cell?_alloc_new]
    match j, hj with
    | 0, _ => rfl
    | 1, _ => rfl
    | 2, _ => rfl
  have hbbb := (code_bbb b).trans hvb
  have hput := (code_put s h3 k hk b)
  rw [hvb, hA] at hput
  have hgot := code_same s h3 k hk hk'
  rw [hv, hA] at hgot
  cases vA <;> cases vs <;> cases vb
  all_goals
    go_enter Try.func3, Try.ntmps3
    go_wp2_with fail
    refine (bytes5_calls _ _ _ _ (by unfold maxLen; omega)).mono ?_
    rintro e w' ⟨rfl, rfl⟩
    go_wp2_with fail
    refine (code_any _ _).mono ?_
    rintro e w1 ⟨rfl, hb1⟩
    go_wp2_with fail
    refine (code_any _ _).mono ?_
    rintro e w2 ⟨rfl, hb2⟩
    go_wp2_with fail
    refine (upper_calls _ _).mono ?_
    rintro e w2 ⟨rfl, rfl⟩
    go_wp2_with fail
    refine (put_calls s k 65 _ _ rfl rfl (by omega) _).mono ?_
    rintro e w3 ⟨rfl, hb3⟩
    go_wp2_with fail
    refine (put_calls s k b _ _ rfl rfl (by omega) _).mono ?_
    rintro e w4 ⟨rfl, hb4⟩
    go_wp2_with fail
    refine (code_any _ _).mono ?_
    rintro e w5 ⟨rfl, hb5⟩
    go_wp2_with fail
    refine (upper_calls _ _).mono ?_
    rintro e w5 ⟨rfl, rfl⟩
    go_wp2_with fail
    refine (code_any _ _).mono ?_
    rintro e w6 ⟨rfl, hb6⟩
    go_wp2_with fail
    refine (upper_calls _ _).mono ?_
    rintro e w6 ⟨rfl, rfl⟩
    go_wp2_with fail
    go_ret
    exact ⟨rfl, by
      have c2 : Below w'.heap.size w1 w2 := (((Below.refl _ _).alloc (Nat.le_refl _) _).trans (hb2.mono (by simp))).mono hb1.size
      have s1 := hb1.size
      have s2 : w1.heap.size ≤ w2.heap.size := c2.size
      have s3 := hb3.size
      have s4 := hb4.size
      have s5 := hb5.size
      exact ((((hb1.trans c2).trans (hb3.mono (by omega))).trans (hb4.mono (by omega))).trans (hb5.mono (by omega))).trans (hb6.mono (by omega))⟩

set_option maxRecDepth 100000 in
set_option maxHeartbeats 1600000 in
theorem walkN (s : ByteArray) (k : Nat) (b : UInt8) (hs : s.size ≤ 1048576) (h3 : s.size ≠ 3) (hk : k < 3) (vb : Bool) (hvb : up (b.toNat : Int) = vb) (w : World) :
    Calls Try.prog 3 #[.string s, .int .i64 k, .int .u8 (b.toNat : Int)] w fun e w' => e = .returned (.bool true) ∧ Below w.heap.size w w' := by
  have hb : (b.toNat : Int) ≤ 255 := by have := b.toNat_lt; omega
  have hback : ∀ W : World, (convert 24 9 (.slice (some ⟨W.heap.size, 0, none⟩) 3 3)).run Try.prog (W.alloc (.cells #[.int .u8 (b.toNat : Int), .int .u8 (b.toNat : Int), .int .u8 (b.toNat : Int)] 5)) = .ok (.string ⟨#[b, b, b]⟩) (W.alloc (.cells #[.int .u8 (b.toNat : Int), .int .u8 (b.toNat : Int), .int .u8 (b.toNat : Int)] 5)) := by
    intro W
    refine run_convert_bytes_back (P := Try.prog) _ 24 9 5 ⟨W.heap.size, 0, none⟩ 3 [b, b, b] Try.underlying24 Try.underlying5 Try.underlying9 (fun j hj => ?_)
    rw [add_plain, Nat.zero_add, World.cell?_alloc_new]
    match j, hj with
    | 0, _ => rfl
    | 1, _ => rfl
    | 2, _ => rfl
  have hbbb := (code_bbb b).trans hvb
  have hgot : code s = false := by simp [code, h3]
  have hn3 : ((s.size : Int) != 3) = true := by rw [bne_iff_ne]; omega
  have hd : decide (s.size ≤ 1048576) = true := by simp; omega
  clear h3
  cases vb
  all_goals
    go_enter Try.func3, Try.ntmps3
    go_wp2_with fail
    refine (bytes5_calls _ _ _ _ (by unfold maxLen; omega)).mono ?_
    rintro e w' ⟨rfl, rfl⟩
    go_wp2_with fail
    refine (code_any _ _).mono ?_
    rintro e w1 ⟨rfl, hb1⟩
    go_wp2_with fail
    refine (code_any _ _).mono ?_
    rintro e w2 ⟨rfl, hb2⟩
    go_wp2_with fail
    refine (upper_calls _ _).mono ?_
    rintro e w2 ⟨rfl, rfl⟩
    go_wp2_with fail
    go_ret
    exact ⟨rfl, by
      have c2 : Below w'.heap.size w1 w2 := (((Below.refl _ _).alloc (Nat.le_refl _) _).trans (hb2.mono (by simp))).mono hb1.size
      exact hb1.trans c2⟩

set_option maxRecDepth 100000 in
set_option maxHeartbeats 1600000 in
theorem walkBig (s : ByteArray) (i b : Int) (hm : s.size ≤ maxLen) (hs : ¬ s.size ≤ 1048576) (w : World) :
    Calls Try.prog 3 #[.string s, .int .i64 i, .int .u8 b] w fun e w' => e = .returned (.bool true) ∧ Below w.heap.size w w' := by
  have hd : decide (s.size ≤ 1048576) = false := by simp; omega
  go_enter Try.func3, Try.ntmps3
  go_wp2_with fail
  refine (bytes5_calls _ _ _ _ hm).mono ?_
  rintro e w' ⟨rfl, rfl⟩
  go_wp2_with fail
  go_ret
  exact ⟨rfl, Below.refl _ _⟩

set_option maxRecDepth 100000 in
set_option maxHeartbeats 1600000 in
theorem walkOut (s : ByteArray) (i b : Int) (hs : s.size ≤ 1048576) (hi : i < 0 ∨ 2 < i) (w : World) :
    Calls Try.prog 3 #[.string s, .int .i64 i, .int .u8 b] w fun e w' => e = .returned (.bool true) ∧ Below w.heap.size w w' := by
  have hd : decide (s.size ≤ 1048576) = true := by simp; omega
  rcases hi with hi | hi
  all_goals
    go_enter Try.func3, Try.ntmps3
    go_wp2_with fail
    refine (bytes5_calls _ _ _ _ (by unfold maxLen; omega)).mono ?_
    rintro e w' ⟨rfl, rfl⟩
    go_wp2_with fail
    go_ret
    exact ⟨rfl, Below.refl _ _⟩

theorem walk (a0 : ByteArray) (a1 : Int) (a2 : Int) (w0 : a0.size ≤ maxLen) (w2 : (Lit.int .u8 a2).wf = true) (w : World) :
    Calls Try.prog 3 #[.string a0, .int .i64 a1, .int .u8 a2] w fun e w' => e = .returned (.bool true) ∧ Below w.heap.size w w' := by
  have hu := bounds_u8 w2
  obtain ⟨b, rfl⟩ : ∃ b : UInt8, a2 = (b.toNat : Int) := ⟨UInt8.ofNat a2.toNat, by
    rw [UInt8.toNat_ofNat']; omega⟩
  by_cases hs : a0.size ≤ 1048576
  · by_cases hi : a1 < 0 ∨ 2 < a1
    · exact walkOut a0 a1 _ hs hi w
    · obtain ⟨k, rfl⟩ := Int.eq_ofNat_of_zero_le (show 0 ≤ a1 by omega)
      by_cases h3 : a0.size = 3
      · exact walk3 a0 k b h3 (by omega) (by omega) _ _ _ rfl rfl rfl w
      · exact walkN a0 k b hs h3 (by omega) _ rfl w
  · exact walkBig a0 a1 _ w0 hs w
end Go.Proofs.Qxb6627189a.fnCurrencyCodeOnePlace

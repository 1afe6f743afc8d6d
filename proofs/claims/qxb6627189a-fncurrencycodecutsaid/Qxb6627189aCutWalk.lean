import Derived.Test.Qxb6627189aWalks
import Derived.WalkSpells
import Derived.WalkLawsBesides
import Derived.BigQuiet
import Derived.Deep.QuietTactic
namespace Go.Proofs.Qxb6627189a.fnCurrencyCodeCut
open Go.ChangeShapes Go.WideShapes Go.ChangeAt Go.RowKit
set_option linter.unusedVariables false
set_option linter.unusedSimpArgs false

set_option maxRecDepth 100000 in
set_option maxHeartbeats 1600000 in
theorem from_calls (s : ByteArray) (hs : s.size ≤ maxLen) (w : World) :
    Calls Try.prog 10 #[.string s] w fun e w' => ∃ a b c : UInt8, e = .returned (.string ⟨#[a, b, c]⟩) ∧ up (a.toNat : Int) = true ∧ up (b.toNat : Int) = true ∧ up (c.toNat : Int) = true ∧ Below w.heap.size w w' := by
  unfold maxLen at hs
  have hmk : ∀ w, (Instr.makeSlice 24 (.int .i64 3) (.int .i64 3)).run Try.prog w = .ok (.slice (some ⟨w.heap.size, 0, none⟩) 3 3) (w.alloc (.cells #[.int .u8 0, .int .u8 0, .int .u8 0] 5)) := fun _ => by kernel_rfl
  go_enter Try.func10, Try.ntmps10
  go_wp2
  go_loopw [4] (fun i wr => ∃ (k : Nat) (a b c : Int), k ≤ 3 ∧ i = .int .i64 k ∧ wr = w.alloc (.cells #[.int .u8 a, .int .u8 b, .int .u8 c] 5) ∧ (0 < k → 65 ≤ a ∧ a ≤ 90) ∧ (1 < k → 65 ≤ b ∧ b ≤ 90) ∧ (2 < k → 65 ≤ c ∧ c ≤ 90)) (fun i _ => 3 - (intOf i).toNat)
  case atStart => exact ⟨0, 0, 0, 0, by omega, rfl, rfl, by omega, by omega, by omega⟩
  case round =>
    obtain ⟨k, a, b, c, hk, rfl, rfl, ha, hb, hc⟩ := hrel
    match k, hk with
    | 0, _ =>
      by_cases hz : 0 < s.size
      · go_wp2
        exact ⟨⟨1, _, _, _, by omega, rfl, rfl, fun _ => by omega, by omega, by omega⟩, by simp [intOf]⟩
      · go_wp2
        exact ⟨⟨1, _, _, _, by omega, rfl, rfl, fun _ => by omega, by omega, by omega⟩, by simp [intOf]⟩
    | 1, _ =>
      have ha' := ha (by omega)
      by_cases hz : 1 < s.size
      · go_wp2
        exact ⟨⟨2, _, _, _, by omega, rfl, rfl, fun _ => by omega, fun _ => by omega, by omega⟩, by simp [intOf]⟩
      · go_wp2
        exact ⟨⟨2, _, _, _, by omega, rfl, rfl, fun _ => by omega, fun _ => by omega, by omega⟩, by simp [intOf]⟩
    | 2, _ =>
      have ha' := ha (by omega)
      have hb' := hb (by omega)
      by_cases hz : 2 < s.size
      · go_wp2
        exact ⟨⟨3, _, _, _, by omega, rfl, rfl, fun _ => by omega, fun _ => by omega, fun _ => by omega⟩, by simp [intOf]⟩
      · go_wp2
        exact ⟨⟨3, _, _, _, by omega, rfl, rfl, fun _ => by omega, fun _ => by omega, fun _ => by omega⟩, by simp [intOf]⟩
    | 3, _ =>
      obtain ⟨ha1, ha2⟩ := ha (by omega)
      obtain ⟨hb1, hb2⟩ := hb (by omega)
      obtain ⟨hc1, hc2⟩ := hc (by omega)
      obtain ⟨a', rfl⟩ : ∃ b : UInt8, a = (b.toNat : Int) := ⟨UInt8.ofNat a.toNat, by rw [UInt8.toNat_ofNat']; omega⟩
      obtain ⟨b', rfl⟩ : ∃ x : UInt8, b = (x.toNat : Int) := ⟨UInt8.ofNat b.toNat, by rw [UInt8.toNat_ofNat']; omega⟩
      obtain ⟨c', rfl⟩ : ∃ x : UInt8, c = (x.toNat : Int) := ⟨UInt8.ofNat c.toNat, by rw [UInt8.toNat_ofNat']; omega⟩
      have hback : (convert 24 9 (.slice (some ⟨w.heap.size, 0, none⟩) 3 3)).run Try.prog (w.alloc (.cells #[.int .u8 (a'.toNat : Int), .int .u8 (b'.toNat : Int), .int .u8 (c'.toNat : Int)] 5)) = .ok (.string ⟨#[a', b', c']⟩) (w.alloc (.cells #[.int .u8 (a'.toNat : Int), .int .u8 (b'.toNat : Int), .int .u8 (c'.toNat : Int)] 5)) := by
        refine run_convert_bytes_back (P := Try.prog) _ 24 9 5 ⟨w.heap.size, 0, none⟩ 3 [a', b', c'] Try.underlying24 Try.underlying5 Try.underlying9 (fun j hj => ?_)
        rw [add_plain, Nat.zero_add, World.cell?_alloc_new]
        match j, hj with
        | 0, _ => rfl
        | 1, _ => rfl
        | 2, _ => rfl
      go_wp2
      go_ret
      exact ⟨a', b', c', rfl, up_yes _ ha1 ha2, up_yes _ hb1 hb2, up_yes _ hc1 hc2, (Below.refl _ _).alloc (Nat.le_refl _) _⟩

theorem from_any (s : ByteArray) (hs : s.size ≤ maxLen) (w : World) :
    Calls Try.prog 10 #[.string s] w fun e w' => ∃ t : ByteArray, e = .returned (.string t) ∧ t.size = 3 ∧ (∀ j (hj : j < t.size), 65 ≤ (t[j].toNat : Int) ∧ (t[j].toNat : Int) ≤ 90) ∧ Below w.heap.size w w' := by
  refine (from_calls s hs w).mono ?_
  rintro e w' ⟨a, b, c, rfl, ha, hb, hc, h⟩
  simp only [up, Bool.and_eq_true, decide_eq_true_eq] at ha hb hc
  refine ⟨⟨#[a, b, c]⟩, rfl, rfl, fun j hj => ?_, h⟩
  match j, hj with
  | 0, _ => exact ha
  | 1, _ => exact hb
  | 2, _ => exact hc

theorem code_up (t : ByteArray) (h : t.size = 3) (hu : ∀ j (hj : j < t.size), 65 ≤ (t[j].toNat : Int) ∧ (t[j].toNat : Int) ≤ 90) : code t = true := by
  simp only [code, h, decide_true, Bool.true_and, List.all_eq_true]
  intro b hb
  obtain ⟨j, hj, rfl⟩ := List.getElem_of_mem hb
  have := hu j (by simpa using hj)
  exact up_yes _ this.1 this.2

theorem code_spoilt (t : ByteArray) (k : Nat) (b : UInt8) (h : t.size = 3) (hk : k < 3) (hb : 90 < (b.toNat : Int)) : code (put t k b) = false := by
  have e : up (b.toNat : Int) = false := up_no _ (Or.inr hb)
  obtain ⟨⟨l⟩⟩ := t
  match l, h, k, hk with
  | [x, y, z], _, 0, _ => simp [code, put, ByteArray.size, e]
  | [x, y, z], _, 1, _ => simp [code, put, ByteArray.size, e]
  | [x, y, z], _, 2, _ => simp [code, put, ByteArray.size, e]

theorem code_size (t : ByteArray) (h : t.size ≠ 3) : code t = false := by
  unfold code
  rw [decide_eq_false h, Bool.false_and]

theorem code_long (t : ByteArray) (h : t.size = 3) : code (t ++ t.extract 0 1) = false :=
  code_size _ (by simp [ByteArray.size_append, ByteArray.size_extract]; omega)

theorem code_short (t : ByteArray) (h : t.size = 3) : code (t.extract 0 2) = false :=
  code_size _ (by simp [ByteArray.size_extract]; omega)

theorem byte_up (n : Nat) (h1 : 65 ≤ (n : Int)) (h2 : (n : Int) ≤ 90) : ∃ sp : UInt8, Hid ((n : Int) + 32 = (sp.toNat : Int)) ∧ 90 < (sp.toNat : Int) :=
  ⟨UInt8.ofNat (n + 32), by show (n : Int) + 32 = _; rw [UInt8.toNat_ofNat']; omega, by rw [UInt8.toNat_ofNat']; omega⟩

theorem three (s : ByteArray) (h : s.size = 3) : ∃ x y z, s = ⟨#[x, y, z]⟩ := by
  obtain ⟨⟨l⟩⟩ := s
  match l, h with
  | [x, y, z], _ => exact ⟨x, y, z, rfl⟩

theorem code_xyz (x y z : UInt8) : code ⟨#[x, y, z]⟩ = (up (x.toNat : Int) && (up (y.toNat : Int) && up (z.toNat : Int))) := by
  simp [code, ByteArray.size]

theorem code_cut (s : ByteArray) (k : Nat) (h : s.size = 3) (hk : k ≤ 3) :
    code s = (code (s.extract 0 k ++ (ByteArray.mk #[65, 65, 65]).extract k 3) && code ((ByteArray.mk #[65, 65, 65]).extract 0 k ++ s.extract k 3)) := by
  have h65 : up ((65 : UInt8).toNat : Int) = true := by decide
  obtain ⟨x, y, z, rfl⟩ := three s h
  have hk4 : k = 0 ∨ k = 1 ∨ k = 2 ∨ k = 3 := by omega
  rcases hk4 with rfl | rfl | rfl | rfl
  · have e1 : ((ByteArray.mk #[x, y, z]).extract 0 0 ++ (ByteArray.mk #[65, 65, 65]).extract 0 3) = ⟨#[65, 65, 65]⟩ := by ext1; simp
    have e2 : ((ByteArray.mk #[65, 65, 65]).extract 0 0 ++ (ByteArray.mk #[x, y, z]).extract 0 3) = ⟨#[x, y, z]⟩ := by ext1; simp
    rw [e1, e2]; simp only [code_xyz, h65, Bool.true_and]
  · have e1 : ((ByteArray.mk #[x, y, z]).extract 0 1 ++ (ByteArray.mk #[65, 65, 65]).extract 1 3) = ⟨#[x, 65, 65]⟩ := by ext1; simp
    have e2 : ((ByteArray.mk #[65, 65, 65]).extract 0 1 ++ (ByteArray.mk #[x, y, z]).extract 1 3) = ⟨#[65, y, z]⟩ := by ext1; simp
    rw [e1, e2]; simp only [code_xyz, h65, Bool.true_and, Bool.and_true]
  · have e1 : ((ByteArray.mk #[x, y, z]).extract 0 2 ++ (ByteArray.mk #[65, 65, 65]).extract 2 3) = ⟨#[x, y, 65]⟩ := by ext1; simp
    have e2 : ((ByteArray.mk #[65, 65, 65]).extract 0 2 ++ (ByteArray.mk #[x, y, z]).extract 2 3) = ⟨#[65, 65, z]⟩ := by ext1; simp
    rw [e1, e2]; simp only [code_xyz, h65, Bool.true_and, Bool.and_true, Bool.and_assoc]
  · have e1 : ((ByteArray.mk #[x, y, z]).extract 0 3 ++ (ByteArray.mk #[65, 65, 65]).extract 3 3) = ⟨#[x, y, z]⟩ := by ext1; simp
    have e2 : ((ByteArray.mk #[65, 65, 65]).extract 0 3 ++ (ByteArray.mk #[x, y, z]).extract 3 3) = ⟨#[65, 65, 65]⟩ := by ext1; simp
    rw [e1, e2]; simp only [code_xyz, h65, Bool.true_and, Bool.and_true]

set_option maxRecDepth 100000 in
set_option maxHeartbeats 1600000 in
theorem walkA3 (s : ByteArray) (k : Nat) (hs : s.size ≤ 1048576) (h3 : s.size = 3) (hk : k < 3) (w : World) :
    Calls Try.prog 4 #[.string s, .int .i64 k] w fun e w' => e = .returned (.bool true) ∧ Below w.heap.size w w' := by
  have hd : decide (s.size ≤ 1048576) = true := by simp; omega
  have hcut := code_cut s k h3 (by omega)
  generalize hL : code (s.extract 0 k ++ (ByteArray.mk #[65, 65, 65]).extract k 3) = vL at hcut
  generalize hR : code ((ByteArray.mk #[65, 65, 65]).extract 0 k ++ s.extract k 3) = vR at hcut
  cases vL <;> cases vR
  all_goals simp only [Bool.and_true, Bool.and_false, Bool.true_and, Bool.false_and] at hcut
  all_goals
    go_enter Try.func4, Try.ntmps4
    go_wp2_with fail
    refine (bytes9_calls _ _ _ (by unfold maxLen; omega)).mono ?_
    rintro e w' ⟨rfl, rfl⟩
    go_wp2_with fail
    refine (from_any _ (by unfold maxLen; omega) _).mono ?_
    rintro e w1 ⟨t, rfl, ht3, hu, hb1⟩
    have hcode := code_up t ht3 hu
    obtain ⟨hu1, hu2⟩ := hu k (by omega)
    obtain ⟨sp, hsp, hsp2⟩ := byte_up _ hu1 hu2
    have hspoil := code_spoilt t k sp ht3 (by omega) hsp2
    have hcat := code_long t ht3
    have hsub := code_short t ht3
    clear hu
    go_wp2_with fail
    refine (code_any _ _).mono ?_
    rintro e w2 ⟨rfl, hb2⟩
    go_wp2_with fail
    refine (put_calls t k sp _ _ rfl hsp (by omega) _).mono ?_
    rintro e w3 ⟨rfl, hb3⟩
    go_wp2_with fail
    refine (code_any _ _).mono ?_
    rintro e w4 ⟨rfl, hb4⟩
    go_wp2_with fail
    refine (code_any _ _).mono ?_
    rintro e w5 ⟨rfl, hb5⟩
    go_wp2_with fail
    refine (code_any _ _).mono ?_
    rintro e w6 ⟨rfl, hb6⟩
    go_wp2_with fail
    refine (code_any _ _).mono ?_
    rintro e w7 ⟨rfl, hb7⟩
    go_wp2_with fail
    go_region
    go_wp2_with fail
    go_region
    go_wp2_with fail
    refine (code_any _ _).mono ?_
    rintro e w8 ⟨rfl, hb8⟩
    go_wp2_with fail
    first
      | (refine (code_any _ _).mono ?_
         rintro e w9 ⟨rfl, hb9⟩
         go_wp2_with fail
         go_ret
         exact ⟨rfl, by
          have s1 := hb1.size
          have s2 := hb2.size
          have s3 := hb3.size
          have s4 := hb4.size
          have s5 := hb5.size
          have s6 := hb6.size
          have s7 := hb7.size
          have c7 := (((((hb1.trans (hb2.mono (by omega))).trans (hb3.mono (by omega))).trans (hb4.mono (by omega))).trans (hb5.mono (by omega))).trans (hb6.mono (by omega))).trans (hb7.mono (by omega))
          have b8 : Below w7.heap.size w7 w8 := (Below.refl _ _).drew.drew.trans hb8
          have s8 := b8.size
          exact (c7.trans (b8.mono (by omega))).trans (hb9.mono (by omega))⟩)
      | (go_ret
         exact ⟨rfl, by
          have s1 := hb1.size
          have s2 := hb2.size
          have s3 := hb3.size
          have s4 := hb4.size
          have s5 := hb5.size
          have s6 := hb6.size
          have s7 := hb7.size
          have c7 := (((((hb1.trans (hb2.mono (by omega))).trans (hb3.mono (by omega))).trans (hb4.mono (by omega))).trans (hb5.mono (by omega))).trans (hb6.mono (by omega))).trans (hb7.mono (by omega))
          have b8 : Below w7.heap.size w7 w8 := (Below.refl _ _).drew.drew.trans hb8
          exact c7.trans (b8.mono (by omega))⟩)

set_option maxRecDepth 100000 in
set_option maxHeartbeats 1600000 in
theorem walkAN (s : ByteArray) (k : Nat) (hs : s.size ≤ 1048576) (h3 : s.size ≠ 3) (hk : k < 3) (w : World) :
    Calls Try.prog 4 #[.string s, .int .i64 k] w fun e w' => e = .returned (.bool true) ∧ Below w.heap.size w w' := by
  have hd : decide (s.size ≤ 1048576) = true := by simp; omega
  have hn3 : ((s.size : Int) != 3) = true := by rw [bne_iff_ne]; omega
  have hgot : code s = false := code_size s h3
  clear h3
  all_goals
    go_enter Try.func4, Try.ntmps4
    go_wp2_with fail
    refine (bytes9_calls _ _ _ (by unfold maxLen; omega)).mono ?_
    rintro e w' ⟨rfl, rfl⟩
    go_wp2_with fail
    refine (from_any _ (by unfold maxLen; omega) _).mono ?_
    rintro e w1 ⟨t, rfl, ht3, hu, hb1⟩
    have hcode := code_up t ht3 hu
    obtain ⟨hu1, hu2⟩ := hu k (by omega)
    obtain ⟨sp, hsp, hsp2⟩ := byte_up _ hu1 hu2
    have hspoil := code_spoilt t k sp ht3 (by omega) hsp2
    have hcat := code_long t ht3
    have hsub := code_short t ht3
    clear hu
    go_wp2_with fail
    refine (code_any _ _).mono ?_
    rintro e w2 ⟨rfl, hb2⟩
    go_wp2_with fail
    refine (put_calls t k sp _ _ rfl hsp (by omega) _).mono ?_
    rintro e w3 ⟨rfl, hb3⟩
    go_wp2_with fail
    refine (code_any _ _).mono ?_
    rintro e w4 ⟨rfl, hb4⟩
    go_wp2_with fail
    refine (code_any _ _).mono ?_
    rintro e w5 ⟨rfl, hb5⟩
    go_wp2_with fail
    refine (code_any _ _).mono ?_
    rintro e w6 ⟨rfl, hb6⟩
    go_wp2_with fail
    refine (code_any _ _).mono ?_
    rintro e w7 ⟨rfl, hb7⟩
    go_wp2_with fail
    go_ret
    exact ⟨rfl, by
      have s1 := hb1.size
      have s2 := hb2.size
      have s3 := hb3.size
      have s4 := hb4.size
      have s5 := hb5.size
      have s6 := hb6.size
      have s7 := hb7.size
      have c7 := (((((hb1.trans (hb2.mono (by omega))).trans (hb3.mono (by omega))).trans (hb4.mono (by omega))).trans (hb5.mono (by omega))).trans (hb6.mono (by omega))).trans (hb7.mono (by omega))
      exact c7⟩

set_option maxRecDepth 100000 in
set_option maxHeartbeats 1600000 in
theorem walkB3 (s : ByteArray) (k : Nat) (hs : s.size ≤ 1048576) (h3 : s.size = 3) (hk1 : 3 ≤ k) (hk2 : k ≤ 3) (w : World) :
    Calls Try.prog 4 #[.string s, .int .i64 k] w fun e w' => e = .returned (.bool true) ∧ Below w.heap.size w w' := by
  have hd : decide (s.size ≤ 1048576) = true := by simp; omega
  have hcut := code_cut s k h3 (by omega)
  generalize hL : code (s.extract 0 k ++ (ByteArray.mk #[65, 65, 65]).extract k 3) = vL at hcut
  generalize hR : code ((ByteArray.mk #[65, 65, 65]).extract 0 k ++ s.extract k 3) = vR at hcut
  cases vL <;> cases vR
  all_goals simp only [Bool.and_true, Bool.and_false, Bool.true_and, Bool.false_and] at hcut
  all_goals
    go_enter Try.func4, Try.ntmps4
    go_wp2_with fail
    refine (bytes9_calls _ _ _ (by unfold maxLen; omega)).mono ?_
    rintro e w' ⟨rfl, rfl⟩
    go_wp2_with fail
    refine (from_any _ (by unfold maxLen; omega) _).mono ?_
    rintro e w1 ⟨t, rfl, ht3, hu, hb1⟩
    have hcode := code_up t ht3 hu
    obtain ⟨hu1, hu2⟩ := hu 2 (by omega)
    obtain ⟨sp, hsp, hsp2⟩ := byte_up _ hu1 hu2
    have hspoil := code_spoilt t 2 sp ht3 (by omega) hsp2
    have hcat := code_long t ht3
    have hsub := code_short t ht3
    clear hu
    go_wp2_with fail
    refine (code_any _ _).mono ?_
    rintro e w2 ⟨rfl, hb2⟩
    go_wp2_with fail
    refine (put_calls t 2 sp _ _ rfl hsp (by omega) _).mono ?_
    rintro e w3 ⟨rfl, hb3⟩
    go_wp2_with fail
    refine (code_any _ _).mono ?_
    rintro e w4 ⟨rfl, hb4⟩
    go_wp2_with fail
    refine (code_any _ _).mono ?_
    rintro e w5 ⟨rfl, hb5⟩
    go_wp2_with fail
    refine (code_any _ _).mono ?_
    rintro e w6 ⟨rfl, hb6⟩
    go_wp2_with fail
    refine (code_any _ _).mono ?_
    rintro e w7 ⟨rfl, hb7⟩
    go_wp2_with fail
    go_region
    go_wp2_with fail
    go_region
    go_wp2_with fail
    refine (code_any _ _).mono ?_
    rintro e w8 ⟨rfl, hb8⟩
    go_wp2_with fail
    first
      | (refine (code_any _ _).mono ?_
         rintro e w9 ⟨rfl, hb9⟩
         go_wp2_with fail
         go_ret
         exact ⟨rfl, by
          have s1 := hb1.size
          have s2 := hb2.size
          have s3 := hb3.size
          have s4 := hb4.size
          have s5 := hb5.size
          have s6 := hb6.size
          have s7 := hb7.size
          have c7 := (((((hb1.trans (hb2.mono (by omega))).trans (hb3.mono (by omega))).trans (hb4.mono (by omega))).trans (hb5.mono (by omega))).trans (hb6.mono (by omega))).trans (hb7.mono (by omega))
          have b8 : Below w7.heap.size w7 w8 := (Below.refl _ _).drew.drew.trans hb8
          have s8 := b8.size
          exact (c7.trans (b8.mono (by omega))).trans (hb9.mono (by omega))⟩)
      | (go_ret
         exact ⟨rfl, by
          have s1 := hb1.size
          have s2 := hb2.size
          have s3 := hb3.size
          have s4 := hb4.size
          have s5 := hb5.size
          have s6 := hb6.size
          have s7 := hb7.size
          have c7 := (((((hb1.trans (hb2.mono (by omega))).trans (hb3.mono (by omega))).trans (hb4.mono (by omega))).trans (hb5.mono (by omega))).trans (hb6.mono (by omega))).trans (hb7.mono (by omega))
          have b8 : Below w7.heap.size w7 w8 := (Below.refl _ _).drew.drew.trans hb8
          exact c7.trans (b8.mono (by omega))⟩)

set_option maxRecDepth 100000 in
set_option maxHeartbeats 1600000 in
theorem walkBN (s : ByteArray) (k : Nat) (hs : s.size ≤ 1048576) (h3 : s.size ≠ 3) (hk1 : 3 ≤ k) (hk2 : k ≤ 3) (w : World) :
    Calls Try.prog 4 #[.string s, .int .i64 k] w fun e w' => e = .returned (.bool true) ∧ Below w.heap.size w w' := by
  have hd : decide (s.size ≤ 1048576) = true := by simp; omega
  have hn3 : ((s.size : Int) != 3) = true := by rw [bne_iff_ne]; omega
  have hgot : code s = false := code_size s h3
  clear h3
  all_goals
    go_enter Try.func4, Try.ntmps4
    go_wp2_with fail
    refine (bytes9_calls _ _ _ (by unfold maxLen; omega)).mono ?_
    rintro e w' ⟨rfl, rfl⟩
    go_wp2_with fail
    refine (from_any _ (by unfold maxLen; omega) _).mono ?_
    rintro e w1 ⟨t, rfl, ht3, hu, hb1⟩
    have hcode := code_up t ht3 hu
    obtain ⟨hu1, hu2⟩ := hu 2 (by omega)
    obtain ⟨sp, hsp, hsp2⟩ := byte_up _ hu1 hu2
    have hspoil := code_spoilt t 2 sp ht3 (by omega) hsp2
    have hcat := code_long t ht3
    have hsub := code_short t ht3
    clear hu
    go_wp2_with fail
    refine (code_any _ _).mono ?_
    rintro e w2 ⟨rfl, hb2⟩
    go_wp2_with fail
    refine (put_calls t 2 sp _ _ rfl hsp (by omega) _).mono ?_
    rintro e w3 ⟨rfl, hb3⟩
    go_wp2_with fail
    refine (code_any _ _).mono ?_
    rintro e w4 ⟨rfl, hb4⟩
    go_wp2_with fail
    refine (code_any _ _).mono ?_
    rintro e w5 ⟨rfl, hb5⟩
    go_wp2_with fail
    refine (code_any _ _).mono ?_
    rintro e w6 ⟨rfl, hb6⟩
    go_wp2_with fail
    refine (code_any _ _).mono ?_
    rintro e w7 ⟨rfl, hb7⟩
    go_wp2_with fail
    go_ret
    exact ⟨rfl, by
      have s1 := hb1.size
      have s2 := hb2.size
      have s3 := hb3.size
      have s4 := hb4.size
      have s5 := hb5.size
      have s6 := hb6.size
      have s7 := hb7.size
      have c7 := (((((hb1.trans (hb2.mono (by omega))).trans (hb3.mono (by omega))).trans (hb4.mono (by omega))).trans (hb5.mono (by omega))).trans (hb6.mono (by omega))).trans (hb7.mono (by omega))
      exact c7⟩


set_option maxRecDepth 100000 in
set_option maxHeartbeats 1600000 in
theorem walkBig (s : ByteArray) (i : Int) (hm : s.size ≤ maxLen) (hs : ¬ s.size ≤ 1048576) (w : World) :
    Calls Try.prog 4 #[.string s, .int .i64 i] w fun e w' => e = .returned (.bool true) ∧ Below w.heap.size w w' := by
  have hd : decide (s.size ≤ 1048576) = false := by simp; omega
  go_enter Try.func4, Try.ntmps4
  go_wp2_with fail
  refine (bytes9_calls _ _ _ hm).mono ?_
  rintro e w' ⟨rfl, rfl⟩
  go_wp2_with fail
  go_ret
  exact ⟨rfl, Below.refl _ _⟩

set_option maxRecDepth 100000 in
set_option maxHeartbeats 1600000 in
theorem walkOut (s : ByteArray) (i : Int) (hs : s.size ≤ 1048576) (hi : i < 0 ∨ 3 < i) (w : World) :
    Calls Try.prog 4 #[.string s, .int .i64 i] w fun e w' => e = .returned (.bool true) ∧ Below w.heap.size w w' := by
  have hd : decide (s.size ≤ 1048576) = true := by simp; omega
  rcases hi with hi | hi
  all_goals
    go_enter Try.func4, Try.ntmps4
    go_wp2_with fail
    refine (bytes9_calls _ _ _ (by unfold maxLen; omega)).mono ?_
    rintro e w' ⟨rfl, rfl⟩
    go_wp2_with fail
    go_ret
    exact ⟨rfl, Below.refl _ _⟩

theorem walk (a0 : ByteArray) (a1 : Int) (w0 : a0.size ≤ maxLen) (w : World) :
    Calls Try.prog 4 #[.string a0, .int .i64 a1] w fun e w' => e = .returned (.bool true) ∧ Below w.heap.size w w' := by
  by_cases hs : a0.size ≤ 1048576
  · by_cases hi : a1 < 0 ∨ 3 < a1
    · exact walkOut a0 a1 hs hi w
    · obtain ⟨k, rfl⟩ := Int.eq_ofNat_of_zero_le (show 0 ≤ a1 by omega)
      by_cases h3 : a0.size = 3
      · by_cases hk : k < 3
        · exact walkA3 a0 k hs h3 hk w
        · exact walkB3 a0 k hs h3 (by omega) (by omega) w
      · by_cases hk : k < 3
        · exact walkAN a0 k hs h3 hk w
        · exact walkBN a0 k hs h3 (by omega) (by omega) w
  · exact walkBig a0 a1 w0 hs w
end Go.Proofs.Qxb6627189a.fnCurrencyCodeCut

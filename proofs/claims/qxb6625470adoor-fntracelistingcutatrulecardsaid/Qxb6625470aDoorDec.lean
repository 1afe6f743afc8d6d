import Derived.Test.Qxb6625470aDoorLines
import Derived.Lib.ItoaMem
namespace Go.Proofs.Qxb6625470aDoor
open Go.RowKit
set_option linter.unusedVariables false
set_option linter.unusedSimpArgs false

/-- The digits of r, none for 0. -/
def decR (r : Nat) : List UInt8 := if r = 0 then [] else Lib.decDigits r

theorem decR_pos {r : Nat} (h : 0 < r) : decR r = decR (r / 10) ++ [UInt8.ofNat (48 + r % 10)] := by
  have hr : ¬ r = 0 := by omega
  unfold decR
  rw [if_neg hr]
  by_cases h10 : r < 10
  · rw [Lib.decDigits, dif_pos h10, if_pos (by omega), List.nil_append, Nat.mod_eq_of_lt h10]
  · rw [Lib.decDigits, dif_neg h10, if_neg (by omega)]

theorem decR_len (f r : Nat) (h : r < 10 ^ f) : (decR r).length ≤ f := by
  induction f generalizing r with
  | zero =>
    have : r = 0 := by simpa using h
    subst this
    simp [decR]
  | succ f ih =>
    by_cases h0 : r = 0
    · subst h0; simp [decR]
    · rw [decR_pos (by omega), List.length_append]
      have := ih (r / 10) (by rw [Nat.pow_succ] at h; omega)
      simp only [List.length_cons, List.length_nil]
      omega

theorem drop_set (arr : Array Value) (j : Nat) (v : Value) (h : j < arr.size) : (arr.setIfInBounds j v).toList.drop j = v :: arr.toList.drop (j + 1) := by
  rw [Array.toList_setIfInBounds, List.set_eq_take_append_cons_drop, if_pos (by simpa using h)]
  rw [List.drop_left' (by rw [List.length_take, Array.length_toList]; omega)]

theorem byte_of (r : Nat) : (Value.int .u8 (48 + (r : Int) % 10)) = .int .u8 ((UInt8.ofNat (48 + r % 10)).toNat : Int) := by
  rw [UInt8.toNat_ofNat']
  congr 1
  omega

set_option maxRecDepth 100000 in
set_option maxHeartbeats 1600000 in
theorem dec_any (v0 : Value) (xs0 : List UInt8) (n : Nat) (a : Int) (ha : a = (n : Int)) (w : World) (hn : 1 ≤ n) (hn2 : n ≤ 99999) (hown : Own w v0 xs0) (hlim : xs0.length ≤ 1000000000) :
    Calls Tryd.prog 16 #[v0, .int .i64 a] w (RV fun v w' => Own w' v (xs0 ++ Lib.decDigits n) ∧ w.grownBy w' v0.ownBlock ∧ Later w v0 v) := by
  subst ha
  have hdl := decR_len 5 n (by omega)
  have HDL : Hid ((decR n).length ≤ 5) := hdl
  clear hdl
  go_enter Tryd.func16, Tryd.ntmps16
  go_wp2
  go_loopw [1, 6] (fun q i wr => ∃ (k r : Nat) (arr : Array Value) (ds : List UInt8), q = .int .i64 (r : Int) ∧ i = .int .i64 (k : Int) ∧ wr = w.alloc (.cells arr 56) ∧ r ≤ 99999 ∧ k ≤ 24 ∧ Hid (arr.size = 24) ∧ Hid (arr.toList.drop k = Lib.byteCells ds) ∧ Hid (decR r ++ ds = decR n) ∧ Hid (ds.length + k = 24)) (fun q _ _ => (intOf q).toNat)
  case atStart => exact ⟨24, n, Lib.zeros24, [], rfl, rfl, rfl, hn2, by omega, rfl, rfl, by show decR n ++ [] = decR n; simp, rfl⟩
  case round =>
    obtain ⟨k, r, arr, ds, rfl, rfl, rfl, hr, hk, hsz, hdr, hdd, hlen⟩ := hrel
    by_cases hr0 : 0 < r
    · have hk1 : 1 ≤ k := by
        have h1 := hlen.out
        have h2 := hdd.out
        have h3 := HDL.out
        have h4 := congrArg List.length h2
        rw [List.length_append, decR_pos hr0, List.length_append] at h4
        simp only [List.length_cons, List.length_nil] at h4
        omega
      obtain ⟨j, rfl⟩ : ∃ j, k = j + 1 := ⟨k - 1, by omega⟩
      obtain ⟨u, hu⟩ : ∃ u, arr[j]? = some u := ⟨_, Array.getElem?_eq_getElem (by have := hsz.out; omega)⟩
      go_wp2
      exact ⟨⟨j, r / 10, arr.setIfInBounds j (.int .u8 (48 + (r : Int) % 10)), UInt8.ofNat (48 + r % 10) :: ds, by go_num, rfl, rfl, by omega, by omega,
        by show (arr.setIfInBounds j _).size = 24; rw [Array.size_setIfInBounds]; exact hsz.out,
        by show (arr.setIfInBounds j _).toList.drop j = _; rw [drop_set arr j _ (by have := hsz.out; omega), hdr.out, byte_of]; rfl,
        by show decR (r / 10) ++ UInt8.ofNat (48 + r % 10) :: ds = decR n; rw [← hdd.out, decR_pos hr0]; simp,
        by have := hlen.out; show (UInt8.ofNat (48 + r % 10) :: ds).length + j = 24; rw [List.length_cons]; omega⟩, by simp [intOf]; omega⟩
    · obtain rfl : r = 0 := by omega
      have hds : ds = Lib.decDigits n := by
        have h := hdd.out
        have h0 : decR 0 = [] := rfl
        have h1 : decR n = Lib.decDigits n := by unfold decR; rw [if_neg (by omega)]
        rw [h0, h1, List.nil_append] at h
        exact h
      have hk24 : k < 24 := by
        have h1 := hlen.out
        have h2 := Lib.nDigits_pos n
        rw [hds, Lib.decDigits_length] at h1
        omega
      have hown1 : Own (w.alloc (.cells arr 56)) v0 xs0 := hown.below ((Below.refl _ _).alloc (Nat.le_refl _) _)
      have hal : Tryd.prog.arrayLen 56 = 24 := by kernel_rfl
      have hel : Tryd.prog.elem 56 = 5 := by kernel_rfl
      have hu56 : Tryd.prog.underlying 56 = some (.array (Tryd.prog.arrayLen 56) (Tryd.prog.elem 56)) := by rw [hal, hel]; exact Tryd.underlying56
      have hsl : ∀ W, (Instr.sliceAt 56 (.pointer (some ⟨w.heap.size, 0, none⟩)) (some (.int .i64 (k : Int))) none none).run Tryd.prog W = .ok (.slice (some ⟨w.heap.size, k, none⟩) (24 - k) (24 - k)) W := fun W => by
        have hne : ¬ 24 = k := by omega
        rw [run_sliceAt_array_l W 56 ⟨w.heap.size, 0, none⟩ hu56 .i64 (k : Int) (by omega) (by rw [hal]; omega), hal, hel, Tryd.sizeOf5]
        simp [Result.andThen, slicedAt, hne, Addr.add_lit]
      have hsrc : Src (w.alloc (.cells arr 56)) (some ⟨w.heap.size, k, none⟩) (24 - k) ds := by
        have h1 := hlen.out
        refine ⟨by omega, fun h => by simp at h, fun ad had j u hj => ?_⟩
        obtain rfl := Option.some.inj had
        rw [Addr.add_lit, World.cell?_alloc_new]
        rw [← hdr.out, List.getElem?_drop] at hj
        simpa using hj
      have HDS : Hid (ds = Lib.decDigits n) := hds
      have hlim2 : xs0.length + (24 - k) ≤ 140737488355328 := by omega
      clear hal hel hu56 hds
      go_wp2_with (at_builtin; refine wp_app rfl _ _ rfl v0 xs0 rfl hown1 _ _ _ ds rfl hsrc (by intro h; simp at h) hlim2 ?_; intro v' w1 hown2 hg2 hat2)
      go_ret
      have hg0 : w.grownBy (w.alloc (.cells arr 56)) v0.ownBlock := World.grownBy_alloc w _ _
      exact ⟨_, rfl, by rw [← HDS.out]; exact hown2, ⟨hg2.os, hg2.tape, hg2.output, Nat.le_trans (by simp) hg2.size, fun i hi hr => (hg2.block i (by simp; omega) hr).trans (hg0.block i hi hr)⟩, (Later.refl w v0).step (by simp) hat2⟩
end Go.Proofs.Qxb6625470aDoor

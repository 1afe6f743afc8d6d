import Derived.Test.Qxb6625470aDoorGrow
import Derived.Laws.IdiomCopy
import Derived.Lib.BufferSrc
import Derived.BigCall
import Derived.BigGuard
namespace Go.Proofs.Qxb6625470aDoor
open Go.RowKit
set_option linter.unusedVariables false
set_option linter.unusedSimpArgs false

/-- A bytes.Buffer that has only been written. -/
def BufIs (w : World) (b : Nat) (v : Value) (xs : List UInt8) : Prop :=
  (∃ lr, w.heap[b]? = some (.cells #[v, .int .i64 0, .int .i8 lr] 49 (0, 0))) ∧
  ((v = .slice none 0 0 ∧ xs = []) ∨ ∃ g cap cur, v = .slice (some ⟨g, 0, none⟩) xs.length cap ∧ w.heap[g]? = some (.cells cur 5 (0, 0)) ∧ 0 < xs.length ∧ xs.length ≤ cap ∧ cap ≤ maxLen ∧ cur.size = cap ∧ cur.toList.take xs.length = Lib.byteCells xs ∧ g ≠ b)

/-- All old blocks but b and v's row stand as they stood. -/
structure Fr2 (b : Nat) (v : Value) (w w' : World) : Prop where
  os : w'.os = w.os
  tape : w'.tape = w.tape
  output : w'.output = w.output
  size : w.heap.size ≤ w'.heap.size
  block : ∀ k, k < w.heap.size → k ≠ b → v.ownBlock ≠ some k → w'.heap[k]? = w.heap[k]?

theorem grow_any (b : Nat) (v : Value) (xs : List UInt8) (n : Nat) (w : World) (h : BufIs w b v xs) (hn : 1 ≤ n) (hroom : ∀ ao l cap, v = .slice ao l cap → cap - l < n) (hlim : xs.length + n ≤ 140737488355328) :
    Calls Tryd.prog 64 #[.pointer (some ⟨b, 0, none⟩), .int .i64 n] w fun e w' => e = .returned (.int .i64 (xs.length : Int)) ∧ Grew w b xs.length n (Lib.byteCells xs) w' := by
  obtain ⟨⟨lr, hbk⟩, ⟨rfl, rfl⟩ | ⟨g, cap, cur, rfl, hg, h0, h1, h2, h3, h4, h5⟩⟩ := h
  · by_cases h64 : n ≤ 64
    · exact grow_small b n lr w hbk hn h64
    · exact grow_big b n lr w hbk (by omega) (by simpa using hlim)
  · exact grow_row b g xs.length cap n lr cur (Lib.byteCells xs) w hbk (Lib.byteCells_length _) hg h1 h2 h3 h4 h5 (Lib.byteCells_one _) hn h0 (hroom _ _ _ rfl) hlim

/-- What 'copy' into the new room leaves. -/
theorem buf_done {w W1 : World} {b g cap : Nat} {lr : Int} {v : Value} {cur : Array Value} {xs ps : List UInt8}
    (hbk : W1.heap[b]? = some (.cells #[.slice (some ⟨g, 0, none⟩) (xs.length + ps.length) cap, .int .i64 0, .int .i8 lr] 49 (0, 0))) (hg : W1.heap[g]? = some (.cells cur 5 (0, 0))) (hcs : cur.size = cap) (htk : cur.toList.take xs.length = Lib.byteCells xs)
    (hfit : xs.length + ps.length ≤ cap) (hcm : cap ≤ maxLen) (hgb : g ≠ b) (hp : 0 < ps.length) :
    BufIs (W1.setRow g (Lib.byteCells xs ++ (Lib.byteCells ps ++ cur.toList.drop (xs.length + ps.length))).toArray) b (.slice (some ⟨g, 0, none⟩) (xs.length + ps.length) cap) (xs ++ ps) := by
  have hl : (xs ++ ps).length = xs.length + ps.length := List.length_append
  refine ⟨⟨lr, by rw [setRow_other _ _ _ _ (Ne.symm hgb)]; exact hbk⟩, Or.inr ⟨g, cap, _, by rw [hl], setRow_heap W1 g cur _ 5 _ hg, by omega, by omega, hcm, ?_, ?_, hgb⟩⟩
  · simp only [List.size_toArray, List.length_append, List.length_take, List.length_drop, Array.length_toList, Lib.byteCells_length]
    omega
  · show List.take _ (Lib.byteCells xs ++ (Lib.byteCells ps ++ _)) = _
    rw [← List.append_assoc, ← Lib.byteCells_append, hl]
    rw [show xs.length + ps.length = (Lib.byteCells (xs ++ ps)).length by rw [Lib.byteCells_length, hl]]
    exact List.take_left

set_option maxHeartbeats 6400000 in
set_option maxRecDepth 100000 in
theorem write_room (b g cap : Nat) (lr : Int) (cur : Array Value) (xs ps : List UInt8) (a : Addr) (n c : Nat) (w : World)
    (hbk : w.heap[b]? = some (.cells #[.slice (some ⟨g, 0, none⟩) xs.length cap, .int .i64 0, .int .i8 lr] 49 (0, 0))) (hg : w.heap[g]? = some (.cells cur 5 (0, 0))) (h0 : 0 < xs.length) (hcm : cap ≤ maxLen) (hcs : cur.size = cap) (htk : cur.toList.take xs.length = Lib.byteCells xs) (hgb : g ≠ b)
    (hroom : xs.length + n ≤ cap) (hn : ps.length = n) (hn1 : 1 ≤ n) (hab : a.block ≠ b) (hsrc : ∀ j u, (Lib.byteCells ps)[j]? = some u → w.cell? (a.add j) = some u) (hlim : xs.length + n ≤ 140737488355328) :
    Calls Tryd.prog 61 #[.pointer (some ⟨b, 0, none⟩), .slice (some a) n c] w fun e w' => e = .returned (.tuple #[.int .i64 n, .nilIface]) ∧ BufIs w' b (.slice (some ⟨g, 0, none⟩) (xs.length + n) cap) (xs ++ ps) ∧ Fr2 b (.slice (some ⟨g, 0, none⟩) xs.length cap) w w' := by
  have hlc : xs.length ≤ cap := by omega
  have c2 : w.cell? ⟨b, 2, none⟩ = some (.int .i8 lr) := by rw [Lib.cell_of_heap hbk]; rfl
  have f2 : w.frozen? ⟨b, 2, none⟩ = false := Lib.frozen_of_heap hbk 2
  have hbk1 : (w.setCell ⟨b, 2, none⟩ (.int .i8 0)).heap[b]? = some (.cells #[.slice (some ⟨g, 0, none⟩) xs.length cap, .int .i64 0, .int .i8 0] 49 (0, 0)) := Lib.heap_setCell_same (i := 2) hbk _
  have c0 : (w.setCell ⟨b, 2, none⟩ (.int .i8 0)).cell? ⟨b, 0, none⟩ = some (.slice (some ⟨g, 0, none⟩) xs.length cap) := by rw [Lib.cell_of_heap hbk1]; rfl
  have f0 : (w.setCell ⟨b, 2, none⟩ (.int .i8 0)).frozen? ⟨b, 0, none⟩ = false := Lib.frozen_of_heap hbk1 0
  have hbk2 : ((w.setCell ⟨b, 2, none⟩ (.int .i8 0)).setCell ⟨b, 0, none⟩ (.slice (some ⟨g, 0, none⟩) (xs.length + n) cap)).heap[b]? = some (.cells #[.slice (some ⟨g, 0, none⟩) (xs.length + n) cap, .int .i64 0, .int .i8 0] 49 (0, 0)) := Lib.heap_setCell_same (i := 0) hbk1 _
  have hg2 : ((w.setCell ⟨b, 2, none⟩ (.int .i8 0)).setCell ⟨b, 0, none⟩ (.slice (some ⟨g, 0, none⟩) (xs.length + n) cap)).heap[g]? = some (.cells cur 5 (0, 0)) := by
    rw [Below.heap_setCell _ _ _ _ hgb, Below.heap_setCell _ _ _ _ hgb]; exact hg
  have hgr : w.grownBy ((w.setCell ⟨b, 2, none⟩ (.int .i8 0)).setCell ⟨b, 0, none⟩ (.slice (some ⟨g, 0, none⟩) (xs.length + n) cap)) (some b) := Lib.grownBy_setB (Lib.grownBy_setCell w b 2 _) 0 _
  obtain ⟨i0, hi, hz0, hz1, hz2⟩ := info_parts Tryd.info5
  have hinfo : (Tryd.prog.info? 5).map (·.size) = some 1 := by rw [hi]; simp [hz1]
  go_enter Tryd.func61, Tryd.ntmps61
  go_wp2_with (go_at_call 63; refine (Tryd.Buffer_tryGrow_room b _ xs.length cap n _ c0 f0 hlc hcm (by omega)).mono ?_)
  rintro e W1 ⟨rfl, hW1⟩
  rw [← hW1] at hbk2 hg2 hgr
  have HW1 := Lib.hid hW1
  clear hW1 c0 f0 hbk1 c2 f2
  have d0 : W1.cell? ⟨b, 0, none⟩ = some (.slice (some ⟨g, 0, none⟩) (xs.length + n) cap) := by rw [Lib.cell_of_heap hbk2]; rfl
  have hne : ¬ cap = xs.length := by omega
  have hsrc1 : ∀ j v, (Lib.byteCells ps)[j]? = some v → W1.cell? (a.add j) = some v := fun j v hj => hgr.cell (hsrc j v hj) (by rw [Lib.block_add]; exact fun e => hab (Option.some.inj e))
  have hpl : (Lib.byteCells ps).length = n := by rw [Lib.byteCells_length]; exact hn
  have hcp := run_copy_row (P := Tryd.prog) W1 22 22 3 5 g xs.length n (cap - xs.length) a n c cur 5 (Lib.byteCells ps) Tryd.underlying22 hinfo hg2 (by rw [hpl]; exact (Nat.min_self n).symm) hsrc1 (by rw [hpl]; omega) (Lib.byteCells_one ps)
  rw [hpl] at hcp
  have hcm' := hcm
  unfold maxLen at hcm'
  subst hn
  go_wp2
  go_ret2
  refine ⟨rfl, buf_done (w := w) (v := .slice none 0 0) hbk2 hg2 hcs htk hroom hcm hgb (by omega), ⟨hgr.os, hgr.tape, hgr.output, by have := hgr.size; simpa [World.setRow] using this, fun k hk hkb hkv => ?_⟩⟩
  rw [setRow_other _ _ _ _ (fun e => hkv (by simp [Value.ownBlock, e]))]
  exact hgr.block k hk (fun e => hkb (Option.some.inj e))

set_option maxHeartbeats 6400000 in
set_option maxRecDepth 100000 in
theorem write_grow (b : Nat) (v : Value) (xs ps : List UInt8) (a : Addr) (n c : Nat) (w : World) (h : BufIs w b v xs)
    (hroom : ∀ ao l cap, v = .slice ao l cap → cap - l < n) (hn : ps.length = n) (hn1 : 1 ≤ n) (hab : a.block ≠ b) (hsrc : ∀ j u, (Lib.byteCells ps)[j]? = some u → w.cell? (a.add j) = some u) (hlim : xs.length + n ≤ 140737488355328) :
    Calls Tryd.prog 61 #[.pointer (some ⟨b, 0, none⟩), .slice (some a) n c] w fun e w' => e = .returned (.tuple #[.int .i64 n, .nilIface]) ∧ ∃ v', BufIs w' b v' (xs ++ ps) ∧ Fr2 b v w w' ∧ (∀ g, v'.ownBlock = some g → w.heap.size ≤ g) := by
  obtain ⟨⟨lr, hbk⟩, hv⟩ := id h
  obtain ⟨ao, l, cap, rfl, hlc, hcm⟩ : ∃ ao l cap, v = .slice ao l cap ∧ l ≤ cap ∧ cap ≤ maxLen := by
    rcases hv with ⟨rfl, rfl⟩ | ⟨g, cap, cur, rfl, _, _, h1, h2, _⟩
    · exact ⟨none, 0, 0, rfl, Nat.le_refl _, Nat.zero_le _⟩
    · exact ⟨_, _, _, rfl, h1, h2⟩
  have hroom' := hroom _ _ _ rfl
  have c2 : w.cell? ⟨b, 2, none⟩ = some (.int .i8 lr) := by rw [Lib.cell_of_heap hbk]; rfl
  have f2 : w.frozen? ⟨b, 2, none⟩ = false := Lib.frozen_of_heap hbk 2
  have hbk1 : (w.setCell ⟨b, 2, none⟩ (.int .i8 0)).heap[b]? = some (.cells #[.slice ao l cap, .int .i64 0, .int .i8 0] 49 (0, 0)) := Lib.heap_setCell_same (i := 2) hbk _
  have h1 : BufIs (w.setCell ⟨b, 2, none⟩ (.int .i8 0)) b (.slice ao l cap) xs := by
    refine ⟨⟨0, hbk1⟩, ?_⟩
    rcases hv with hv | ⟨g, cap', cur, e, hg, r1, r2, r3, r4, r5, r6⟩
    · exact Or.inl hv
    · exact Or.inr ⟨g, cap', cur, e, by rw [Below.heap_setCell _ _ _ _ r6]; exact hg, r1, r2, r3, r4, r5, r6⟩
  have c0 : (w.setCell ⟨b, 2, none⟩ (.int .i8 0)).cell? ⟨b, 0, none⟩ = some (.slice ao l cap) := by rw [Lib.cell_of_heap hbk1]; rfl
  have hg0 : w.grownBy (w.setCell ⟨b, 2, none⟩ (.int .i8 0)) (some b) := Lib.grownBy_setCell w b 2 _
  have hs0 : (w.setCell ⟨b, 2, none⟩ (.int .i8 0)).heap.size = w.heap.size := by simp [World.setCell]
  obtain ⟨i0, hi, hz0, hz1, hz2⟩ := info_parts Tryd.info5
  have hinfo : (Tryd.prog.info? 5).map (·.size) = some 1 := by rw [hi]; simp [hz1]
  clear hv
  go_enter Tryd.func61, Tryd.ntmps61
  go_wp2_with (go_at_call 63; refine (Tryd.Buffer_tryGrow_none b _ l cap n _ c0 hlc hcm hroom').mono ?_)
  rintro e W0 ⟨rfl, hW0⟩
  rw [← hW0] at h1 hg0 hs0
  have HW0 := Lib.hid hW0
  clear hW0 c0 hbk1 c2 f2
  go_wp2_with fail
  refine (grow_any b _ xs n _ h1 hn1 hroom hlim).mono ?_
  rintro e W1 ⟨rfl, g, cap1, cur, lr1, hbk2, hg2, hcs, htk, hfit, hcm1, hyg, hgr1⟩
  have hgr : w.grownBy W1 (some b) := Lib.grownBy_trans hg0 hgr1
  have hgb : g ≠ b := by
    intro e
    have := Lib.lt_of_heap hbk
    omega
  have d0 : W1.cell? ⟨b, 0, none⟩ = some (.slice (some ⟨g, 0, none⟩) (xs.length + n) cap1) := by rw [Lib.cell_of_heap hbk2]; rfl
  have hne : ¬ cap1 = xs.length := by omega
  have hsrc1 : ∀ j v, (Lib.byteCells ps)[j]? = some v → W1.cell? (a.add j) = some v := fun j v hj => hgr.cell (hsrc j v hj) (by rw [Lib.block_add]; exact fun e => hab (Option.some.inj e))
  have hpl : (Lib.byteCells ps).length = n := by rw [Lib.byteCells_length]; exact hn
  have hcp := run_copy_row (P := Tryd.prog) W1 22 22 3 5 g xs.length n (cap1 - xs.length) a n c cur 5 (Lib.byteCells ps) Tryd.underlying22 hinfo hg2 (by rw [hpl]; exact (Nat.min_self n).symm) hsrc1 (by rw [hpl]; omega) (Lib.byteCells_one ps)
  rw [hpl] at hcp
  have hcm' := hcm1
  unfold maxLen at hcm'
  have HH := Lib.hid h1
  have HR := Lib.hid hroom
  clear h1 hroom h
  subst hn
  go_wp2
  go_ret2
  refine ⟨rfl, _, buf_done (w := w) (v := .slice none 0 0) hbk2 hg2 hcs htk hfit hcm1 hgb (by omega), ⟨hgr.os, hgr.tape, hgr.output, by have := hgr.size; simpa [World.setRow] using this, fun k hk hkb hkv => ?_⟩, fun g' hg' => ?_⟩
  · rw [setRow_other _ _ _ _ (fun e => by omega)]
    exact hgr.block k hk (fun e => hkb (Option.some.inj e))
  · simp only [Value.ownBlock, Option.some.injEq] at hg'
    omega

/-- (*bytes.Buffer).Write of at least one byte. -/
theorem bufWrite (b : Nat) (v : Value) (xs ps : List UInt8) (a : Addr) (n c : Nat) (w : World) (h : BufIs w b v xs)
    (hn : ps.length = n) (hn1 : 1 ≤ n) (hab : a.block ≠ b) (hsrc : ∀ j u, (Lib.byteCells ps)[j]? = some u → w.cell? (a.add j) = some u) (hlim : xs.length + n ≤ 140737488355328) :
    Calls Tryd.prog 61 #[.pointer (some ⟨b, 0, none⟩), .slice (some a) n c] w fun e w' => e = .returned (.tuple #[.int .i64 n, .nilIface]) ∧ ∃ v', BufIs w' b v' (xs ++ ps) ∧ Fr2 b v w w' ∧ Later w v v' := by
  obtain ⟨⟨lr, hbk⟩, hv⟩ := id h
  rcases hv with ⟨rfl, rfl⟩ | ⟨g, cap, cur, rfl, hg, r1, r2, r3, r4, r5, r6⟩
  · refine (write_grow b _ [] ps a n c w h (fun ao l cap e => by simp only [Value.slice.injEq] at e; omega) hn hn1 hab hsrc hlim).mono ?_
    rintro e w' ⟨rfl, v', q1, q2, q3⟩
    exact ⟨rfl, v', q1, q2, Or.inr q3⟩
  · by_cases hroom : xs.length + n ≤ cap
    · refine (write_room b g cap lr cur xs ps a n c w hbk hg r1 r3 r4 r5 r6 hroom hn hn1 hab hsrc hlim).mono ?_
      rintro e w' ⟨rfl, q1, q2⟩
      exact ⟨rfl, _, q1, q2, Or.inl rfl⟩
    · refine (write_grow b _ xs ps a n c w h (fun ao l cap' e => by simp only [Value.slice.injEq] at e; omega) hn hn1 hab hsrc hlim).mono ?_
      rintro e w' ⟨rfl, v', q1, q2, q3⟩
      exact ⟨rfl, v', q1, q2, Or.inr q3⟩
end Go.Proofs.Qxb6625470aDoor

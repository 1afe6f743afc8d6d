import Derived.Test.Qxb6625470aDoorFrame
import Derived.Test.Qxb6625470aDoorShelf
import Derived.Lib.BufferOwn
import Derived.Lib.BufferGrow
import Derived.Lib.BufferMore
import Derived.Lib.Hide
import Derived.RegionTactic
import Derived.Deep.RegionWith
namespace Go.Proofs.Qxb6625470aDoor
open Go.RowKit
set_option linter.unusedVariables false
set_option linter.unusedSimpArgs false
attribute [local go_sem] Go.wp_at_zero Go.wp_at_succ

/-- What grow leaves: a row that is younger than w, with the old bytes at its head. -/
def Grew (w : World) (b l n : Nat) (bs : List Value) (w' : World) : Prop :=
  ∃ g cap cur lr, w'.heap[b]? = some (.cells #[.slice (some ⟨g, 0, none⟩) (l + n) cap, .int .i64 0, .int .i8 lr] 49 (0, 0)) ∧ w'.heap[g]? = some (.cells cur 5 (0, 0)) ∧ cur.size = cap ∧ cur.toList.take l = bs ∧ l + n ≤ cap ∧ cap ≤ maxLen ∧ w.heap.size ≤ g ∧ w.grownBy w' (some b)

theorem grew_end {b N l n cap2 : Nat} {lr : Int} {w w2 : World} {v0 v1 : Value} {cells : Array Value} {bs : List Value}
    (hbk2 : w2.heap[b]? = some (.cells #[v0, .int .i64 0, .int .i8 lr] 49 (0, 0))) (hN : w2.heap[N]? = some (.cells cells 5 (0, 0))) (hNb : N ≠ b) (hw : w.heap.size ≤ N)
    (hcsz : cells.size = cap2) (htk : cells.toList.take l = bs) (hcap2 : l + n ≤ cap2) (hcm2 : cap2 ≤ maxLen) (hg : w.grownBy w2 (some b)) :
    Grew w b l n bs (((w2.setCell ⟨b, 0, none⟩ v1).setCell ⟨b, 1, none⟩ (.int .i64 0)).setCell ⟨b, 0, none⟩ (.slice (some ⟨N, 0, none⟩) (l + n) cap2)) := by
  have hbkf := Lib.heap_setCell_same (i := 0) (Lib.heap_setCell_same (i := 1) (Lib.heap_setCell_same (i := 0) hbk2 v1) (.int .i64 0)) (.slice (some ⟨N, 0, none⟩) (l + n) cap2)
  refine ⟨N, cap2, cells, lr, hbkf, ?_, hcsz, htk, hcap2, hcm2, hw, Lib.grownBy_setB (Lib.grownBy_setB (Lib.grownBy_setB hg 0 _) 1 _) 0 _⟩
  rw [Below.heap_setCell _ _ _ _ hNb, Below.heap_setCell _ _ _ _ hNb, Below.heap_setCell _ _ _ _ hNb]
  exact hN

set_option maxHeartbeats 12800000 in
set_option maxRecDepth 100000 in
theorem grow_row (b g l cap n : Nat) (lr : Int) (cur : Array Value) (bs : List Value) (w : World)
    (hbk : w.heap[b]? = some (.cells #[.slice (some ⟨g, 0, none⟩) l cap, .int .i64 0, .int .i8 lr] 49 (0, 0)))
    (hl : bs.length = l) (hg : w.heap[g]? = some (.cells cur 5 (0, 0))) (hlc : l ≤ cap) (hcm : cap ≤ maxLen) (hcs : cur.size = cap) (htake : cur.toList.take l = bs) (hgb : g ≠ b)
    (h1 : ∀ v ∈ bs, v.oneCell' = true) (hn : 1 ≤ n) (hl0 : 0 < l) (hroom : cap - l < n) (hlim : l + n ≤ 140737488355328) :
    Calls Tryd.prog 64 #[.pointer (some ⟨b, 0, none⟩), .int .i64 n] w fun e w' => e = .returned (.int .i64 l) ∧ Grew w b l n bs w' := by
  have hIs : Lib.IsBuffer 49 5 0 b bs w := ⟨Nat.zero_le _, _, _, hbk, ⟨by rw [hl, Nat.mul_one], .inr ⟨g, cap, cur, by rw [hl], Nat.zero_le _, hg, by omega, hcm, by omega, by rw [hl, Nat.mul_one]; exact htake⟩⟩, by simp [Value.ownBlock]; exact hgb⟩
  have hnil : ∀ W, (binOp .eql 22 (.slice (some ⟨g, 0, none⟩) l cap) (.slice none 0 0)).run Tryd.prog W = .ok (.bool false) W := fun W => Lib.run_eql_slice_some_nil W _ _ _ Tryd.underlying22
  have hm0 : ((l : Int) == 0) = false := by simp; omega
  go_enter Tryd.func64, Tryd.ntmps64
  go_wp2_with (go_at_call 65; refine (Tryd.Buffer_Len 0 b bs _ hIs).mono ?_)
  rintro e W0 ⟨rfl, k, hW0⟩
  rw [hl]
  have hbk0 : W0.heap[b]? = some (.cells #[.slice (some ⟨g, 0, none⟩) l cap, .int .i64 0, .int .i8 lr] 49 (0, 0)) := by rw [hW0]; exact hbk
  have hg0 : W0.heap[g]? = some (.cells cur 5 (0, 0)) := by rw [hW0]; exact hg
  have c0 : W0.cell? ⟨b, 0, none⟩ = some (.slice (some ⟨g, 0, none⟩) l cap) := by rw [Lib.cell_of_heap hbk0]; rfl
  have c1 : W0.cell? ⟨b, 1, none⟩ = some (.int .i64 0) := by rw [Lib.cell_of_heap hbk0]; rfl
  have f0 : W0.frozen? ⟨b, 0, none⟩ = false := Lib.frozen_of_heap hbk0 0
  have f1 : W0.frozen? ⟨b, 1, none⟩ = false := Lib.frozen_of_heap hbk0 1
  have HW0 := Lib.hid hW0
  clear hW0 hIs
  have hcm' := hcm
  unfold maxLen at hcm'
  go_wp2_with (go_at_call 63; refine (Tryd.Buffer_tryGrow_none b _ l cap n _ c0 hlc hcm hroom).mono ?_; rintro e w' ⟨rfl, rfl⟩)
  have hc2 : cap ≤ 140737488355328 := by omega
  have h1' : ∀ v ∈ cur.toList.take l, v.oneCell' = true := by rw [htake]; exact h1
  have hbW := Lib.lt_of_heap hbk0
  have hwn : IntKind.i64.wrap (n : Int) = n := by rw [IntKind.wrap_i64]; omega
  go_region_with (
      go_at_call 66
      refine (Tryd.bytes_growSlice_row g l cap n cur _ ?_ hcs hlc hn hlim hc2 h1').mono ?_
      exact hg0
      rintro e w2 ⟨cap2, cells, rfl, hN, hcsz, htk, hcap2, hcm2, hbel⟩
      have hbk2 : w2.heap[b]? = some (.cells #[.slice (some ⟨g, 0, none⟩) l cap, .int .i64 0, .int .i8 lr] 49 (0, 0)) := (hbel.block b hbW).trans hbk0
      have d0 : w2.cell? ⟨b, 0, none⟩ = some (.slice (some ⟨g, 0, none⟩) l cap) := by rw [Lib.cell_of_heap hbk2]; rfl
      have d1 : w2.cell? ⟨b, 1, none⟩ = some (.int .i64 0) := by rw [Lib.cell_of_heap hbk2]; rfl
      have e0 : w2.frozen? ⟨b, 0, none⟩ = false := Lib.frozen_of_heap hbk2 0
      have e1 : w2.frozen? ⟨b, 1, none⟩ = false := Lib.frozen_of_heap hbk2 1)
  all_goals (
    go_wp2
    go_ret
    have hsz0 : w'.heap.size = w.heap.size := by rw [HW0.out]; rfl
    have hg2 : w.grownBy w2 (some b) := Lib.grownBy_below (w := w'.drew) (by rw [HW0.out]; exact ⟨rfl, rfl, rfl, Nat.le_refl _, fun _ _ _ => rfl⟩) hbel
    exact ⟨rfl, grew_end hbk2 hN (by show w'.heap.size ≠ b; omega) (by show w.heap.size ≤ w'.heap.size; omega) hcsz (htk.trans htake) hcap2 hcm2 hg2⟩)

set_option maxHeartbeats 6400000 in
set_option maxRecDepth 100000 in
theorem grow_small (b n : Nat) (lr : Int) (w : World)
    (hbk : w.heap[b]? = some (.cells #[.slice none 0 0, .int .i64 0, .int .i8 lr] 49 (0, 0))) (hn : 1 ≤ n) (h64 : n ≤ 64) :
    Calls Tryd.prog 64 #[.pointer (some ⟨b, 0, none⟩), .int .i64 n] w fun e w' => e = .returned (.int .i64 0) ∧ Grew w b 0 n [] w' := by
  obtain ⟨i0, hi, hz0, hz1, hz2⟩ := info_parts Tryd.info5
  obtain ⟨M, hM⟩ : ∃ M, M = madeCells (Value.int .u8 0).cells ((64 : Int).toNat * i0.size) := ⟨_, rfl⟩
  have hMs : M.size = 64 := by rw [hM, size_madeCells, hz1]; rfl
  have hmk : ∀ W : World, (Instr.makeSlice 22 (.int .i64 (n : Int)) (.int .i64 64)).run Tryd.prog W = .ok (.slice (some ⟨W.heap.size, 0, none⟩) n 64) (W.alloc (.cells M 5)) := fun W => by
    have h := run_makeSlice (P := Tryd.prog) W 22 5 i0 (.int .u8 0) Tryd.underlying22 hi hz0 .i64 .i64 (n : Int) 64 (by omega) (by omega) (by rw [hz1]; decide) (by rw [hz2]; decide) (by decide)
    rw [← hM] at h
    simpa using h
  clear hM
  have hIs : Lib.IsBuffer 49 5 0 b [] w := ⟨Nat.zero_le _, _, _, hbk, World.ownsRow_nil _ _ _ _, by simp [Value.ownBlock]⟩
  have hnil : ∀ W, (binOp .eql 22 (.slice none 0 0) (.slice none 0 0)).run Tryd.prog W = .ok (.bool true) W := fun W => Lib.run_eql_slice_nil_nil W _ _ Tryd.underlying22
  go_enter Tryd.func64, Tryd.ntmps64
  go_wp2_with (go_at_call 65; refine (Tryd.Buffer_Len 0 b [] _ hIs).mono ?_)
  rintro e W0 ⟨rfl, k, hW0⟩
  have hbk0 : W0.heap[b]? = some (.cells #[.slice none 0 0, .int .i64 0, .int .i8 lr] 49 (0, 0)) := by rw [hW0]; exact hbk
  have c0 : W0.cell? ⟨b, 0, none⟩ = some (.slice none 0 0) := by rw [Lib.cell_of_heap hbk0]; rfl
  have c1 : W0.cell? ⟨b, 1, none⟩ = some (.int .i64 0) := by rw [Lib.cell_of_heap hbk0]; rfl
  have f0 : W0.frozen? ⟨b, 0, none⟩ = false := Lib.frozen_of_heap hbk0 0
  have f1 : W0.frozen? ⟨b, 1, none⟩ = false := Lib.frozen_of_heap hbk0 1
  have hbW0 := Lib.lt_of_heap hbk0
  have c0a : ∀ o, (W0.alloc o).cell? ⟨b, 0, none⟩ = some (.slice none 0 0) := fun o => (World.cell?_of_block (a := ⟨b, 0, none⟩) (Below.heap_alloc W0 o b hbW0)).trans c0
  have f0a : ∀ o, (W0.alloc o).frozen? ⟨b, 0, none⟩ = false := fun o => (World.frozen?_of_block (a := ⟨b, 0, none⟩) (Below.heap_alloc W0 o b hbW0)).trans f0
  have HW0 := Lib.hid hW0
  clear hW0 hIs
  go_wp2_with (go_at_call 63; refine (Tryd.Buffer_tryGrow_none b _ 0 0 n _ c0 (Nat.le_refl _) (Nat.zero_le _) (by omega)).mono ?_; rintro e w' ⟨rfl, rfl⟩)
  go_ret
  have hsz0 : w'.heap.size = w.heap.size := by rw [HW0.out]; rfl
  have hsz : (w'.setCell ⟨b, 0, none⟩ (.slice (some ⟨w'.heap.size, 0, none⟩) n 64)).heap.size = w'.heap.size := by simp [World.setCell]
  have hg2 : w.grownBy w' (some b) := by rw [HW0.out]; exact ⟨rfl, rfl, rfl, Nat.le_refl _, fun _ _ _ => rfl⟩
  refine ⟨rfl, w'.heap.size, 64, M, lr, ?_, ?_, hMs, rfl, by omega, by decide, by omega, Lib.grownBy_allocR (Lib.grownBy_setB hg2 0 _) _⟩
  · rw [Below.heap_alloc _ _ _ (by rw [hsz]; exact hbW0), Nat.zero_add]
    exact Lib.heap_setCell_same (i := 0) hbk0 _
  · have h := heap_alloc_new (w'.setCell ⟨b, 0, none⟩ (.slice (some ⟨w'.heap.size, 0, none⟩) n 64)) (.cells M 5)
    rw [hsz] at h
    exact h

set_option maxHeartbeats 12800000 in
set_option maxRecDepth 100000 in
theorem grow_big (b n : Nat) (lr : Int) (w : World)
    (hbk : w.heap[b]? = some (.cells #[.slice none 0 0, .int .i64 0, .int .i8 lr] 49 (0, 0))) (h64 : 64 < n) (hlim : n ≤ 140737488355328) :
    Calls Tryd.prog 64 #[.pointer (some ⟨b, 0, none⟩), .int .i64 n] w fun e w' => e = .returned (.int .i64 0) ∧ Grew w b 0 n [] w' := by
  have hn : 1 ≤ n := by omega
  have hIs : Lib.IsBuffer 49 5 0 b [] w := ⟨Nat.zero_le _, _, _, hbk, World.ownsRow_nil _ _ _ _, by simp [Value.ownBlock]⟩
  have hnil : ∀ W, (binOp .eql 22 (.slice none 0 0) (.slice none 0 0)).run Tryd.prog W = .ok (.bool true) W := fun W => Lib.run_eql_slice_nil_nil W _ _ Tryd.underlying22
  go_enter Tryd.func64, Tryd.ntmps64
  go_wp2_with (go_at_call 65; refine (Tryd.Buffer_Len 0 b [] _ hIs).mono ?_)
  rintro e W0 ⟨rfl, k, hW0⟩
  have hbk0 : W0.heap[b]? = some (.cells #[.slice none 0 0, .int .i64 0, .int .i8 lr] 49 (0, 0)) := by rw [hW0]; exact hbk
  have c0 : W0.cell? ⟨b, 0, none⟩ = some (.slice none 0 0) := by rw [Lib.cell_of_heap hbk0]; rfl
  have c1 : W0.cell? ⟨b, 1, none⟩ = some (.int .i64 0) := by rw [Lib.cell_of_heap hbk0]; rfl
  have f0 : W0.frozen? ⟨b, 0, none⟩ = false := Lib.frozen_of_heap hbk0 0
  have f1 : W0.frozen? ⟨b, 1, none⟩ = false := Lib.frozen_of_heap hbk0 1
  have HW0 := Lib.hid hW0
  clear hW0 hIs
  go_wp2_with (go_at_call 63; refine (Tryd.Buffer_tryGrow_none b _ 0 0 n _ c0 (Nat.le_refl _) (Nat.zero_le _) (by omega)).mono ?_; rintro e w' ⟨rfl, rfl⟩)
  have hbW := Lib.lt_of_heap hbk0
  have hwn : IntKind.i64.wrap (n : Int) = n := by rw [IntKind.wrap_i64]; omega
  go_region_with (
      go_at_call 66
      refine (Tryd.bytes_growSlice_nil n _ hn hlim).mono ?_
      rintro e w2 ⟨cap2, cells, rfl, hN, hcsz, hcap2, hcm2, hbel⟩
      have hbk2 : w2.heap[b]? = some (.cells #[.slice none 0 0, .int .i64 0, .int .i8 lr] 49 (0, 0)) := (hbel.block b hbW).trans hbk0
      have d0 : w2.cell? ⟨b, 0, none⟩ = some (.slice none 0 0) := by rw [Lib.cell_of_heap hbk2]; rfl
      have d1 : w2.cell? ⟨b, 1, none⟩ = some (.int .i64 0) := by rw [Lib.cell_of_heap hbk2]; rfl
      have e0 : w2.frozen? ⟨b, 0, none⟩ = false := Lib.frozen_of_heap hbk2 0
      have e1 : w2.frozen? ⟨b, 1, none⟩ = false := Lib.frozen_of_heap hbk2 1)
  all_goals (
    go_wp2
    go_ret
    have hsz0 : w'.heap.size = w.heap.size := by rw [HW0.out]; rfl
    have hg2 : w.grownBy w2 (some b) := Lib.grownBy_below (w := w'.drew) (by rw [HW0.out]; exact ⟨rfl, rfl, rfl, Nat.le_refl _, fun _ _ _ => rfl⟩) hbel
    have h := grew_end (l := 0) (n := n) (bs := []) (v1 := .slice (some ⟨w'.heap.size, 0, none⟩) 0 cap2) hbk2 hN (by show w'.heap.size ≠ b; omega) (by show w.heap.size ≤ w'.heap.size; omega) hcsz rfl (by omega) hcm2 hg2
    rw [Nat.zero_add] at h
    exact ⟨rfl, h⟩)
end Go.Proofs.Qxb6625470aDoor

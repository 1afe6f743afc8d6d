import Derived.Test.Qxb6625470aDoorWstr
namespace Go.Proofs.Qxb6625470aDoor
open Go.RowKit
set_option linter.unusedVariables false
set_option linter.unusedSimpArgs false
attribute [local go_sem] Go.wp_at_zero Go.wp_at_succ

theorem assert_cnt (a : Addr) (w : World) : (Instr.typeAssert (.iface 59 (.pointer (some a))) 58 62 true).run Tryd.prog w = .ok (.tuple #[.pointer none, .bool false]) w := by kernel_rfl

set_option maxRecDepth 100000 in
set_option maxHeartbeats 1600000 in
theorem newWriter (cw N : Nat) (w : World) (h1 : 1 ≤ N) (h2 : N ≤ 1000000) :
    Calls Tryd.prog 21 #[.iface 59 (.pointer (some ⟨cw, 0, none⟩)), .int .i64 (N : Int)] w fun e w' => e = .returned (.pointer (some ⟨w.heap.size + 1, 0, none⟩)) ∧
      w' = (w.alloc (.cells (madeCells #[.int .u8 0] N) 5)).alloc (.cells #[.nilIface, .slice (some ⟨w.heap.size, 0, none⟩) N N, .int .i64 0, .iface 59 (.pointer (some ⟨cw, 0, none⟩))] 71) := by
  have ha := fun w => assert_cnt ⟨cw, 0, none⟩ w
  obtain ⟨i0, hi, hz0, hz1, hz2⟩ := info_parts Tryd.info5
  have hmk : ∀ W : World, (Instr.makeSlice 22 (.int .i64 (N : Int)) (.int .i64 (N : Int))).run Tryd.prog W = .ok (.slice (some ⟨W.heap.size, 0, none⟩) N N) (W.alloc (.cells (madeCells (Value.int .u8 0).cells N) 5)) := fun W => by
    have h := run_makeSlice (P := Tryd.prog) W 22 5 i0 (.int .u8 0) Tryd.underlying22 hi hz0 .i64 .i64 (N : Int) (N : Int) (by omega) (by omega) (by rw [hz1]; omega) (by rw [hz2]; omega) (by omega)
    simpa [hz1] using h
  go_enter Tryd.func21, Tryd.ntmps21
  go_wp2
  go_ret
  exact ⟨rfl, rfl⟩

/-- bufio.NewWriterSize(counted, 64<<10). -/
theorem new_any (b cw : Nat) (v : Value) (bs : List UInt8) (w : World) (hB : BufIs w b v bs) (hC : CntIs w cw b bs.length) (hbc : b ≠ cw) (hv : v.ownBlock ≠ some cw) :
    Calls Tryd.prog 21 #[.iface 59 (.pointer (some ⟨cw, 0, none⟩)), .int .i64 65536] w fun e w' => ∃ bw bb, e = .returned (.pointer (some ⟨bw, 0, none⟩)) ∧ w.heap.size ≤ bw ∧ w.heap.size ≤ bb ∧ Pipe w' b bw bb cw v bs [] ∧ Below w.heap.size w w' := by
  have hn := newWriter cw 65536 w (by omega) (by omega)
  obtain ⟨N, hN⟩ : ∃ N : Nat, N = 65536 := ⟨_, rfl⟩
  rw [show ((65536 : Nat) : Int) = (65536 : Int) by rfl] at hn
  refine hn.mono ?_
  rw [← hN]
  rintro e w' ⟨rfl, hw⟩
  obtain ⟨M, hM⟩ : ∃ M, M = madeCells #[.int .u8 0] N := ⟨_, rfl⟩
  have hMs : M.size = N := by rw [hM, size_madeCells]
  rw [← hM] at hw
  have hbel : Below w.heap.size w w' := by
    rw [hw]
    refine ⟨rfl, rfl, rfl, by simp; omega, fun k hk => ?_⟩
    rw [Below.heap_alloc _ _ _ (by simp; omega), Below.heap_alloc _ _ _ hk]
  have hbl := hB.lt
  have hcl : cw < w.heap.size := Lib.lt_of_heap hC
  have hrl := hB.rlt
  have e1 : w'.heap[w.heap.size + 1]? = some (.cells #[.nilIface, .slice (some ⟨w.heap.size, 0, none⟩) N N, .int .i64 0, .iface 59 (.pointer (some ⟨cw, 0, none⟩))] 71 (0, 0)) := by
    rw [hw]
    have h := heap_alloc_new (w.alloc (.cells M 5)) (.cells #[.nilIface, .slice (some ⟨w.heap.size, 0, none⟩) N N, .int .i64 0, .iface 59 (.pointer (some ⟨cw, 0, none⟩))] 71)
    simpa using h
  have e2 : w'.heap[w.heap.size]? = some (.cells M 5 (0, 0)) := by
    rw [hw, Below.heap_alloc _ _ _ (by simp)]
    exact heap_alloc_new w (.cells M 5)
  rw [hN] at hMs e1
  refine ⟨w.heap.size + 1, w.heap.size, rfl, by omega, by omega, ⟨hB.keep (hbel.block b hbl) (fun g hg => hbel.block g (hrl g hg)), by unfold CntIs; rw [hbel.block cw hcl]; exact hC, e1, ⟨M, e2, hMs, by simp [Lib.byteCells]⟩, by simp, by omega, by omega, hbc, by omega, by omega, by omega, ?_, ?_, hv⟩, hbel⟩
  · intro h; have := hrl _ h; omega
  · intro h; have := hrl _ h; omega
end Go.Proofs.Qxb6625470aDoor

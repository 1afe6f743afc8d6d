import Derived.Test.Qxb6625470aDoorZz
import Derived.Deep.Cut
import Derived.Deep.CutRange
import Derived.WalkLawsBesides
namespace Go.Proofs.Qxb6625470aDoor
open Go.RowKit
set_option linter.unusedVariables false
set_option linter.unusedSimpArgs false

/-- A slice is nil, or it lies at a plain address. -/
def SlOK (a : Option Addr) (n c : Nat) : Prop := (a = none ∧ n = 0 ∧ c = 0) ∨ ∃ b o, a = some ⟨b, o, none⟩

/-- What a copy (or nil) is. -/
structure Cp (w : World) (n : Nat) (f : Nat → Value) (s : Value) (wx : World) : Prop where
  ex : ∃ ao c, s = .slice ao n c ∧ Rd wx ao n f ∧ SlOK ao n c ∧ n ≤ c ∧ c ≤ maxLen ∧ Below w.heap.size w wx

theorem Tryd.info3 : (Tryd.prog.info? 3).map (fun i => (i.zero, i.size, i.bytes)) = some (some (.int .i64 0), 1, 8) := by kernel_rfl
theorem Tryd.info4 : (Tryd.prog.info? 4).map (fun i => (i.zero, i.size, i.bytes)) = some (some (.bool false), 1, 1) := by kernel_rfl

set_option maxRecDepth 100000 in
theorem copy_new (T e : TypeId) (z : Value) (by' : Nat) (hT : Tryd.prog.underlying T = some (.slice e)) (hI : (Tryd.prog.info? e).map (fun i => (i.zero, i.size, i.bytes)) = some (some z, 1, by')) (hby : by' ≤ 8) (n c : Nat) (hn : n ≤ 1048576) (w : World) (ao : Option Addr) (f : Nat → Value) (hrd : Rd w ao n f) (hone : ∀ j, (f j).oneCell' = true) :
    ∃ M W', (Instr.makeSlice T (.int .i64 (n : Int)) (.int .i64 (n : Int))).run Tryd.prog w = .ok (.slice (some ⟨w.heap.size, 0, none⟩) n n) (w.alloc (.cells M e)) ∧
      (∀ ty, (Builtin.copy_ #[T, T] ty #[.slice (some ⟨w.heap.size, 0, none⟩) n n, .slice ao n c]).run Tryd.prog (w.alloc (.cells M e)) = .ok (.int .i64 (n : Int)) W') ∧ Rd W' (some ⟨w.heap.size, 0, none⟩) n f ∧ Below w.heap.size w W' := by
  obtain ⟨i0, hi, hz0, hz1, hz2⟩ := info_parts hI
  have hinfo : (Tryd.prog.info? e).map (·.size) = some 1 := by rw [hi]; simp [hz1]
  have hbn : by' * n ≤ 8 * 1048576 := Nat.mul_le_mul hby hn
  have hmk : (Instr.makeSlice T (.int .i64 (n : Int)) (.int .i64 (n : Int))).run Tryd.prog w = .ok (.slice (some ⟨w.heap.size, 0, none⟩) n n) (w.alloc (.cells (madeCells z.cells n) e)) := by
    have h2 : (by' : Int) * (n : Int) ≤ 281474976710656 := by
      have h3 : ((by' * n : Nat) : Int) ≤ 281474976710656 := by omega
      rwa [Int.natCast_mul] at h3
    have h := run_makeSlice (P := Tryd.prog) w T e i0 z hT hi hz0 .i64 .i64 (n : Int) (n : Int) (by omega) (by omega) (by rw [hz1]; omega) (by rw [hz2]; exact h2) (by omega)
    simpa [hz1] using h
  obtain ⟨M, hM⟩ : ∃ M, M = madeCells z.cells n := ⟨_, rfl⟩
  have hMs : M.size = n := by rw [hM, size_madeCells]
  rw [← hM] at hmk
  have hb : Below w.heap.size w (w.alloc (.cells M e)) := (Below.refl _ _).alloc (Nat.le_refl _) _
  have hg := heap_alloc_new w (.cells M e)
  by_cases h0 : n = 0
  · subst h0
    exact ⟨M, _, hmk, fun ty => run_copy_none (P := Tryd.prog) _ T T ty e _ ao 0 0 0 c hT hinfo rfl, Or.inl rfl, hb⟩
  · obtain ⟨b, o, e0, _⟩ := hrd.get 0 (by omega)
    subst e0
    have hcl : ((List.range n).map f).length = n := by simp
    have hsrc : ∀ j v, ((List.range n).map f)[j]? = some v → (w.alloc (.cells M e)).cell? ((⟨b, o, none⟩ : Addr).add j) = some v := by
      intro j v hj
      have hjn : j < n := by
        have := (List.getElem?_eq_some_iff.1 hj).1
        rwa [hcl] at this
      obtain ⟨b', o', e', hc⟩ := (hrd.below hb).get j hjn
      simp only [Option.some.injEq, Addr.mk.injEq, and_true] at e'
      obtain ⟨rfl, rfl⟩ := e'
      rw [show ((⟨b, o, none⟩ : Addr).add j) = ⟨b, o + j, none⟩ by unfold Addr.add; split <;> simp_all, hc]
      simp [hjn] at hj
      rw [hj]
    have hr := fun ty => run_copy_row (P := Tryd.prog) (w.alloc (.cells M e)) T T ty e w.heap.size 0 n n ⟨b, o, none⟩ n c M e ((List.range n).map f) hT hinfo hg (by rw [hcl]; exact (Nat.min_self n).symm) hsrc (by rw [hcl]; omega) (by
      intro v hv
      simp only [List.mem_map] at hv
      obtain ⟨j, _, rfl⟩ := hv
      exact hone j)
    rw [hcl] at hr
    refine ⟨M, _, hmk, hr, Or.inr ⟨w.heap.size, 0, rfl, fun j hj => ?_⟩, ?_⟩
    · rw [Lib.cell_of_heap (setRow_heap _ w.heap.size M _ e _ hg)]
      simp only [List.getElem?_toArray, List.take_zero, List.nil_append]
      rw [List.getElem?_append_left (by rw [hcl]; omega)]
      simp [hj]
    · exact hb.trans ⟨rfl, rfl, rfl, by simp [World.setRow], fun k hk => setRow_other _ _ _ _ (by omega)⟩

theorem cU_one (l : List UInt8) (j : Nat) : (cU l j).oneCell' = true := rfl
theorem cI_one (l : List Int) (j : Nat) : (cI l j).oneCell' = true := rfl
theorem cB_one (l : List Bool) (j : Nat) : (cB l j).oneCell' = true := rfl
end Go.Proofs.Qxb6625470aDoor

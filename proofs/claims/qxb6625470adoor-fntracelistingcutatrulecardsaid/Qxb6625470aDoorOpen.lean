import Derived.Test.Qxb6625470aDoorExact
import Derived.ProofKit
import Derived.Deep.Grids
import Derived.Deep.Matrix
import Derived.LaidMore
import Derived.OpenShut
import Derived.Stop.Joined
import Derived.Lib.LaidTab
namespace Go.Proofs.Qxb6625470aDoor
open Go.ChangeShapes Go.WideShapes Go.ChangeAt Go.RowKit
set_option linter.unusedVariables false
set_option linter.unusedSimpArgs false

theorem cells3 : Tryd.prog.cellsOf 3 = 1 := by kernel_rfl
theorem cells4 : Tryd.prog.cellsOf 4 = 1 := by kernel_rfl
theorem cells5 : Tryd.prog.cellsOf 5 = 1 := by kernel_rfl
theorem cells23 : Tryd.prog.cellsOf 23 = 1 := by kernel_rfl

section
variable {H : Type} {enc : TypeId × Value → H} {W : World} {d : DataW H} {ps : List MemPlace}

theorem rd_of_cells {a : Addr} {n cap : Nat} {f : Nat → Value} (hn : n ≤ cap) (h : ∀ i, i < cap → W.cell? (a.add i) = some (f i)) : Rd W (some a) n f := by
  by_cases h0 : n = 0
  · exact Or.inl h0
  · obtain ⟨b, off, spot⟩ := a
    have hspot : spot = none := by simpa [Addr.add] using World.cell?_spot (h 0 (by omega))
    subst hspot
    exact Or.inr ⟨b, off, rfl, fun j hj => by rw [← add_plain]; exact h j (by omega)⟩

theorem opn_ints {a : Option Addr} {n c : Nat} (h : DataW.Trod enc Tryd.prog W 0 (fun _ => true) true 23 (.slice a n c) d ps) : ∃ zs : List Int, SlIn a n c ∧ Rd W a n (cI zs) ∧ zs.length = n ∧ n ≤ c ∧ c ≤ maxLen := by
  obtain ⟨fuel, hf⟩ := h
  rcases open_ints Tryd.underlying23 Tryd.underlying3 cells3 hf with ⟨hcs, hx⟩ | ⟨a', len', cap', zs, hcs, _, hl, hm, hz, hx, hcell, hwz⟩
  · simp [Value.cells] at hcs
    obtain ⟨rfl, rfl, rfl⟩ := hcs
    exact ⟨[], Or.inl ⟨rfl, rfl, rfl⟩, Or.inl rfl, rfl, Nat.le_refl _, Nat.zero_le _⟩
  · simp [Value.cells] at hcs
    obtain ⟨rfl, rfl, rfl⟩ := hcs
    simp only [if_true] at hz
    refine ⟨zs.take n, Or.inr ⟨_, rfl⟩, ?_, by rw [List.length_take]; omega, hl, hm⟩
    refine (rd_of_cells hl (fun i hi => hcell i (by omega))).congr fun j hj => ?_
    simp only [cI, List.getD_eq_getElem?_getD, List.getElem?_take, if_pos hj]

theorem opn_bytes {a : Option Addr} {n c : Nat} (h : DataW.Trod enc Tryd.prog W 0 (fun _ => true) true 22 (.slice a n c) d ps) : ∃ xs : List UInt8, SlIn a n c ∧ Rd W a n (cU xs) ∧ xs.length = n ∧ n ≤ c ∧ c ≤ maxLen := by
  obtain ⟨fuel, hf⟩ := h
  rcases open_ints Tryd.underlying22 Tryd.underlying5 cells5 hf with ⟨hcs, hx⟩ | ⟨a', len', cap', zs, hcs, _, hl, hm, hz, hx, hcell, hwz⟩
  · simp [Value.cells] at hcs
    obtain ⟨rfl, rfl, rfl⟩ := hcs
    exact ⟨[], Or.inl ⟨rfl, rfl, rfl⟩, Or.inl rfl, rfl, Nat.le_refl _, Nat.zero_le _⟩
  · simp [Value.cells] at hcs
    obtain ⟨rfl, rfl, rfl⟩ := hcs
    simp only [if_true] at hz
    refine ⟨(zs.take n).map fun z => UInt8.ofNat z.toNat, Or.inr ⟨_, rfl⟩, ?_, by rw [List.length_map, List.length_take]; omega, hl, hm⟩
    refine (rd_of_cells hl (fun i hi => hcell i (by omega))).congr fun j hj => ?_
    have hjz : j < zs.length := by omega
    have hw := hwz zs[j] (List.getElem_mem hjz)
    simp [Lit.wf, IntKind.min, IntKind.max, IntKind.signed, IntKind.bits] at hw
    simp only [cU, List.getD_eq_getElem?_getD, List.getElem?_map, List.getElem?_take, if_pos hj, List.getElem?_eq_getElem hjz, Option.map_some, Option.getD_some, UInt8.toNat_ofNat']
    congr 1
    omega

theorem opn_bools {a : Option Addr} {n c : Nat} (h : DataW.Trod enc Tryd.prog W 0 (fun _ => true) true 25 (.slice a n c) d ps) : ∃ xs : List Bool, SlIn a n c ∧ Rd W a n (cB xs) ∧ xs.length = n ∧ n ≤ c ∧ c ≤ maxLen := by
  obtain ⟨fuel, hf⟩ := h
  rcases Go.Deep.open_bools Tryd.underlying25 Tryd.underlying4 cells4 hf with ⟨hcs, hx⟩ | ⟨a', len', cap', B, hcs, _, hl, hm, hx, hcell⟩
  · simp [Value.cells] at hcs
    obtain ⟨rfl, rfl, rfl⟩ := hcs
    exact ⟨[], Or.inl ⟨rfl, rfl, rfl⟩, Or.inl rfl, rfl, Nat.le_refl _, Nat.zero_le _⟩
  · simp [Value.cells] at hcs
    obtain ⟨rfl, rfl, rfl⟩ := hcs
    refine ⟨(List.range n).map B, Or.inr ⟨_, rfl⟩, ?_, by simp, hl, hm⟩
    refine (rd_of_cells hl hcell).congr fun j hj => ?_
    simp [cB, List.getD_eq_getElem?_getD, hj]

theorem opn_rows {a : Option Addr} {n c : Nat} (h : DataW.Trod enc Tryd.prog W 0 (fun _ => true) true 24 (.slice a n c) d ps) : ∃ (ms : List Sl) (zss : List (List Int)), MadeIs W a n ms zss ∧ n ≤ c ∧ c ≤ maxLen := by
  obtain ⟨fuel, hf⟩ := h
  rcases Go.Deep.open_int_rows Tryd.underlying24 Tryd.underlying23 Tryd.underlying3 cells23 cells3 hf with ⟨hcs, hx⟩ | ⟨a', len', cap', A, L, C, Z, hcs, _, hl, hm, hx, hcell⟩
  · simp [Value.cells] at hcs
    obtain ⟨rfl, rfl, rfl⟩ := hcs
    exact ⟨[], [], ⟨rfl, rfl, Or.inl rfl, fun j hj => by omega⟩, Nat.le_refl _, Nat.zero_le _⟩
  · simp [Value.cells] at hcs
    obtain ⟨rfl, rfl, rfl⟩ := hcs
    refine ⟨(List.range n).map fun r => ⟨A r, L r, C r⟩, (List.range n).map fun r => (Z r).take (L r), ⟨by simp, by simp, ?_, fun j hj => ?_⟩, hl, hm⟩
    · refine (rd_of_cells hl (fun i hi => (hcell i hi).1)).congr fun j hj => ?_
      simp [cS, List.getD_eq_getElem?_getD, hj]
    · obtain ⟨h1, h2, h3, h4, h5, h6, h7⟩ := hcell j (by omega)
      have e1 : ((List.range n).map fun r => (⟨A r, L r, C r⟩ : Sl)).getD j Sl.nil = ⟨A j, L j, C j⟩ := by simp [List.getD_eq_getElem?_getD, hj]
      have e2 : ((List.range n).map fun r => (Z r).take (L r)).getD j [] = (Z j).take (L j) := by simp [List.getD_eq_getElem?_getD, hj]
      rw [e1, e2]
      refine ⟨by rw [List.length_take]; show min (L j) (Z j).length = L j; omega, h2, h3, ?_⟩
      show Rd W (A j) (L j) _
      cases hA : A j with
      | none => exact Or.inl (by have := h6 hA; omega)
      | some a2 =>
        refine (rd_of_cells h2 (h7 a2 hA).2).congr fun i hi => ?_
        simp only [cI, List.getD_eq_getElem?_getD, List.getElem?_take, if_pos hi]
end
end Go.Proofs.Qxb6625470aDoor

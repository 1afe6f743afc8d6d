import Derived.Test.Qxb6625470aDoorApp
import Derived.Test.Qxb6625470aDoorEq
import Derived.Deep.RegionHeld3
import Derived.Deep.DrawnRows
namespace Go.Proofs.Qxb6625470aDoor
open Go.RowKit
set_option linter.unusedVariables false
set_option linter.unusedSimpArgs false

/-- At a step of a region that draws its order: a slice is appended. -/
theorem step_app {w : World} {ops : Array Oper} {o : Oper} {a : Act} {K : Act → World → Prop} {Q : Exit → Act → World → Prop} {E : Prop} (hgd : o.guard = none) (s x : Operand)
    (ho : o.op = .call { callee := .builtin .append, args := #[s, x], argTypes := #[22, 22] })
    (v : Value) (xs : List UInt8) (hs : a.eval s = v) (hown : Own w v xs) (ao : Option Addr) (m c : Nat) (news : List UInt8) (hx : a.eval x = .slice ao m c) (hsrc : Src w ao m news) (hc : ao = none → c = 0) (hlim : xs.length + m ≤ 140737488355328)
    (h : ∀ v' w', Own w' v' (xs ++ news) → w.grownBy w' v.ownBlock → (v'.ownBlock = v.ownBlock ∨ v'.ownBlock = some w.heap.size) → K (a.put o.dst v') w') :
    if Region.wanted o (yielded ops a.tmps) = true then Oper.wp Tryd.prog o a w K Q else E := by
  have hw : Region.wanted o (yielded ops a.tmps) = true := by simp [Region.wanted, hgd]
  rw [if_pos hw]
  obtain ⟨v', w', hr, h2, h3, h5⟩ := run_app w o.type v xs hown ao m c news hsrc hc hlim
  unfold Oper.wp execOp
  simp only [ho, resolve, invoke, builtin, Sem.run_bind, Sem.run_pure, Result.andThen_ok, List.map_toArray, List.map_cons, List.map_nil, hs, hx, hr]
  exact h v' w' h2 h3 h5

/-- The slice v lies in v0's row, or in a row that is younger than w. -/
def Later (w : World) (v0 v : Value) : Prop := v.ownBlock = v0.ownBlock ∨ ∀ g, v.ownBlock = some g → w.heap.size ≤ g

theorem Later.refl (w : World) (v : Value) : Later w v v := Or.inl rfl

theorem Later.step {w w1 : World} {v0 v v' : Value} (h : Later w v0 v) (hs : w.heap.size ≤ w1.heap.size) (hat : v'.ownBlock = v.ownBlock ∨ v'.ownBlock = some w1.heap.size) : Later w v0 v' := by
  rcases hat with hat | hat
  · rcases h with h | h
    · exact Or.inl (hat.trans h)
    · exact Or.inr fun g hg => h g (by rw [← hat]; exact hg)
  · refine Or.inr fun g hg => ?_
    rw [hat] at hg
    obtain rfl := Option.some.inj hg
    exact hs

theorem Later.trans {w w1 : World} {v0 v v' : Value} (h : Later w v0 v) (hs : w.heap.size ≤ w1.heap.size) (k : Later w1 v v') : Later w v0 v' := by
  rcases k with k | k
  · rcases h with h | h
    · exact Or.inl (k.trans h)
    · exact Or.inr fun g hg => h g (by rw [← k]; exact hg)
  · exact Or.inr fun g hg => Nat.le_trans hs (k g hg)

theorem grown_chain {w w1 w2 : World} {v0 v : Value} (h : w.grownBy w1 v0.ownBlock) (hl : Later w v0 v) (k : w1.grownBy w2 v.ownBlock) : w.grownBy w2 v0.ownBlock := by
  refine ⟨k.os.trans h.os, k.tape.trans h.tape, k.output.trans h.output, Nat.le_trans h.size k.size, fun i hi hr => ?_⟩
  rw [k.block i (Nat.lt_of_lt_of_le hi h.size) ?_, h.block i hi hr]
  intro e
  rcases hl with hl | hl
  · exact hr (e.trans hl)
  · have := hl i e.symm; omega

theorem grown_drew {w w1 : World} {r : Option Nat} (h : w.grownBy w1 r) : w.grownBy w1.drew r := ⟨h.os, h.tape, h.output, h.size, h.block⟩
theorem grown_drewN {w w1 : World} {r : Option Nat} (n : Nat) (h : w.grownBy w1 r) : w.grownBy (w1.drewN n) r := ⟨h.os, h.tape, h.output, h.size, h.block⟩
theorem grown_below {w w1 w2 : World} {r : Option Nat} (h : w.grownBy w1 r) (hb : Below w1.heap.size w1 w2) : w.grownBy w2 r :=
  ⟨hb.os.trans h.os, hb.tape.trans h.tape, hb.output.trans h.output, Nat.le_trans h.size hb.size, fun i hi hr => (hb.block i (Nat.lt_of_lt_of_le hi h.size)).trans (h.block i hi hr)⟩
theorem below_grown {w w1 w2 : World} {r : Option Nat} (hb : Below w.heap.size w w1) (h : w1.grownBy w2 r) (hr : ∀ k, r = some k → w.heap.size ≤ k) : Below w.heap.size w w2 :=
  ⟨h.os.trans hb.os, h.tape.trans hb.tape, h.output.trans hb.output, Nat.le_trans hb.size h.size, fun i hi => (h.block i (Nat.lt_of_lt_of_le hi hb.size) (fun e => by have := hr i e.symm; omega)).trans (hb.block i hi)⟩
theorem grown_of_below {w w1 : World} (r : Option Nat) (hb : Below w.heap.size w w1) : w.grownBy w1 r := ⟨hb.os, hb.tape, hb.output, hb.size, fun i hi _ => hb.block i hi⟩

/-- The n elements at ao lie in no row r. -/
def Far (r : Option Nat) (ao : Option Addr) (n : Nat) : Prop := ∀ b o, ao = some ⟨b, o, none⟩ → 0 < n → r ≠ some b

theorem Rd.grown {w w1 : World} {r : Option Nat} {ao : Option Addr} {n : Nat} {f : Nat → Value} (h : Rd w ao n f) (hg : w.grownBy w1 r) (hf : Far r ao n) : Rd w1 ao n f := by
  rcases h with h | ⟨b, o, rfl, hc⟩
  · exact Or.inl h
  · exact Or.inr ⟨b, o, rfl, fun j hj => hg.cell (hc j hj) (fun e => hf b o rfl (by omega) e.symm)⟩

theorem Rd.get {w : World} {ao : Option Addr} {n : Nat} {f : Nat → Value} (h : Rd w ao n f) (j : Nat) (hj : j < n) : ∃ b o, ao = some ⟨b, o, none⟩ ∧ w.cell? ⟨b, o + j, none⟩ = some (f j) := by
  rcases h with h | ⟨b, o, e, hc⟩
  · omega
  · exact ⟨b, o, e, hc j hj⟩

theorem MadeIs.grown {w w' : World} {r : Option Nat} {am : Option Addr} {R : Nat} {ms : List Sl} {zss : List (List Int)} (h : MadeIs w am R ms zss) (hg : w.grownBy w' r) (hf : Far r am R) (hfi : ∀ j, j < R → Far r (ms.getD j Sl.nil).a (ms.getD j Sl.nil).n) : MadeIs w' am R ms zss :=
  ⟨h.len, h.lenz, h.row.grown hg hf, fun j hj => ⟨(h.inner j hj).1, (h.inner j hj).2.1, (h.inner j hj).2.2.1, (h.inner j hj).2.2.2.grown hg (hfi j hj)⟩⟩

/-- A row that is younger than w is far from all that is read in w. -/
theorem Rd.far {w : World} {ao : Option Addr} {n : Nat} {f : Nat → Value} {r : Option Nat} (h : Rd w ao n f) (hr : ∀ g, r = some g → w.heap.size ≤ g) : Far r ao n := by
  intro b o e hn er
  rcases h with h | ⟨b', o', e', hc⟩
  · omega
  · rw [e] at e'
    simp only [Option.some.injEq, Addr.mk.injEq, and_true] at e'
    obtain ⟨rfl, rfl⟩ := e'
    have h1 := World.block_lt_of_cell? w _ (hc 0 hn)
    have h2 := hr b er
    simp at h1
    omega

/-- Some value comes back, of which Φ holds. -/
def RV (Φ : Value → World → Prop) (e : Ending) (w' : World) : Prop := ∃ v : Value, e = .returned v ∧ Φ v w'

/-- What a stretch of a slice of bytes holds, as it is appended. -/
theorem src_cut {w : World} {b o L x y : Nat} {lines : List UInt8} (h : Rd w (some ⟨b, o, none⟩) L (cU lines)) (hL : lines.length = L) (hxy : x ≤ y) (hy : y ≤ L) : Src w (some ⟨b, o + x, none⟩) (y - x) ((lines.drop x).take (y - x)) := by
  refine ⟨by rw [List.length_take, List.length_drop]; omega, fun h => by simp at h, fun ad had j u hj => ?_⟩
  obtain rfl := Option.some.inj had
  have hjl : j < y - x := by
    have := (List.getElem?_eq_some_iff.1 hj).1
    rw [Lib.byteCells_length, List.length_take, List.length_drop] at this
    omega
  obtain ⟨b', o', e, hc⟩ := h.get (x + j) (by omega)
  simp only [Option.some.injEq, Addr.mk.injEq, and_true] at e
  obtain ⟨rfl, rfl⟩ := e
  rw [Addr.add_lit, Nat.add_assoc, hc]
  rw [← hj]
  simp only [cU, Lib.byteCells, List.getElem?_map, List.getD_eq_getElem?_getD]
  rw [List.getElem?_take, if_pos hjl, List.getElem?_drop, List.getElem?_eq_getElem (by omega)]
  rfl

theorem src_empty (w : World) (ao : Option Addr) : Src w ao 0 [] := ⟨rfl, fun _ => rfl, fun ad _ j u hj => by simp [Lib.byteCells] at hj⟩

theorem src_all {w : World} {ao : Option Addr} {n : Nat} {xs : List UInt8} (h : Rd w ao n (cU xs)) (hn : xs.length = n) : Src w ao n xs := by
  rcases h with h | ⟨b, o, rfl, hc⟩
  · subst h
    have : xs = [] := List.eq_nil_of_length_eq_zero hn
    subst this
    exact src_empty w ao
  · refine ⟨hn, fun h => by simp at h, fun ad had j u hj => ?_⟩
    obtain rfl := Option.some.inj had
    have hjl : j < xs.length := by
      have := (List.getElem?_eq_some_iff.1 hj).1
      rwa [Lib.byteCells_length] at this
    rw [Addr.add_lit, hc j (by omega), ← hj]
    simp only [cU, Lib.byteCells, List.getElem?_map, List.getD_eq_getElem?_getD]
    rw [List.getElem?_eq_getElem hjl]
    rfl

/-- An owned row, read. -/
theorem Own.rd {w : World} {v : Value} {xs : List UInt8} (h : Own w v xs) : ∃ ao c, v = .slice ao xs.length c ∧ Rd w ao xs.length (cU xs) ∧ xs.length ≤ c ∧ c ≤ maxLen ∧ (ao = none → c = 0) ∧ (∀ b o s, ao = some ⟨b, o, s⟩ → o = 0 ∧ s = none ∧ v.ownBlock = some b) := by
  rcases h with ⟨rfl, rfl⟩ | ⟨g, cap, cur, fz, rfl, hg, hz, h1, h2, h3, h4⟩
  · exact ⟨none, 0, rfl, Or.inl rfl, Nat.le_refl _, Nat.zero_le _, fun _ => rfl, fun b o s h => by simp at h⟩
  · refine ⟨some ⟨g, 0, none⟩, cap, rfl, Or.inr ⟨g, 0, rfl, fun j hj => ?_⟩, h1, h2, fun h => by simp at h, fun b o s h => ?_⟩
    · rw [Nat.zero_add, cell_of_row w g j cur 5 fz hg]
      have e := congrArg (fun l => l[j]?) h4
      simp only [List.getElem?_take, if_pos hj, Lib.byteCells, List.getElem?_map] at e
      rw [List.getElem?_eq_getElem hj] at e
      simp only [cU, List.getD_eq_getElem?_getD]
      rw [List.getElem?_eq_getElem hj]
      simpa using e
    · simp only [Option.some.injEq, Addr.mk.injEq] at h
      obtain ⟨rfl, rfl, rfl⟩ := h
      exact ⟨rfl, rfl, rfl⟩
end Go.Proofs.Qxb6625470aDoor

import Derived.Test.Qxb6625470aDoorPipe
namespace Go.Proofs.Qxb6625470aDoor
open Go.RowKit
set_option linter.unusedVariables false
set_option linter.unusedSimpArgs false
attribute [local go_sem] Go.wp_at_zero Go.wp_at_succ

/-- At a step of a region that draws its order: a copy. -/
theorem step_copy {w : World} {ops : Array Oper} {o : Oper} {a : Act} {K : Act → World → Prop} {Q : Exit → Act → World → Prop} {E : Prop} (hgd : o.guard = none) (s x : Operand)
    (T : TypeId) (ho : o.op = .call { callee := .builtin .copy, args := #[s, x], argTypes := #[22, T] }) {vs vx : Value} (hs : a.eval s = vs) (hx : a.eval x = vx)
    (r : Value) (w' : World) (hr : (Builtin.copy_ #[22, T] o.type #[vs, vx]).run Tryd.prog w = .ok r w') (h : K (a.put o.dst r) w') :
    if Region.wanted o (yielded ops a.tmps) = true then Oper.wp Tryd.prog o a w K Q else E := by
  have hw : Region.wanted o (yielded ops a.tmps) = true := by simp [Region.wanted, hgd]
  rw [if_pos hw]
  unfold Oper.wp execOp
  simp only [ho, resolve, invoke, builtin, Sem.run_bind, Sem.run_pure, Result.andThen_ok, List.map_toArray, List.map_cons, List.map_nil, hs, hx, hr]
  exact h

/-- The block of a slice is none of S. -/
def FarS (S : Nat → Prop) (ao : Option Addr) (n : Nat) : Prop := ∀ b o, ao = some ⟨b, o, none⟩ → 0 < n → ¬ S b

theorem Rd.frs {S : Nat → Prop} {w w1 : World} {ao : Option Addr} {n : Nat} {f : Nat → Value} (h : Rd w ao n f) (hF : FrS S w w1) (hf : FarS S ao n) : Rd w1 ao n f := by
  rcases h with h | ⟨b, o, rfl, hc⟩
  · exact Or.inl h
  · refine Or.inr ⟨b, o, rfl, fun j hj => ?_⟩
    have h1 := hc j hj
    have hb := hF.block b (World.block_lt_of_cell? w _ h1) (hf b o rfl (by omega))
    rw [← h1]
    simp only [World.cell?, hb]

theorem Rd.src {w : World} {b o n k : Nat} {q : List UInt8} (h : Rd w (some ⟨b, o, none⟩) n (cU q)) (hq : q.length = n) : ∀ j u, (Lib.byteCells (q.take k))[j]? = some u → w.cell? ((⟨b, o, none⟩ : Addr).add j) = some u := by
  have h1 := (src_all h hq).2.2 _ rfl
  intro j u hu
  apply h1 j u
  simp only [Lib.byteCells, List.getElem?_map, List.getElem?_take] at hu ⊢
  split at hu
  · exact hu
  · simp at hu

theorem copy_in (w : World) (ty : TypeId) (bb n : Nat) (ps q : List UInt8) (cur : Array Value) (hb : w.heap[bb]? = some (.cells cur 5 (0, 0))) (hcs : cur.size = 65536) (htk : cur.toList.take ps.length = Lib.byteCells ps) (hn : ps.length = n) (hle : n ≤ 65536)
    (ao : Option Addr) (m c : Nat) (hq : q.length = m) (hrd : Rd w ao m (cU q)) (d : Option Addr) (hd : n < 65536 → d = some ⟨bb, n, none⟩) (k dc : Nat) (hk : k = Nat.min m (65536 - n)) :
    ∃ cur', (Builtin.copy_ #[22, 22] ty #[.slice d (65536 - n) dc, .slice ao m c]).run Tryd.prog w = .ok (.int .i64 (k : Int)) (w.setRow bb cur') ∧ cur'.size = 65536 ∧ cur'.toList.take (n + k) = Lib.byteCells (ps ++ q.take k) := by
  obtain ⟨i0, hi, hz0, hz1, hz2⟩ := info_parts Tryd.info5
  have hinfo : (Tryd.prog.info? 5).map (·.size) = some 1 := by rw [hi]; simp [hz1]
  by_cases h0 : k = 0
  · subst h0
    refine ⟨cur, ?_, hcs, by simpa [hn] using htk⟩
    rw [run_copy_none (P := Tryd.prog) w 22 22 ty 5 d ao (65536 - n) dc m c Tryd.underlying22 hinfo (by rw [← hk]), setRow_self w bb cur 5 (0, 0) hb]
    rfl
  · have hkm : k ≤ m := by rw [hk]; exact Nat.min_le_left _ _
    have hkr : k ≤ 65536 - n := by rw [hk]; exact Nat.min_le_right _ _
    obtain rfl := hd (by omega)
    obtain ⟨b0, o0, e0, _⟩ := hrd.get 0 (by omega)
    subst e0
    have hl : (Lib.byteCells (q.take k)).length = k := by rw [Lib.byteCells_length, List.length_take]; omega
    have hr := run_copy_row (P := Tryd.prog) w 22 22 ty 5 bb n (65536 - n) dc ⟨b0, o0, none⟩ m c cur 5 (Lib.byteCells (q.take k)) Tryd.underlying22 hinfo hb (by rw [hl, hk]) (hrd.src hq) (by rw [hl]; omega) (Lib.byteCells_one _)
    rw [hl] at hr
    refine ⟨_, hr, ?_, ?_⟩
    · simp only [List.size_toArray, List.length_append, List.length_take, List.length_drop, Array.length_toList, hl, hcs]
      omega
    · show List.take _ (_ ++ _ ++ _) = _
      rw [← hn, htk, ← Lib.byteCells_append]
      rw [show ps.length + k = (Lib.byteCells (ps ++ q.take k)).length by rw [Lib.byteCells_append, List.length_append, hl, Lib.byteCells_length]]
      exact List.take_left

theorem Pipe.put {w : World} {b bw bb cw : Nat} {v : Value} {bs ps r : List UInt8} {cur' : Array Value} {N : Nat} (h : Pipe w b bw bb cw v bs ps) (hs : cur'.size = 65536) (ht : cur'.toList.take N = Lib.byteCells (ps ++ r)) (hN : (ps ++ r).length = N) (hle : N ≤ 65536) :
    Pipe ((w.setRow bb cur').setCell ⟨bw, 2, none⟩ (.int .i64 (N : Int))) b bw bb cw v bs (ps ++ r) := by
  have ne : ∀ k, k ≠ bw → k ≠ bb → ((w.setRow bb cur').setCell ⟨bw, 2, none⟩ (.int .i64 (N : Int))).heap[k]? = w.heap[k]? := fun k hk hk2 => (Below.heap_setCell _ _ _ _ hk).trans (setRow_other _ _ _ _ hk2)
  obtain ⟨cur, h1, h2, h3⟩ := h.row
  refine ⟨h.buf.keep (ne b h.d1 h.d2) (fun g hg => ne g (fun e => h.f1 (by rw [← e]; exact hg)) (fun e => h.f2 (by rw [← e]; exact hg))), by unfold CntIs; rw [ne cw (Ne.symm h.d5) (Ne.symm h.d6)]; exact h.cnt, ?_, ?_, by omega, h.d1, h.d2, h.d3, h.d4, h.d5, h.d6, h.f1, h.f2, h.f3⟩
  · rw [hN]
    exact Lib.heap_setCell_same (i := 2) ((setRow_other _ _ _ _ h.d4).trans h.wr) _
  · refine ⟨cur', ?_, hs, by rw [hN]; exact ht⟩
    rw [Below.heap_setCell _ _ _ _ (Ne.symm h.d4)]
    exact setRow_heap w bb cur _ 5 _ h1

theorem FrS.setRow {S : Nat → Prop} {a w : World} (h : FrS S a w) (g : Nat) (cur : Array Value) (hp : S g) : FrS S a (w.setRow g cur) :=
  ⟨h.os, h.tape, h.output, by simpa [World.setRow] using h.size, fun k hk hn => (setRow_other _ _ _ _ (fun e => hn (by rw [e]; exact hp))).trans (h.block k hk hn)⟩

theorem PS.later {w : World} {b bw bb cw : Nat} {v v' : Value} (hL : Later w v v') (i : Nat) (hi : i < w.heap.size) (h : PS b bw bb cw v' i) : PS b bw bb cw v i := by
  rcases h with h | h | h | h | h
  · exact Or.inl h
  · exact Or.inr (Or.inl h)
  · exact Or.inr (Or.inr (Or.inl h))
  · exact Or.inr (Or.inr (Or.inr (Or.inl h)))
  · rcases hL with g | g
    · exact Or.inr (Or.inr (Or.inr (Or.inr (by rw [← g]; exact h))))
    · have := g i h; omega

/-- What a copy into the writer's row leaves, ahead of the store of its new length. -/
structure PutIs (w2 : World) (b bw bb cw : Nat) (v : Value) (bs ps' : List UInt8) (n k : Nat) (W' : World) : Prop where
  wr : W'.heap[bw]? = some (.cells #[.nilIface, .slice (some ⟨bb, 0, none⟩) 65536 65536, .int .i64 (n : Int), .iface 59 (.pointer (some ⟨cw, 0, none⟩))] 71 (0, 0))
  pipe : Pipe (W'.setCell ⟨bw, 2, none⟩ (.int .i64 ((n : Int) + (k : Int)))) b bw bb cw v bs ps'
  fr : FrS (PS b bw bb cw v) w2 W'

theorem PutIs.c1 {w2 W' : World} {b bw bb cw n k : Nat} {v : Value} {bs ps : List UInt8} (h : PutIs w2 b bw bb cw v bs ps n k W') : W'.cell? ⟨bw, 1, none⟩ = some (.slice (some ⟨bb, 0, none⟩) 65536 65536) := by rw [Lib.cell_of_heap h.wr]; rfl
theorem PutIs.c2 {w2 W' : World} {b bw bb cw n k : Nat} {v : Value} {bs ps : List UInt8} (h : PutIs w2 b bw bb cw v bs ps n k W') : W'.cell? ⟨bw, 2, none⟩ = some (.int .i64 (n : Int)) := by rw [Lib.cell_of_heap h.wr]; rfl
theorem PutIs.z {w2 W' : World} {b bw bb cw n k : Nat} {v : Value} {bs ps : List UInt8} (h : PutIs w2 b bw bb cw v bs ps n k W') (i : Nat) : W'.frozen? ⟨bw, i, none⟩ = false := Lib.frozen_of_heap h.wr i

theorem Same.pipe {w W : World} {b bw bb cw : Nat} {v : Value} {bs ps : List UInt8} (hS : Same w W) (h : Pipe w b bw bb cw v bs ps) : Pipe W b bw bb cw v bs ps := h.keep fun k _ => by rw [hS.2.2.2]

theorem Same.rd {w W : World} {ao : Option Addr} {n : Nat} {f : Nat → Value} (hS : Same w W) (h : Rd w ao n f) : Rd W ao n f := by
  rcases h with h | ⟨b, o, rfl, hc⟩
  · exact Or.inl h
  · exact Or.inr ⟨b, o, rfl, fun j hj => by rw [hS.cell]; exact hc j hj⟩

theorem put_copy {w2 : World} {b bw bb cw : Nat} {v : Value} {bs ps q : List UInt8} (h : Pipe w2 b bw bb cw v bs ps) {n : Nat} (hn : ps.length = n) {ao : Option Addr} {m : Nat} (c : Nat) (hq : q.length = m) (hrd : Rd w2 ao m (cU q)) (k : Nat) (hk : k = Nat.min m (65536 - n)) :
    ∀ (W : World) (ty : TypeId) (d : Option Addr) (dc : Nat), Same w2 W → (n < 65536 → d = some ⟨bb, n, none⟩) → ∃ W', (Builtin.copy_ #[22, 22] ty #[.slice d (65536 - n) dc, .slice ao m c]).run Tryd.prog W = .ok (.int .i64 (k : Int)) W' ∧ PutIs w2 b bw bb cw v bs (ps ++ q.take k) n k W' := by
  intro W ty d dc hS hd
  have hP := hS.pipe h
  obtain ⟨cur, h1, h2, h3⟩ := hP.row
  have hle := h.le
  obtain ⟨cur', hr, hs', ht'⟩ := copy_in W ty bb n ps q cur h1 h2 h3 hn (by omega) ao m c hq (hS.rd hrd) d hd k dc hk
  have hkm : k ≤ m := by rw [hk]; exact Nat.min_le_left _ _
  have hkr : k ≤ 65536 - n := by rw [hk]; exact Nat.min_le_right _ _
  have hN : (ps ++ q.take k).length = n + k := by rw [List.length_append, List.length_take, hn]; omega
  have hput := hP.put hs' ht' hN (by omega)
  push_cast at hput
  refine ⟨_, hr, ⟨?_, hput, ?_⟩⟩
  · rw [setRow_other _ _ _ _ h.d4, hS.2.2.2, h.wr, hn]
  · exact hS.frs ((FrS.refl _ _).setRow _ _ (Or.inr (Or.inr (Or.inl rfl))))

theorem step_copyE {w : World} {ops : Array Oper} {o : Oper} {a : Act} {K : Act → World → Prop} {Q : Exit → Act → World → Prop} {E : Prop} (hgd : o.guard = none) (s x : Operand)
    (T : TypeId) (ho : o.op = .call { callee := .builtin .copy, args := #[s, x], argTypes := #[22, T] }) {vs vx : Value} (hs : a.eval s = vs) (hx : a.eval x = vx)
    (r : Value) (G : World → Prop) (hr : ∃ w', (Builtin.copy_ #[22, T] o.type #[vs, vx]).run Tryd.prog w = .ok r w' ∧ G w') (h : ∀ w', G w' → K (a.put o.dst r) w') :
    if Region.wanted o (yielded ops a.tmps) = true then Oper.wp Tryd.prog o a w K Q else E := by
  obtain ⟨w', h1, h2⟩ := hr
  exact step_copy hgd s x T ho hs hx r w' h1 (h w' h2)

/-- How far a round of Write is from its end. -/
def mea (bw : Nat) (p : Value) (w : World) : Nat :=
  (match p with | .slice _ n _ => n | _ => 0) + (match w.cell? ⟨bw, 2, none⟩ with | some (.int _ z) => z.toNat | _ => 0)

/-- What one round of Write's loop knows. -/
structure WR (w : World) (b bw bb cw : Nat) (v : Value) (bs ps q : List UInt8) (m : Nat) (p nn : Value) (wr : World) : Prop where
  ex : ∃ (ap : Option Addr) (t m' c' : Nat) (q' bs' ps' : List UInt8) (v' : Value), p = .slice ap m' c' ∧ nn = .int .i64 (t : Int) ∧ t + m' = m ∧ m' ≤ c' ∧ c' ≤ maxLen ∧ (ap = none → c' = 0) ∧ q'.length = m' ∧ Rd w ap m' (cU q') ∧ FarS (PS b bw bb cw v) ap m' ∧
    bs' ++ ps' ++ q' = bs ++ ps ++ q ∧ Pipe wr b bw bb cw v' bs' ps' ∧ FrS (PS b bw bb cw v) w wr ∧ Later w v v'
end Go.Proofs.Qxb6625470aDoor

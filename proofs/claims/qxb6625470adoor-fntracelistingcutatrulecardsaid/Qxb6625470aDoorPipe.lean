import Derived.Test.Qxb6625470aDoorCount
namespace Go.Proofs.Qxb6625470aDoor
open Go.RowKit
set_option linter.unusedVariables false
set_option linter.unusedSimpArgs false
attribute [local go_sem] Go.wp_at_zero Go.wp_at_succ

/-- A bufio.Writer (block bw, its row bb) over a countingWriter (cw) over a bytes.Buffer (b, its row v): bs has gone on, ps waits. -/
structure Pipe (w : World) (b bw bb cw : Nat) (v : Value) (bs ps : List UInt8) : Prop where
  buf : BufIs w b v bs
  cnt : CntIs w cw b bs.length
  wr : w.heap[bw]? = some (.cells #[.nilIface, .slice (some ⟨bb, 0, none⟩) 65536 65536, .int .i64 (ps.length : Int), .iface 59 (.pointer (some ⟨cw, 0, none⟩))] 71 (0, 0))
  row : ∃ cur, w.heap[bb]? = some (.cells cur 5 (0, 0)) ∧ cur.size = 65536 ∧ cur.toList.take ps.length = Lib.byteCells ps
  le : ps.length ≤ 65536
  d1 : b ≠ bw
  d2 : b ≠ bb
  d3 : b ≠ cw
  d4 : bw ≠ bb
  d5 : bw ≠ cw
  d6 : bb ≠ cw
  f1 : v.ownBlock ≠ some bw
  f2 : v.ownBlock ≠ some bb
  f3 : v.ownBlock ≠ some cw

/-- The blocks that the pipe may turn. -/
def PS (b bw bb cw : Nat) (v : Value) (k : Nat) : Prop := k = b ∨ k = bw ∨ k = bb ∨ k = cw ∨ v.ownBlock = some k

theorem addr0 (bb j : Nat) : ((⟨bb, 0, none⟩ : Addr).add j) = ⟨bb, j, none⟩ := by
  cases j <;> simp [Addr.add]
/-- Two worlds that differ in no block. -/
def Same (w W : World) : Prop := W.os = w.os ∧ W.tape = w.tape ∧ W.output = w.output ∧ W.heap = w.heap
theorem Same.frs {S : Nat → Prop} {w W w' : World} (h : Same w W) (k : FrS S W w') : FrS S w w' :=
  ⟨k.os.trans h.1, k.tape.trans h.2.1, k.output.trans h.2.2.1, by rw [← h.2.2.2]; exact k.size, fun i hi hn => by rw [← h.2.2.2]; exact k.block i (by rw [h.2.2.2]; exact hi) hn⟩
theorem Same.later {w W : World} {v v' : Value} (h : Same w W) (k : Later W v v') : Later w v v' := by
  unfold Later at *
  rw [← h.2.2.2]; exact k
theorem Same.cell {w W : World} (h : Same w W) (a : Addr) : W.cell? a = w.cell? a := by simp [World.cell?, h.2.2.2]

theorem Pipe.keep {w w' : World} {b bw bb cw : Nat} {v : Value} {bs ps : List UInt8} (h : Pipe w b bw bb cw v bs ps) (hk : ∀ k, PS b bw bb cw v k → w'.heap[k]? = w.heap[k]?) : Pipe w' b bw bb cw v bs ps :=
  ⟨h.buf.keep (hk b (Or.inl rfl)) (fun g hg => hk g (Or.inr (Or.inr (Or.inr (Or.inr hg))))), by unfold CntIs; rw [hk cw (Or.inr (Or.inr (Or.inr (Or.inl rfl))))]; exact h.cnt,
   by rw [hk bw (Or.inr (Or.inl rfl))]; exact h.wr, by obtain ⟨cur, h1, h2⟩ := h.row; exact ⟨cur, by rw [hk bb (Or.inr (Or.inr (Or.inl rfl)))]; exact h1, h2⟩,
   h.le, h.d1, h.d2, h.d3, h.d4, h.d5, h.d6, h.f1, h.f2, h.f3⟩

theorem Pipe.lt {w : World} {b bw bb cw : Nat} {v : Value} {bs ps : List UInt8} (h : Pipe w b bw bb cw v bs ps) : ∀ k, PS b bw bb cw v k → k < w.heap.size := by
  intro k hk
  rcases hk with rfl | rfl | rfl | rfl | hk
  · exact h.buf.lt
  · exact Lib.lt_of_heap h.wr
  · obtain ⟨cur, h1, _⟩ := h.row; exact Lib.lt_of_heap h1
  · exact Lib.lt_of_heap h.cnt
  · exact h.buf.rlt k hk

theorem Pipe.below {w w' : World} {b bw bb cw : Nat} {v : Value} {bs ps : List UInt8} (h : Pipe w b bw bb cw v bs ps) (hb : Below w.heap.size w w') : Pipe w' b bw bb cw v bs ps :=
  h.keep fun k hk => hb.block k (h.lt k hk)

theorem later_ne {w : World} {v v' : Value} {k : Nat} (hL : Later w v v') (hk : k < w.heap.size) (h : v.ownBlock ≠ some k) : v'.ownBlock ≠ some k := by
  intro e
  rcases hL with g | g
  · exact h (by rw [← g]; exact e)
  · have := g k e; omega

/-- The blocks that a write to the countingWriter may turn. -/
def CS (b cw : Nat) (v : Value) (k : Nat) : Prop := k = b ∨ k = cw ∨ v.ownBlock = some k

theorem Pipe.pass {w w1 : World} {b bw bb cw : Nat} {v v' : Value} {bs bs' ps : List UInt8} (h : Pipe w b bw bb cw v bs ps) (hB : BufIs w1 b v' bs') (hC : CntIs w1 cw b bs'.length) (hF : FrS (CS b cw v) w w1) (hL : Later w v v') : Pipe w1 b bw bb cw v' bs' ps := by
  have hl := h.lt
  refine ⟨hB, hC, ?_, ?_, h.le, h.d1, h.d2, h.d3, h.d4, h.d5, h.d6, later_ne hL (hl _ (Or.inr (Or.inl rfl))) h.f1, later_ne hL (hl _ (Or.inr (Or.inr (Or.inl rfl)))) h.f2, later_ne hL (hl _ (Or.inr (Or.inr (Or.inr (Or.inl rfl))))) h.f3⟩
  · rw [hF.block bw (hl _ (Or.inr (Or.inl rfl))) (by
      rintro (e | e | e)
      · exact h.d1 e.symm
      · exact h.d5 e
      · exact h.f1 e)]
    exact h.wr
  · obtain ⟨cur, h1, h2⟩ := h.row
    refine ⟨cur, ?_, h2⟩
    rw [hF.block bb (hl _ (Or.inr (Or.inr (Or.inl rfl)))) (by
      rintro (e | e | e)
      · exact h.d2 e.symm
      · exact h.d6 e
      · exact h.f2 e)]
    exact h1

theorem Pipe.setN {w : World} {b bw bb cw : Nat} {v : Value} {bs ps : List UInt8} (h : Pipe w b bw bb cw v bs ps) : Pipe (w.setCell ⟨bw, 2, none⟩ (.int .i64 0)) b bw bb cw v bs [] := by
  have ne : ∀ k, k ≠ bw → (w.setCell ⟨bw, 2, none⟩ (.int .i64 0)).heap[k]? = w.heap[k]? := fun k hk => Below.heap_setCell _ _ _ _ hk
  refine ⟨h.buf.keep (ne b h.d1) (fun g hg => ne g (fun e => h.f1 (by rw [← e]; exact hg))), by unfold CntIs; rw [ne cw (Ne.symm h.d5)]; exact h.cnt, ?_, ?_, by simp, h.d1, h.d2, h.d3, h.d4, h.d5, h.d6, h.f1, h.f2, h.f3⟩
  · exact Lib.heap_setCell_same (i := 2) h.wr (.int .i64 0)
  · obtain ⟨cur, h1, h2, h3⟩ := h.row
    exact ⟨cur, by rw [ne bb (Ne.symm h.d4)]; exact h1, h2, by simp [Lib.byteCells]⟩

theorem Pipe.setE {w : World} {b bw bb cw : Nat} {v : Value} {bs ps : List UInt8} (h : Pipe w b bw bb cw v bs ps) : Pipe (w.setCell ⟨bw, 0, none⟩ .nilIface) b bw bb cw v bs ps := by
  have ne : ∀ k, k ≠ bw → (w.setCell ⟨bw, 0, none⟩ .nilIface).heap[k]? = w.heap[k]? := fun k hk => Below.heap_setCell _ _ _ _ hk
  refine ⟨h.buf.keep (ne b h.d1) (fun g hg => ne g (fun e => h.f1 (by rw [← e]; exact hg))), by unfold CntIs; rw [ne cw (Ne.symm h.d5)]; exact h.cnt, ?_, ?_, h.le, h.d1, h.d2, h.d3, h.d4, h.d5, h.d6, h.f1, h.f2, h.f3⟩
  · exact Lib.heap_setCell_same (i := 0) h.wr .nilIface
  · obtain ⟨cur, h1, h2⟩ := h.row
    exact ⟨cur, by rw [ne bb (Ne.symm h.d4)]; exact h1, h2⟩

theorem FrS.cs {w w' : World} {b bw bb cw : Nat} {v : Value} (h : FrS (CS b cw v) w w') : FrS (PS b bw bb cw v) w w' :=
  h.mono fun i _ hi => by
    rcases hi with e | e | e
    · exact Or.inl e
    · exact Or.inr (Or.inr (Or.inr (Or.inl e)))
    · exact Or.inr (Or.inr (Or.inr (Or.inr e)))

section
variable {w : World} {b bw bb cw : Nat} {v : Value} {bs ps : List UInt8}
theorem Pipe.c0 (h : Pipe w b bw bb cw v bs ps) : w.cell? ⟨bw, 0, none⟩ = some .nilIface := by rw [Lib.cell_of_heap h.wr]; rfl
theorem Pipe.c1 (h : Pipe w b bw bb cw v bs ps) : w.cell? ⟨bw, 1, none⟩ = some (.slice (some ⟨bb, 0, none⟩) 65536 65536) := by rw [Lib.cell_of_heap h.wr]; rfl
theorem Pipe.c2 (h : Pipe w b bw bb cw v bs ps) : w.cell? ⟨bw, 2, none⟩ = some (.int .i64 (ps.length : Int)) := by rw [Lib.cell_of_heap h.wr]; rfl
theorem Pipe.c3 (h : Pipe w b bw bb cw v bs ps) : w.cell? ⟨bw, 3, none⟩ = some (.iface 59 (.pointer (some ⟨cw, 0, none⟩))) := by rw [Lib.cell_of_heap h.wr]; rfl
theorem Pipe.z (h : Pipe w b bw bb cw v bs ps) (i : Nat) : w.frozen? ⟨bw, i, none⟩ = false := Lib.frozen_of_heap h.wr i
end

set_option maxRecDepth 100000 in
set_option maxHeartbeats 800000 in
theorem avail (b bw bb cw : Nat) (v : Value) (bs ps : List UInt8) (w : World) (h : Pipe w b bw bb cw v bs ps) :
    Calls Tryd.prog 27 #[.pointer (some ⟨bw, 0, none⟩)] w fun e w' => e = .returned (.int .i64 (65536 - (ps.length : Int))) ∧ Below w.heap.size w w' := by
  have c1 := h.c1
  have c2 := h.c2
  have hle := h.le
  clear h
  go_enter Tryd.func27, Tryd.ntmps27
  go_wp2
  go_quiet (fail)
  go_wp2
  go_ret
  exact ⟨rfl, drewN_below _ _⟩

set_option maxRecDepth 100000 in
set_option maxHeartbeats 800000 in
theorem buffered (b bw bb cw : Nat) (v : Value) (bs ps : List UInt8) (w : World) (h : Pipe w b bw bb cw v bs ps) :
    Calls Tryd.prog 28 #[.pointer (some ⟨bw, 0, none⟩)] w fun e w' => e = .returned (.int .i64 (ps.length : Int)) ∧ Below w.heap.size w w' := by
  have c2 := h.c2
  clear h
  go_enter Tryd.func28, Tryd.ntmps28
  go_wp2
  go_ret
  exact ⟨rfl, Below.refl _ _⟩

set_option maxRecDepth 100000 in
set_option maxHeartbeats 1600000 in
theorem flush_none (b bw bb cw : Nat) (v : Value) (bs : List UInt8) (w : World) (h : Pipe w b bw bb cw v bs []) :
    Calls Tryd.prog 26 #[.pointer (some ⟨bw, 0, none⟩)] w fun e w' => e = .returned .nilIface ∧ Below w.heap.size w w' := by
  have c0 := h.c0
  have c2 := h.c2
  clear h
  go_enter Tryd.func26, Tryd.ntmps26
  go_wp2
  go_ret
  exact ⟨rfl, Below.refl _ _⟩

set_option maxRecDepth 100000 in
set_option maxHeartbeats 3200000 in
theorem flush_some (b bw bb cw : Nat) (v : Value) (bs ps : List UInt8) (w : World) (h : Pipe w b bw bb cw v bs ps) (hp : 1 ≤ ps.length) (hlim : bs.length + ps.length ≤ 1000000000) :
    Calls Tryd.prog 26 #[.pointer (some ⟨bw, 0, none⟩)] w fun e w' => e = .returned .nilIface ∧ ∃ v', Pipe w' b bw bb cw v' (bs ++ ps) [] ∧ FrS (PS b bw bb cw v) w w' ∧ Later w v v' := by
  have c0 := h.c0
  have c1 := h.c1
  have c2 := h.c2
  have c3 := h.c3
  have hle := h.le
  obtain ⟨n, hn⟩ : ∃ n, ps.length = n := ⟨_, rfl⟩
  rw [hn] at c2 hle hp
  have hn0 : ((n : Int) == 0) = false := by simp; omega
  have i1 : (n : Int) ≤ 65536 := by omega
  have i2 : (0 : Int) ≤ (n : Int) := by omega
  have hm := fun w => meth_cnt ⟨cw, 0, none⟩ w
  have HP := Lib.hid h
  have HN := Lib.hid hn
  have HLIM := Lib.hid hlim
  clear h hn hlim
  go_enter Tryd.func26, Tryd.ntmps26
  go_wp2
  have hcw := HP.out.cnt
  have hwr := HP.out.wr
  have hbl : bw < w.heap.size := Lib.lt_of_heap hwr
  have hnb : ∀ w1 : World, FrS (CS b cw v) w w1 → w1.heap[bw]? = w.heap[bw]? := fun w1 hF => hF.block bw hbl (by
    rintro (e | e | e)
    · exact HP.out.d1 e.symm
    · exact HP.out.d5 e
    · exact HP.out.f1 e)
  rw [HN.out] at hwr
  have hkeep : ∀ w1 : World, FrS (CS b cw v) w w1 → w1.cell? ⟨bw, 1, none⟩ = some (.slice (some ⟨bb, 0, none⟩) 65536 65536) ∧ w1.cell? ⟨bw, 2, none⟩ = some (.int .i64 (n : Int)) ∧ w1.cell? ⟨bw, 3, none⟩ = some (.iface 59 (.pointer (some ⟨cw, 0, none⟩))) := fun w1 hF =>
    ⟨by rw [Lib.cell_of_heap ((hnb w1 hF).trans hwr)]; rfl, by rw [Lib.cell_of_heap ((hnb w1 hF).trans hwr)]; rfl, by rw [Lib.cell_of_heap ((hnb w1 hF).trans hwr)]; rfl⟩
  obtain ⟨cur, hr1, hr2, hr3⟩ := HP.out.row
  have hsrc : ∀ j u, (Lib.byteCells ps)[j]? = some u → w.cell? ((⟨bb, 0, none⟩ : Addr).add j) = some u := by
    intro j u hu
    rw [← hr3] at hu
    rw [show ((⟨bb, 0, none⟩ : Addr).add j) = ⟨bb, j, none⟩ from addr0 bb j, Lib.cell_of_heap hr1]
    rw [List.getElem?_take] at hu
    split at hu
    · simpa using hu
    · cases hu
  have hcall : ∀ W : World, Same w W → Calls Tryd.prog 68 #[.pointer (some ⟨cw, 0, none⟩), .slice (some ⟨bb, 0, none⟩) n 65536] W fun e w' => e = .returned (.tuple #[.int .i64 n, .nilIface]) ∧ ∃ v', BufIs w' b v' (bs ++ ps) ∧ CntIs w' cw b (bs ++ ps).length ∧ FrS (CS b cw v) w w' ∧ Later w v v' := by
    intro W hW
    refine (cntWrite cw b v bs ps ⟨bb, 0, none⟩ n 65536 W (by unfold CntIs; rw [hW.2.2.2]; exact hcw) (HP.out.buf.keep (by rw [hW.2.2.2]) fun _ _ => by rw [hW.2.2.2]) (Ne.symm HP.out.d3) HP.out.f3 HN.out hp (Ne.symm HP.out.d2) (fun j u hu => by rw [hW.cell]; exact hsrc j u hu) (by have := HLIM.out; have := HN.out; omega)).mono ?_
    rintro e w1 ⟨rfl, v', hB, hC, hF, hL⟩
    exact ⟨rfl, v', hB, hC, hW.frs hF, hW.later hL⟩
  go_region_held3 (fun w' => w'.cell? ⟨bw, 1, none⟩ = some (.slice (some ⟨bb, 0, none⟩) 65536 65536) ∧ w'.cell? ⟨bw, 2, none⟩ = some (.int .i64 (n : Int)) ∧ w'.cell? ⟨bw, 3, none⟩ = some (.iface 59 (.pointer (some ⟨cw, 0, none⟩)))) (first | go_keep | exact hkeep _ hF) ((refine (hcall _ (by exact ⟨rfl, rfl, rfl, rfl⟩)).mono ?_; rintro e w1 ⟨rfl, v', hB, hC, hF, hL⟩))
  have hwr1 := (hnb _ hF).trans hwr
  have hd0 : w1.cell? ⟨bw, 0, none⟩ = some .nilIface := by rw [Lib.cell_of_heap hwr1]; rfl
  have hd2 : w1.cell? ⟨bw, 2, none⟩ = some (.int .i64 (n : Int)) := by rw [Lib.cell_of_heap hwr1]; rfl
  have hz := Lib.frozen_of_heap hwr1
  have HB := Lib.hid hB
  have HC := Lib.hid hC
  have HW := Lib.hid hwr1
  clear hB hC hkeep hnb hsrc hcw hwr hcall hr1 hr2 hr3 c0 c1 c2 c3 hwr1
  go_wp2
  go_ret
  have hp := HP.out.pass HB.out HC.out hF hL
  exact ⟨rfl, v', hp.setN, (FrS.cs hF).setCell _ _ (Or.inr (Or.inl rfl)), hL⟩

/-- (*bufio.Writer).Flush. -/
theorem flush_any (b bw bb cw : Nat) (v : Value) (bs ps : List UInt8) (w : World) (h : Pipe w b bw bb cw v bs ps) (hlim : bs.length + ps.length ≤ 1000000000) :
    Calls Tryd.prog 26 #[.pointer (some ⟨bw, 0, none⟩)] w fun e w' => e = .returned .nilIface ∧ ∃ v', Pipe w' b bw bb cw v' (bs ++ ps) [] ∧ FrS (PS b bw bb cw v) w w' ∧ Later w v v' := by
  rcases Nat.eq_zero_or_pos ps.length with h0 | h1
  · have : ps = [] := List.length_eq_zero_iff.1 h0
    subst this
    refine (flush_none b bw bb cw v bs w h).mono ?_
    rintro e w1 ⟨rfl, hb⟩
    exact ⟨rfl, v, by simpa using h.below hb, (FrS.refl _ _).below hb, Or.inl rfl⟩
  · exact flush_some b bw bb cw v bs ps w h h1 hlim
end Go.Proofs.Qxb6625470aDoor

import Derived.Test.Qxb6625470aDoorBuf
namespace Go.Proofs.Qxb6625470aDoor
open Go.RowKit
set_option linter.unusedVariables false
set_option linter.unusedSimpArgs false

/-- All old blocks but those of S stand as they stood. -/
structure FrS (S : Nat → Prop) (w w' : World) : Prop where
  os : w'.os = w.os
  tape : w'.tape = w.tape
  output : w'.output = w.output
  size : w.heap.size ≤ w'.heap.size
  block : ∀ k, k < w.heap.size → ¬ S k → w'.heap[k]? = w.heap[k]?

theorem FrS.refl (S : Nat → Prop) (w : World) : FrS S w w := ⟨rfl, rfl, rfl, Nat.le_refl _, fun _ _ _ => rfl⟩
theorem FrS.trans {S S' T : Nat → Prop} {a b c : World} (h : FrS S a b) (k : FrS S' b c) (h1 : ∀ i, i < a.heap.size → S i → T i) (h2 : ∀ i, i < a.heap.size → S' i → T i) : FrS T a c :=
  ⟨k.os.trans h.os, k.tape.trans h.tape, k.output.trans h.output, Nat.le_trans h.size k.size, fun i hi hn => (k.block i (Nat.lt_of_lt_of_le hi h.size) (fun e => hn (h2 i hi e))).trans (h.block i hi (fun e => hn (h1 i hi e)))⟩
theorem FrS.mono {S T : Nat → Prop} {a b : World} (h : FrS S a b) (k : ∀ i, i < a.heap.size → S i → T i) : FrS T a b :=
  ⟨h.os, h.tape, h.output, h.size, fun i hi hn => h.block i hi (fun e => hn (k i hi e))⟩
theorem FrS.of2 {b : Nat} {v : Value} {w w' : World} (h : Fr2 b v w w') : FrS (fun k => k = b ∨ v.ownBlock = some k) w w' :=
  ⟨h.os, h.tape, h.output, h.size, fun k hk hn => h.block k hk (fun e => hn (Or.inl e)) (fun e => hn (Or.inr e))⟩
theorem FrS.setCell {S : Nat → Prop} {a w : World} (h : FrS S a w) (p : Addr) (v : Value) (hp : S p.block) : FrS S a (w.setCell p v) :=
  ⟨h.os, h.tape, h.output, by simpa [World.setCell] using h.size, fun k hk hn => (Below.heap_setCell _ _ _ _ (fun e => hn (by rw [e]; exact hp))).trans (h.block k hk hn)⟩
theorem FrS.drewN {S : Nat → Prop} {a w : World} (h : FrS S a w) (n : Nat) : FrS S a (w.drewN n) := ⟨h.os, h.tape, h.output, h.size, h.block⟩
theorem FrS.drew {S : Nat → Prop} {a w : World} (h : FrS S a w) : FrS S a w.drew := ⟨h.os, h.tape, h.output, h.size, h.block⟩
theorem FrS.alloc {S : Nat → Prop} {a w : World} (h : FrS S a w) (o : Obj) : FrS S a (w.alloc o) :=
  ⟨h.os, h.tape, h.output, Nat.le_trans h.size (by simp), fun k hk hn => (Below.heap_alloc _ _ _ (Nat.lt_of_lt_of_le hk h.size)).trans (h.block k hk hn)⟩
theorem FrS.below {S : Nat → Prop} {a w w' : World} (h : FrS S a w) (hb : Below w.heap.size w w') : FrS S a w' :=
  ⟨hb.os.trans h.os, hb.tape.trans h.tape, hb.output.trans h.output, Nat.le_trans h.size hb.size, fun k hk hn => (hb.block k (Nat.lt_of_lt_of_le hk h.size)).trans (h.block k hk hn)⟩

theorem BufIs.keep {w w' : World} {b : Nat} {v : Value} {xs : List UInt8} (h : BufIs w b v xs) (hb : w'.heap[b]? = w.heap[b]?) (hv : ∀ g, v.ownBlock = some g → w'.heap[g]? = w.heap[g]?) : BufIs w' b v xs := by
  obtain ⟨⟨lr, h1⟩, h2⟩ := h
  refine ⟨⟨lr, by rw [hb]; exact h1⟩, ?_⟩
  rcases h2 with h2 | ⟨g, cap, cur, rfl, hg, r⟩
  · exact Or.inl h2
  · exact Or.inr ⟨g, cap, cur, rfl, by rw [hv g rfl]; exact hg, r⟩

theorem BufIs.lt {w : World} {b : Nat} {v : Value} {xs : List UInt8} (h : BufIs w b v xs) : b < w.heap.size := by
  obtain ⟨⟨lr, h1⟩, _⟩ := h
  exact Lib.lt_of_heap h1

theorem BufIs.rlt {w : World} {b : Nat} {v : Value} {xs : List UInt8} (h : BufIs w b v xs) : ∀ g, v.ownBlock = some g → g < w.heap.size := by
  intro g hg
  obtain ⟨_, ⟨rfl, _⟩ | ⟨g', cap, cur, rfl, hg', _⟩⟩ := h
  · simp [Value.ownBlock] at hg
  · simp [Value.ownBlock] at hg
    subst hg
    exact Lib.lt_of_heap hg'

theorem meth_buf (a : Addr) (w : World) : (method 229 54 (.pointer (some a)) "Write").run Tryd.prog w = .ok (61, .pointer (some a)) w := by kernel_rfl
theorem meth_cnt (a : Addr) (w : World) : (method 229 59 (.pointer (some a)) "Write").run Tryd.prog w = .ok (68, .pointer (some a)) w := by kernel_rfl

/-- The count stands in its struct. -/
def CntIs (w : World) (cw b n : Nat) : Prop := w.heap[cw]? = some (.cells #[.iface 54 (.pointer (some ⟨b, 0, none⟩)), .int .i64 (n : Int)] 61 (0, 0))

set_option maxHeartbeats 800000 in
set_option maxRecDepth 100000 in
/-- (*countingWriter).Write of at least one byte. -/
theorem cntWrite (cw b : Nat) (v : Value) (xs ps : List UInt8) (a : Addr) (n c : Nat) (w : World) (hcw : CntIs w cw b xs.length) (h : BufIs w b v xs) (hcb : cw ≠ b) (hcv : v.ownBlock ≠ some cw)
    (hn : ps.length = n) (hn1 : 1 ≤ n) (hab : a.block ≠ b) (hsrc : ∀ j u, (Lib.byteCells ps)[j]? = some u → w.cell? (a.add j) = some u) (hlim : xs.length + n ≤ 1000000000) :
    Calls Tryd.prog 68 #[.pointer (some ⟨cw, 0, none⟩), .slice (some a) n c] w fun e w' => e = .returned (.tuple #[.int .i64 n, .nilIface]) ∧ ∃ v', BufIs w' b v' (xs ++ ps) ∧ CntIs w' cw b (xs ++ ps).length ∧ FrS (fun k => k = b ∨ k = cw ∨ v.ownBlock = some k) w w' ∧ Later w v v' := by
  have c0 : w.cell? ⟨cw, 0, none⟩ = some (.iface 54 (.pointer (some ⟨b, 0, none⟩))) := by rw [Lib.cell_of_heap hcw]; rfl
  have c1 : w.cell? ⟨cw, 1, none⟩ = some (.int .i64 xs.length) := by rw [Lib.cell_of_heap hcw]; rfl
  have hm := fun w => meth_buf ⟨b, 0, none⟩ w
  have HB := Lib.hid h
  have HS := Lib.hid hsrc
  have hcl : cw < w.heap.size := Lib.lt_of_heap hcw
  clear h hsrc
  go_enter Tryd.func68, Tryd.ntmps68
  go_wp2_with fail
  refine (bufWrite b v xs ps a n c _ HB.out hn hn1 hab HS.out (by omega)).mono ?_
  rintro e w1 ⟨rfl, v', hB, hF, hL⟩
  have hcw1 : w1.heap[cw]? = some (.cells #[.iface 54 (.pointer (some ⟨b, 0, none⟩)), .int .i64 (xs.length : Int)] 61 (0, 0)) := (hF.block cw hcl hcb hcv).trans hcw
  have d1 : w1.cell? ⟨cw, 1, none⟩ = some (.int .i64 xs.length) := by rw [Lib.cell_of_heap hcw1]; rfl
  have f1 : w1.frozen? ⟨cw, 1, none⟩ = false := Lib.frozen_of_heap hcw1 1
  have HH := Lib.hid hB
  clear hB
  go_wp2_with fail
  go_ret2
  have hcv' : v'.ownBlock ≠ some cw := by
    intro e
    rcases hL with h | h
    · exact hcv (by rw [← h]; exact e)
    · have := h cw e; omega
  refine ⟨rfl, v', HH.out.keep (Below.heap_setCell _ _ _ _ (Ne.symm hcb)) (fun g hg => Below.heap_setCell _ _ _ _ (fun e => hcv' (by have e' : g = cw := e; rw [← e']; exact hg))), ?_, ?_, hL⟩
  · have h := Lib.heap_setCell_same (i := 1) hcw1 (.int .i64 ((xs.length : Int) + (n : Int)))
    unfold CntIs
    rw [List.length_append, hn]
    push_cast
    exact h
  · exact ((FrS.of2 hF).mono (fun i _ hi => by rcases hi with hi | hi; exact Or.inl hi; exact Or.inr (Or.inr hi))).setCell _ _ (Or.inr (Or.inl rfl))
end Go.Proofs.Qxb6625470aDoor

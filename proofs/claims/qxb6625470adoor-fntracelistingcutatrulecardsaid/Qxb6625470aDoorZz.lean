import Derived.Test.Qxb6625470aDoorWto
namespace Go.Proofs.Qxb6625470aDoor
open Go.RowKit
set_option linter.unusedVariables false
set_option linter.unusedSimpArgs false
attribute [local go_sem] Go.wp_at_zero Go.wp_at_succ

theorem BufIs.is {w : World} {b : Nat} {v : Value} {xs : List UInt8} (h : BufIs w b v xs) : Lib.IsBuffer 49 5 0 b (Lib.byteCells xs) w := by
  obtain ⟨⟨lr, h1⟩, h2⟩ := h
  rcases h2 with ⟨rfl, rfl⟩ | ⟨g, cap, cur, rfl, hg, h3, h4, h5, h6, h7, h8⟩
  · exact ⟨Nat.zero_le _, _, lr, h1, World.ownsRow_nil _ _ _ _, by simp [Value.ownBlock]⟩
  · refine ⟨Nat.zero_le _, _, lr, h1, ⟨by rw [Nat.mul_one], Or.inr ⟨g, cap, cur, by rw [Lib.byteCells_length], Nat.zero_le _, hg, by rw [Lib.byteCells_length]; exact h4, h5, by rw [Nat.mul_one]; exact h6, by rw [Nat.mul_one, Lib.byteCells_length]; exact h7⟩⟩, ?_⟩
    simp [Value.ownBlock]
    exact h8

theorem bytes_any (b : Nat) (v : Value) (xs : List UInt8) (N : Nat) (w : World) (h : BufIs w b v xs) (hN : xs.length = N) (hpos : 0 < N) :
    Calls Tryd.prog 20 #[.pointer (some ⟨b, 0, none⟩)] w fun e w' => ∃ g cap, e = .returned (.slice (some ⟨g, 0, none⟩) N cap) ∧ Own0 w' (.slice (some ⟨g, 0, none⟩) N cap) xs ∧ Below w.heap.size w w' := by
  refine (Tryd.Buffer_Bytes 0 b _ w h.is).mono ?_
  rintro e w' ⟨v', rfl, h1, n, h2⟩
  rw [Lib.byteCells_length] at h1
  have h1' := h1
  obtain ⟨h0, ⟨rfl, hn⟩ | ⟨g, cap, cur, rfl, r⟩⟩ := h1
  · omega
  · rw [hN] at h1'
    refine ⟨g, cap, by rw [hN], ?_, by rw [h2]; exact drewN_below _ _⟩
    unfold Own0
    rw [hN]
    exact h1'

theorem Tryd.info41 : (Tryd.prog.info? 41).map (fun i => (i.zero, i.size, i.bytes)) = some (some (.agg #[.slice none 0 0, .bool false]), 2, 32) := by kernel_rfl

/-- The rules that stand already. -/
structure ZR (w : World) (R : Nat) (ms : List Sl) (add : List Bool) (i : Value) (wr : World) : Prop where
  ex : ∃ (k : Nat) (cur : Array Value), k ≤ R ∧ i = .int .i64 (k : Int) ∧ wr.heap.size = w.heap.size + 1 ∧ Below w.heap.size w wr ∧ wr.heap[w.heap.size]? = some (.cells cur 41 (0, 0)) ∧ cur.size = R * 2 ∧
    ∀ j, j < k → cur[j * 2]? = some (cS ms j) ∧ cur[j * 2 + 1]? = some (.bool (add.getD j false))

set_option maxRecDepth 100000 in
set_option maxHeartbeats 6400000 in
theorem zz_any (a0 : Option Addr) (n0 c0 : Nat) (al : Option Addr) (L cl : Nat) (a2 : Option Addr) (n2 c2 : Nat) (am : Option Addr) (R cm : Nat) (a4 : Option Addr) (n4 c4 : Nat) (a5 : Option Addr) (n5 c5 : Nat)
    (input lines : List UInt8) (zs : List Int) (ms : List Sl) (zss : List (List Int)) (add : List Bool) (outs : List Int) (w : World)
    (hA : Args w a0 n0 c0 al L cl a2 n2 c2 am R cm a4 n4 c4 a5 n5 c5 input lines zs ms zss add outs) (hin3 : n0 ≤ c0) (hin4 : c0 ≤ maxLen) (htab : Tab w) (hT : (listing input lines zs zss add outs R).length ≤ 16777216) :
    Calls Tryd.prog 9 #[.slice a0 n0 c0, .slice al L cl, .slice a2 n2 c2, .slice am R cm, .slice a4 n4 c4, .slice a5 n5 c5] w fun e w' => ∃ N g cap, (listing input lines zs zss add outs R).length = N ∧ e = .returned (.tuple #[.slice (some ⟨g, 0, none⟩) N cap, .int .i64 (N : Int), .bool true]) ∧ Own0 w' (.slice (some ⟨g, 0, none⟩) N cap) (listing input lines zs zss add outs R) ∧ Below w.heap.size w w' := by
  have hR4 := hA.good.added
  subst hR4
  have q3 := hA.sized.b3
  obtain ⟨i0, hi, hz0, hz1, hz2⟩ := info_parts Tryd.info41
  have hmk : ∀ W : World, (Instr.makeSlice 39 (.int .i64 (n4 : Int)) (.int .i64 (n4 : Int))).run Tryd.prog W = .ok (.slice (some ⟨W.heap.size, 0, none⟩) n4 n4) (W.alloc (.cells (madeCells (Value.agg #[.slice none 0 0, .bool false]).cells (n4 * 2)) 41)) := fun W => by
    have h := run_makeSlice (P := Tryd.prog) W 39 41 i0 _ Tryd.underlying39 hi hz0 .i64 .i64 (n4 : Int) (n4 : Int) (by omega) (by omega) (by rw [hz1]; omega) (by rw [hz2]; omega) (by omega)
    simpa [hz1] using h
  obtain ⟨M, hM⟩ : ∃ M, M = madeCells (Value.agg #[.slice none 0 0, .bool false]).cells (n4 * 2) := ⟨_, rfl⟩
  have hMs : M.size = n4 * 2 := by rw [hM, size_madeCells]
  rw [← hM] at hmk
  have HA := Lib.hid hA
  have HT := Lib.hid hT
  have HTAB := Lib.hid htab
  have H0 : Hid (ZR w n4 ms add (.int .i64 0) (w.alloc (.cells M 41))) := ⟨⟨0, M, by omega, rfl, by simp, (Below.refl _ _).alloc (Nat.le_refl _) _, heap_alloc_new w (.cells M 41), hMs, fun j hj => by omega⟩⟩
  clear hA hT htab hM
  go_enter Tryd.func9, Tryd.ntmps9
  go_wp2
  go_loopw [26] (fun i wr => ZR w n4 ms add i wr) (fun i _ => n4 - (intOf i).toNat)
  case atStart => exact H0.out
  case round =>
    obtain ⟨k, cur, hk, rfl, hsz, hbl, hrow, hcs, hset⟩ := hrel
    have HSET := Lib.hid hset
    have HROW := Lib.hid hrow
    have HCS := Lib.hid hcs
    clear hset H0
    by_cases hlt : k < n4
    · obtain ⟨b, o, e, hcw⟩ := HA.out.made.row.get k hlt
      subst e
      obtain ⟨b4, o4, e4, hc4w⟩ := HA.out.ad0.get k hlt
      subst e4
      have hbw := World.block_lt_of_cell? w _ hcw
      have hb4w := World.block_lt_of_cell? w _ hc4w
      simp only at hbw hb4w
      have hc : wr.cell? ⟨b, o + k, none⟩ = some (cS ms k) := by rw [hbl.cell (p := ⟨b, o + k, none⟩) hbw]; exact hcw
      have hc4 : wr.cell? ⟨b4, o4 + k, none⟩ = some (cB add k) := by rw [hbl.cell (p := ⟨b4, o4 + k, none⟩) hb4w]; exact hc4w
      obtain ⟨ma, mn, mc, hms⟩ : ∃ ma mn mc, cS ms k = .slice ma mn mc := ⟨_, _, _, rfl⟩
      rw [hms] at hc
      have HMS := Lib.hid hms
      unfold cB at hc4
      generalize hav : add.getD k false = av at hc4
      have HAV := Lib.hid hav
      have r0 : ∃ x0, wr.cell? ⟨w.heap.size, k * 2, none⟩ = some x0 := ⟨cur[k * 2]'(by omega), by rw [Lib.cell_of_heap hrow, Array.getElem?_eq_getElem]⟩
      have r1 : ∃ x1, wr.cell? ⟨w.heap.size, k * 2 + 1, none⟩ = some x1 := ⟨cur[k * 2 + 1]'(by omega), by rw [Lib.cell_of_heap hrow, Array.getElem?_eq_getElem]⟩
      obtain ⟨x0, hx0⟩ := r0
      obtain ⟨x1, hx1⟩ := r1
      have hz := Lib.frozen_of_heap hrow
      have ne1 : ¬ b = w.heap.size := by omega
      have ne2 : ¬ b4 = w.heap.size := by omega
      have i1 : (k : Int) < (n4 : Int) := by omega
      have i2 : (0 : Int) ≤ (k : Int) := by omega
      clear hms hav hcw hc4w hrow hcs
      have hne : ∀ (bq q1 q2 oq : Nat) (y1 y2 : Value), bq ≠ w.heap.size → ((wr.setCell ⟨w.heap.size, q1, none⟩ y1).setCell ⟨w.heap.size, q2, none⟩ y2).cell? ⟨bq, oq, none⟩ = wr.cell? ⟨bq, oq, none⟩ := fun bq q1 q2 oq y1 y2 hq =>
        World.cell?_of_block (a := ⟨bq, oq, none⟩) ((Below.heap_setCell _ _ _ _ hq).trans (Below.heap_setCell _ _ _ _ hq))
      have hkp : ∀ (q1 q2 : Nat) (y1 y2 : Value), ((wr.setCell ⟨w.heap.size, q1, none⟩ y1).setCell ⟨w.heap.size, q2, none⟩ y2).drew.cell? ⟨b, o + k, none⟩ = some (.slice ma mn mc) ∧ ((wr.setCell ⟨w.heap.size, q1, none⟩ y1).setCell ⟨w.heap.size, q2, none⟩ y2).drew.cell? ⟨b4, o4 + k, none⟩ = some (.bool av) := fun q1 q2 y1 y2 =>
        ⟨(hne b q1 q2 _ y1 y2 ne1).trans hc, (hne b4 q1 q2 _ y1 y2 ne2).trans hc4⟩
      have HNE := Lib.hid hne
      have HKP := Lib.hid hkp
      clear hne hkp
      go_wp2
      go_region_held3 (fun W => W.cell? ⟨b, o + k, none⟩ = some (.slice ma mn mc) ∧ W.cell? ⟨b4, o4 + k, none⟩ = some (.bool av)) (first | exact HKP.out (k * 2) (k * 2 + 1) (.slice ma mn mc) (.bool av) | go_keep) (fail)
      go_wp2
      go_roundw
      case rel =>
        have hrow := HROW.out
        have h1 := Lib.heap_setCell_same (i := k * 2) hrow (.slice ma mn mc)
        have h2 := Lib.heap_setCell_same (i := k * 2 + 1) h1 (.bool av)
        refine ⟨⟨k + 1, _, by omega, by go_num, ?_, ?_, h2, ?_, ?_⟩⟩
        · simpa [World.setCell] using hsz
        · exact ((hbl.setCell (Nat.le_refl _) _).setCell (Nat.le_refl _) _).drew
        · simpa using HCS.out
        · intro j hj
          have hs := HCS.out
          by_cases hjk : j = k
          · subst hjk
            rw [HMS.out, HAV.out]
            constructor
            · rw [Array.getElem?_setIfInBounds_ne (by omega), Array.getElem?_setIfInBounds_self_of_lt (by omega)]
            · rw [Array.getElem?_setIfInBounds_self_of_lt (by simp; omega)]
          · have := HSET.out j (by omega)
            constructor
            · rw [Array.getElem?_setIfInBounds_ne (by omega), Array.getElem?_setIfInBounds_ne (by omega)]; exact this.1
            · rw [Array.getElem?_setIfInBounds_ne (by omega), Array.getElem?_setIfInBounds_ne (by omega)]; exact this.2
      case measure => simp [intOf]; omega
    · obtain rfl : k = n4 := by omega
      have hrow := HROW.out
      obtain ⟨o1, ho1⟩ : ∃ o1, o1 = Obj.cells #[.slice a0 n0 c0, .slice none 0 0, .slice al L cl, .slice a2 n2 c2, .slice (some ⟨w.heap.size, 0, none⟩) k k, .slice a5 n5 c5, .int .i64 0, .int .i64 0, .int .i64 0] 45 := ⟨_, rfl⟩
      obtain ⟨o2, ho2⟩ : ∃ o2, o2 = Obj.cells #[.slice none 0 0, .int .i64 0, .int .i8 0] 49 := ⟨_, rfl⟩
      have hW : Below (w.heap.size + 1) wr ((wr.alloc o1).alloc o2) := by
        refine ⟨rfl, rfl, rfl, by simp; omega, fun j hj => ?_⟩
        rw [Below.heap_alloc _ _ _ (by simp; omega), Below.heap_alloc _ _ _ (by omega)]
      have hWw : Below w.heap.size w ((wr.alloc o1).alloc o2) := hbl.trans (hW.mono (by omega))
      have htb : ((wr.alloc o1).alloc o2).heap[w.heap.size + 1]? = some o1 := by
        rw [Below.heap_alloc _ _ _ (by simp; omega)]
        have h := heap_alloc_new wr o1
        rw [hsz] at h
        exact h
      have hbb : ((wr.alloc o1).alloc o2).heap[w.heap.size + 2]? = some o2 := by
        have h := heap_alloc_new (wr.alloc o1) o2
        simp only [World.size_alloc, hsz] at h
        exact h
      have hrb : ((wr.alloc o1).alloc o2).heap[w.heap.size]? = some (.cells cur 41 (0, 0)) := by rw [hW.block _ (by omega)]; exact hrow
      have up : ∀ {ao : Option Addr} {n : Nat} {f : Nat → Value}, Rd w ao n f → RdB (w.heap.size + 2) ((wr.alloc o1).alloc o2) ao n f := fun h => ⟨h.below hWw, (RdB.of h (Nat.le_succ_of_le (Nat.le_succ _))).lt⟩
      have hTr : Hid (TraceIs (w.heap.size + 2) ((wr.alloc o1).alloc o2) (w.heap.size + 1) w.heap.size a0 n0 c0 al L cl a2 n2 c2 k a5 n5 c5 (.slice none 0 0) input lines zs ms zss add outs) := by
        have hA := HA.out
        refine ⟨by rw [htb, ho1], by omega, ⟨fun j hj => ?_, fun j hj => ?_, fun _ => by omega, fun j hj => ?_⟩, by omega, up hA.in0, hA.in1, hA.in2, hin3, hin4, up hA.li0, hA.li1, hA.li2, hA.li3, hA.li4, up hA.at0, hA.at1, by have := hA.sized.b2; unfold maxLen; omega, up hA.ou0, hA.ou1, by have := hA.sized.b5; unfold maxLen; omega, hA.good.made, hA.good.out⟩
        · rw [Lib.cell_of_heap hrb]; exact (HSET.out j hj).1
        · rw [Lib.cell_of_heap hrb]; exact (HSET.out j hj).2
        · obtain ⟨h1, h2, h3, h4⟩ := hA.made.inner j hj
          exact ⟨h1, Nat.le_trans h2 h3, up h4⟩
      have hBf : Hid (BufIs ((wr.alloc o1).alloc o2) (w.heap.size + 2) (.slice none 0 0) []) := ⟨⟨0, by rw [hbb, ho2]⟩, Or.inl ⟨rfl, rfl⟩⟩
      have hTb : Hid (Tab ((wr.alloc o1).alloc o2)) := HTAB.out.keep (hWw.block 1 HTAB.out.lt)
      have hcall := wto_any (w.heap.size + 2) (w.heap.size + 1) w.heap.size (w.heap.size + 2) a0 n0 c0 al L cl a2 n2 c2 k a5 n5 c5 (.slice none 0 0) input lines zs ms zss add outs _ hTr.out hBf.out (Nat.le_refl _) (by have := HTAB.out.lt; omega) hTb.out HT.out
      rw [ho1, ho2] at hcall
      have HWW := Lib.hid hWw
      have HO1 := Lib.hid ho1
      have HO2 := Lib.hid ho2
      clear up hTr hBf hTb htb hbb hrb hW hWw hrow ho1 ho2
      obtain ⟨N, hN⟩ : ∃ N, (listing input lines zs zss add outs k).length = N := ⟨_, rfl⟩
      rw [hN] at hcall
      have HN := Lib.hid hN
      have hpos : 0 < N := by
        rw [← hN]
        simp only [listing, List.length_append, lenFin]
        omega
      clear hN
      go_wp2_with fail
      refine hcall.mono ?_
      rintro e w2 ⟨rfl, v2, hB2, hU2, hb2⟩
      have HB2 := Lib.hid hB2
      have HU2 := Lib.hid hU2
      have HBW : Hid (Below w.heap.size w w2) := by
        have h1 := HWW.out
        rw [HO1.out, HO2.out] at h1
        exact h1.trans (hb2.mono (by omega))
      clear hB2 hU2 hb2 hcall
      have hcb : ∀ W : World, Same w2 W → Calls Tryd.prog 20 #[.pointer (some ⟨w.heap.size + 2, 0, none⟩)] W fun e w' => ∃ g cap, e = .returned (.slice (some ⟨g, 0, none⟩) N cap) ∧ Hid (Own0 w' (.slice (some ⟨g, 0, none⟩) N cap) (listing input lines zs zss add outs k)) ∧ Hid (Below w.heap.size w w') := by
        intro W hW
        refine (bytes_any (w.heap.size + 2) v2 _ N W (HB2.out.keep (by rw [hW.2.2.2]) fun _ _ => by rw [hW.2.2.2]) HN.out hpos).mono ?_
        rintro e w' ⟨g, cap, rfl, h1, h2⟩
        refine ⟨g, cap, rfl, h1, (HBW.out.trans ⟨hW.1, hW.2.1, hW.2.2.1, by rw [hW.2.2.2]; exact Nat.le_refl _, fun k _ => by rw [hW.2.2.2]⟩).trans (h2.mono ?_)⟩
        rw [hW.2.2.2]
        exact HBW.out.size
      go_wp2
      go_region_held3 (fun W => True) (exact trivial) ((go_at_call 20; refine (hcb _ (by exact ⟨rfl, rfl, rfl, rfl⟩)).mono ?_; rintro e w3 ⟨g, cap, rfl, hO3, hb3⟩))
      clear hcb
      go_wp2
      go_ret3
      exact ⟨N, g, cap, HN.out, rfl, hO3.out, hb3.out⟩
end Go.Proofs.Qxb6625470aDoor

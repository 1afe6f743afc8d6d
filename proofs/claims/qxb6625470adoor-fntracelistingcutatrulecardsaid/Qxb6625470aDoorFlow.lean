import Derived.Test.Qxb6625470aDoorNew
import Derived.Test.Qxb6625470aDoorHead
import Derived.Test.Qxb6625470aDoorListing
namespace Go.Proofs.Qxb6625470aDoor
open Go.RowKit
set_option linter.unusedVariables false
set_option linter.unusedSimpArgs false
attribute [local go_sem] Go.wp_at_zero Go.wp_at_succ

/-- A slice that lies below B. -/
structure RdB (B : Nat) (w : World) (ao : Option Addr) (n : Nat) (f : Nat → Value) : Prop where
  rd : Rd w ao n f
  lt : FarS (fun k => B ≤ k) ao n

theorem RdB.below {B : Nat} {w w' : World} {ao : Option Addr} {n : Nat} {f : Nat → Value} (h : RdB B w ao n f) (hb : Below B w w') : RdB B w' ao n f := by
  refine ⟨?_, h.lt⟩
  rcases h.rd with h0 | ⟨b, o, rfl, hc⟩
  · exact Or.inl h0
  · refine Or.inr ⟨b, o, rfl, fun j hj => ?_⟩
    have := h.lt b o rfl (by omega)
    rw [← hc j hj]
    simp only [World.cell?, hb.block b (by omega)]

theorem RdB.of {w : World} {ao : Option Addr} {n : Nat} {f : Nat → Value} {B : Nat} (h : Rd w ao n f) (hB : w.heap.size ≤ B) : RdB B w ao n f := by
  refine ⟨h, fun b o e hn => ?_⟩
  rcases h with h0 | ⟨b', o', e', hc⟩
  · omega
  · rw [e] at e'
    simp only [Option.some.injEq, Addr.mk.injEq, and_true] at e'
    have := World.block_lt_of_cell? w _ (hc 0 hn)
    simp at this
    omega

/-- The pipe holds xs; the heading's slice is hv; none of their blocks lies below B. -/
structure St (B : Nat) (w : World) (b bw bb cw : Nat) (v : Value) (xs : List UInt8) (hv : Value) : Prop where
  pipe : ∃ bs ps, bs ++ ps = xs ∧ Pipe w b bw bb cw v bs ps
  up : ∀ k, PS b bw bb cw v k → B ≤ k
  head : ∃ ys, Own0 w hv ys
  hup : ∀ g, hv.ownBlock = some g → B ≤ g ∧ ¬ PS b bw bb cw v g
  size : B ≤ w.heap.size

theorem St.step {B : Nat} {w w' : World} {b bw bb cw : Nat} {v v' : Value} {xs xs' : List UInt8} {hv : Value} (h : St B w b bw bb cw v xs hv) (hp : ∃ bs ps, bs ++ ps = xs' ∧ Pipe w' b bw bb cw v' bs ps)
    (hF : FrS (PS b bw bb cw v) w w') (hL : Later w v v') : St B w' b bw bb cw v' xs' hv ∧ Below B w w' := by
  have hsz := h.size
  have hup' : ∀ k, PS b bw bb cw v' k → B ≤ k := by
    intro k hk
    rcases Nat.lt_or_ge k w.heap.size with hlt | hge
    · exact h.up k (PS.later hL k hlt hk)
    · omega
  refine ⟨⟨hp, hup', ?_, ?_, Nat.le_trans hsz hF.size⟩, ⟨hF.os, hF.tape, hF.output, hF.size, fun k hk => hF.block k (by omega) (fun e => by have := h.up k e; omega)⟩⟩
  · obtain ⟨ys, hy⟩ := h.head
    exact ⟨ys, hy.keep fun k hk => hF.block k (hy.own.lt k hk) (h.hup k hk).2⟩
  · intro g hg
    obtain ⟨ys, hy⟩ := h.head
    exact ⟨(h.hup g hg).1, fun e => (h.hup g hg).2 (PS.later hL g (hy.own.lt g hg) e)⟩

theorem St.below {B : Nat} {w w' : World} {b bw bb cw : Nat} {v : Value} {xs : List UInt8} {hv : Value} (h : St B w b bw bb cw v xs hv) (hb : Below w.heap.size w w') : St B w' b bw bb cw v xs hv := by
  obtain ⟨bs, ps, e, hp⟩ := h.pipe
  obtain ⟨ys, hy⟩ := h.head
  exact ⟨⟨bs, ps, e, hp.below hb⟩, h.up, ⟨ys, hy.below hb⟩, h.hup, Nat.le_trans h.size hb.size⟩

theorem write_st {B : Nat} {w : World} {b bw bb cw : Nat} {v : Value} {xs : List UInt8} {hv : Value} (h : St B w b bw bb cw v xs hv) (q : List UInt8) (ao : Option Addr) (m c : Nat) (hq : q.length = m) (hmc : m ≤ c) (hcm : c ≤ maxLen) (hnil : ao = none → c = 0)
    (hrd : Rd w ao m (cU q)) (hfar : FarS (PS b bw bb cw v) ao m) (hlim : xs.length + m ≤ 1000000000) :
    Calls Tryd.prog 23 #[.pointer (some ⟨bw, 0, none⟩), .slice ao m c] w fun e w' => e = .returned (.tuple #[.int .i64 (m : Int), .nilIface]) ∧ ∃ v', St B w' b bw bb cw v' (xs ++ q) hv ∧ Below B w w' := by
  obtain ⟨bs, ps, e, hp⟩ := h.pipe
  subst e
  refine (write_any b bw bb cw v bs ps q ao m c w hp hq hmc hcm hnil hrd hfar (by rw [List.length_append] at hlim; exact hlim)).mono ?_
  rintro e w' ⟨rfl, v', bs', ps', h1, h2, h3, h4⟩
  exact ⟨rfl, v', h.step ⟨bs', ps', h1, h2⟩ h3 h4⟩

theorem wstr_st {B : Nat} {w : World} {b bw bb cw : Nat} {v : Value} {xs : List UInt8} {hv : Value} (h : St B w b bw bb cw v xs hv) (s : ByteArray) (m : Nat) (hq : s.size = m) (hm : m ≤ 1000) (hlim : xs.length + m ≤ 1000000000) :
    Calls Tryd.prog 22 #[.pointer (some ⟨bw, 0, none⟩), .string s] w fun e w' => e = .returned (.tuple #[.int .i64 (m : Int), .nilIface]) ∧ ∃ v', St B w' b bw bb cw v' (xs ++ s.data.toList) hv ∧ Below B w w' := by
  obtain ⟨bs, ps, e, hp⟩ := h.pipe
  subst e
  refine (wstr_any b bw bb cw v bs ps s m w hp hq hm (by rw [List.length_append] at hlim; exact hlim)).mono ?_
  rintro e w' ⟨rfl, v', bs', ps', h1, h2, h3, h4⟩
  exact ⟨rfl, v', h.step ⟨bs', ps', h1, h2⟩ h3 h4⟩

/-- The heading is made anew in its row: the pipe stands. -/
theorem St.head_step {B : Nat} {w w' : World} {b bw bb cw : Nat} {v : Value} {xs ys : List UInt8} {hv hv' : Value} (h : St B w b bw bb cw v xs hv) (hown : Own0 w' hv' ys) (hg : w.grownBy w' hv.ownBlock) (hL : Later w hv hv') :
    St B w' b bw bb cw v xs hv' ∧ Below B w w' := by
  obtain ⟨bs, ps, e, hp⟩ := h.pipe
  have hsz := h.size
  have hl := hp.lt
  have hk : ∀ k, PS b bw bb cw v k → w'.heap[k]? = w.heap[k]? := fun k hk => hg.block k (hl k hk) (fun e => (h.hup k e.symm).2 hk)
  refine ⟨⟨⟨bs, ps, e, hp.keep hk⟩, h.up, ⟨ys, hown⟩, ?_, Nat.le_trans hsz hg.size⟩, ⟨hg.os, hg.tape, hg.output, hg.size, fun k hk => hg.block k (by omega) (fun e => by have := (h.hup k e.symm).1; omega)⟩⟩
  intro g hgg
  rcases hL with hL | hL
  · exact h.hup g (by rw [← hL]; exact hgg)
  · have := hL g hgg
    exact ⟨by omega, fun e => by have := hl g e; omega⟩

theorem rd_cut {B : Nat} {w : World} {bl ol L cl x y : Nat} {lines : List UInt8} (h : RdB B w (some ⟨bl, ol, none⟩) L (cU lines)) (hL : lines.length = L) (hcl : L ≤ cl) (hxy : x ≤ y) (hy : y ≤ L) :
    RdB B w (if cl = x then some ⟨bl, ol, none⟩ else some ⟨bl, ol + x, none⟩) (y - x) (cU ((lines.drop x).take (y - x))) := by
  by_cases h0 : y - x = 0
  · exact ⟨Or.inl h0, fun _ _ _ h => by omega⟩
  · rw [if_neg (by omega)]
    refine ⟨?_, fun b o e _ => ?_⟩
    · refine h.rd.drop (i := x) (m := y - x) (by omega) (fun j hj => ?_)
      simp only [cU, List.getD_eq_getElem?_getD]
      rw [List.getElem?_take, if_pos hj, List.getElem?_drop]
    · simp only [Option.some.injEq, Addr.mk.injEq, and_true] at e
      rw [← e.1]
      exact h.lt bl ol rfl (by omega)

/-- What a round of writeLines knows. -/
structure WL (B : Nat) (w : World) (b bw bb cw : Nat) (xs : List UInt8) (hv : Value) (lines : List UInt8) (zs ps : List Int) (np : Nat) (i : Value) (wr : World) : Prop where
  ex : ∃ (t : Nat) (v' : Value), t ≤ np ∧ i = .int .i64 (t : Int) ∧ St B wr b bw bb cw v' (xs ++ linesOf lines zs (ps.take t)) hv ∧ Below B w wr

set_option maxRecDepth 100000 in
set_option maxHeartbeats 6400000 in
theorem wlines_some (B tb b bw bb cw : Nat) (v : Value) (xs : List UInt8) (hv : Value) (f0 f1 f4 f5 : Value) (bl ol L cl : Nat) (lines : List UInt8) (a2 : Option Addr) (n2 c2 : Nat) (zs : List Int) (ap : Option Addr) (np cp : Nat) (ps : List Int) (w : World)
    (h : St B w b bw bb cw v xs hv) (htb : w.heap[tb]? = some (.cells #[f0, f1, .slice (some ⟨bl, ol, none⟩) L cl, .slice a2 n2 c2, f4, f5, .int .i64 0, .int .i64 0, .int .i64 0] 45 (0, 0))) (htB : tb < B)
    (hl : RdB B w (some ⟨bl, ol, none⟩) L (cU lines)) (hlL : lines.length = L) (hLc : L ≤ cl) (hcl : cl ≤ maxLen) (hat : RdB B w a2 n2 (cI zs)) (hz : zs.length = n2) (hn2 : n2 ≤ maxLen) (hp : RdB B w ap np (cI ps)) (hpl : ps.length = np) (hnp : np ≤ maxLen)
    (hok : ∀ p ∈ ps, plOK L zs p = true) (hlim : xs.length + (linesOf lines zs ps).length ≤ 1000000000) :
    Calls Tryd.prog 25 #[.pointer (some ⟨tb, 0, none⟩), .pointer (some ⟨bw, 0, none⟩), .slice ap np cp] w fun e w' => e = .returned (.tuple #[]) ∧ ∃ v', St B w' b bw bb cw v' (xs ++ linesOf lines zs ps) hv ∧ Below B w w' := by
  unfold maxLen at hcl hn2 hnp
  have HOK : Hid (∀ p ∈ ps, plOK L zs p = true) := hok
  have HLL : Hid (lines.length = L) := hlL
  have HZ : Hid (zs.length = n2) := hz
  have HPL : Hid (ps.length = np) := hpl
  have HLIM : Hid (xs.length + (linesOf lines zs ps).length ≤ 1000000000) := hlim
  have H0 : Hid (WL B w b bw bb cw xs hv lines zs ps np (.int .i64 0) w) := ⟨⟨0, v, by omega, rfl, by simpa [linesOf] using h, Below.refl _ _⟩⟩
  clear hok hlL hz hpl hlim h
  go_enter Tryd.func25, Tryd.ntmps25
  go_wp2
  go_loopw [10] (fun i wr => WL B w b bw bb cw xs hv lines zs ps np i wr) (fun i _ => np - (intOf i).toNat)
  case atStart => exact H0.out
  case round =>
    obtain ⟨t, v', ht, rfl, hSt, hbr⟩ := hrel
    have HS := Lib.hid hSt
    clear hSt H0
    by_cases htl : t < np
    · have hzl := HPL.out
      have hzz := HZ.out
      have hll := HLL.out
      have hpr := (hp.below hbr).rd
      have har := (hat.below hbr).rd
      have hlrd := hl.below hbr
      obtain ⟨bi, oi, ei, hci⟩ := hpr.get t htl
      subst ei
      have hplk : plOK L zs (ps.getD t 0) = true := HOK.out _ (by rw [List.getD_eq_getElem?_getD, List.getElem?_eq_getElem (by omega)]; exact List.getElem_mem _)
      obtain ⟨k0, x, y, hpe, hk0, hx, hy, hxy, hyL⟩ := pl_parts hplk
      obtain ⟨b2, o2, e2, hcx⟩ := har.get k0 (by omega)
      obtain ⟨b2', o2', e2', hcy⟩ := har.get (k0 + 1) (by omega)
      rw [e2] at e2'
      simp only [Option.some.injEq, Addr.mk.injEq, and_true] at e2'
      obtain ⟨rfl, rfl⟩ := e2'
      subst e2
      have hb2 : b2 < B := by
        have := hat.lt b2 o2 rfl (by omega)
        omega
      have hline := lineOf_eq (lines := lines) hx hy
      have hnext : linesOf lines zs (ps.take (t + 1)) = linesOf lines zs (ps.take t) ++ (lines.drop x).take (y - x) := by
        rw [linesOf_take lines zs ps t (by omega), hpe, hline]
      have hle := linesOf_take_le lines zs ps (t + 1)
      have hlim2 : (xs ++ linesOf lines zs (ps.take t)).length + (y - x) ≤ 1000000000 := by
        have h1 := HLIM.out
        rw [hnext, List.length_append, List.length_take, List.length_drop] at hle
        rw [List.length_append]
        omega
      have HNX : Hid (linesOf lines zs (ps.take (t + 1)) = linesOf lines zs (ps.take t) ++ (lines.drop x).take (y - x)) := hnext
      have hcut := rd_cut hlrd hll hLc hxy hyL
      have hfar : FarS (PS b bw bb cw v') (if cl = x then some ⟨bl, ol, none⟩ else some ⟨bl, ol + x, none⟩) (y - x) := fun b' o' e hn k => hcut.lt b' o' e hn (HS.out.up _ k)
      have hql : ((lines.drop x).take (y - x)).length = y - x := by rw [List.length_take, List.length_drop]; omega
      have htb1 : wr.heap[tb]? = some (.cells #[f0, f1, .slice (some ⟨bl, ol, none⟩) L cl, .slice (some ⟨b2, o2, none⟩) n2 c2, f4, f5, .int .i64 0, .int .i64 0, .int .i64 0] 45 (0, 0)) := (hbr.block tb htB).trans htb
      have t2 : wr.cell? ⟨tb, 2, none⟩ = some (.slice (some ⟨bl, ol, none⟩) L cl) := by rw [Lib.cell_of_heap htb1]; rfl
      have t3 : wr.cell? ⟨tb, 3, none⟩ = some (.slice (some ⟨b2, o2, none⟩) n2 c2) := by rw [Lib.cell_of_heap htb1]; rfl
      unfold cI at hci hcx hcy
      rw [hpe] at hci
      rw [hx] at hcx
      rw [hy] at hcy
      have hkeep : ∀ W : World, Below B wr W → W.cell? ⟨tb, 2, none⟩ = some (.slice (some ⟨bl, ol, none⟩) L cl) ∧ W.cell? ⟨tb, 3, none⟩ = some (.slice (some ⟨b2, o2, none⟩) n2 c2) ∧ W.cell? ⟨b2, o2 + k0, none⟩ = some (.int .i64 (x : Int)) ∧ W.cell? ⟨b2, o2 + (k0 + 1), none⟩ = some (.int .i64 (y : Int)) := fun W hW =>
        ⟨by rw [World.cell?_of_block (a := ⟨tb, 2, none⟩) (hW.block tb htB)]; exact t2, by rw [World.cell?_of_block (a := ⟨tb, 3, none⟩) (hW.block tb htB)]; exact t3, by rw [World.cell?_of_block (a := ⟨b2, o2 + k0, none⟩) (hW.block b2 hb2)]; exact hcx, by rw [World.cell?_of_block (a := ⟨b2, o2 + (k0 + 1), none⟩) (hW.block b2 hb2)]; exact hcy⟩
      have hcall : ∀ W : World, Same wr W → Calls Tryd.prog 23 #[.pointer (some ⟨bw, 0, none⟩), .slice (if cl = x then some ⟨bl, ol, none⟩ else some ⟨bl, ol + x, none⟩) (y - x) (cl - x)] W fun e w' => e = .returned (.tuple #[.int .i64 ((y - x : Nat) : Int), .nilIface]) ∧ ∃ v2, St B w' b bw bb cw v2 (xs ++ linesOf lines zs (ps.take (t + 1))) hv ∧ Below B wr w' := by
        intro W hW
        have hWb : Below wr.heap.size wr W := ⟨hW.1, hW.2.1, hW.2.2.1, by rw [hW.2.2.2]; exact Nat.le_refl _, fun k _ => by rw [hW.2.2.2]⟩
        have hWB : Below B wr W := ⟨hW.1, hW.2.1, hW.2.2.1, by rw [hW.2.2.2]; exact Nat.le_refl _, fun k _ => by rw [hW.2.2.2]⟩
        refine (write_st (HS.out.below hWb) _ _ _ _ hql (by omega) (by unfold maxLen; omega) (by intro h; split at h <;> cases h) (hW.rd hcut.rd) hfar hlim2).mono ?_
        rintro e w' ⟨rfl, v2, h1, h2⟩
        exact ⟨rfl, v2, by rw [HNX.out, ← List.append_assoc]; exact h1, hWB.trans h2⟩
      have hk2 : k0 + 1 < n2 := by omega
      have i2a : (k0 : Int) + 1 < (n2 : Int) := by omega
      have i2b : (k0 : Int) < (n2 : Int) := by omega
      have i2c : (0 : Int) ≤ (k0 : Int) + 1 := by omega
      have i2d : (0 : Int) ≤ (k0 : Int) := by omega
      have i2e : IntKind.i64.wrap ((k0 : Int) + 1) = (k0 : Int) + 1 := by rw [IntKind.wrap_i64]; omega
      have i3 : (x : Int) ≤ (y : Int) := by omega
      have i4 : (y : Int) ≤ (cl : Int) := by omega
      have i5 : (x : Int) ≤ (cl : Int) := by omega
      clear hplk hpe hx hy hline hnext hle hzl hzz hll hpr har hlrd hcut hfar hql htb1
      by_cases hcc : cl = x
      · obtain rfl : y = x := by omega
        subst hcc
        simp only [if_pos, Nat.sub_self] at hcall
        go_wp2
        go_region_held3 (fun W => W.cell? ⟨tb, 2, none⟩ = some (.slice (some ⟨bl, ol, none⟩) L cl) ∧ W.cell? ⟨tb, 3, none⟩ = some (.slice (some ⟨b2, o2, none⟩) n2 c2) ∧ W.cell? ⟨b2, o2 + k0, none⟩ = some (.int .i64 (cl : Int)) ∧ W.cell? ⟨b2, o2 + (k0 + 1), none⟩ = some (.int .i64 (cl : Int))) (first | go_keep | exact hkeep _ hb1) ((go_at_call 23; refine (hcall _ (by exact ⟨rfl, rfl, rfl, rfl⟩)).mono ?_; rintro e w1 ⟨rfl, v2, hS1, hb1⟩))
        have HS1 := Lib.hid hS1
        clear hS1 hcall hkeep
        go_wp2
        go_roundw
        case rel => exact ⟨⟨t + 1, v2, by omega, by go_num, HS1.out, hbr.trans hb1⟩⟩
        case measure => simp [intOf]; omega
      · simp only [if_neg hcc] at hcall
        go_wp2
        go_region_held3 (fun W => W.cell? ⟨tb, 2, none⟩ = some (.slice (some ⟨bl, ol, none⟩) L cl) ∧ W.cell? ⟨tb, 3, none⟩ = some (.slice (some ⟨b2, o2, none⟩) n2 c2) ∧ W.cell? ⟨b2, o2 + k0, none⟩ = some (.int .i64 (x : Int)) ∧ W.cell? ⟨b2, o2 + (k0 + 1), none⟩ = some (.int .i64 (y : Int))) (first | go_keep | exact hkeep _ hb1) ((go_at_call 23; refine (hcall _ (by exact ⟨rfl, rfl, rfl, rfl⟩)).mono ?_; rintro e w1 ⟨rfl, v2, hS1, hb1⟩))
        have HS1 := Lib.hid hS1
        clear hS1 hcall hkeep
        go_wp2
        go_roundw
        case rel => exact ⟨⟨t + 1, v2, by omega, by go_num, HS1.out, hbr.trans hb1⟩⟩
        case measure => simp [intOf]; omega
    · have hfin : Hid (ps.take t = ps) := by
        show ps.take t = ps
        exact List.take_of_length_le (by have := HPL.out; omega)
      go_wp2
      go_end0
      exact ⟨rfl, v', by rw [← hfin.out]; exact HS.out, hbr⟩
set_option maxRecDepth 100000 in
set_option maxHeartbeats 6400000 in
theorem wlines_none (B tb b bw bb cw : Nat) (v : Value) (xs : List UInt8) (hv : Value) (f0 f1 f4 f5 : Value) (lines : List UInt8) (a2 : Option Addr) (n2 c2 : Nat) (zs : List Int) (ap : Option Addr) (np cp : Nat) (ps : List Int) (w : World)
    (h : St B w b bw bb cw v xs hv) (htb : w.heap[tb]? = some (.cells #[f0, f1, .slice none 0 0, .slice a2 n2 c2, f4, f5, .int .i64 0, .int .i64 0, .int .i64 0] 45 (0, 0))) (htB : tb < B)
    (hlL : lines.length = 0) (hat : RdB B w a2 n2 (cI zs)) (hz : zs.length = n2) (hn2 : n2 ≤ maxLen) (hp : RdB B w ap np (cI ps)) (hpl : ps.length = np) (hnp : np ≤ maxLen)
    (hok : ∀ p ∈ ps, plOK 0 zs p = true) (hlim : xs.length + (linesOf lines zs ps).length ≤ 1000000000) :
    Calls Tryd.prog 25 #[.pointer (some ⟨tb, 0, none⟩), .pointer (some ⟨bw, 0, none⟩), .slice ap np cp] w fun e w' => e = .returned (.tuple #[]) ∧ ∃ v', St B w' b bw bb cw v' (xs ++ linesOf lines zs ps) hv ∧ Below B w w' := by
  unfold maxLen at hn2 hnp
  have HOK : Hid (∀ p ∈ ps, plOK 0 zs p = true) := hok
  have HLL : Hid (lines.length = 0) := hlL
  have HZ : Hid (zs.length = n2) := hz
  have HPL : Hid (ps.length = np) := hpl
  have HLIM : Hid (xs.length + (linesOf lines zs ps).length ≤ 1000000000) := hlim
  have H0 : Hid (WL B w b bw bb cw xs hv lines zs ps np (.int .i64 0) w) := ⟨⟨0, v, by omega, rfl, by simpa [linesOf] using h, Below.refl _ _⟩⟩
  clear hok hlL hz hpl hlim h
  go_enter Tryd.func25, Tryd.ntmps25
  go_wp2
  go_loopw [10] (fun i wr => WL B w b bw bb cw xs hv lines zs ps np i wr) (fun i _ => np - (intOf i).toNat)
  case atStart => exact H0.out
  case round =>
    obtain ⟨t, v', ht, rfl, hSt, hbr⟩ := hrel
    have HS := Lib.hid hSt
    clear hSt H0
    by_cases htl : t < np
    · have hzl := HPL.out
      have hzz := HZ.out
      have hll := HLL.out
      have hpr := (hp.below hbr).rd
      have har := (hat.below hbr).rd
      obtain ⟨bi, oi, ei, hci⟩ := hpr.get t htl
      subst ei
      have hplk : plOK 0 zs (ps.getD t 0) = true := HOK.out _ (by rw [List.getD_eq_getElem?_getD, List.getElem?_eq_getElem (by omega)]; exact List.getElem_mem _)
      obtain ⟨k0, x, y, hpe, hk0, hx, hy, hxy, hyL⟩ := pl_parts hplk
      obtain rfl : y = 0 := by omega
      obtain rfl : x = 0 := by omega
      obtain ⟨b2, o2, e2, hcx⟩ := har.get k0 (by omega)
      obtain ⟨b2', o2', e2', hcy⟩ := har.get (k0 + 1) (by omega)
      rw [e2] at e2'
      simp only [Option.some.injEq, Addr.mk.injEq, and_true] at e2'
      obtain ⟨rfl, rfl⟩ := e2'
      subst e2
      have hb2 : b2 < B := by
        have := hat.lt b2 o2 rfl (by omega)
        omega
      have hline := lineOf_eq (lines := lines) hx hy
      have hnext : linesOf lines zs (ps.take (t + 1)) = linesOf lines zs (ps.take t) ++ (lines.drop 0).take (0 - 0) := by
        rw [linesOf_take lines zs ps t (by omega), hpe, hline]
      have hle := linesOf_take_le lines zs ps (t + 1)
      have hlim2 : (xs ++ linesOf lines zs (ps.take t)).length + 0 ≤ 1000000000 := by
        have h1 := HLIM.out
        rw [hnext, List.length_append, List.length_take, List.length_drop] at hle
        rw [List.length_append]
        omega
      have HNX : Hid (linesOf lines zs (ps.take (t + 1)) = linesOf lines zs (ps.take t) ++ (lines.drop 0).take (0 - 0)) := hnext
      have htb1 : wr.heap[tb]? = some (.cells #[f0, f1, .slice none 0 0, .slice (some ⟨b2, o2, none⟩) n2 c2, f4, f5, .int .i64 0, .int .i64 0, .int .i64 0] 45 (0, 0)) := (hbr.block tb htB).trans htb
      have t2 : wr.cell? ⟨tb, 2, none⟩ = some (.slice none 0 0) := by rw [Lib.cell_of_heap htb1]; rfl
      have t3 : wr.cell? ⟨tb, 3, none⟩ = some (.slice (some ⟨b2, o2, none⟩) n2 c2) := by rw [Lib.cell_of_heap htb1]; rfl
      unfold cI at hci hcx hcy
      rw [hpe] at hci
      rw [hx] at hcx
      rw [hy] at hcy
      have hkeep : ∀ W : World, Below B wr W → W.cell? ⟨tb, 2, none⟩ = some (.slice none 0 0) ∧ W.cell? ⟨tb, 3, none⟩ = some (.slice (some ⟨b2, o2, none⟩) n2 c2) ∧ W.cell? ⟨b2, o2 + k0, none⟩ = some (.int .i64 0) ∧ W.cell? ⟨b2, o2 + (k0 + 1), none⟩ = some (.int .i64 0) := fun W hW =>
        ⟨by rw [World.cell?_of_block (a := ⟨tb, 2, none⟩) (hW.block tb htB)]; exact t2, by rw [World.cell?_of_block (a := ⟨tb, 3, none⟩) (hW.block tb htB)]; exact t3, by rw [World.cell?_of_block (a := ⟨b2, o2 + k0, none⟩) (hW.block b2 hb2)]; exact hcx, by rw [World.cell?_of_block (a := ⟨b2, o2 + (k0 + 1), none⟩) (hW.block b2 hb2)]; exact hcy⟩
      have hcall : ∀ W : World, Same wr W → Calls Tryd.prog 23 #[.pointer (some ⟨bw, 0, none⟩), .slice none 0 0] W fun e w' => e = .returned (.tuple #[.int .i64 0, .nilIface]) ∧ ∃ v2, St B w' b bw bb cw v2 (xs ++ linesOf lines zs (ps.take (t + 1))) hv ∧ Below B wr w' := by
        intro W hW
        have hWb : Below wr.heap.size wr W := ⟨hW.1, hW.2.1, hW.2.2.1, by rw [hW.2.2.2]; exact Nat.le_refl _, fun k _ => by rw [hW.2.2.2]⟩
        have hWB : Below B wr W := ⟨hW.1, hW.2.1, hW.2.2.1, by rw [hW.2.2.2]; exact Nat.le_refl _, fun k _ => by rw [hW.2.2.2]⟩
        refine (write_st (HS.out.below hWb) ((lines.drop 0).take (0 - 0)) none 0 0 (by simp) (by omega) (by unfold maxLen; omega) (fun _ => rfl) (Or.inl rfl) (fun _ _ _ h => absurd h (by omega)) hlim2).mono ?_
        rintro e w' ⟨rfl, v2, h1, h2⟩
        exact ⟨rfl, v2, by rw [HNX.out, ← List.append_assoc]; exact h1, hWB.trans h2⟩
      have hk2 : k0 + 1 < n2 := by omega
      have i2a : (k0 : Int) + 1 < (n2 : Int) := by omega
      have i2b : (k0 : Int) < (n2 : Int) := by omega
      have i2c : (0 : Int) ≤ (k0 : Int) + 1 := by omega
      have i2d : (0 : Int) ≤ (k0 : Int) := by omega
      have i2e : IntKind.i64.wrap ((k0 : Int) + 1) = (k0 : Int) + 1 := by rw [IntKind.wrap_i64]; omega
      clear hplk hpe hx hy hline hnext hle hzl hzz hll hpr har htb1
      go_wp2
      go_region_held3 (fun W => W.cell? ⟨tb, 2, none⟩ = some (.slice none 0 0) ∧ W.cell? ⟨tb, 3, none⟩ = some (.slice (some ⟨b2, o2, none⟩) n2 c2) ∧ W.cell? ⟨b2, o2 + k0, none⟩ = some (.int .i64 0) ∧ W.cell? ⟨b2, o2 + (k0 + 1), none⟩ = some (.int .i64 0)) (first | go_keep | exact hkeep _ hb1) ((go_at_call 23; refine (hcall _ (by exact ⟨rfl, rfl, rfl, rfl⟩)).mono ?_; rintro e w1 ⟨rfl, v2, hS1, hb1⟩))
      have HS1 := Lib.hid hS1
      clear hS1 hcall hkeep
      go_wp2
      go_roundw
      case rel => exact ⟨⟨t + 1, v2, by omega, by go_num, HS1.out, hbr.trans hb1⟩⟩
      case measure => simp [intOf]; omega
    · have hfin : Hid (ps.take t = ps) := by
        show ps.take t = ps
        exact List.take_of_length_le (by have := HPL.out; omega)
      go_wp2
      go_end0
      exact ⟨rfl, v', by rw [← hfin.out]; exact HS.out, hbr⟩

/-- writeLines. -/
theorem wlines_any (B tb b bw bb cw : Nat) (v : Value) (xs : List UInt8) (hv : Value) (f0 f1 f4 f5 : Value) (al : Option Addr) (L cl : Nat) (lines : List UInt8) (a2 : Option Addr) (n2 c2 : Nat) (zs : List Int) (ap : Option Addr) (np cp : Nat) (ps : List Int) (w : World)
    (h : St B w b bw bb cw v xs hv) (htb : w.heap[tb]? = some (.cells #[f0, f1, .slice al L cl, .slice a2 n2 c2, f4, f5, .int .i64 0, .int .i64 0, .int .i64 0] 45 (0, 0))) (htB : tb < B)
    (hal : (al = none ∧ L = 0 ∧ cl = 0) ∨ ∃ b o, al = some ⟨b, o, none⟩) (hl : RdB B w al L (cU lines)) (hlL : lines.length = L) (hLc : L ≤ cl) (hcl : cl ≤ maxLen) (hat : RdB B w a2 n2 (cI zs)) (hz : zs.length = n2) (hn2 : n2 ≤ maxLen) (hp : RdB B w ap np (cI ps)) (hpl : ps.length = np) (hnp : np ≤ maxLen)
    (hok : ∀ p ∈ ps, plOK L zs p = true) (hlim : xs.length + (linesOf lines zs ps).length ≤ 1000000000) :
    Calls Tryd.prog 25 #[.pointer (some ⟨tb, 0, none⟩), .pointer (some ⟨bw, 0, none⟩), .slice ap np cp] w fun e w' => e = .returned (.tuple #[]) ∧ ∃ v', St B w' b bw bb cw v' (xs ++ linesOf lines zs ps) hv ∧ Below B w w' := by
  rcases hal with ⟨rfl, rfl, rfl⟩ | ⟨bl, ol, rfl⟩
  · exact wlines_none B tb b bw bb cw v xs hv f0 f1 f4 f5 lines a2 n2 c2 zs ap np cp ps w h htb htB hlL hat hz hn2 hp hpl hnp hok hlim
  · exact wlines_some B tb b bw bb cw v xs hv f0 f1 f4 f5 bl ol L cl lines a2 n2 c2 zs ap np cp ps w h htb htB hl hlL hLc hcl hat hz hn2 hp hpl hnp hok hlim
end Go.Proofs.Qxb6625470aDoor

import Derived.Test.Qxb6625470aDoorDec
import Derived.Lib.SlBytesConst
import Derived.Lib.Hide
namespace Go.Proofs.Qxb6625470aDoor
open Go.RowKit
set_option linter.unusedVariables false
set_option linter.unusedSimpArgs false

/-! ### Lengths -/
section
variable (input lines : List UInt8) (zs : List Int) (zss : List (List Int)) (add : List Bool) (outs : List Int)

theorem headTo_mono {i j : Nat} (h : i ≤ j) : (headTo input lines zs zss add i).length ≤ (headTo input lines zs zss add j).length := by
  induction j with
  | zero =>
    have : i = 0 := by omega
    subst this; exact Nat.le_refl _
  | succ j ih =>
    by_cases e : i = j + 1
    · subst e; exact Nat.le_refl _
    · have := ih (by omega)
      simp only [headTo, List.length_append]
      omega

theorem headTo_le {i R : Nat} (h : i ≤ R) : (headTo input lines zs zss add i).length ≤ (listing input lines zs zss add outs R).length := by
  have := headTo_mono input lines zs zss add h
  simp only [listing, List.length_append]
  omega
end

/-- A constant laid as bytes. -/
theorem own_const (w : World) (C : Array Value) (s : ByteArray) (hC : C.toList = Lib.byteCells s.data.toList) (hs : s.size ≤ maxLen) :
    Own (w.alloc (.cells C 5 (C.size, C.size + 1))) (.slice (some ⟨w.heap.size, 0, none⟩) s.size s.size) s.data.toList := by
  have e1 : C.size = s.size := by
    have := congrArg List.length hC
    rwa [Array.length_toList, Lib.byteCells_length, ← Lib.size_eq] at this
  refine Or.inr ⟨w.heap.size, s.size, C, _, by rw [Lib.size_eq], heap_alloc_new w _, Or.inr (by rw [Lib.size_eq]), by rw [← Lib.size_eq]; exact Nat.le_refl _, hs, e1, ?_⟩
  rw [← Lib.size_eq, ← e1, hC]
  exact List.take_of_length_le (by rw [← hC]; simp)

def New (w : World) (v : Value) : Prop := ∀ g, v.ownBlock = some g → w.heap.size ≤ g
def Dis (v v' : Value) : Prop := ∀ g, v.ownBlock = some g → v'.ownBlock ≠ some g

theorem Dis.symm {v v' : Value} (h : Dis v v') : Dis v' v := fun g hg e => h g e hg
theorem Dis.nil (v : Value) : Dis v (.slice none 0 0) := fun g _ e => by simp [Value.ownBlock] at e
theorem New.nil (w : World) : New w (.slice none 0 0) := fun g e => by simp [Value.ownBlock] at e

theorem New.later {w wr : World} {v v' : Value} (h : New w v) (hs : w.heap.size ≤ wr.heap.size) (hl : Later wr v v') : New w v' := by
  intro g hg
  rcases hl with hl | hl
  · exact h g (by rw [← hl]; exact hg)
  · exact Nat.le_trans hs (hl g hg)

theorem Dis.later {wr : World} {v v' u : Value} {xs : List UInt8} (h : Dis v u) (hu : Own wr u xs) (hl : Later wr v v') : Dis v' u := by
  intro g hg e
  rcases hl with hl | hl
  · exact h g (by rw [← hl]; exact hg) e
  · have h1 := hl g hg
    have h2 := hu.lt g e
    omega

/-- Three slices of bytes of the call's own. -/
structure Three (w wr : World) (vo vm vi : Value) (xo xm xi : List UInt8) : Prop where
  o : Own wr vo xo
  m : Own wr vm xm
  i : Own wr vi xi
  no : New w vo
  nm : New w vm
  ni : New w vi
  om : Dis vo vm
  oi : Dis vo vi
  mi : Dis vm vi
  below : Below w.heap.size w wr

theorem Three.rot {w wr : World} {vo vm vi : Value} {xo xm xi : List UInt8} (h : Three w wr vo vm vi xo xm xi) : Three w wr vm vi vo xm xi xo :=
  ⟨h.m, h.i, h.o, h.nm, h.ni, h.no, h.mi, h.om.symm, h.oi.symm, h.below⟩

theorem Three.step {w wr w1 : World} {vo vm vi v' : Value} {xo xm xi x' : List UInt8} (h : Three w wr vo vm vi xo xm xi) (ho : Own w1 v' x') (hg : wr.grownBy w1 vo.ownBlock) (hl : Later wr vo v') : Three w w1 v' vm vi x' xm xi :=
  ⟨ho, h.m.grown hg (fun k hk e => h.om k e hk), h.i.grown hg (fun k hk e => h.oi k e hk), h.no.later h.below.size hl, h.nm, h.ni, h.om.later h.m hl, h.oi.later h.i hl, h.mi, below_grown h.below hg h.no⟩

theorem later_of {wr : World} {v v' : Value} (hat : v'.ownBlock = v.ownBlock ∨ v'.ownBlock = some wr.heap.size) : Later wr v v' := (Later.refl wr v).step (Nat.le_refl _) hat

/-- What is read in w, read again. -/
structure Args (w : World) (a0 : Option Addr) (n0 c0 : Nat) (al : Option Addr) (L cl : Nat) (a2 : Option Addr) (n2 c2 : Nat) (am : Option Addr) (R cm : Nat) (a4 : Option Addr) (n4 c4 : Nat) (a5 : Option Addr) (n5 c5 : Nat)
    (input lines : List UInt8) (zs : List Int) (ms : List Sl) (zss : List (List Int)) (add : List Bool) (outs : List Int) : Prop where
  sized : Sized n0 L n2 R n4 n5 ms
  good : Good L zs zss R n4 outs
  in0 : Rd w a0 n0 (cU input)
  in1 : input.length = n0
  in2 : a0 = none → c0 = 0
  li0 : Rd w al L (cU lines)
  li1 : lines.length = L
  li2 : (al = none ∧ L = 0 ∧ cl = 0) ∨ ∃ b o, al = some ⟨b, o, none⟩
  li3 : L ≤ cl
  li4 : cl ≤ maxLen
  at0 : Rd w a2 n2 (cI zs)
  at1 : zs.length = n2
  made : MadeIs w am R ms zss
  ad0 : Rd w a4 n4 (cB add)
  ad1 : add.length = n4
  ou0 : Rd w a5 n5 (cI outs)
  ou1 : outs.length = n5

/-- An owned slice as the walk wants it, where it is appended. -/
theorem Own.form {w : World} {v : Value} {xs : List UInt8} (h : Own w v xs) : ∃ ao n c, v = .slice ao n c ∧ Hid (xs.length = n) ∧ Hid (ao = none → c = 0) := by
  obtain ⟨ao, c, e, _, _, _, h1, _⟩ := h.rd
  exact ⟨ao, _, c, e, rfl, h1⟩

theorem Own.src {w : World} {xs : List UInt8} {ao : Option Addr} {n c : Nat} (h : Own w (.slice ao n c) xs) : Src w ao n xs := by
  obtain ⟨ao', c', e, hr, _, _, _, _⟩ := h.rd
  simp only [Value.slice.injEq] at e
  obtain ⟨rfl, rfl, rfl⟩ := e
  exact src_all hr rfl

theorem part_sum (input lines : List UInt8) (zs : List Int) (zss : List (List Int)) (add : List Bool) (outs : List Int) (R k : Nat) (hk : k < R) (hT : (listing input lines zs zss add outs R).length ≤ 16777216) :
    (headTo input lines zs zss add k).length + (22 + (Lib.decDigits (k + 1)).length + 23 + input.length + (madeTo lines zs zss (k + 1)).length + 17 + (issuedTo lines zs zss add (k + 1)).length) ≤ 16777216 := by
  have h := headTo_le input lines zs zss add outs (show k + 1 ≤ R from hk)
  simp only [headTo, part, List.length_append, lenPre, lenPost, lenOut] at h
  omega

set_option maxRecDepth 100000 in
set_option maxHeartbeats 3200000 in
theorem listing_any (a0 : Option Addr) (n0 c0 : Nat) (al : Option Addr) (L cl : Nat) (a2 : Option Addr) (n2 c2 : Nat) (am : Option Addr) (R cm : Nat) (a4 : Option Addr) (n4 c4 : Nat) (a5 : Option Addr) (n5 c5 : Nat)
    (input lines : List UInt8) (zs : List Int) (ms : List Sl) (zss : List (List Int)) (add : List Bool) (outs : List Int) (w : World)
    (hA : Args w a0 n0 c0 al L cl a2 n2 c2 am R cm a4 n4 c4 a5 n5 c5 input lines zs ms zss add outs) (hT : (listing input lines zs zss add outs R).length ≤ 16777216) :
    Calls Tryd.prog 11 #[.slice a0 n0 c0, .slice al L cl, .slice a2 n2 c2, .slice am R cm, .slice a4 n4 c4, .slice a5 n5 c5] w (RV fun v w' => Own w' v (listing input lines zs zss add outs R) ∧ New w v ∧ Below w.heap.size w w') := by
  have hR4 := hA.good.added.symm
  subst hR4
  have q0 := hA.sized.b0
  have q2 := hA.sized.b2
  have q3 := hA.sized.b3
  have hn2' : Hid (n2 ≤ maxLen) := by show n2 ≤ maxLen; unfold maxLen; omega
  have hkc := fun (C : Array Value) (n c : Nat) => Lib.run_convert_bytes_const (P := Tryd.prog) w 22 5 C n c Tryd.underlying22 Tryd.underlying5
  go_enter Tryd.func11, Tryd.ntmps11
  have hsrc : ∀ o, Src (w.alloc o) a0 n0 input := fun o => src_all (hA.in0.below ((Below.refl _ _).alloc (Nat.le_refl _) _)) hA.in1
  have hc0 := hA.in2
  have hl0 : sIn.data.toList.length + n0 ≤ 140737488355328 := by rw [lenIn]; omega
  have HC : Hid (∀ o, Src (w.alloc o) a0 n0 input) := hsrc
  have HC0 : Hid (a0 = none → c0 = 0) := hc0
  clear hsrc hc0
  go_wp2_with (at_builtin; refine wp_app rfl _ _ rfl _ sIn.data.toList rfl (by exact own_const w _ sIn rfl (by decide)) _ _ _ input rfl (by exact HC.out _) (by exact HC0.out) hl0 ?_; intro v1 w1 ho1 hg1 ha1; refine Hid.out ?_)
  refine Lib.hid ?_
  have hb1 : Below w.heap.size w w1 := below_grown ((Below.refl _ _).alloc (Nat.le_refl _) _) hg1 (fun k hk => by have := Option.some.inj hk; simp at this; omega)
  have hn1 : New w v1 := fun g hg => by
    rcases ha1 with h | h
    · rw [h] at hg; have := Option.some.inj hg; simp at this; omega
    · rw [h] at hg; simp at hg; omega
  have hthree : Three w w1 v1 (.slice none 0 0) (.slice none 0 0) (headTo input lines zs zss add 0) (madeTo lines zs zss 0) (issuedTo lines zs zss add 0) :=
    ⟨ho1, Own.nil _, Own.nil _, hn1, New.nil _, New.nil _, Dis.nil _, Dis.nil _, Dis.nil _, hb1⟩
  clear ho1 hg1 ha1 hb1 hn1 hkc
  go_wp2
  go_loopw [13, 14, 15, 16] (fun vo vm vi i wr => ∃ k : Nat, k ≤ R ∧ i = .int .i64 (k : Int) ∧ Three w wr vo vm vi (headTo input lines zs zss add k) (madeTo lines zs zss k) (issuedTo lines zs zss add k)) (fun _ _ _ i _ => R - (intOf i).toNat)
  case atStart => exact ⟨0, by omega, rfl, hthree⟩
  case round =>
    obtain ⟨k, hk, rfl, h3⟩ := hrel
    by_cases hlt : k < R
    · obtain ⟨b, o, e, hcw⟩ := hA.made.row.at h3.below k hlt
      subst e
      obtain ⟨i0, i1, i2, i3⟩ := hA.made.inner k hlt
      have hsum := part_sum input lines zs zss add outs R k hlt hT
      have HSUM := Lib.hid hsum
      have hq6 := hA.sized.inner k hlt
      have HOKK : Hid (∀ p ∈ zss.getD k [], plOK L zs p = true) := hA.good.made k hlt
      unfold cS at hcw
      generalize (ms.getD k Sl.nil).a = ai at hcw i3
      generalize (ms.getD k Sl.nil).n = ni at hcw i0 i1 i3 hq6
      generalize (ms.getD k Sl.nil).c = ci at hcw i1 i2
      have HI0 : Hid ((zss.getD k []).length = ni) := i0
      have HNI : Hid (ni ≤ maxLen) := Nat.le_trans i1 i2
      obtain ⟨b4, o4, e4, hc4w⟩ := hA.ad0.get k (by omega)
      subst e4
      have HMO : Hid (madeTo lines zs zss (k + 1) = madeTo lines zs zss k ++ linesOf lines zs (zss.getD k [])) := rfl
      have HLM : Hid ((madeTo lines zs zss k).length + (linesOf lines zs (zss.getD k [])).length ≤ 1000000000) := by
        show _ ≤ _
        have h1 := HSUM.out
        rw [HMO.out, List.length_append] at h1
        omega
      clear hsum i0 i1 i2 hT
      go_wp2_with fail
      refine (lines_any u14 (madeTo lines zs zss k) al L cl lines a2 n2 c2 zs ai ni ci (zss.getD k []) _ h3.m hA.li2 (hA.li0.below h3.below) hA.li1 hA.li3 hA.li4 (hA.at0.below h3.below) hA.at1 hn2'.out (i3.below h3.below) HI0.out HNI.out (hA.li0.far h3.nm) (hA.at0.far h3.nm) (i3.far h3.nm) HOKK.out HLM.out).mono ?_
      rintro e w2 ⟨vm, rfl, hom, hgm, hlm⟩
      have h3a : Three w w2 u13 vm u15 (headTo input lines zs zss add k) (madeTo lines zs zss (k + 1)) (issuedTo lines zs zss add k) := ((h3.rot.step hom hgm hlm).rot).rot
      have hc4 : w2.cell? ⟨b4, o4 + k, none⟩ = some (cB add k) := by rw [h3a.below.cell (World.block_lt_of_cell? w _ hc4w)]; exact hc4w
      have hcw2 : w2.cell? ⟨b, o + k, none⟩ = some (.slice ai ni ci) := by
        rw [(hgm.cell hcw (fun e => by
          obtain ⟨bb, oo, ee, hh⟩ := hA.made.row.get k hlt
          simp only [Option.some.injEq, Addr.mk.injEq, and_true] at ee
          obtain ⟨rfl, rfl⟩ := ee
          have h1 := World.block_lt_of_cell? w _ hh
          have h2 := h3.nm b e.symm
          simp at h1
          omega))]
      unfold cB at hc4
      clear hom hgm hlm hcw hc4w h3
      generalize hav : add.getD k false = av at hc4
      have HAV : Hid (add.getD k false = av) := hav
      clear hav
      cases av with
      | true =>
        have h3b : Three w w2 u13 vm u15 (headTo input lines zs zss add k) (madeTo lines zs zss (k + 1)) (issuedTo lines zs zss add (k + 1)) := by
          have e : issuedTo lines zs zss add (k + 1) = issuedTo lines zs zss add k := by
            show issuedTo lines zs zss add k ++ (if add.getD k false then [] else _) = _
            rw [HAV.out]; simp
          rw [e]; exact h3a
        clear h3a
        obtain ⟨am1, lm, cm1, rfl, hlm1, hcm1⟩ := h3b.m.form
        obtain ⟨ai1, li, ci1, rfl, hli1, hci1⟩ := h3b.i.form
        have HS : Hid ((headTo input lines zs zss add k).length + (22 + (Lib.decDigits (k + 1)).length + 23 + n0 + lm + 17 + li) ≤ 16777216) := by
          show _ ≤ _
          have h1 := HSUM.out
          rw [hlm1.out, hli1.out, hA.in1] at h1
          exact h1
        have l1 : Hid ((headTo input lines zs zss add k).length + sPre.size ≤ 140737488355328) := by
          have h1 := HS.out
          have h2 : sPre.size = 22 := by decide
          show _ ≤ _
          omega
        go_wp2_with (at_builtin; refine wp_appS rfl _ _ rfl u13 _ rfl h3b.o sPre rfl l1.out ?_; intro vA wA hoA hgA haA; refine Hid.out ?_)
        refine Lib.hid ?_
        have h3c := h3b.step hoA hgA (later_of haA)
        clear h3b hoA hgA haA l1
        have l2 : Hid ((headTo input lines zs zss add k ++ sPre.data.toList).length ≤ 1000000000) := by
          have h1 := HS.out
          show _ ≤ _
          rw [List.length_append, lenPre]
          omega
        go_wp2_with fail
        refine (dec_any vA _ (k + 1) _ (by omega) _ (by omega) (by omega) h3c.o l2.out).mono ?_
        rintro e wB ⟨vB, rfl, hoB, hgB, hlB⟩
        have h3d := h3c.step hoB hgB hlB
        clear h3c hoB hgB hlB l2
        have l3 : Hid ((headTo input lines zs zss add k ++ sPre.data.toList ++ Lib.decDigits (k + 1)).length + sPost.size ≤ 140737488355328) := by
          have h1 := HS.out
          have h2 : sPost.size = 23 := by decide
          show _ ≤ _
          rw [List.length_append, List.length_append, lenPre]
          omega
        go_wp2_with (at_builtin; refine wp_appS rfl _ _ rfl vB _ rfl h3d.o sPost rfl l3.out ?_; intro vC wC hoC hgC haC; refine Hid.out ?_)
        refine Lib.hid ?_
        have h3e := h3d.step hoC hgC (later_of haC)
        clear h3d hoC hgC haC l3
        have s4 : Hid (Src wC a0 n0 input) := src_all (hA.in0.below h3e.below) hA.in1
        have l4 : Hid ((headTo input lines zs zss add k ++ sPre.data.toList ++ Lib.decDigits (k + 1) ++ sPost.data.toList).length + n0 ≤ 140737488355328) := by
          have h1 := HS.out
          show _ ≤ _
          rw [List.length_append, List.length_append, List.length_append, lenPre, lenPost]
          omega
        go_wp2_with (at_builtin; refine wp_app rfl _ _ rfl vC _ rfl h3e.o _ _ _ input rfl s4.out HC0.out l4.out ?_; intro vD wD hoD hgD haD; refine Hid.out ?_)
        refine Lib.hid ?_
        have h3f := h3e.step hoD hgD (later_of haD)
        clear h3e hoD hgD haD l4 s4
        have l5 : Hid ((headTo input lines zs zss add k ++ sPre.data.toList ++ Lib.decDigits (k + 1) ++ sPost.data.toList ++ input).length + lm ≤ 140737488355328) := by
          have h1 := HS.out
          have h2 := hA.in1
          show _ ≤ _
          rw [List.length_append, List.length_append, List.length_append, List.length_append, lenPre, lenPost]
          omega
        go_wp2_with (at_builtin; refine wp_app rfl _ _ rfl vD _ rfl h3f.o _ _ _ (madeTo lines zs zss (k + 1)) rfl h3f.m.src hcm1.out l5.out ?_; intro vE wE hoE hgE haE; refine Hid.out ?_)
        refine Lib.hid ?_
        have h3g := h3f.step hoE hgE (later_of haE)
        clear h3f hoE hgE haE l5
        have l6 : Hid ((headTo input lines zs zss add k ++ sPre.data.toList ++ Lib.decDigits (k + 1) ++ sPost.data.toList ++ input ++ madeTo lines zs zss (k + 1)).length + sOut.size ≤ 140737488355328) := by
          have h1 := HS.out
          have h2 := hA.in1
          have h4 := hlm1.out
          have h5 : sOut.size = 17 := by decide
          show _ ≤ _
          rw [List.length_append, List.length_append, List.length_append, List.length_append, List.length_append, lenPre, lenPost]
          omega
        go_wp2_with (at_builtin; refine wp_appS rfl _ _ rfl vE _ rfl h3g.o sOut rfl l6.out ?_; intro vF wF hoF hgF haF; refine Hid.out ?_)
        refine Lib.hid ?_
        have h3h := h3g.step hoF hgF (later_of haF)
        clear h3g hoF hgF haF l6
        have l7 : Hid ((headTo input lines zs zss add k ++ sPre.data.toList ++ Lib.decDigits (k + 1) ++ sPost.data.toList ++ input ++ madeTo lines zs zss (k + 1) ++ sOut.data.toList).length + li ≤ 140737488355328) := by
          have h1 := HS.out
          have h2 := hA.in1
          have h4 := hlm1.out
          show _ ≤ _
          rw [List.length_append, List.length_append, List.length_append, List.length_append, List.length_append, List.length_append, lenPre, lenPost, lenOut]
          omega
        go_wp2_with (at_builtin; refine wp_app rfl _ _ rfl vF _ rfl h3h.o _ _ _ (issuedTo lines zs zss add (k + 1)) rfl h3h.i.src hci1.out l7.out ?_; intro vG wG hoG hgG haG; refine Hid.out ?_)
        refine Lib.hid ?_
        have h3i := h3h.step hoG hgG (later_of haG)
        have HEQ : Hid (headTo input lines zs zss add (k + 1) = headTo input lines zs zss add k ++ sPre.data.toList ++ Lib.decDigits (k + 1) ++ sPost.data.toList ++ input ++ madeTo lines zs zss (k + 1) ++ sOut.data.toList ++ issuedTo lines zs zss add (k + 1)) := by
          show _ = _
          simp only [headTo, part, List.append_assoc]
        clear h3h hoG hgG haG l7
        go_wp2
        go_roundw
        case rel => exact ⟨k + 1, by omega, by go_num, by rw [HEQ.out]; exact h3i⟩
        case measure => simp [intOf]; omega
      | false =>
        have HIS : Hid (issuedTo lines zs zss add (k + 1) = issuedTo lines zs zss add k ++ linesOf lines zs (zss.getD k [])) := by
          show issuedTo lines zs zss add k ++ (if add.getD k false then [] else _) = _
          rw [HAV.out]; simp
        have HLI : Hid ((issuedTo lines zs zss add k).length + (linesOf lines zs (zss.getD k [])).length ≤ 1000000000) := by
          show _ ≤ _
          have h1 := HSUM.out
          rw [HIS.out, List.length_append] at h1
          omega
        go_wp2_with fail
        refine (lines_any u15 (issuedTo lines zs zss add k) al L cl lines a2 n2 c2 zs ai ni ci (zss.getD k []) _ h3a.i hA.li2 (hA.li0.below h3a.below) hA.li1 hA.li3 hA.li4 (hA.at0.below h3a.below) hA.at1 hn2'.out (i3.below h3a.below) HI0.out HNI.out (hA.li0.far h3a.ni) (hA.at0.far h3a.ni) (i3.far h3a.ni) HOKK.out HLI.out).mono ?_
        rintro e w3 ⟨vi, rfl, hom, hgm, hlm⟩
        have h3b : Three w w3 u13 vm vi (headTo input lines zs zss add k) (madeTo lines zs zss (k + 1)) (issuedTo lines zs zss add (k + 1)) := by
          rw [HIS.out]; exact (h3a.rot.rot.step hom hgm hlm).rot
        clear h3a hom hgm hlm
        obtain ⟨am1, lm, cm1, rfl, hlm1, hcm1⟩ := h3b.m.form
        obtain ⟨ai1, li, ci1, rfl, hli1, hci1⟩ := h3b.i.form
        have HS : Hid ((headTo input lines zs zss add k).length + (22 + (Lib.decDigits (k + 1)).length + 23 + n0 + lm + 17 + li) ≤ 16777216) := by
          show _ ≤ _
          have h1 := HSUM.out
          rw [hlm1.out, hli1.out, hA.in1] at h1
          exact h1
        have l1 : Hid ((headTo input lines zs zss add k).length + sPre.size ≤ 140737488355328) := by
          have h1 := HS.out
          have h2 : sPre.size = 22 := by decide
          show _ ≤ _
          omega
        go_wp2_with (at_builtin; refine wp_appS rfl _ _ rfl u13 _ rfl h3b.o sPre rfl l1.out ?_; intro vA wA hoA hgA haA; refine Hid.out ?_)
        refine Lib.hid ?_
        have h3c := h3b.step hoA hgA (later_of haA)
        clear h3b hoA hgA haA l1
        have l2 : Hid ((headTo input lines zs zss add k ++ sPre.data.toList).length ≤ 1000000000) := by
          have h1 := HS.out
          show _ ≤ _
          rw [List.length_append, lenPre]
          omega
        go_wp2_with fail
        refine (dec_any vA _ (k + 1) _ (by omega) _ (by omega) (by omega) h3c.o l2.out).mono ?_
        rintro e wB ⟨vB, rfl, hoB, hgB, hlB⟩
        have h3d := h3c.step hoB hgB hlB
        clear h3c hoB hgB hlB l2
        have l3 : Hid ((headTo input lines zs zss add k ++ sPre.data.toList ++ Lib.decDigits (k + 1)).length + sPost.size ≤ 140737488355328) := by
          have h1 := HS.out
          have h2 : sPost.size = 23 := by decide
          show _ ≤ _
          rw [List.length_append, List.length_append, lenPre]
          omega
        go_wp2_with (at_builtin; refine wp_appS rfl _ _ rfl vB _ rfl h3d.o sPost rfl l3.out ?_; intro vC wC hoC hgC haC; refine Hid.out ?_)
        refine Lib.hid ?_
        have h3e := h3d.step hoC hgC (later_of haC)
        clear h3d hoC hgC haC l3
        have s4 : Hid (Src wC a0 n0 input) := src_all (hA.in0.below h3e.below) hA.in1
        have l4 : Hid ((headTo input lines zs zss add k ++ sPre.data.toList ++ Lib.decDigits (k + 1) ++ sPost.data.toList).length + n0 ≤ 140737488355328) := by
          have h1 := HS.out
          show _ ≤ _
          rw [List.length_append, List.length_append, List.length_append, lenPre, lenPost]
          omega
        go_wp2_with (at_builtin; refine wp_app rfl _ _ rfl vC _ rfl h3e.o _ _ _ input rfl s4.out HC0.out l4.out ?_; intro vD wD hoD hgD haD; refine Hid.out ?_)
        refine Lib.hid ?_
        have h3f := h3e.step hoD hgD (later_of haD)
        clear h3e hoD hgD haD l4 s4
        have l5 : Hid ((headTo input lines zs zss add k ++ sPre.data.toList ++ Lib.decDigits (k + 1) ++ sPost.data.toList ++ input).length + lm ≤ 140737488355328) := by
          have h1 := HS.out
          have h2 := hA.in1
          show _ ≤ _
          rw [List.length_append, List.length_append, List.length_append, List.length_append, lenPre, lenPost]
          omega
        go_wp2_with (at_builtin; refine wp_app rfl _ _ rfl vD _ rfl h3f.o _ _ _ (madeTo lines zs zss (k + 1)) rfl h3f.m.src hcm1.out l5.out ?_; intro vE wE hoE hgE haE; refine Hid.out ?_)
        refine Lib.hid ?_
        have h3g := h3f.step hoE hgE (later_of haE)
        clear h3f hoE hgE haE l5
        have l6 : Hid ((headTo input lines zs zss add k ++ sPre.data.toList ++ Lib.decDigits (k + 1) ++ sPost.data.toList ++ input ++ madeTo lines zs zss (k + 1)).length + sOut.size ≤ 140737488355328) := by
          have h1 := HS.out
          have h2 := hA.in1
          have h4 := hlm1.out
          have h5 : sOut.size = 17 := by decide
          show _ ≤ _
          rw [List.length_append, List.length_append, List.length_append, List.length_append, List.length_append, lenPre, lenPost]
          omega
        go_wp2_with (at_builtin; refine wp_appS rfl _ _ rfl vE _ rfl h3g.o sOut rfl l6.out ?_; intro vF wF hoF hgF haF; refine Hid.out ?_)
        refine Lib.hid ?_
        have h3h := h3g.step hoF hgF (later_of haF)
        clear h3g hoF hgF haF l6
        have l7 : Hid ((headTo input lines zs zss add k ++ sPre.data.toList ++ Lib.decDigits (k + 1) ++ sPost.data.toList ++ input ++ madeTo lines zs zss (k + 1) ++ sOut.data.toList).length + li ≤ 140737488355328) := by
          have h1 := HS.out
          have h2 := hA.in1
          have h4 := hlm1.out
          show _ ≤ _
          rw [List.length_append, List.length_append, List.length_append, List.length_append, List.length_append, List.length_append, lenPre, lenPost, lenOut]
          omega
        go_wp2_with (at_builtin; refine wp_app rfl _ _ rfl vF _ rfl h3h.o _ _ _ (issuedTo lines zs zss add (k + 1)) rfl h3h.i.src hci1.out l7.out ?_; intro vG wG hoG hgG haG; refine Hid.out ?_)
        refine Lib.hid ?_
        have h3i := h3h.step hoG hgG (later_of haG)
        have HEQ : Hid (headTo input lines zs zss add (k + 1) = headTo input lines zs zss add k ++ sPre.data.toList ++ Lib.decDigits (k + 1) ++ sPost.data.toList ++ input ++ madeTo lines zs zss (k + 1) ++ sOut.data.toList ++ issuedTo lines zs zss add (k + 1)) := by
          show _ = _
          simp only [headTo, part, List.append_assoc]
        clear h3h hoG hgG haG l7
        go_wp2
        go_roundw
        case rel => exact ⟨k + 1, by omega, by go_num, by rw [HEQ.out]; exact h3i⟩
        case measure => simp [intOf]; omega
    · have hkR : k = R := by omega
      subst hkR
      have HT2 : Hid ((headTo input lines zs zss add k).length + 14 + (linesOf lines zs outs).length ≤ 16777216) := by
        have h1 := hT
        simp only [listing, List.length_append, lenFin] at h1
        exact h1
      have HN5 : Hid (n5 ≤ maxLen) := by
        have := hA.sized.b5
        show n5 ≤ maxLen
        unfold maxLen
        omega
      have l1 : Hid ((headTo input lines zs zss add k).length + sFin.size ≤ 140737488355328) := by
        have h1 := HT2.out
        have h2 : sFin.size = 14 := by decide
        show _ ≤ _
        omega
      have l2 : Hid ((headTo input lines zs zss add k ++ sFin.data.toList).length + (linesOf lines zs outs).length ≤ 1000000000) := by
        have h1 := HT2.out
        show _ ≤ _
        rw [List.length_append, lenFin]
        omega
      clear hT
      go_wp2_with (at_builtin; refine wp_appS rfl _ _ rfl u13 _ rfl h3.o sFin rfl l1.out ?_; intro vA wA hoA hgA haA; refine Hid.out ?_)
      refine Lib.hid ?_
      have h3c := h3.step hoA hgA (later_of haA)
      clear h3 hoA hgA haA l1
      go_wp2_with fail
      refine (lines_any vA _ al L cl lines a2 n2 c2 zs a5 n5 c5 outs _ h3c.o hA.li2 (hA.li0.below h3c.below) hA.li1 hA.li3 hA.li4 (hA.at0.below h3c.below) hA.at1 hn2'.out (hA.ou0.below h3c.below) hA.ou1 HN5.out (hA.li0.far h3c.no) (hA.at0.far h3c.no) (hA.ou0.far h3c.no) hA.good.out l2.out).mono ?_
      rintro e w3 ⟨vi, rfl, hom, hgm, hlm⟩
      have h3d := h3c.step hom hgm hlm
      clear h3c hom hgm hlm
      go_wp2_with fail
      go_ret
      exact ⟨_, rfl, h3d.o, h3d.no, h3d.below⟩
end Go.Proofs.Qxb6625470aDoor

import Derived.Test.Qxb6625470aDoorFlow
namespace Go.Proofs.Qxb6625470aDoor
open Go.RowKit
set_option linter.unusedVariables false
set_option linter.unusedSimpArgs false
attribute [local go_sem] Go.wp_at_zero Go.wp_at_succ

/-- The rules as the trace holds them: two cells a rule. -/
structure RulesIs (B : Nat) (w : World) (rb R : Nat) (ms : List Sl) (zss : List (List Int)) (add : List Bool) : Prop where
  c0 : ∀ k, k < R → w.cell? ⟨rb, k * 2, none⟩ = some (cS ms k)
  c1 : ∀ k, k < R → w.cell? ⟨rb, k * 2 + 1, none⟩ = some (.bool (add.getD k false))
  lt : 0 < R → rb < B
  inner : ∀ k, k < R → (zss.getD k []).length = (ms.getD k Sl.nil).n ∧ (ms.getD k Sl.nil).n ≤ maxLen ∧ RdB B w (ms.getD k Sl.nil).a (ms.getD k Sl.nil).n (cI (zss.getD k []))

theorem RulesIs.below {B : Nat} {w w' : World} {rb R : Nat} {ms : List Sl} {zss : List (List Int)} {add : List Bool} (h : RulesIs B w rb R ms zss add) (hb : Below B w w') : RulesIs B w' rb R ms zss add :=
  ⟨fun k hk => by rw [World.cell?_of_block (a := ⟨rb, k * 2, none⟩) (hb.block rb (h.lt (by omega)))]; exact h.c0 k hk,
   fun k hk => by rw [World.cell?_of_block (a := ⟨rb, k * 2 + 1, none⟩) (hb.block rb (h.lt (by omega)))]; exact h.c1 k hk,
   h.lt, fun k hk => ⟨(h.inner k hk).1, (h.inner k hk).2.1, (h.inner k hk).2.2.below hb⟩⟩

/-- All that WriteTo reads. -/
structure TraceIs (B : Nat) (w : World) (tb rb : Nat) (a0 : Option Addr) (n0 c0 : Nat) (al : Option Addr) (L cl : Nat) (a2 : Option Addr) (n2 c2 : Nat) (R : Nat) (a5 : Option Addr) (n5 c5 : Nat) (f1 : Value)
    (input lines : List UInt8) (zs : List Int) (ms : List Sl) (zss : List (List Int)) (add : List Bool) (outs : List Int) : Prop where
  tr : w.heap[tb]? = some (.cells #[.slice a0 n0 c0, f1, .slice al L cl, .slice a2 n2 c2, .slice (some ⟨rb, 0, none⟩) R R, .slice a5 n5 c5, .int .i64 0, .int .i64 0, .int .i64 0] 45 (0, 0))
  tlt : tb < B
  rules : RulesIs B w rb R ms zss add
  rlim : R ≤ 1000000
  in0 : RdB B w a0 n0 (cU input)
  in1 : input.length = n0
  in2 : a0 = none → c0 = 0
  in3 : n0 ≤ c0
  in4 : c0 ≤ maxLen
  li0 : RdB B w al L (cU lines)
  li1 : lines.length = L
  li2 : (al = none ∧ L = 0 ∧ cl = 0) ∨ ∃ b o, al = some ⟨b, o, none⟩
  li3 : L ≤ cl
  li4 : cl ≤ maxLen
  at0 : RdB B w a2 n2 (cI zs)
  at1 : zs.length = n2
  at2 : n2 ≤ maxLen
  ou0 : RdB B w a5 n5 (cI outs)
  ou1 : outs.length = n5
  ou2 : n5 ≤ maxLen
  okm : ∀ k, k < R → ∀ p ∈ zss.getD k [], plOK L zs p = true
  oko : ∀ p ∈ outs, plOK L zs p = true

theorem TraceIs.below {B : Nat} {w w' : World} {tb rb : Nat} {a0 : Option Addr} {n0 c0 : Nat} {al : Option Addr} {L cl : Nat} {a2 : Option Addr} {n2 c2 : Nat} {R : Nat} {a5 : Option Addr} {n5 c5 : Nat} {f1 : Value}
    {input lines : List UInt8} {zs : List Int} {ms : List Sl} {zss : List (List Int)} {add : List Bool} {outs : List Int} (h : TraceIs B w tb rb a0 n0 c0 al L cl a2 n2 c2 R a5 n5 c5 f1 input lines zs ms zss add outs) (hb : Below B w w') :
    TraceIs B w' tb rb a0 n0 c0 al L cl a2 n2 c2 R a5 n5 c5 f1 input lines zs ms zss add outs :=
  { h with
    tr := (hb.block tb h.tlt).trans h.tr
    rules := h.rules.below hb
    in0 := h.in0.below hb
    li0 := h.li0.below hb
    at0 := h.at0.below hb
    ou0 := h.ou0.below hb }

section
variable {B : Nat} {w : World} {tb rb : Nat} {a0 : Option Addr} {n0 c0 : Nat} {al : Option Addr} {L cl : Nat} {a2 : Option Addr} {n2 c2 : Nat} {R : Nat} {a5 : Option Addr} {n5 c5 : Nat} {f1 : Value}
    {input lines : List UInt8} {zs : List Int} {ms : List Sl} {zss : List (List Int)} {add : List Bool} {outs : List Int}
theorem TraceIs.t0 (h : TraceIs B w tb rb a0 n0 c0 al L cl a2 n2 c2 R a5 n5 c5 f1 input lines zs ms zss add outs) : w.cell? ⟨tb, 0, none⟩ = some (.slice a0 n0 c0) := by rw [Lib.cell_of_heap h.tr]; rfl
theorem TraceIs.t4 (h : TraceIs B w tb rb a0 n0 c0 al L cl a2 n2 c2 R a5 n5 c5 f1 input lines zs ms zss add outs) : w.cell? ⟨tb, 4, none⟩ = some (.slice (some ⟨rb, 0, none⟩) R R) := by rw [Lib.cell_of_heap h.tr]; rfl
theorem TraceIs.t5 (h : TraceIs B w tb rb a0 n0 c0 al L cl a2 n2 c2 R a5 n5 c5 f1 input lines zs ms zss add outs) : w.cell? ⟨tb, 5, none⟩ = some (.slice a5 n5 c5) := by rw [Lib.cell_of_heap h.tr]; rfl

theorem TraceIs.lines_at (h : TraceIs B w tb rb a0 n0 c0 al L cl a2 n2 c2 R a5 n5 c5 f1 input lines zs ms zss add outs) {b bw bb cw : Nat} {v : Value} {xs : List UInt8} {hv : Value} (hS : St B w b bw bb cw v xs hv)
    (k : Nat) (hk : k < R) (hlim : xs.length + (linesOf lines zs (zss.getD k [])).length ≤ 1000000000) (u : Value) (hu : cS ms k = u) :
    Calls Tryd.prog 25 #[.pointer (some ⟨tb, 0, none⟩), .pointer (some ⟨bw, 0, none⟩), u] w fun e w' => e = .returned (.tuple #[]) ∧ ∃ v', St B w' b bw bb cw v' (xs ++ linesOf lines zs (zss.getD k [])) hv ∧ Below B w w' := by
  obtain ⟨h1, h2, h3⟩ := h.rules.inner k hk
  subst hu
  exact wlines_any B tb b bw bb cw v xs hv _ _ _ _ al L cl lines a2 n2 c2 zs _ _ _ _ w hS h.tr h.tlt h.li2 h.li0 h.li1 h.li3 h.li4 h.at0 h.at1 h.at2 h3 h1 h2 (h.okm k hk) hlim

theorem TraceIs.lines_out (h : TraceIs B w tb rb a0 n0 c0 al L cl a2 n2 c2 R a5 n5 c5 f1 input lines zs ms zss add outs) {b bw bb cw : Nat} {v : Value} {xs : List UInt8} {hv : Value} (hS : St B w b bw bb cw v xs hv)
    (hlim : xs.length + (linesOf lines zs outs).length ≤ 1000000000) :
    Calls Tryd.prog 25 #[.pointer (some ⟨tb, 0, none⟩), .pointer (some ⟨bw, 0, none⟩), .slice a5 n5 c5] w fun e w' => e = .returned (.tuple #[]) ∧ ∃ v', St B w' b bw bb cw v' (xs ++ linesOf lines zs outs) hv ∧ Below B w w' :=
  wlines_any B tb b bw bb cw v xs hv _ _ _ _ al L cl lines a2 n2 c2 zs _ _ _ _ w hS h.tr h.tlt h.li2 h.li0 h.li1 h.li3 h.li4 h.at0 h.at1 h.at2 h.ou0 h.ou1 h.ou2 h.oko hlim

theorem TraceIs.write_in (h : TraceIs B w tb rb a0 n0 c0 al L cl a2 n2 c2 R a5 n5 c5 f1 input lines zs ms zss add outs) {b bw bb cw : Nat} {v : Value} {xs : List UInt8} {hv : Value} (hS : St B w b bw bb cw v xs hv)
    (hlim : xs.length + n0 ≤ 1000000000) :
    Calls Tryd.prog 23 #[.pointer (some ⟨bw, 0, none⟩), .slice a0 n0 c0] w fun e w' => e = .returned (.tuple #[.int .i64 (n0 : Int), .nilIface]) ∧ ∃ v', St B w' b bw bb cw v' (xs ++ input) hv ∧ Below B w w' :=
  write_st hS input a0 n0 c0 h.in1 h.in3 h.in4 h.in2 h.in0.rd (fun b' o' e hn k => h.in0.lt b' o' e hn (hS.up _ k)) hlim
end

/-- The heading is cut to nothing. -/
theorem head_cut {w : World} {hv : Value} {ys : List UInt8} (h : Own0 w hv ys) : ∃ ho hn hc, hv = .slice ho hn hc ∧ Own0 w (.slice ho 0 hc) [] ∧ (Value.slice ho 0 hc).ownBlock = hv.ownBlock ∧ hn ≤ hc ∧ hc ≤ maxLen ∧
    ∀ W, (Instr.sliceAt 22 (.slice ho hn hc) none (some (.int .i64 0)) none).run Tryd.prog W = .ok (.slice ho 0 hc) W := by
  obtain ⟨h0, ⟨rfl, hn⟩ | ⟨g, cap, cur, rfl, h1, hg, h2, h3, h4, h5⟩⟩ := h
  · refine ⟨none, 0, 0, rfl, ⟨rfl, Or.inl ⟨rfl, rfl⟩⟩, rfl, Nat.le_refl _, Nat.zero_le _, fun W => ?_⟩
    go_simp
  · refine ⟨some ⟨g, 0, none⟩, ys.length, cap, rfl, ⟨rfl, Or.inr ⟨g, cap, cur, rfl, h1, hg, Nat.zero_le _, h3, h4, by simp [Lib.byteCells]⟩⟩, rfl, h2, h3, fun W => ?_⟩
    go_simp
theorem sumTo_mono' (f : Nat → Nat) {i j : Nat} (h : i ≤ j) : sumTo f i ≤ sumTo f j := sumTo_le f h

theorem mid_len (input lines : List UInt8) (zs : List Int) (zss : List (List Int)) (add : List Bool) (outs : List Int) (R i k : Nat) (hi : i < R) (hk : k ≤ i + 1) (hT : (listing input lines zs zss add outs R).length ≤ 16777216) :
    (headTo input lines zs zss add i).length + (22 + (Lib.decDigits (i + 1)).length + 23 + input.length + (madeTo lines zs zss k).length + 17 + (issuedTo lines zs zss add k).length) ≤ 16777216 ∧ (madeTo lines zs zss k).length ≤ (madeTo lines zs zss (i + 1)).length ∧ (issuedTo lines zs zss add k).length ≤ (issuedTo lines zs zss add (i + 1)).length := by
  have h := part_sum input lines zs zss add outs R i hi hT
  have h1 : (madeTo lines zs zss k).length ≤ (madeTo lines zs zss (i + 1)).length := by rw [madeTo_length, madeTo_length]; exact sumTo_le _ hk
  have h2 : (issuedTo lines zs zss add k).length ≤ (issuedTo lines zs zss add (i + 1)).length := by rw [issuedTo_length, issuedTo_length]; exact sumTo_le _ hk
  exact ⟨by omega, h1, h2⟩

/-- What a round of an inner loop knows. -/
structure LP (B : Nat) (w : World) (b bw bb cw : Nat) (X : List UInt8) (g : Nat → List UInt8) (hv : Value) (n : Nat) (i : Value) (wr : World) : Prop where
  ex : ∃ (k : Nat) (v' : Value), k ≤ n ∧ i = .int .i64 (k : Int) ∧ St B wr b bw bb cw v' (X ++ g k) hv ∧ Below B w wr

/-- What a round of the outer loop knows. -/
structure LO (B : Nat) (w : World) (b bw bb cw : Nat) (g : Nat → List UInt8) (n : Nat) (hv i : Value) (wr : World) : Prop where
  ex : ∃ (k : Nat) (v' : Value), k ≤ n ∧ i = .int .i64 (k : Int) ∧ St B wr b bw bb cw v' (g k) hv ∧ Below B w wr

/-- appendRuleHeading at the cut heading. -/
theorem heading_st {B : Nat} {w : World} {b bw bb cw : Nat} {v : Value} {xs : List UInt8} {ho : Option Addr} {hn hc : Nat} (h : St B w b bw bb cw v xs (.slice ho hn hc)) (hcut : Own0 w (.slice ho 0 hc) []) (hB : 1 < B) (htab : Tab w) (n : Nat) (hn1 : n ≤ 1000000000) (a : Int) (ha : a = (n : Int)) :
    Calls Tryd.prog 24 #[.slice ho 0 hc, .int .i64 a] w fun e w' => ∃ hv', e = .returned hv' ∧ St B w' b bw bb cw v xs hv' ∧ Own0 w' hv' (sPre.data.toList ++ Lib.decDigits n ++ sPost.data.toList) ∧ Below B w w' := by
  subst ha
  have hob : (Value.slice ho 0 hc).ownBlock = (Value.slice ho hn hc).ownBlock := by cases ho <;> rfl
  refine (heading_any n hn1 _ w hcut (fun e => ?_) htab).mono ?_
  · have := (h.hup 1 (hob.symm.trans e)).1
    omega
  · rintro e w' ⟨hv', rfl, h1, h2, h3⟩
    have hs := h.head_step h1 (by rw [← hob]; exact h2) (by unfold Later at h3 ⊢; rw [← hob]; exact h3)
    exact ⟨hv', rfl, hs.1, h1, hs.2⟩

set_option maxRecDepth 100000 in
set_option maxHeartbeats 12800000 in
/-- (*Trace).WriteTo. -/
theorem wto_any (B tb rb b : Nat) (a0 : Option Addr) (n0 c0 : Nat) (al : Option Addr) (L cl : Nat) (a2 : Option Addr) (n2 c2 : Nat) (R : Nat) (a5 : Option Addr) (n5 c5 : Nat) (f1 : Value)
    (input lines : List UInt8) (zs : List Int) (ms : List Sl) (zss : List (List Int)) (add : List Bool) (outs : List Int) (w : World)
    (hA : TraceIs B w tb rb a0 n0 c0 al L cl a2 n2 c2 R a5 n5 c5 f1 input lines zs ms zss add outs) (hbuf : BufIs w b (.slice none 0 0) []) (hbB : B ≤ b) (hB1 : 1 < B) (htab : Tab w) (hT : (listing input lines zs zss add outs R).length ≤ 16777216) :
    Calls Tryd.prog 19 #[.pointer (some ⟨tb, 0, none⟩), .iface 54 (.pointer (some ⟨b, 0, none⟩))] w fun e w' => e = .returned (.tuple #[.int .i64 ((listing input lines zs zss add outs R).length : Int), .nilIface]) ∧ ∃ v', BufIs w' b v' (listing input lines zs zss add outs R) ∧ (∀ g, v'.ownBlock = some g → B ≤ g) ∧ Below B w w' := by
  have hbl := hbuf.lt
  have hBw : B ≤ w.heap.size := by omega
  have HA := Lib.hid hA
  have HT := Lib.hid hT
  have HTAB := Lib.hid htab
  have hRl := hA.rlim
  have HL0 : Hid ((([] : List UInt8) ++ sIn.data.toList).length + n0 ≤ 1000000000) := by
    show _ ≤ _
    have h1 := headTo_le input lines zs zss add outs (Nat.zero_le R)
    simp only [headTo, List.length_append] at h1
    rw [List.nil_append, ← hA.in1]
    omega
  have hBUF : ∀ o, Hid (BufIs (w.alloc o) b (.slice none 0 0) []) := fun o => hbuf.keep (Below.heap_alloc _ _ _ hbl) (fun g hg => by simp [Value.ownBlock] at hg)
  have hC : Hid (CntIs (w.alloc (.cells #[.iface 54 (.pointer (some ⟨b, 0, none⟩)), .int .i64 0] 61)) w.heap.size b ([] : List UInt8).length) := heap_alloc_new w (.cells #[.iface 54 (.pointer (some ⟨b, 0, none⟩)), .int .i64 0] 61)
  clear hA hT htab hbuf
  go_enter Tryd.func19, Tryd.ntmps19
  go_wp2_with fail
  refine (new_any b w.heap.size (.slice none 0 0) [] _ (hBUF _).out hC.out (by omega) (by simp [Value.ownBlock])).mono ?_
  rintro e w1 ⟨bw, bb, rfl, hbw, hbb, hP1, hb1⟩
  simp only [World.size_alloc] at hbw hbb hb1
  have hbB1 : Below w.heap.size w w1 := ((Below.refl _ w).alloc (Nat.le_refl _) _).trans (hb1.mono (by omega))
  obtain ⟨cw, hcwd⟩ : ∃ cw, cw = w.heap.size := ⟨_, rfl⟩
  have hS1 : Hid (St B w1 b bw bb cw (.slice none 0 0) [] (.slice none 0 0)) := by
    refine ⟨⟨[], [], rfl, by rw [hcwd]; exact hP1⟩, ?_, ⟨[], ⟨rfl, Or.inl ⟨rfl, rfl⟩⟩⟩, fun g hg => by simp [Value.ownBlock] at hg, by have := hbB1.size; omega⟩
    rintro k (rfl | rfl | rfl | rfl | hk)
    · omega
    · omega
    · omega
    · omega
    · simp [Value.ownBlock] at hk
  have HB1 : Hid (Below B w w1) := hbB1.mono hBw
  clear hP1 hb1 hbB1 hC hBUF
  rw [← hcwd]
  have HCW := Lib.hid hcwd
  clear hcwd
  go_wp2_with fail
  refine (wstr_st hS1.out sIn 45 (by decide) (by omega) (by simp)).mono ?_
  rintro e w2 ⟨rfl, v2, hS2, hb2⟩
  have HB2 := Lib.hid (HB1.out.trans hb2)
  have HS2 := Lib.hid hS2
  clear hS1 HB1 hb2 hS2
  have t0 := (HA.out.below HB2.out).t0
  go_wp2_with fail
  refine ((HA.out.below HB2.out).write_in HS2.out HL0.out).mono ?_
  rintro e w3 ⟨rfl, v3, hS3, hb3⟩
  have HB3 := Lib.hid (HB2.out.trans hb3)
  have HS3 : Hid (St B w3 b bw bb cw v3 (headTo input lines zs zss add 0) (.slice none 0 0)) := by
    show St _ _ _ _ _ _ _ _ _
    simpa [headTo] using hS3
  clear HS2 HB2 hb3 hS3 t0
  have t4 := (HA.out.below HB3.out).t4
  go_wp2
  go_loopw [8, 34] (fun hv i wr => LO B w b bw bb cw (headTo input lines zs zss add) R hv i wr) (fun _ i _ => R - (intOf i).toNat)
  case atStart => exact ⟨⟨0, v3, by omega, rfl, HS3.out, HB3.out⟩⟩
  case round =>
    obtain ⟨i, v', hi, rfl, hS, hb⟩ := hrel
    have HS := Lib.hid hS
    have HB := Lib.hid hb
    clear hS hb HS3 HB3 t4
    by_cases hlt : i < R
    · obtain ⟨ys, hys⟩ := HS.out.head
      obtain ⟨ho, hn, hc, e, hcut, hob, hhn, hhc, hsl⟩ := head_cut hys
      subst e
      have HTR : Hid (Tab wr) := HTAB.out.keep (HB.out.block 1 hB1)
      have HM := Lib.hid (mid_len input lines zs zss add outs R i (i + 1) hlt (Nat.le_refl _) HT.out)
      unfold maxLen at hhc
      have HCUT := Lib.hid hcut
      clear hob hys hcut
      go_wp2_with fail
      refine (heading_st HS.out HCUT.out hB1 HTR.out (i + 1) (by omega) _ (by omega)).mono ?_
      rintro e wa ⟨hv', rfl, hSa, hOa, hba⟩
      obtain ⟨ha, hac, ehv, har1, har2, har3, har4, har5⟩ := hOa.own.rd
      obtain ⟨hd, hHD⟩ : ∃ hd, hd = sPre.data.toList ++ Lib.decDigits (i + 1) ++ sPost.data.toList := ⟨_, rfl⟩
      have hdl : hd.length = 45 + (Lib.decDigits (i + 1)).length := by rw [hHD, List.length_append, List.length_append, lenPre, lenPost]; omega
      rw [← hHD] at har1 har2 ehv
      obtain ⟨dl, hdl2⟩ : ∃ dl, hd.length = dl := ⟨_, rfl⟩
      rw [hdl2] at har1 har2 ehv hdl
      have HHD := Lib.hid hHD
      have hfar : FarS (PS b bw bb cw v') ha dl := fun b' o' e _ k => (hSa.hup b' (har5 b' o' none e).2.2).2 k
      have HFAR := Lib.hid hfar
      have HRD := Lib.hid har1
      have HDL := Lib.hid hdl
      have HDL2 := Lib.hid hdl2
      have HNIL := Lib.hid har4
      have HAC := Lib.hid har2
      have HACM := Lib.hid har3
      subst ehv
      have HSa := Lib.hid hSa
      have HBa := Lib.hid (HB.out.trans hba)
      have hl1 : Hid ((headTo input lines zs zss add i).length + dl ≤ 1000000000) := by
        show _ ≤ _
        have h1 := HM.out.1
        omega
      clear hHD hdl hdl2 hfar har1 har2 har3 har4 har5 hSa hba hOa HS HB HCUT HTR hsl
      go_wp2_with fail
      refine (write_st HSa.out hd ha dl hac HDL2.out HAC.out HACM.out HNIL.out HRD.out HFAR.out hl1.out).mono ?_
      rintro e wb ⟨rfl, vb, hSb, hbb2⟩
      have HSb := Lib.hid hSb
      have HBb := Lib.hid (HBa.out.trans hbb2)
      clear hSb hbb2 HSa HBa HFAR HRD
      have t0 := (HA.out.below HBb.out).t0
      have hl2 : Hid ((headTo input lines zs zss add i ++ hd).length + n0 ≤ 1000000000) := by
        show _ ≤ _
        have h1 := HM.out.1
        have h2 := HDL.out
        have h3 := HDL2.out
        have h4 := HA.out.in1
        rw [List.length_append]
        omega
      go_wp2_with fail
      refine ((HA.out.below HBb.out).write_in HSb.out hl2.out).mono ?_
      rintro e wc ⟨rfl, vc, hSc, hbc⟩
      obtain ⟨X, hX⟩ : ∃ X, X = headTo input lines zs zss add i ++ hd ++ input := ⟨_, rfl⟩
      rw [← hX] at hSc
      have HX := Lib.hid hX
      have HXL : Hid (X.length = (headTo input lines zs zss add i).length + 45 + (Lib.decDigits (i + 1)).length + input.length) := by
        show _ = _
        have h2 := HDL.out
        have h3 := HDL2.out
        rw [hX, List.length_append, List.length_append]
        omega
      have HSc := Lib.hid hSc
      have HBc := Lib.hid (HBb.out.trans hbc)
      clear hX hSc hbc HSb HBb t0 hl1 hl2
      have t4 := (HA.out.below HBc.out).t4
      have i1 : (i : Int) + 1 ≤ (R : Int) := by omega
      have i2 : IntKind.i64.wrap ((i : Int) + 1) = (i : Int) + 1 := by rw [IntKind.wrap_i64]; omega
      have hRm : R ≤ 2 ^ 63 - 1 := by omega
      go_wp2
      go_loopw [59] (fun j wr => LP B w b bw bb cw X (madeTo lines zs zss) (.slice ha dl hac) (i + 1) j wr) (fun j _ => i + 1 - (intOf j).toNat)
      case atStart => exact ⟨⟨0, vc, by omega, rfl, by rw [show madeTo lines zs zss 0 = [] from rfl, List.append_nil]; exact HSc.out, HBc.out⟩⟩
      case round =>
        obtain ⟨k, vd, hk, rfl, hSd, hbd⟩ := hrel
        have HSd := Lib.hid hSd
        have HBd := Lib.hid hbd
        clear hSd hbd HSc HBc t4
        by_cases hlt2 : k < i + 1
        · have c0 := (HA.out.below HBd.out).rules.c0 k (by omega)
          have c1 := (HA.out.below HBd.out).rules.c1 k (by omega)
          obtain ⟨ma, mn, mc, hms⟩ : ∃ ma mn mc, cS ms k = .slice ma mn mc := ⟨_, _, _, rfl⟩
          rw [hms] at c0
          have HMS := Lib.hid hms
          have hrb : rb < wr.heap.size := World.block_lt_of_cell? wr _ c0
          generalize hav : add.getD k false = av at c1
          have HLk : Hid ((X ++ madeTo lines zs zss k).length + (linesOf lines zs (zss.getD k [])).length ≤ 1000000000) := by
            show _ ≤ _
            have h1 := HM.out
            have h2 := (mid_len input lines zs zss add outs R i (k + 1) hlt hlt2 HT.out).1
            have h3 := HXL.out
            rw [show madeTo lines zs zss (k + 1) = madeTo lines zs zss k ++ linesOf lines zs (zss.getD k []) from rfl, List.length_append] at h2
            rw [List.length_append]
            omega
          clear hms hav
          go_wp2_with fail
          have hWb : ∀ o, Below wr.heap.size wr (wr.alloc o) := fun o => (Below.refl _ _).alloc (Nat.le_refl _) o
          refine (((HA.out.below HBd.out).below ((hWb _).mono HSd.out.size)).lines_at (HSd.out.below (hWb _)) k (by omega) HLk.out _ HMS.out).mono ?_
          rintro e we ⟨rfl, ve, hSe, hbe⟩
          have HSe : Hid (St B we b bw bb cw ve (X ++ madeTo lines zs zss (k + 1)) (.slice ha dl hac)) := by
            show St _ _ _ _ _ _ _ _ _
            rw [show madeTo lines zs zss (k + 1) = madeTo lines zs zss k ++ linesOf lines zs (zss.getD k []) from rfl, ← List.append_assoc]
            exact hSe
          have HBe := Lib.hid ((HBd.out.trans ((hWb _).mono HSd.out.size)).trans hbe)
          clear hSe hbe HSd HBd hWb c0 c1 hrb
          go_wp2
          go_roundw
          case rel => exact ⟨⟨k + 1, ve, by omega, by go_num, HSe.out, HBe.out⟩⟩
          case measure => simp [intOf]; omega
        · obtain rfl : k = i + 1 := by omega
          go_wp2_with fail
          refine (wstr_st HSd.out sOut 17 (by decide) (by omega) (by
            have h1 := HM.out.1
            have h3 := HXL.out
            rw [List.length_append]
            omega)).mono ?_
          rintro e we ⟨rfl, ve, hSe, hbe⟩
          obtain ⟨Y, hY⟩ : ∃ Y, Y = X ++ madeTo lines zs zss (i + 1) ++ sOut.data.toList := ⟨_, rfl⟩
          rw [← hY] at hSe
          have HY := Lib.hid hY
          have HYL : Hid (Y.length = X.length + (madeTo lines zs zss (i + 1)).length + 17) := by
            show _ = _
            rw [hY, List.length_append, List.length_append, lenOut]
          have HSe := Lib.hid hSe
          have HBe := Lib.hid (HBd.out.trans hbe)
          clear hSe hbe HSd HBd hY
          have t4 := (HA.out.below HBe.out).t4
          go_wp2
          go_loopw [79] (fun j wr => LP B w b bw bb cw Y (issuedTo lines zs zss add) (.slice ha dl hac) (i + 1) j wr) (fun j _ => i + 1 - (intOf j).toNat)
          case atStart => exact ⟨⟨0, ve, by omega, rfl, by rw [show issuedTo lines zs zss add 0 = [] from rfl, List.append_nil]; exact HSe.out, HBe.out⟩⟩
          case round =>
            obtain ⟨k, vd, hk, rfl, hSd, hbd⟩ := hrel
            have HSd := Lib.hid hSd
            have HBd := Lib.hid hbd
            clear hSd hbd HSe HBe t4
            by_cases hlt2 : k < i + 1
            · have c0 := (HA.out.below HBd.out).rules.c0 k (by omega)
              have c1 := (HA.out.below HBd.out).rules.c1 k (by omega)
              obtain ⟨ma, mn, mc, hms⟩ : ∃ ma mn mc, cS ms k = .slice ma mn mc := ⟨_, _, _, rfl⟩
              rw [hms] at c0
              have HMS := Lib.hid hms
              have hrb : rb < wr.heap.size := World.block_lt_of_cell? wr _ c0
              generalize hav : add.getD k false = av at c1
              have HAV := Lib.hid hav
              have hWb : ∀ o, Below wr.heap.size wr (wr.alloc o) := fun o => (Below.refl _ _).alloc (Nat.le_refl _) o
              cases av with
              | true =>
                have HIS : Hid (issuedTo lines zs zss add (k + 1) = issuedTo lines zs zss add k) := by
                  show issuedTo lines zs zss add k ++ (if add.getD k false then [] else _) = _
                  rw [HAV.out]; simp
                clear hms hav
                go_wp2
                go_roundw
                case rel => exact ⟨⟨k + 1, vd, by omega, by go_num, by rw [HIS.out]; exact HSd.out.below (hWb _), HBd.out.trans ((hWb _).mono HSd.out.size)⟩⟩
                case measure => simp [intOf]; omega
              | false =>
                have HIS : Hid (issuedTo lines zs zss add (k + 1) = issuedTo lines zs zss add k ++ linesOf lines zs (zss.getD k [])) := by
                  show issuedTo lines zs zss add k ++ (if add.getD k false then [] else _) = _
                  rw [HAV.out]; simp
                have HLk : Hid ((Y ++ issuedTo lines zs zss add k).length + (linesOf lines zs (zss.getD k [])).length ≤ 1000000000) := by
                  show _ ≤ _
                  have h1 := HM.out
                  have h2 := (mid_len input lines zs zss add outs R i (k + 1) hlt hlt2 HT.out)
                  have h3 := HXL.out
                  have h4 := HYL.out
                  rw [HIS.out, List.length_append] at h2
                  rw [List.length_append]
                  omega
                clear hms hav
                go_wp2_with fail
                refine (((HA.out.below HBd.out).below ((hWb _).mono HSd.out.size)).lines_at (HSd.out.below (hWb _)) k (by omega) HLk.out _ HMS.out).mono ?_
                rintro e we ⟨rfl, ve, hSe, hbe⟩
                have HSe : Hid (St B we b bw bb cw ve (Y ++ issuedTo lines zs zss add (k + 1)) (.slice ha dl hac)) := by
                  show St _ _ _ _ _ _ _ _ _
                  rw [HIS.out, ← List.append_assoc]
                  exact hSe
                have HBe := Lib.hid ((HBd.out.trans ((hWb _).mono HSd.out.size)).trans hbe)
                clear hSe hbe HSd HBd hWb c0 c1 hrb
                go_wp2
                go_roundw
                case rel => exact ⟨⟨k + 1, ve, by omega, by go_num, HSe.out, HBe.out⟩⟩
                case measure => simp [intOf]; omega
            · obtain rfl : k = i + 1 := by omega
              go_wp2
              go_roundw
              case rel =>
                refine ⟨⟨i + 1, vd, by omega, by go_num, ?_, HBd.out⟩⟩
                have e : headTo input lines zs zss add (i + 1) = Y ++ issuedTo lines zs zss add (i + 1) := by
                  rw [HY.out, HX.out, HHD.out]
                  simp only [headTo, part, List.append_assoc]
                rw [e]
                exact HSd.out
              case measure => simp [intOf]; omega
    · obtain rfl : i = R := by omega
      have HLL : Hid ((headTo input lines zs zss add i).length + 14 + (linesOf lines zs outs).length ≤ 16777216) := by
        show _ ≤ _
        have h1 := HT.out
        simp only [listing, List.length_append, lenFin] at h1
        exact h1
      have HLA : Hid ((headTo input lines zs zss add i).length + 14 ≤ 1000000000) := by
        show _ ≤ _
        have := HLL.out
        omega
      have HLB : Hid ((headTo input lines zs zss add i ++ sFin.data.toList).length + (linesOf lines zs outs).length ≤ 1000000000) := by
        show _ ≤ _
        have := HLL.out
        rw [List.length_append, lenFin]
        omega
      go_wp2_with fail
      refine (wstr_st HS.out sFin 14 (by decide) (by omega) HLA.out).mono ?_
      rintro e we ⟨rfl, ve, hSe, hbe⟩
      have HSe := Lib.hid hSe
      have HBe := Lib.hid (HB.out.trans hbe)
      clear hSe hbe HS HB
      have t5 := (HA.out.below HBe.out).t5
      go_wp2_with fail
      refine ((HA.out.below HBe.out).lines_out HSe.out HLB.out).mono ?_
      rintro e wf ⟨rfl, vf, hSf, hbf⟩
      have HSf : Hid (St B wf b bw bb cw vf (listing input lines zs zss add outs i) _) := hSf
      have HBf := Lib.hid (HBe.out.trans hbf)
      clear hSf hbf HSe HBe t5
      obtain ⟨bs, ps, epx, hpx⟩ := HSf.out.pipe
      have HPX := Lib.hid hpx
      have HEP := Lib.hid epx
      have HLC : Hid (bs.length + ps.length ≤ 1000000000) := by
        show _ ≤ _
        have h1 := HT.out
        rw [← epx, List.length_append] at h1
        omega
      clear hpx epx
      go_wp2_with fail
      refine (flush_any b bw bb cw vf bs ps _ HPX.out HLC.out).mono ?_
      rintro e wg ⟨rfl, vg, hPg, hFg, hLg⟩
      have HPG := Lib.hid hPg
      have hcnt : wg.cell? ⟨cw, 1, none⟩ = some (.int .i64 ((listing input lines zs zss add outs i).length : Int)) := by
        have h1 := HPG.out.cnt
        rw [HEP.out] at h1
        unfold CntIs at h1
        rw [Lib.cell_of_heap h1]; rfl
      have hst := HSf.out.step ⟨bs ++ ps, [], List.append_nil _, HPG.out⟩ hFg hLg
      have HST := Lib.hid hst
      clear hst hPg hFg hLg
      go_wp2
      go_ret2
      exact ⟨rfl, vg, by rw [← HEP.out]; exact HPG.out.buf, fun g hg => HST.out.1.up g (Or.inr (Or.inr (Or.inr (Or.inr hg)))), HBf.out.trans HST.out.2⟩
end Go.Proofs.Qxb6625470aDoor

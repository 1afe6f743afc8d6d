import Derived.Test.Qxb6625470aDoorLaid
import Derived.Test.Qxb6625470aDoorCutAt
namespace Go.Proofs.Qxb6625470aDoor
open Go.ChangeShapes Go.WideShapes Go.ChangeAt Go.RowKit
set_option linter.unusedVariables false

theorem rows_in {H : Type} {enc : TypeId × Value → H} {W : World} {d : DataW H} {ps : List MemPlace} {a : Option Addr} {n c : Nat} (h : DataW.Trod enc Tryd.prog W 0 (fun _ => true) true 24 (.slice a n c) d ps) : SlIn a n c := by
  obtain ⟨fuel, hf⟩ := h
  rcases Go.Deep.open_int_rows Tryd.underlying24 Tryd.underlying23 Tryd.underlying3 cells23 cells3 hf with ⟨hcs, hx⟩ | ⟨a', len', cap', A, L, C, Z, hcs, _, hl, hm, hx, hcell⟩
  · simp [Value.cells] at hcs
    obtain ⟨rfl, rfl, rfl⟩ := hcs
    exact Or.inl ⟨rfl, rfl, rfl⟩
  · simp [Value.cells] at hcs
    obtain ⟨rfl, rfl, rfl⟩ := hcs
    exact Or.inr ⟨_, rfl⟩

set_option maxRecDepth 100000 in
theorem cut_lifted (os : Os) (started : os.Started) (H : Type) (enc : TypeId × Value → H) :
    ReturnsInHanded {} Tryd.checked os 4 .any (fun w args => (Rows.fnTraceListingCutAtRuleSpec.pre enc Tryd.prog Tryd.f4 Rows.fnTraceListingCutAtRuleRow.domain false w args ∧ laidMetH Tryd.prog Rows.fnTraceListingCutAtRuleRow.laid w) ∧ sizedMet enc Tryd.prog Tryd.f4 (OpenSpec.ofChange Rows.fnTraceListingCutAtRuleSpec) false w args)
      (Rows.fnTraceListingCutAtRuleSpec.post enc Tryd.prog Tryd.f4 false true false false) := by
  refine returnsInHanded_of_change_and (C := Tryd.checked) (X := fun w _ => laidMetH Tryd.prog Rows.fnTraceListingCutAtRuleRow.laid w) (fun _ _ _ hh h => h.of_heap hh) ownKn started (by kernel_rfl) Tryd.func4
    (ChangeSpec.witness_shaped (enc := enc) (C := Tryd.checked) (os := os) (X := fun w _ => laidMetH Tryd.prog Rows.fnTraceListingCutAtRuleRow.laid w) false (World.doorLaid Tryd.prog 62 os) #[.slice none 0 0, .slice none 0 0, .slice none 0 0, .slice none 0 0, .slice none 0 0, .slice none 0 0, .int .i64 0] 8 rfl (World.shaped_of_RefB (by kernel_rfl) (by kernel_rfl)) (by kernel_rfl) (by kernel_rfl) (by kernel_rfl) (door_met os _)) ?_
  intro W base args ds gs before hval0 hW _ _ hL _
  have hval : ∀ (j : Nat) t v, Tryd.f4.params[j]? = some t → args[j]? = some v → Value.okWide Tryd.prog W .any base t v := hval0
  have hW' := hW
  obtain ⟨p, q, hA0, hV, rfl, hfz, hnd⟩ := hW
  have hA : DataW.TrodAll enc Tryd.prog W 0 (fun _ => true) true Tryd.f4.params.toList args.toList ds p := hA0
  rw [Tryd.params4] at hA hval
  obtain ⟨v0, vs0, d0, ds0, p0, q0, hargs, rfl, rfl, h0, r0⟩ := trodAll_cons hA
  obtain ⟨v1, vs1, d1, ds1, p1, q1, rfl, rfl, rfl, h1, r1⟩ := trodAll_cons r0
  obtain ⟨v2, vs2, d2, ds2, p2, q2, rfl, rfl, rfl, h2, r2⟩ := trodAll_cons r1
  obtain ⟨v3, vs3, d3, ds3, p3, q3, rfl, rfl, rfl, h3, r3⟩ := trodAll_cons r2
  obtain ⟨v4, vs4, d4, ds4, p4, q4, rfl, rfl, rfl, h4, r4⟩ := trodAll_cons r3
  obtain ⟨v5, vs5, d5, ds5, p5, q5, rfl, rfl, rfl, h5, r5⟩ := trodAll_cons r4
  obtain ⟨v6, vs6, d6, ds6, p6, q6, rfl, rfl, rfl, h6, r6⟩ := trodAll_cons r5
  obtain ⟨rfl, rfl, rfl⟩ := trodAll_nil r6
  obtain rfl : args = #[v0, v1, v2, v3, v4, v5, v6] := by apply Array.ext'; simpa using hargs
  obtain ⟨rfl, rfl⟩ := trodVars_none hV
  obtain ⟨a0, n0, c0, rfl⟩ := okWide_slice Tryd.underlying22 (hval 0 22 v0 rfl rfl)
  obtain ⟨al, L, cl, rfl⟩ := okWide_slice Tryd.underlying22 (hval 1 22 v1 rfl rfl)
  obtain ⟨a2, n2, c2, rfl⟩ := okWide_slice Tryd.underlying23 (hval 2 23 v2 rfl rfl)
  obtain ⟨am, R, cm, rfl⟩ := okWide_slice Tryd.underlying24 (hval 3 24 v3 rfl rfl)
  obtain ⟨a4, n4, c4, rfl⟩ := okWide_slice Tryd.underlying25 (hval 4 25 v4 rfl rfl)
  obtain ⟨a5, n5, c5, rfl⟩ := okWide_slice Tryd.underlying23 (hval 5 23 v5 rfl rfl)
  obtain ⟨z, rfl, w6⟩ := open_int Tryd.underlying3 (hval 6 3 v6 rfl rfl) h6
  obtain ⟨input, i0, i1, i2, i3, i4⟩ := opn_bytes h0
  obtain ⟨lines, l0, l1, l2, l3, l4⟩ := opn_bytes h1
  obtain ⟨zs, z0, z1, z2, z3, z4⟩ := opn_ints h2
  obtain ⟨ms, zss, m0, m1, m2⟩ := opn_rows h3
  have m3 := rows_in h3
  obtain ⟨add, b0, b1, b2, b3, b4⟩ := opn_bools h4
  obtain ⟨outs, o0, o1, o2, o3, o4⟩ := opn_ints h5
  have hI : In W a0 n0 c0 al L cl a2 n2 c2 am R cm a4 n4 c4 a5 n5 c5 input lines zs ms zss add outs := ⟨i0, i1, i2, i3, i4, l0, l1, l2, l3, l4, z0, z1, z2, z3, z4, m0, m1, m2, b0, b1, b2, b3, b4, o0, o1, o2, o3, o4⟩
  clear hA0 hval0
  simp only [List.append_nil] at hW'
  refine (cut_any a0 n0 c0 al L cl a2 n2 c2 am R cm a4 n4 c4 a5 n5 c5 z input lines zs ms zss add outs W hI m3 (tab_of_laid hL)).mono fun e W' ⟨he, hb⟩ => ?_
  subst he
  have hlt : ∀ x ∈ p0 ++ (p1 ++ (p2 ++ (p3 ++ (p4 ++ (p5 ++ p6))))), x.block < W.heap.size := fun x hx => by simpa using hW'.lt x hx
  have k0 := Below.trod outLaid (by kernel_rfl) (of_decide_eq_true (by kernel_rfl)) h0 hb (fun x hx => hlt x (by simp [hx]))
  have k1 := Below.trod outLaid (by kernel_rfl) (of_decide_eq_true (by kernel_rfl)) h1 hb (fun x hx => hlt x (by simp [hx]))
  have k2 := Below.trod outLaid (by kernel_rfl) (of_decide_eq_true (by kernel_rfl)) h2 hb (fun x hx => hlt x (by simp [hx]))
  have k3 := Below.trod outLaid (by kernel_rfl) (of_decide_eq_true (by kernel_rfl)) h3 hb (fun x hx => hlt x (by simp [hx]))
  have k4 := Below.trod outLaid (by kernel_rfl) (of_decide_eq_true (by kernel_rfl)) h4 hb (fun x hx => hlt x (by simp [hx]))
  have k5 := Below.trod outLaid (by kernel_rfl) (of_decide_eq_true (by kernel_rfl)) h5 hb (fun x hx => hlt x (by simp [hx]))
  have k6 := Below.trod outLaid (by kernel_rfl) (of_decide_eq_true (by kernel_rfl)) h6 hb (fun x hx => hlt x (by simp [hx]))
  exact ⟨_, rfl, _, _, _, [], _, [], hW', trodAll_cons_mk (shut_bool Tryd.underlying4 _) trodAll_mk0, trodAll_cons_mk k0 (trodAll_cons_mk k1 (trodAll_cons_mk k2 (trodAll_cons_mk k3 (trodAll_cons_mk k4 (trodAll_cons_mk k5 (trodAll_cons_mk k6 trodAll_mk0)))))), rfl, hb.frame _, fun h => by cases h⟩

theorem fnTraceListingCutAtRule_holds : Rows.FnTraceListingCutAtRuleSaid :=
  OpenClaim.holds_of_wide 4 Tryd.f4 rfl rfl rfl rfl rfl rfl rfl ⟨rfl, rfl, rfl, rfl, rfl⟩ rfl rfl rfl rfl rfl (by kernel_rfl) Tryd.func4 (by kernel_rfl)
    (of_decide_eq_true (by kernel_rfl)) (by unfold Func.isWrapper; first | (rw [if_pos (by decide +kernel)]; kernel_rfl) | (rw [if_neg (by decide +kernel)]; exact ⟨rfl, rfl⟩))
    (fun os started H enc _ => cut_lifted os started H enc)
end Go.Proofs.Qxb6625470aDoor

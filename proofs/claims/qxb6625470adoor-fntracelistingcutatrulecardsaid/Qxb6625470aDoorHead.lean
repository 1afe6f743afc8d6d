import Derived.Test.Qxb6625470aDoorFrame
import Derived.Test.Qxb6625470aDoorShelf
import Derived.Test.Qxb6625470aDoorPlain
import Derived.Test.Qxb6625470aDoorRows
import Derived.Lib.Walk
import Derived.Lib.ItoaWalk
import Derived.Lib.ItoaMem
import Derived.Lib.AppendIntMem
import Derived.BigCall
import Derived.BigGuard
namespace Go.Proofs.Qxb6625470aDoor
open Go.RowKit Go.Sort
set_option linter.unusedVariables false
set_option linter.unusedSimpArgs false

/-- An owned slice whose row bears no mark. -/
def Own0 (w : World) (v : Value) (xs : List UInt8) : Prop := w.ownsRow 0 5 1 v xs.length (Lib.byteCells xs)

theorem Own0.own {w : World} {v : Value} {xs : List UInt8} (h : Own0 w v xs) : Own w v xs := Own.of_rows h

theorem run_appS0 (w : World) (ty : TypeId) (v : Value) (xs : List UInt8) (hown : Own0 w v xs) (s : ByteArray) (hlim : xs.length + s.size ≤ 140737488355328) :
    ∃ v' w', (Builtin.append_ #[22, 9] ty #[v, .string s]).run Tryd.prog w = .ok v' w' ∧ Own0 w' v' (xs ++ s.data.toList) ∧ w.grownBy w' v.ownBlock ∧ (v'.ownBlock = v.ownBlock ∨ v'.ownBlock = some w.heap.size) := by
  obtain ⟨i, hi, hz0, hz1, hz2⟩ := info_parts Tryd.info5
  obtain ⟨v', w', hr, h1, h2, h3⟩ := run_appS w ty v xs hown.own s hlim
  obtain ⟨v2, w2, hr2, k1, k2, k3⟩ := Lib.run_append_own_string (P := Tryd.prog) w 0 22 9 ty 5 i Tryd.underlying22 Tryd.underlying9 hi hz0 hz1 hz2 v xs.length (Lib.byteCells xs) hown s (by unfold maxLen; omega) hlim (Nat.zero_le _)
  rw [hr] at hr2
  injection hr2 with e1 e2
  subst e1 e2
  refine ⟨v', w', hr, ?_, h2, h3⟩
  unfold Own0
  rw [Lib.byteCells_append, List.length_append, ← Lib.size_eq]
  exact k1

theorem wp_appS0 {w : World} {ops : Array Oper} {rest : List Oper} {o : Oper} {a : Act} {Q : Exit → Act → World → Prop} (hgd : o.guard = none) (s x : Operand)
    (ho : o.op = .call { callee := .builtin .append, args := #[s, x], argTypes := #[22, 9] })
    (v : Value) (xs : List UInt8) (hs : a.eval s = v) (hown : Own0 w v xs) (str : ByteArray) (hx : a.eval x = .string str) (hlim : xs.length + str.size ≤ 140737488355328)
    (h : ∀ v' w', Own0 w' v' (xs ++ str.data.toList) → w.grownBy w' v.ownBlock → (v'.ownBlock = v.ownBlock ∨ v'.ownBlock = some w.heap.size) → wpList Tryd.prog ops Q rest (a.put o.dst v') w') :
    wpList Tryd.prog ops Q (o :: rest) a w := by
  refine wpList_plain hgd fun K hK => ?_
  obtain ⟨v', w', hr, h2, h3, h5⟩ := run_appS0 w o.type v xs hown str hlim
  unfold Oper.wp execOp
  simp only [ho, resolve, invoke, builtin, Sem.run_bind, Sem.run_pure, Result.andThen_ok, List.map_toArray, List.map_cons, List.map_nil, hs, hx, hr]
  exact hK _ _ (h v' w' h2 h3 h5)

set_option maxRecDepth 100000 in
theorem run_app0 (w : World) (ty : TypeId) (v : Value) (xs : List UInt8) (hown : Own0 w v xs) (ad : Addr) (m c : Nat) (news : List UInt8) (hl : news.length = m) (hnews : ∀ j u, (Lib.byteCells news)[j]? = some u → w.cell? (ad.add j) = some u) (hlim : xs.length + m ≤ 140737488355328) :
    ∃ v' w', (Builtin.append_ #[22, 22] ty #[v, .slice (some ad) m c]).run Tryd.prog w = .ok v' w' ∧ Own0 w' v' (xs ++ news) ∧ w.grownBy w' v.ownBlock ∧ (v'.ownBlock = v.ownBlock ∨ v'.ownBlock = some w.heap.size) := by
  obtain ⟨i, hi, hz0, hz1, hz2⟩ := info_parts Tryd.info5
  have hsrc : Src w (some ad) m news := by
    refine ⟨hl, fun h => ?_, fun ad' e j u hu => ?_⟩
    · cases h
    · obtain rfl := Option.some.inj e
      exact hnews j u hu
  obtain ⟨v', w', hr, h1, h2, h3⟩ := run_app w ty v xs hown.own (some ad) m c news hsrc (fun h => by cases h) hlim
  obtain ⟨v2, w2, hr2, k1, k2, k3⟩ := run_append_own (P := Tryd.prog) w 0 22 ty 5 i (.int .u8 0) 1 1 Tryd.underlying22 hi hz0 hz1 hz2 rfl (by decide) v xs.length (Lib.byteCells xs) hown ad m c (Lib.byteCells news) (by rw [Lib.byteCells_length, hl, Nat.mul_one]) hnews (Lib.byteCells_one _) (by unfold maxLen; omega) (by omega) (Nat.zero_le _)
  rw [hr] at hr2
  injection hr2 with e1 e2
  subst e1 e2
  refine ⟨v', w', hr, ?_, h2, h3⟩
  unfold Own0
  rw [Lib.byteCells_append, List.length_append, hl]
  exact k1

theorem wp_app0 {w : World} {ops : Array Oper} {rest : List Oper} {o : Oper} {a : Act} {Q : Exit → Act → World → Prop} (hgd : o.guard = none) (s x : Operand)
    (ho : o.op = .call { callee := .builtin .append, args := #[s, x], argTypes := #[22, 22] })
    (v : Value) (xs : List UInt8) (hs : a.eval s = v) (hown : Own0 w v xs) (ad : Addr) (m c : Nat) (news : List UInt8) (hx : a.eval x = .slice (some ad) m c) (hl : news.length = m) (hnews : ∀ j u, (Lib.byteCells news)[j]? = some u → w.cell? (ad.add j) = some u) (hlim : xs.length + m ≤ 140737488355328)
    (h : ∀ v' w', Own0 w' v' (xs ++ news) → w.grownBy w' v.ownBlock → (v'.ownBlock = v.ownBlock ∨ v'.ownBlock = some w.heap.size) → wpList Tryd.prog ops Q rest (a.put o.dst v') w') :
    wpList Tryd.prog ops Q (o :: rest) a w := by
  refine wpList_plain hgd fun K hK => ?_
  obtain ⟨v', w', hr, h2, h3, h5⟩ := run_app0 w o.type v xs hown ad m c news hl hnews hlim
  unfold Oper.wp execOp
  simp only [ho, resolve, invoke, builtin, Sem.run_bind, Sem.run_pure, Result.andThen_ok, List.map_toArray, List.map_cons, List.map_nil, hs, hx, hr]
  exact hK _ _ (h v' w' h2 h3 h5)

/-- The powers of ten lie in their table. -/
def tabName : String := Rows.fnTraceListingExactRow.named.getD 1 ""
def Tab (w : World) : Prop := Lib.TabIs Tryd.prog w tabName .u64 Lib.pow10Tab

theorem tabGlobal : Tryd.prog.globalNamed tabName = some 1 := by kernel_rfl

theorem Tab.keep {w w' : World} (h : Tab w) (hk : w'.heap[1]? = w.heap[1]?) : Tab w' := by
  unfold Tab Lib.TabIs World.var? at *
  rw [tabGlobal] at *
  simp only [Option.bind_some] at *
  rw [hk]
  exact h

theorem Tab.lt {w : World} (h : Tab w) : 1 < w.heap.size := by
  unfold Tab Lib.TabIs World.var? at h
  rw [tabGlobal] at h
  simp only [Option.bind_some] at h
  rcases Nat.lt_or_ge 1 w.heap.size with hlt | hge
  · exact hlt
  · rw [Array.getElem?_eq_none hge] at h
    simp at h

theorem numDig (u : Nat) (h1 : 1 ≤ u) (h2 : u < 18446744073709551616) (w : World) (htab : Tab w) :
    Calls Tryd.prog 33 #[.int .u64 u] w fun e w' => e = .returned (.int .i64 (Lib.nDigits u)) ∧ w' = w := Any.internal_strconv_numDigits Tryd.laysM284 u h1 h2 w htab

theorem Own0.keep {w w' : World} {v : Value} {xs : List UInt8} (h : Own0 w v xs) (hk : ∀ k, v.ownBlock = some k → w'.heap[k]? = w.heap[k]?) : Own0 w' v xs := by
  obtain ⟨h0, h⟩ := h
  refine ⟨h0, ?_⟩
  rcases h with h | ⟨g, cap, cur, rfl, h1, hg, r⟩
  · exact Or.inl h
  · exact Or.inr ⟨g, cap, cur, rfl, h1, by rw [hk g rfl]; exact hg, r⟩

theorem Own0.below {w w' : World} {v : Value} {xs : List UInt8} (h : Own0 w v xs) (hb : Below w.heap.size w w') : Own0 w' v xs :=
  h.keep fun k hk => hb.block k (h.own.lt k hk)

set_option maxHeartbeats 6400000 in
set_option maxRecDepth 100000 in
theorem uint_small (u : Nat) (hu : u < 100) (sv : Value) (xs : List UInt8) (w : World) (hown : Own0 w sv xs) (hlim : xs.length ≤ 1000000000) :
    Calls Tryd.prog 31 #[sv, .int .u64 u, .int .i64 10] w (RV fun v w' => Own0 w' v (xs ++ Lib.decDigits u) ∧ w.grownBy w' sv.ownBlock ∧ Later w sv v) := by
  have hlen : (Lib.decDigits u).length ≤ 20 := by
    rw [Lib.decDigits_length]
    by_cases h10 : u < 10
    · rw [Lib.nDigits_small h10]; omega
    · rw [Lib.nDigits_big h10, Lib.nDigits_small (show u / 10 < 10 by omega)]; omega
  have hsz : (⟨(Lib.decDigits u).toArray⟩ : ByteArray).size = (Lib.decDigits u).length := by simp [ByteArray.size]
  go_enter Tryd.func31, Tryd.ntmps31
  go_wp2_with (first
    | (go_at_call 32; refine (Tryd.internal_strconv_small u hu _).mono ?_; rintro e w' ⟨rfl, rfl⟩)
    | (at_builtin; refine wp_appS0 rfl _ _ rfl sv _ rfl hown ⟨(Lib.decDigits u).toArray⟩ rfl (by rw [hsz]; omega) ?_))
  intro v' w1 hown' hgrow hat
  go_wp2
  go_ret
  exact ⟨v', rfl, hown', hgrow, (Later.refl _ _).step (Nat.le_refl _) hat⟩

theorem below_grownBy {w W2 : World} (hb : Below w.heap.size w W2) (row : Option Nat) : w.grownBy W2 row := ⟨hb.os, hb.tape, hb.output, hb.size, fun k hk _ => hb.block k hk⟩

theorem grownBy_trans {w a b : World} {row : Option Nat} (h : w.grownBy a row) (k : a.grownBy b row) : w.grownBy b row :=
  ⟨k.os.trans h.os, k.tape.trans h.tape, k.output.trans h.output, Nat.le_trans h.size k.size, fun i hi hn => (k.block i (Nat.lt_of_lt_of_le hi h.size) hn).trans (h.block i hi hn)⟩

set_option maxHeartbeats 12800000 in
set_option maxRecDepth 100000 in
theorem uint_big (u : Nat) (hu : 100 ≤ u) (hu64 : u < 18446744073709551616) (sv : Value) (xs : List UInt8) (w : World) (hown : Own0 w sv xs) (hlim : xs.length ≤ 1000000000) (htab : Tab w) :
    Calls Tryd.prog 31 #[sv, .int .u64 u, .int .i64 10] w (RV fun v w' => Own0 w' v (xs ++ Lib.decDigits u) ∧ w.grownBy w' sv.ownBlock ∧ Later w sv v) := by
  have hu1 : 1 ≤ u := by omega
  have hnd20 : Lib.nDigits u ≤ 20 := by have := Lib.numDigits_eq u hu1 hu64; split at this <;> omega
  have hal : Tryd.prog.arrayLen 56 = 24 := by kernel_rfl
  have hsl : ∀ W, (Instr.sliceAt 56 (.pointer (some ⟨w.heap.size, 0, none⟩)) none (some (.int .i64 (Lib.nDigits u : Int))) none).run Tryd.prog W = .ok (.slice (some ⟨w.heap.size, 0, none⟩) (Lib.nDigits u) 24) W := fun W => by
    rw [run_sliceAt_array_h W 56 ⟨w.heap.size, 0, none⟩ (by kernel_rfl) .i64 (Lib.nDigits u : Int) (by omega) (by rw [hal]; omega)]
    go_simp
  have hH0 := Lib.holds_zero0 w 56 (Lib.nDigits u) (by omega)
  have hfmt := Tryd.internal_strconv_formatBase10 w.heap.size 0 24 u (Array.replicate (Lib.nDigits u) 0) (w.alloc (.cells Lib.zeros24 56)) hH0 (by rw [Array.size_replicate]; exact Lib.lt_pow_nDigits u) hu64 (by rw [Array.size_replicate]; omega)
  rw [Array.size_replicate] at hfmt
  have HH0 := Lib.hid hH0
  have iu : (100 : Int) ≤ (u : Int) := by omega
  have hw1 := htab.lt
  have htab1 : ∀ o, Tab (w.alloc o) := fun o => htab.keep (Below.heap_alloc _ _ _ hw1)
  have HT := Lib.hid htab1
  clear hH0 hal htab1
  go_enter Tryd.func31, Tryd.ntmps31
  go_wp2_with (first
    | (go_at_call 33; refine (numDig u hu1 hu64 _ (HT.out _)).mono ?_; rintro e w' ⟨rfl, rfl⟩))
  go_at_call 34
  refine hfmt.mono ?_
  rintro e w' ⟨rfl, k, v', dk, rfl, hF⟩
  have hcells : ∀ j u', (Lib.byteCells (Lib.decDigits u))[j]? = some u' → ((putRow (fun (b : UInt8) => Value.int .u8 (b.toNat : Int)) (w.alloc (.cells Lib.zeros24 56)) w.heap.size 0 dk).drewN k).cell? ((⟨w.heap.size, 0, none⟩ : Addr).add j) = some u' := by
    intro j u' hj
    have hjl : j < (Lib.decDigits u).length := by
      have h5 := (List.getElem?_eq_some_iff.1 hj).1
      rwa [Lib.byteCells_length] at h5
    have e5 : (Lib.byteCells (Lib.decDigits u))[j]? = some (Value.int .u8 ((Lib.decDigits u)[j].toNat : Int)) := by simp [Lib.byteCells, hjl]
    rw [e5] at hj
    cases hj
    rw [Lib.row_is_numeral hF j hjl, Lib.add_plain, World.cell?_drewN]
    exact cell?_putRow (fun (b : UInt8) => Value.int .u8 (b.toNat : Int)) _ w.heap.size 0 _ dk HH0.out (by rw [hF.size, Array.size_replicate]) j (by rw [hF.size]; rw [Lib.decDigits_length] at hjl; exact hjl)
  obtain ⟨os, eo⟩ := Lib.fin_at w (.cells Lib.zeros24 56) dk k 0
  have hnx2 : Below w.heap.size w ((putRow (fun (b : UInt8) => Value.int .u8 (b.toNat : Int)) (w.alloc (.cells Lib.zeros24 56)) w.heap.size 0 dk).drewN k) := by rw [eo]; exact Lib.below_grow w.heap.size w (Nat.le_refl _) k os
  generalize (putRow (fun (b : UInt8) => Value.int .u8 (b.toNat : Int)) (w.alloc (.cells Lib.zeros24 56)) w.heap.size 0 dk).drewN k = W2 at hcells hnx2 ⊢
  have hown2 := hown.below hnx2
  have hdl : (Lib.decDigits u).length = Lib.nDigits u := Lib.decDigits_length u
  clear eo HH0 hfmt HT
  go_wp2_with (at_builtin; refine wp_app0 rfl _ _ rfl sv _ rfl hown2 ⟨w.heap.size, 0, none⟩ (Lib.nDigits u) 24 (Lib.decDigits u) rfl hdl hcells (by omega) ?_)
  intro v2 w3 hown' hgrow hat
  go_wp2
  go_ret
  exact ⟨v2, rfl, hown', grownBy_trans (below_grownBy hnx2 _) hgrow, (Later.refl _ _).step hnx2.size hat⟩

set_option maxHeartbeats 6400000 in
set_option maxRecDepth 100000 in
/-- internal AppendInt of a number from 0 on. -/
theorem int_any (u : Nat) (hu64 : u ≤ 1000000000) (sv : Value) (xs : List UInt8) (w : World) (hown : Own0 w sv xs) (hlim : xs.length ≤ 1000000000) (htab : Tab w) :
    Calls Tryd.prog 30 #[sv, .int .i64 u, .int .i64 10] w (RV fun v w' => Own0 w' v (xs ++ Lib.decDigits u) ∧ w.grownBy w' sv.ownBlock ∧ Later w sv v) := by
  have hcall : Calls Tryd.prog 31 #[sv, .int .u64 u, .int .i64 10] w (RV fun v w' => Own0 w' v (xs ++ Lib.decDigits u) ∧ w.grownBy w' sv.ownBlock ∧ Later w sv v) := by
    by_cases h : u < 100
    · exact uint_small u h sv xs w hown hlim
    · exact uint_big u (by omega) (by omega) sv xs w hown hlim htab
  go_enter Tryd.func30, Tryd.ntmps30
  go_wp2_with (go_at_call 31; refine hcall.mono ?_)
  rintro e w' ⟨v', rfl, h⟩
  go_wp2
  go_ret
  exact ⟨v', rfl, h⟩

set_option maxHeartbeats 6400000 in
set_option maxRecDepth 100000 in
/-- strconv.AppendInt of a number from 0 on. -/
theorem pub_any (u : Nat) (hu64 : u ≤ 1000000000) (sv : Value) (xs : List UInt8) (w : World) (hown : Own0 w sv xs) (hlim : xs.length ≤ 1000000000) (htab : Tab w) :
    Calls Tryd.prog 29 #[sv, .int .i64 u, .int .i64 10] w (RV fun v w' => Own0 w' v (xs ++ Lib.decDigits u) ∧ w.grownBy w' sv.ownBlock ∧ Later w sv v) := by
  have hcall := int_any u hu64 sv xs w hown hlim htab
  go_enter Tryd.func29, Tryd.ntmps29
  go_wp2_with (go_at_call 30; refine hcall.mono ?_)
  rintro e w' ⟨v', rfl, h⟩
  go_wp2
  go_ret
  exact ⟨v', rfl, h⟩

set_option maxHeartbeats 6400000 in
set_option maxRecDepth 100000 in
/-- appendRuleHeading. -/
theorem heading_any (n : Nat) (hn : n ≤ 1000000000) (sv : Value) (w : World) (hown : Own0 w sv []) (hne : sv.ownBlock ≠ some 1) (htab : Tab w) :
    Calls Tryd.prog 24 #[sv, .int .i64 (n : Int)] w (RV fun v w' => Own0 w' v (sPre.data.toList ++ Lib.decDigits n ++ sPost.data.toList) ∧ w.grownBy w' sv.ownBlock ∧ Later w sv v) := by
  have hd20 : (Lib.decDigits n).length ≤ 20 := by
    rw [Lib.decDigits_length]
    rcases Nat.eq_zero_or_pos n with h0 | h1
    · subst h0; rw [Lib.nDigits_small (by omega)]; omega
    · have := Lib.numDigits_eq n h1 (by omega); split at this <;> omega
  have HD := Lib.hid hd20
  clear hd20
  have HB1 : Hid (sPre.data.toList.length ≤ 1000000000) := by show _ ≤ _; rw [lenPre]; omega
  have HB2 : Hid ((sPre.data.toList ++ Lib.decDigits n).length + sPost.size ≤ 140737488355328) := by show _ ≤ _; have := HD.out; rw [Lib.size_eq, lenPost, List.length_append, lenPre]; omega
  go_enter Tryd.func24, Tryd.ntmps24
  go_wp2_with (at_builtin; refine wp_appS0 rfl _ _ rfl sv _ rfl hown sPre rfl (by rw [Lib.size_eq, lenPre]; simp) ?_)
  intro v1 w1 hown1 hgr1 hat1
  have htab1 : Tab w1 := htab.keep (hgr1.block 1 htab.lt (fun e => hne e.symm))
  have HO1 := Lib.hid hown1
  have hL1 := (Later.refl w sv).step (Nat.le_refl _) hat1
  clear hown1
  go_wp2_with fail
  refine (pub_any n hn v1 sPre.data.toList w1 HO1.out HB1.out htab1).mono ?_
  rintro e w2 ⟨v2, rfl, hown2, hgr2, hL2⟩
  have HO2 := Lib.hid hown2
  clear hown2
  go_wp2_with (at_builtin; refine wp_appS0 rfl _ _ rfl v2 (sPre.data.toList ++ Lib.decDigits n) rfl HO2.out sPost rfl HB2.out ?_)
  intro v3 w3 hown3 hgr3 hat3
  have HO3 := Lib.hid hown3
  clear hown3
  go_wp2
  go_ret
  refine ⟨v3, rfl, by simpa using HO3.out, ?_, ?_⟩
  · exact grown_chain (grown_chain hgr1 hL1 hgr2) (hL1.trans hgr1.size hL2) hgr3
  · exact ((hL1.trans hgr1.size hL2)).step (Nat.le_trans hgr1.size hgr2.size) hat3

end Go.Proofs.Qxb6625470aDoor

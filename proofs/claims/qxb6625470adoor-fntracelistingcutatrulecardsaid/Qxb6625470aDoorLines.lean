import Derived.Test.Qxb6625470aDoorFrame
namespace Go.Proofs.Qxb6625470aDoor
open Go.RowKit
set_option linter.unusedVariables false
set_option linter.unusedSimpArgs false
attribute [local go_sem] Go.wp_at_zero Go.wp_at_succ

set_option maxRecDepth 100000 in
set_option maxHeartbeats 3200000 in
theorem lines_some (v0 : Value) (xs0 : List UInt8) (bl ol L cl : Nat) (lines : List UInt8) (a2 : Option Addr) (n2 c2 : Nat) (zs : List Int) (ap : Option Addr) (np cp : Nat) (ps : List Int) (w : World)
    (hown : Own w v0 xs0) (hl : Rd w (some ⟨bl, ol, none⟩) L (cU lines)) (hlL : lines.length = L) (hLc : L ≤ cl) (hcl : cl ≤ maxLen) (hat : Rd w a2 n2 (cI zs)) (hz : zs.length = n2) (hn2 : n2 ≤ maxLen) (hp : Rd w ap np (cI ps)) (hpl : ps.length = np) (hnp : np ≤ maxLen)
    (f1' : Far v0.ownBlock (some ⟨bl, ol, none⟩) L) (f2 : Far v0.ownBlock a2 n2) (f3 : Far v0.ownBlock ap np) (hok : ∀ p ∈ ps, plOK L zs p = true) (hlim : xs0.length + (linesOf lines zs ps).length ≤ 1000000000) :
    Calls Tryd.prog 13 #[v0, .slice (some ⟨bl, ol, none⟩) L cl, .slice a2 n2 c2, .slice ap np cp] w (RV fun v w' => Own w' v (xs0 ++ linesOf lines zs ps) ∧ w.grownBy w' v0.ownBlock ∧ Later w v0 v) := by
  unfold maxLen at hcl hn2 hnp
  have HOK : Hid (∀ p ∈ ps, plOK L zs p = true) := hok
  have HLL : Hid (lines.length = L) := hlL
  have HZ : Hid (zs.length = n2) := hz
  have HPL : Hid (ps.length = np) := hpl
  have HLIM : Hid (xs0.length + (linesOf lines zs ps).length ≤ 1000000000) := hlim
  clear hok hlL hz hpl hlim
  go_enter Tryd.func13, Tryd.ntmps13
  go_wp2
  go_loopw [0, 13] (fun v i wr => ∃ t : Nat, t ≤ np ∧ i = .int .i64 (t : Int) ∧ Own wr v (xs0 ++ linesOf lines zs (ps.take t)) ∧ w.grownBy wr v0.ownBlock ∧ Later w v0 v) (fun _ i _ => np - (intOf i).toNat)
  case atStart => exact ⟨0, by omega, rfl, by simpa [linesOf] using hown, World.grownBy.refl _ _, Later.refl _ _⟩
  case round =>
    rename_i v _
    obtain ⟨t, ht, rfl, hownr, hgr, hlr⟩ := hrel
    by_cases htl : t < np
    · have hzl := HPL.out
      have hzz := HZ.out
      have hll := HLL.out
      have hpr := hp.grown hgr f3
      have har := hat.grown hgr f2
      have hlrd := hl.grown hgr f1'
      obtain ⟨bi, oi, ei, hci⟩ := hpr.get t htl
      subst ei
      have hplk : plOK L zs (ps.getD t 0) = true := HOK.out _ (by rw [List.getD_eq_getElem?_getD, List.getElem?_eq_getElem (by omega)]; exact List.getElem_mem _)
      obtain ⟨k0, x, y, hpe, hk0, hx, hy, hxy, hyL⟩ := pl_parts hplk
      obtain ⟨b2, o2, e2, hcx⟩ := har.get k0 (by omega)
      obtain ⟨b2', o2', e2', hcy⟩ := har.get (k0 + 1) (by omega)
      rw [e2] at e2'
      simp only [Option.some.injEq, Addr.mk.injEq, and_true] at e2'
      obtain ⟨rfl, rfl⟩ := e2'
      subst e2
      have hline := lineOf_eq (lines := lines) hx hy
      have hnext : linesOf lines zs (ps.take (t + 1)) = linesOf lines zs (ps.take t) ++ (lines.drop x).take (y - x) := by
        rw [linesOf_take lines zs ps t (by omega), hpe, hline]
      have hle := linesOf_take_le lines zs ps (t + 1)
      have hlim2 : (xs0 ++ linesOf lines zs (ps.take t)).length + (y - x) ≤ 140737488355328 := by
        have h1 := HLIM.out
        rw [hnext, List.length_append, List.length_take, List.length_drop] at hle
        rw [List.length_append]
        omega
      have HNX : Hid (linesOf lines zs (ps.take (t + 1)) = linesOf lines zs (ps.take t) ++ (lines.drop x).take (y - x)) := hnext
      have hsrc : Src wr (if cl = x then some ⟨bl, ol, none⟩ else some ⟨bl, ol + x, none⟩) (y - x) ((lines.drop x).take (y - x)) := by
        by_cases hcx : cl = x
        · rw [if_pos hcx]
          have h0 : y - x = 0 := by omega
          rw [h0, List.take_zero]
          exact src_empty _ _
        · rw [if_neg hcx]
          exact src_cut hlrd hll hxy hyL
      unfold cI at hci hcx hcy
      rw [hpe] at hci
      rw [hx] at hcx
      rw [hy] at hcy
      have hk2 : k0 + 1 < n2 := by omega
      have i2a : (k0 : Int) + 1 < (n2 : Int) := by omega
      have i2b : (k0 : Int) < (n2 : Int) := by omega
      have i2c : (0 : Int) ≤ (k0 : Int) + 1 := by omega
      have i2d : (0 : Int) ≤ (k0 : Int) := by omega
      have i2e : IntKind.i64.wrap ((k0 : Int) + 1) = (k0 : Int) + 1 := by rw [IntKind.wrap_i64]; omega
      have i3 : (x : Int) ≤ (y : Int) := by omega
      have i4 : (y : Int) ≤ (cl : Int) := by omega
      have i5 : (x : Int) ≤ (cl : Int) := by omega
      clear hplk hpe hx hy hline hnext hle hzl hzz hll hpr har hlrd
      go_wp2
      have hcn : (if cl = x then some (⟨bl, ol, none⟩ : Addr) else some ⟨bl, ol + x, none⟩) = none → cl - x = 0 := by
        intro h
        split at h <;> simp at h
      have hne2 : some b2 ≠ u0.ownBlock := by
        intro e
        rcases hlr with h | h
        · exact f2 b2 o2 rfl (by omega) (by rw [← h, ← e])
        · have h1 := h b2 e.symm
          obtain ⟨b2', o2', e', hc'⟩ := hat.get k0 (by omega)
          simp only [Option.some.injEq, Addr.mk.injEq, and_true] at e'
          obtain ⟨rfl, rfl⟩ := e'
          have := World.block_lt_of_cell? w _ hc'
          simp at this
          omega
      go_region_held3 (fun w' => w'.cell? ⟨b2, o2 + k0, none⟩ = some (.int .i64 (x : Int)) ∧ w'.cell? ⟨b2, o2 + (k0 + 1), none⟩ = some (.int .i64 (y : Int))) (first | go_keep | exact ⟨hg1.cell hcx hne2, hg1.cell hcy hne2⟩) ((refine step_app (by rfl) _ _ (by rfl) u0 _ (by rfl) (by exact hownr) _ _ _ _ (by rfl) (by exact hsrc) (by exact hcn) hlim2 ?_; intro v' w1 hown1 hg1 hat1))
      go_wp2
      go_roundw
      case rel => exact ⟨t + 1, by omega, by go_num, by rw [HNX.out, ← List.append_assoc]; exact hown1, grown_chain (grown_drew hgr) hlr hg1, hlr.step hgr.size hat1⟩
      case measure => simp [intOf]; omega
    · have hfin : Hid (ps.take t = ps) := by
        show ps.take t = ps
        exact List.take_of_length_le (by have := HPL.out; omega)
      go_wp2
      go_ret
      exact ⟨_, rfl, by rw [← hfin.out]; exact hownr, hgr, hlr⟩

set_option maxRecDepth 100000 in
set_option maxHeartbeats 3200000 in
theorem lines_none (v0 : Value) (xs0 : List UInt8) (lines : List UInt8) (a2 : Option Addr) (n2 c2 : Nat) (zs : List Int) (ap : Option Addr) (np cp : Nat) (ps : List Int) (w : World)
    (hown : Own w v0 xs0) (hlL : lines.length = 0) (hat : Rd w a2 n2 (cI zs)) (hz : zs.length = n2) (hn2 : n2 ≤ maxLen) (hp : Rd w ap np (cI ps)) (hpl : ps.length = np) (hnp : np ≤ maxLen)
    (f2 : Far v0.ownBlock a2 n2) (f3 : Far v0.ownBlock ap np) (hok : ∀ p ∈ ps, plOK 0 zs p = true) (hlim : xs0.length + (linesOf lines zs ps).length ≤ 1000000000) :
    Calls Tryd.prog 13 #[v0, .slice none 0 0, .slice a2 n2 c2, .slice ap np cp] w (RV fun v w' => Own w' v (xs0 ++ linesOf lines zs ps) ∧ w.grownBy w' v0.ownBlock ∧ Later w v0 v) := by
  unfold maxLen at hn2 hnp
  have HOK : Hid (∀ p ∈ ps, plOK 0 zs p = true) := hok
  have HLL : Hid (lines.length = 0) := hlL
  have HZ : Hid (zs.length = n2) := hz
  have HPL : Hid (ps.length = np) := hpl
  have HLIM : Hid (xs0.length + (linesOf lines zs ps).length ≤ 1000000000) := hlim
  clear hok hlL hz hpl hlim
  go_enter Tryd.func13, Tryd.ntmps13
  go_wp2
  go_loopw [0, 13] (fun v i wr => ∃ t : Nat, t ≤ np ∧ i = .int .i64 (t : Int) ∧ Own wr v (xs0 ++ linesOf lines zs (ps.take t)) ∧ w.grownBy wr v0.ownBlock ∧ Later w v0 v) (fun _ i _ => np - (intOf i).toNat)
  case atStart => exact ⟨0, by omega, rfl, by simpa [linesOf] using hown, World.grownBy.refl _ _, Later.refl _ _⟩
  case round =>
    rename_i v _
    obtain ⟨t, ht, rfl, hownr, hgr, hlr⟩ := hrel
    by_cases htl : t < np
    · have hzl := HPL.out
      have hzz := HZ.out
      have hll := HLL.out
      have hpr := hp.grown hgr f3
      have har := hat.grown hgr f2
      obtain ⟨bi, oi, ei, hci⟩ := hpr.get t htl
      subst ei
      have hplk : plOK 0 zs (ps.getD t 0) = true := HOK.out _ (by rw [List.getD_eq_getElem?_getD, List.getElem?_eq_getElem (by omega)]; exact List.getElem_mem _)
      obtain ⟨k0, x, y, hpe, hk0, hx, hy, hxy, hyL⟩ := pl_parts hplk
      obtain rfl : y = 0 := by omega
      obtain rfl : x = 0 := by omega
      obtain ⟨b2, o2, e2, hcx⟩ := har.get k0 (by omega)
      obtain ⟨b2', o2', e2', hcy⟩ := har.get (k0 + 1) (by omega)
      rw [e2] at e2'
      simp only [Option.some.injEq, Addr.mk.injEq, and_true] at e2'
      obtain ⟨rfl, rfl⟩ := e2'
      subst e2
      have hline := lineOf_eq (lines := lines) hx hy
      have hnext : linesOf lines zs (ps.take (t + 1)) = linesOf lines zs (ps.take t) ++ (lines.drop 0).take (0 - 0) := by
        rw [linesOf_take lines zs ps t (by omega), hpe, hline]
      have hle := linesOf_take_le lines zs ps (t + 1)
      have hlim2 : (xs0 ++ linesOf lines zs (ps.take t)).length + (0 - 0) ≤ 140737488355328 := by
        have h1 := HLIM.out
        rw [hnext, List.length_append, List.length_take, List.length_drop] at hle
        rw [List.length_append]
        omega
      have HNX : Hid (linesOf lines zs (ps.take (t + 1)) = linesOf lines zs (ps.take t) ++ (lines.drop 0).take (0 - 0)) := hnext
      have hsrc : Src wr none 0 ((lines.drop 0).take (0 - 0)) := by
        rw [Nat.sub_self, List.take_zero]; exact src_empty _ _
      unfold cI at hci hcx hcy
      rw [hpe] at hci
      rw [hx] at hcx
      rw [hy] at hcy
      have hk2 : k0 + 1 < n2 := by omega
      have i2a : (k0 : Int) + 1 < (n2 : Int) := by omega
      have i2b : (k0 : Int) < (n2 : Int) := by omega
      have i2c : (0 : Int) ≤ (k0 : Int) + 1 := by omega
      have i2d : (0 : Int) ≤ (k0 : Int) := by omega
      have i2e : IntKind.i64.wrap ((k0 : Int) + 1) = (k0 : Int) + 1 := by rw [IntKind.wrap_i64]; omega
      clear hplk hpe hx hy hline hnext hle hzl hzz hll hpr har
      go_wp2
      have hcn : (none : Option Addr) = none → 0 = 0 := fun _ => rfl
      have hne2 : some b2 ≠ u0.ownBlock := by
        intro e
        rcases hlr with h | h
        · exact f2 b2 o2 rfl (by omega) (by rw [← h, ← e])
        · have h1 := h b2 e.symm
          obtain ⟨b2', o2', e', hc'⟩ := hat.get k0 (by omega)
          simp only [Option.some.injEq, Addr.mk.injEq, and_true] at e'
          obtain ⟨rfl, rfl⟩ := e'
          have := World.block_lt_of_cell? w _ hc'
          simp at this
          omega
      go_region_held3 (fun w' => w'.cell? ⟨b2, o2 + k0, none⟩ = some (.int .i64 0) ∧ w'.cell? ⟨b2, o2 + (k0 + 1), none⟩ = some (.int .i64 0)) (first | go_keep | exact ⟨hg1.cell hcx hne2, hg1.cell hcy hne2⟩) ((refine step_app (by rfl) _ _ (by rfl) u0 _ (by rfl) (by exact hownr) _ _ _ _ (by rfl) (by exact hsrc) (by exact hcn) hlim2 ?_; intro v' w1 hown1 hg1 hat1))
      go_wp2
      go_roundw
      case rel => exact ⟨t + 1, by omega, by go_num, by rw [HNX.out, ← List.append_assoc]; exact hown1, grown_chain (grown_drew hgr) hlr hg1, hlr.step hgr.size hat1⟩
      case measure => simp [intOf]; omega
    · have hfin : Hid (ps.take t = ps) := by
        show ps.take t = ps
        exact List.take_of_length_le (by have := HPL.out; omega)
      go_wp2
      go_ret
      exact ⟨_, rfl, by rw [← hfin.out]; exact hownr, hgr, hlr⟩

/-- lawAppendLines. -/
theorem lines_any (v0 : Value) (xs0 : List UInt8) (al : Option Addr) (L cl : Nat) (lines : List UInt8) (a2 : Option Addr) (n2 c2 : Nat) (zs : List Int) (ap : Option Addr) (np cp : Nat) (ps : List Int) (w : World)
    (hown : Own w v0 xs0) (hal : (al = none ∧ L = 0 ∧ cl = 0) ∨ ∃ b o, al = some ⟨b, o, none⟩) (hl : Rd w al L (cU lines)) (hlL : lines.length = L) (hLc : L ≤ cl) (hcl : cl ≤ maxLen) (hat : Rd w a2 n2 (cI zs)) (hz : zs.length = n2) (hn2 : n2 ≤ maxLen) (hp : Rd w ap np (cI ps)) (hpl : ps.length = np) (hnp : np ≤ maxLen)
    (f1 : Far v0.ownBlock al L) (f2 : Far v0.ownBlock a2 n2) (f3 : Far v0.ownBlock ap np) (hok : ∀ p ∈ ps, plOK L zs p = true) (hlim : xs0.length + (linesOf lines zs ps).length ≤ 1000000000) :
    Calls Tryd.prog 13 #[v0, .slice al L cl, .slice a2 n2 c2, .slice ap np cp] w (RV fun v w' => Own w' v (xs0 ++ linesOf lines zs ps) ∧ w.grownBy w' v0.ownBlock ∧ Later w v0 v) := by
  rcases hal with ⟨rfl, rfl, rfl⟩ | ⟨b, o, rfl⟩
  · exact lines_none v0 xs0 lines a2 n2 c2 zs ap np cp ps w hown hlL hat hz hn2 hp hpl hnp f2 f3 hok hlim
  · exact lines_some v0 xs0 b o L cl lines a2 n2 c2 zs ap np cp ps w hown hl hlL hLc hcl hat hz hn2 hp hpl hnp f1 f2 f3 hok hlim
end Go.Proofs.Qxb6625470aDoor

import Derived.Test.Qxb6625470aDoorRead
namespace Go.Proofs.Qxb6625470aDoor
open Go.RowKit
set_option linter.unusedVariables false
set_option linter.unusedSimpArgs false

/-- What lawValid tells where it answers true. -/
structure Good (L : Nat) (zs : List Int) (zss : List (List Int)) (R nb : Nat) (outs : List Int) : Prop where
  added : nb = R
  made : ∀ j, j < R → ∀ p ∈ zss.getD j [], plOK L zs p = true
  out : ∀ p ∈ outs, plOK L zs p = true

theorem mem_of_all {zs : List Int} {Φ : Int → Prop} {n : Nat} (hn : zs.length = n) (h : ∀ i, i < n → Φ (zs.getD i 0)) : ∀ p ∈ zs, Φ p := by
  intro p hp
  obtain ⟨i, hi, rfl⟩ := List.getElem_of_mem hp
  have := h i (by omega)
  simpa [List.getD, hi] using this

set_option maxRecDepth 100000 in
set_option maxHeartbeats 1600000 in
theorem valid_any (al : Option Addr) (L cl : Nat) (ao : Option Addr) (n c : Nat) (am : Option Addr) (R cm : Nat) (ab : Option Addr) (nb cb : Nat) (aw : Option Addr) (nw cw : Nat) (zs : List Int) (ms : List Sl) (zss : List (List Int)) (outs : List Int) (w : World)
    (hL : L ≤ maxLen) (hn : n ≤ maxLen) (hR : R ≤ maxLen) (hnb : nb ≤ maxLen) (hnw : nw ≤ maxLen) (hz : zs.length = n) (hat : Rd w ao n (cI zs)) (hm : MadeIs w am R ms zss) (hol : outs.length = nw) (ho : Rd w aw nw (cI outs)) :
    Calls Tryd.prog 7 #[.slice al L cl, .slice ao n c, .slice am R cm, .slice ab nb cb, .slice aw nw cw] w (RB fun v w' => (v = true → Good L zs zss R nb outs) ∧ Below w.heap.size w w') := by
  have HL : Hid (L ≤ maxLen) := hL
  have HN : Hid (n ≤ maxLen) := hn
  have hR' := hR
  have hnw' := hnw
  unfold maxLen at hR' hnw' hnb
  clear hL hn
  by_cases hab : nb = R
  · subst hab
    go_enter Tryd.func7, Tryd.ntmps7
    go_wp2
    go_loopw [11] (fun i wr => ∃ k : Nat, k ≤ nb ∧ i = .int .i64 k ∧ Below w.heap.size w wr ∧ Hid (∀ j, j < k → ∀ p ∈ zss.getD j [], plOK L zs p = true)) (fun i _ => nb - (intOf i).toNat)
    case atStart => exact ⟨0, by omega, rfl, Below.refl _ _, fun j hj => absurd hj (by omega)⟩
    case round =>
      obtain ⟨k, hk, rfl, hb, hu⟩ := hrel
      by_cases hlt : k < nb
      · obtain ⟨i0, i1, i2, i3⟩ := hm.inner k hlt
        obtain ⟨b, o, e, hc⟩ : ∃ b o, am = some ⟨b, o, none⟩ ∧ w.cell? ⟨b, o + k, none⟩ = some (cS ms k) := by
          rcases hm.row with h | ⟨b, o, e, hc⟩
          · omega
          · exact ⟨b, o, e, hc k hlt⟩
        subst e
        have hcw : wr.cell? ⟨b, o + k, none⟩ = some (cS ms k) := by rw [hb.cell (World.block_lt_of_cell? w _ hc)]; exact hc
        unfold cS at hcw
        generalize (ms.getD k Sl.nil).a = a1 at hcw i3
        generalize (ms.getD k Sl.nil).n = n1 at hcw i0 i1 i3
        generalize (ms.getD k Sl.nil).c = c1 at hcw i1 i2
        generalize hzk : zss.getD k [] = zk at i0 i3
        have HZK : Hid (zss.getD k [] = zk) := hzk
        have hn1 : n1 ≤ 2 ^ 63 - 1 := by unfold maxLen at i2; omega
        clear hzk hc
        obtain ⟨wo, rfl⟩ : ∃ wo : World, wo = wr := ⟨_, rfl⟩
        go_wp2
        go_loopw [32] (fun i wr => ∃ j : Nat, j ≤ n1 ∧ i = .int .i64 j ∧ Below w.heap.size w wr ∧ Hid (∀ t, t < j → plOK L zs (zk.getD t 0) = true)) (fun i _ => n1 - (intOf i).toNat)
        case atStart => exact ⟨0, by omega, rfl, hb, fun j hj => absurd hj (by omega)⟩
        case round =>
          obtain ⟨j, hj, rfl, hb2, hv⟩ := hrel
          by_cases hjl : j < n1
          · obtain ⟨b1, o1, e1, hc1⟩ : ∃ b1 o1, a1 = some ⟨b1, o1, none⟩ ∧ w.cell? ⟨b1, o1 + j, none⟩ = some (cI zk j) := by
              rcases i3 with h | ⟨b1, o1, e1, hc1⟩
              · omega
              · exact ⟨b1, o1, e1, hc1 j hjl⟩
            subst e1
            have hcj : wr.cell? ⟨b1, o1 + j, none⟩ = some (cI zk j) := by rw [hb2.cell (World.block_lt_of_cell? w _ hc1)]; exact hc1
            unfold cI at hcj
            generalize hp : zk.getD j 0 = p at hcj
            have HP : Hid (zk.getD j 0 = p) := hp
            have hatw := hat.below hb2
            clear hp hc1
            by_cases hok : plOK L zs p = true
            · go_wp2_with fail
              refine (place_any al L cl ao n c zs p _ HL HN hz hatw).mono ?_
              rintro e w1 ⟨rfl, hb3⟩
              go_wp2_with fail
              go_roundw
              case rel => exact ⟨j + 1, by omega, by go_num, hb2.trans (hb3.mono hb2.size), fun t ht => by
                rcases Nat.lt_or_ge t j with h' | h'
                · exact hv.out t h'
                · obtain rfl : t = j := by omega
                  rw [HP.out]; exact hok⟩
              case measure => simp [intOf]; omega
            · have hok' : plOK L zs p = false := Bool.eq_false_iff.2 hok
              clear hok
              go_wp2_with fail
              refine (place_any al L cl ao n c zs p _ HL HN hz hatw).mono ?_
              rintro e w1 ⟨rfl, hb3⟩
              go_wp2_with fail
              go_ret
              exact ⟨_, rfl, by simp, hb2.trans (hb3.mono hb2.size)⟩
          · have hnew : Hid (∀ j, j < k + 1 → ∀ p ∈ zss.getD j [], plOK L zs p = true) := fun j' hj' => by
              rcases Nat.lt_or_ge j' k with h' | h'
              · exact hu.out j' h'
              · obtain rfl : j' = k := by omega
                rw [HZK.out]
                exact mem_of_all i0 fun i hi => hv.out i (by omega)
            go_wp2_with fail
            go_roundw
            case rel => exact ⟨k + 1, by omega, by go_num, hb2, hnew⟩
            case measure => simp [intOf]; omega
      · have hmade : Hid (∀ j, j < nb → ∀ p ∈ zss.getD j [], plOK L zs p = true) := fun j hj => hu.out j (by omega)
        obtain ⟨wo, rfl⟩ : ∃ wo : World, wo = wr := ⟨_, rfl⟩
        go_wp2
        go_loopw [44] (fun i wr => ∃ j : Nat, j ≤ nw ∧ i = .int .i64 j ∧ Below w.heap.size w wr ∧ Hid (∀ t, t < j → plOK L zs (outs.getD t 0) = true)) (fun i _ => nw - (intOf i).toNat)
        case atStart => exact ⟨0, by omega, rfl, hb, fun j hj => absurd hj (by omega)⟩
        case round =>
          obtain ⟨j, hj, rfl, hb2, hv⟩ := hrel
          by_cases hjl : j < nw
          · obtain ⟨b1, o1, e1, hc1⟩ : ∃ b1 o1, aw = some ⟨b1, o1, none⟩ ∧ w.cell? ⟨b1, o1 + j, none⟩ = some (cI outs j) := by
              rcases ho with h | ⟨b1, o1, e1, hc1⟩
              · omega
              · exact ⟨b1, o1, e1, hc1 j hjl⟩
            subst e1
            have hcj : wr.cell? ⟨b1, o1 + j, none⟩ = some (cI outs j) := by rw [hb2.cell (World.block_lt_of_cell? w _ hc1)]; exact hc1
            unfold cI at hcj
            generalize hp : outs.getD j 0 = p at hcj
            have HP : Hid (outs.getD j 0 = p) := hp
            have hatw := hat.below hb2
            clear hp hc1
            by_cases hok : plOK L zs p = true
            · go_wp2_with fail
              refine (place_any al L cl ao n c zs p _ HL HN hz hatw).mono ?_
              rintro e w1 ⟨rfl, hb3⟩
              go_wp2_with fail
              go_roundw
              case rel => exact ⟨j + 1, by omega, by go_num, hb2.trans (hb3.mono hb2.size), fun t ht => by
                rcases Nat.lt_or_ge t j with h' | h'
                · exact hv.out t h'
                · obtain rfl : t = j := by omega
                  rw [HP.out]; exact hok⟩
              case measure => simp [intOf]; omega
            · have hok' : plOK L zs p = false := Bool.eq_false_iff.2 hok
              clear hok
              go_wp2_with fail
              refine (place_any al L cl ao n c zs p _ HL HN hz hatw).mono ?_
              rintro e w1 ⟨rfl, hb3⟩
              go_wp2_with fail
              go_ret
              exact ⟨_, rfl, by simp, hb2.trans (hb3.mono hb2.size)⟩
          · have hfin : Good L zs zss nb nb outs := ⟨rfl, hmade.out, mem_of_all hol fun i hi => hv.out i (by omega)⟩
            go_wp2_with fail
            go_ret
            exact ⟨_, rfl, fun _ => hfin, hb2⟩
  · have hne : ((nb : Int) != (R : Int)) = true := by rw [bne_iff_ne]; omega
    clear hm ho hat
    go_enter Tryd.func7, Tryd.ntmps7
    go_wp2
    go_ret
    exact ⟨_, rfl, by simp, Below.refl _ _⟩
end Go.Proofs.Qxb6625470aDoor

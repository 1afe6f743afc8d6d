import Derived.Test.Qxb6625470aDoorBase
import Derived.Maps.AppendAt
import Derived.Lib.AppendStr
import Derived.Lib.BufferWrite
namespace Go.Proofs.Qxb6625470aDoor
open Go.RowKit
set_option linter.unusedVariables false
set_option linter.unusedSimpArgs false

theorem Tryd.info5 : (Tryd.prog.info? 5).map (fun i => (i.zero, i.size, i.bytes)) = some (some (.int .u8 0), 1, 1) := by kernel_rfl

/-- A slice of bytes that the call owns: nil, or a row of its own from its first cell on. A row out of a constant bears a mark and has no spare room. -/
def Own (w : World) (v : Value) (xs : List UInt8) : Prop :=
  (v = .slice none 0 0 ∧ xs = []) ∨
  ∃ g cap cur fz, v = .slice (some ⟨g, 0, none⟩) xs.length cap ∧ w.heap[g]? = some (.cells cur 5 fz) ∧ (fz = (0, 0) ∨ cap = xs.length) ∧ xs.length ≤ cap ∧ cap ≤ maxLen ∧ cur.size = cap ∧ cur.toList.take xs.length = Lib.byteCells xs

theorem Own.nil (w : World) : Own w (.slice none 0 0) [] := Or.inl ⟨rfl, rfl⟩

theorem Own.lt {w : World} {v : Value} {xs : List UInt8} (h : Own w v xs) : ∀ k, v.ownBlock = some k → k < w.heap.size := by
  intro k hk
  rcases h with ⟨rfl, _⟩ | ⟨g, cap, cur, fz, rfl, hg, _⟩
  · simp [Value.ownBlock] at hk
  · simp [Value.ownBlock] at hk
    subst hk
    exact (Array.getElem?_eq_some_iff.1 hg).1

theorem Own.keep {w w' : World} {v : Value} {xs : List UInt8} (h : Own w v xs) (hk : ∀ k, v.ownBlock = some k → w'.heap[k]? = w.heap[k]?) : Own w' v xs := by
  rcases h with h | ⟨g, cap, cur, fz, rfl, hg, r⟩
  · exact Or.inl h
  · exact Or.inr ⟨g, cap, cur, fz, rfl, by rw [hk g rfl]; exact hg, r⟩

theorem Own.below {w w' : World} {v : Value} {xs : List UInt8} (h : Own w v xs) (hb : Below w.heap.size w w') : Own w' v xs :=
  h.keep fun k hk => hb.block k (h.lt k hk)

theorem Own.grown {w w' : World} {v : Value} {xs : List UInt8} {row : Option Nat} (h : Own w v xs) (hg : w.grownBy w' row) (hr : ∀ k, v.ownBlock = some k → row ≠ some k) : Own w' v xs :=
  h.keep fun k hk => hg.block k (h.lt k hk) (fun e => hr k hk e.symm)

theorem Own.rows {w : World} {v : Value} {xs : List UInt8} (h : Own w v xs) (hf : ∀ g cur fz, v.ownBlock = some g → w.heap[g]? = some (.cells cur 5 fz) → fz = (0, 0)) : w.ownsRow 0 5 1 v xs.length (Lib.byteCells xs) := by
  refine ⟨by rw [Lib.byteCells_length, Nat.mul_one], ?_⟩
  rcases h with ⟨rfl, rfl⟩ | ⟨g, cap, cur, fz, rfl, hg, hz, h1, h2, h3, h4⟩
  · exact Or.inl ⟨rfl, rfl⟩
  · have := hf g cur fz rfl hg
    subst this
    exact Or.inr ⟨g, cap, cur, rfl, Nat.zero_le _, hg, h1, h2, by rw [Nat.mul_one]; exact h3, by rw [Nat.mul_one]; exact h4⟩

theorem Own.of_rows {w : World} {v : Value} {xs : List UInt8} {n B : Nat} (h : w.ownsRow B 5 1 v n (Lib.byteCells xs)) : Own w v xs := by
  obtain ⟨h0, h⟩ := h
  rw [Lib.byteCells_length, Nat.mul_one] at h0
  subst h0
  rcases h with ⟨rfl, h⟩ | ⟨g, cap, cur, rfl, _, hg, h1, h2, h3, h4⟩
  · exact Or.inl ⟨rfl, List.eq_nil_of_length_eq_zero h⟩
  · rw [Nat.mul_one] at h3 h4
    exact Or.inr ⟨g, cap, cur, (0, 0), rfl, hg, Or.inl rfl, h1, h2, h3, h4⟩

theorem Own.cell {w : World} {v : Value} {xs : List UInt8} {g : Nat} (h : Own w v xs) (hg : v.ownBlock = some g) : ∀ j u, (Lib.byteCells xs)[j]? = some u → w.cell? ((⟨g, 0, none⟩ : Addr).add j) = some u := by
  intro j u hu
  rcases h with ⟨rfl, _⟩ | ⟨g', cap, cur, fz, rfl, hgg, _, _, _, _, htake⟩
  · simp [Value.ownBlock] at hg
  · simp [Value.ownBlock] at hg
    subst hg
    have hadd : (⟨g', 0, none⟩ : Addr).add j = ⟨g', j, none⟩ := by unfold Addr.add; split <;> simp_all
    rw [hadd, cell_of_row w g' j cur 5 fz hgg]
    rw [← htake, List.getElem?_take] at hu
    split at hu
    · simpa using hu
    · cases hu

/-- What a slice of bytes that is appended holds. -/
def Src (w : World) (ao : Option Addr) (m : Nat) (news : List UInt8) : Prop :=
  news.length = m ∧ (ao = none → m = 0) ∧ ∀ ad, ao = some ad → ∀ j u, (Lib.byteCells news)[j]? = some u → w.cell? (ad.add j) = some u

set_option maxRecDepth 100000 in
theorem run_app (w : World) (ty : TypeId) (v : Value) (xs : List UInt8) (hown : Own w v xs) (ao : Option Addr) (m c : Nat) (news : List UInt8) (hs : Src w ao m news) (hc : ao = none → c = 0) (hlim : xs.length + m ≤ 140737488355328) :
    ∃ v' w', (Builtin.append_ #[22, 22] ty #[v, .slice ao m c]).run Tryd.prog w = .ok v' w' ∧ Own w' v' (xs ++ news) ∧ w.grownBy w' v.ownBlock ∧ (v'.ownBlock = v.ownBlock ∨ v'.ownBlock = some w.heap.size) := by
  obtain ⟨i, hi, hz0, hz1, hz2⟩ := info_parts Tryd.info5
  obtain ⟨hm, h0, hcell⟩ := hs
  subst hm
  have hml : xs.length + news.length ≤ maxLen := by unfold maxLen; omega
  have hone := Lib.byteCells_one news
  cases ao with
  | none =>
    have hn := h0 rfl
    have hn' : news = [] := List.eq_nil_of_length_eq_zero hn
    subst hn'
    rw [hc rfl]
    refine ⟨v, w, ?_, by simpa using hown, ⟨rfl, rfl, rfl, Nat.le_refl _, fun _ _ _ => rfl⟩, Or.inl rfl⟩
    rcases hown with ⟨rfl, rfl⟩ | ⟨g, cap, cur, fz, rfl, hg, hz, h1, h2, h3, h4⟩
    · simp [Builtin.append_, run_underlying Tryd.underlying22, sizeOf, typeInfo, hi, Builtin.lenOf, Builtin.firstCells]
    · simp [Builtin.append_, run_underlying Tryd.underlying22, sizeOf, typeInfo, hi, Builtin.lenOf, Builtin.firstCells, h1, storeCells]
  | some a =>
    have hca := hcell a rfl
    by_cases hfz : ∀ g cur fz, v.ownBlock = some g → w.heap[g]? = some (.cells cur 5 fz) → fz = (0, 0)
    · have hr := hown.rows hfz
      obtain ⟨v', w', e1, e2, e3, _, e5⟩ := run_append_own_at (P := Tryd.prog) w 0 22 ty 5 i (.int .u8 0) 1 1 Tryd.underlying22 hi hz0 hz1 hz2 rfl (by decide) v xs.length (Lib.byteCells xs) hr a news.length c (Lib.byteCells news) (by rw [Lib.byteCells_length, Nat.mul_one]) hca hone hml (by omega) (Nat.zero_le _)
      rw [← Lib.byteCells_append] at e2
      exact ⟨v', w', e1, Own.of_rows e2, e3, e5⟩
    · rcases hown with ⟨rfl, rfl⟩ | ⟨g, cap, cur, fz, rfl, hg, hz, h1, h2, h3, h4⟩
      · exact absurd (fun g cur fz h _ => by simp [Value.ownBlock] at h) hfz
      · have hzz : cap = xs.length := by
          rcases hz with hz | hz
          · exact absurd (fun g' cur' fz' h h' => by
              simp [Value.ownBlock] at h
              subst h
              rw [hg] at h'
              simp at h'
              rw [← h'.2]; exact hz) hfz
          · exact hz
        have hself : Own w (.slice (some ⟨g, 0, none⟩) xs.length cap) xs := Or.inr ⟨g, cap, cur, fz, rfl, hg, hz, h1, h2, h3, h4⟩
        by_cases hn : news.length = 0
        · have hn' : news = [] := List.eq_nil_of_length_eq_zero hn
          subst hn'
          refine ⟨_, w, ?_, by simpa using hself, ⟨rfl, rfl, rfl, Nat.le_refl _, fun _ _ _ => rfl⟩, Or.inl rfl⟩
          simp [Builtin.append_, run_underlying Tryd.underlying22, sizeOf, typeInfo, hi, Builtin.lenOf, Builtin.firstCells, h1, storeCells, loadCells, loadCellsFrom]
        · have hr := run_append_grow (P := Tryd.prog) w 22 ty 5 i (.int .u8 0) Tryd.underlying22 hi hz0 ⟨g, 0, none⟩ xs.length cap (Lib.byteCells xs) (by rw [Lib.byteCells_length, hz1, Nat.mul_one]) (hself.cell rfl) a news.length c (Lib.byteCells news) (by rw [Lib.byteCells_length, hz1, Nat.mul_one]) hca (by omega) (by omega) (by rw [hz2]; exact growslice_fits (by omega) (by omega))
          have hge := grownCap_ge w (xs.length + news.length) cap 5
          have hcm : grownCap w (xs.length + news.length) cap 5 ≤ maxLen := grownCap_le_maxLen w _ cap 5 hml
          refine ⟨_, _, hr, ?_, ⟨rfl, rfl, rfl, by simp, fun k hk _ => Below.heap_alloc w.drew _ k hk⟩, Or.inr rfl⟩
          refine Or.inr ⟨w.heap.size, _, _, (0, 0), by rw [List.length_append], heap_alloc_new w.drew _, Or.inl rfl, by rw [List.length_append]; exact hge, hcm, ?_, ?_⟩
          · have hz1' : (Value.int IntKind.u8 0).cells.size = 1 := rfl
            simp only [Array.size_append, List.size_toArray, size_zeroCells, hz1', Lib.byteCells_length]
            omega
          · simp only [Array.toList_append, List.append_assoc]
            rw [← List.append_assoc, ← Lib.byteCells_append]
            rw [show (xs ++ news).length = (Lib.byteCells (xs ++ news)).length by rw [Lib.byteCells_length]]
            exact List.take_left

set_option maxRecDepth 100000 in
theorem run_appS (w : World) (ty : TypeId) (v : Value) (xs : List UInt8) (hown : Own w v xs) (s : ByteArray) (hlim : xs.length + s.size ≤ 140737488355328) :
    ∃ v' w', (Builtin.append_ #[22, 9] ty #[v, .string s]).run Tryd.prog w = .ok v' w' ∧ Own w' v' (xs ++ s.data.toList) ∧ w.grownBy w' v.ownBlock ∧ (v'.ownBlock = v.ownBlock ∨ v'.ownBlock = some w.heap.size) := by
  obtain ⟨i, hi, hz0, hz1, hz2⟩ := info_parts Tryd.info5
  have hml : xs.length + s.size ≤ maxLen := by unfold maxLen; omega
  have hsc : Lib.strCells s = Lib.byteCells s.data.toList := rfl
  have hss : s.size = s.data.toList.length := Lib.size_eq s
  have fresh : ∀ (old : Nat), Own (w.drew.alloc (.cells ((Lib.byteCells xs).toArray ++ (Lib.strCells s).toArray ++ Builtin.zeroCells (Value.int .u8 0).cells (grownCap w (xs.length + s.size) old 5 - (xs.length + s.size))) 5)) (.slice (some ⟨w.heap.size, 0, none⟩) (xs.length + s.size) (grownCap w (xs.length + s.size) old 5)) (xs ++ s.data.toList) := by
    intro old
    have hge := grownCap_ge w (xs.length + s.size) old 5
    have hcm : grownCap w (xs.length + s.size) old 5 ≤ maxLen := grownCap_le_maxLen w _ old 5 hml
    refine Or.inr ⟨w.heap.size, _, _, (0, 0), by rw [List.length_append, ← hss], heap_alloc_new w.drew _, Or.inl rfl, by rw [List.length_append, ← hss]; exact hge, hcm, ?_, ?_⟩
    · have hz1' : (Value.int IntKind.u8 0).cells.size = 1 := rfl
      simp only [Array.size_append, List.size_toArray, size_zeroCells, hz1', Lib.byteCells_length, Lib.strCells_length]
      omega
    · simp only [Array.toList_append, List.append_assoc]
      rw [hsc, ← List.append_assoc, ← Lib.byteCells_append]
      rw [show (xs ++ s.data.toList).length = (Lib.byteCells (xs ++ s.data.toList)).length by rw [Lib.byteCells_length]]
      exact List.take_left
  rcases hown with ⟨rfl, rfl⟩ | ⟨g, cap, cur, fz, rfl, hg, hz, h1, h2, h3, h4⟩
  · by_cases hm : s.size = 0
    · have hn : s.data.toList = [] := List.eq_nil_of_length_eq_zero (by rw [← hss]; exact hm)
      refine ⟨.slice none 0 0, w, ?_, by rw [hn]; exact Own.nil w, ⟨rfl, rfl, rfl, Nat.le_refl _, fun _ _ _ => rfl⟩, Or.inl rfl⟩
      have hf := Lib.run_firstCells_string (P := Tryd.prog) w 1 s
      rw [hm] at hf
      simp [Builtin.append_, run_underlying Tryd.underlying22, run_underlying Tryd.underlying9, sizeOf, typeInfo, hi, hz1, Builtin.lenOf, hm, hf]
    · have hr := run_append_nil_string (P := Tryd.prog) w 22 9 ty 5 i (.int .u8 0) Tryd.underlying22 Tryd.underlying9 hi hz0 s (by omega) (by simp at hlim; omega) (by rw [hz2]; simp at hlim; omega)
      have hgr := fresh 0
      have e1 : (s.data.map fun b => Value.int .u8 b.toNat) = (Lib.strCells s).toArray := by
        apply Array.ext'
        simp [Lib.strCells]
      rw [e1] at hr
      simp only [Lib.byteCells, List.map_nil, List.length_nil, Nat.zero_add, List.nil_append, Array.empty_append] at hgr ⊢
      exact ⟨_, _, hr, hgr, ⟨rfl, rfl, rfl, by simp, fun k hk _ => Below.heap_alloc w.drew _ k hk⟩, Or.inr rfl⟩
  · have hself : Own w (.slice (some ⟨g, 0, none⟩) xs.length cap) xs := Or.inr ⟨g, cap, cur, fz, rfl, hg, hz, h1, h2, h3, h4⟩
    by_cases hroom : xs.length + s.size ≤ cap
    · by_cases hz0' : fz = (0, 0)
      · subst hz0'
        have hr := Lib.run_append_room_string (P := Tryd.prog) w 22 9 ty 5 i Tryd.underlying22 Tryd.underlying9 hi hz1 g xs.length cap cur hg s hroom (by omega)
        refine ⟨_, _, hr, Or.inr ⟨g, cap, _, (0, 0), by rw [List.length_append, ← hss], setRow_heap w g cur _ 5 _ hg, Or.inl rfl, by rw [List.length_append, ← hss]; exact hroom, h2, ?_, ?_⟩, ⟨rfl, rfl, rfl, by simp, fun k _ hk => setRow_other w g k _ (fun e => hk (by simp [Value.ownBlock, e]))⟩, Or.inl rfl⟩
        · simp only [List.size_toArray, List.length_append, List.length_take, List.length_drop, Array.length_toList, Lib.strCells_length]
          omega
        · rw [h4, hsc, ← Lib.byteCells_append]
          rw [show (xs ++ s.data.toList).length = (Lib.byteCells (xs ++ s.data.toList)).length by rw [Lib.byteCells_length]]
          exact List.take_left
      · have hcap : cap = xs.length := by
          rcases hz with hz | hz
          · exact absurd hz hz0'
          · exact hz
        have hm : s.size = 0 := by omega
        have hn : s.data.toList = [] := List.eq_nil_of_length_eq_zero (by rw [← hss]; exact hm)
        refine ⟨_, w, ?_, by rw [hn, List.append_nil]; exact hself, ⟨rfl, rfl, rfl, Nat.le_refl _, fun _ _ _ => rfl⟩, Or.inl rfl⟩
        have hf := Lib.run_firstCells_string (P := Tryd.prog) w 1 s
        rw [hm] at hf
        simp [Builtin.append_, run_underlying Tryd.underlying22, run_underlying Tryd.underlying9, sizeOf, typeInfo, hi, hz1, Builtin.lenOf, hm, hf, h1, storeCells, Lib.strCells, hn]
    · have hr := Lib.run_append_grow_string (P := Tryd.prog) w 22 9 ty 5 i (.int .u8 0) Tryd.underlying22 Tryd.underlying9 hi hz0 ⟨g, 0, none⟩ xs.length cap (Lib.byteCells xs) (by rw [Lib.byteCells_length, hz1, Nat.mul_one]) (hself.cell rfl) s (by omega) (by omega) (by rw [hz2]; exact growslice_fits (by omega) (by omega))
      exact ⟨_, _, hr, fresh cap, ⟨rfl, rfl, rfl, by simp, fun k hk _ => Below.heap_alloc w.drew _ k hk⟩, Or.inr rfl⟩

/-- The operation, for the walk: a slice is appended. -/
theorem wp_app {w : World} {ops : Array Oper} {rest : List Oper} {o : Oper} {a : Act} {Q : Exit → Act → World → Prop} (hgd : o.guard = none) (s x : Operand)
    (ho : o.op = .call { callee := .builtin .append, args := #[s, x], argTypes := #[22, 22] })
    (v : Value) (xs : List UInt8) (hs : a.eval s = v) (hown : Own w v xs) (ao : Option Addr) (m c : Nat) (news : List UInt8) (hx : a.eval x = .slice ao m c) (hsrc : Src w ao m news) (hc : ao = none → c = 0) (hlim : xs.length + m ≤ 140737488355328)
    (h : ∀ v' w', Own w' v' (xs ++ news) → w.grownBy w' v.ownBlock → (v'.ownBlock = v.ownBlock ∨ v'.ownBlock = some w.heap.size) → wpList Tryd.prog ops Q rest (a.put o.dst v') w') :
    wpList Tryd.prog ops Q (o :: rest) a w := by
  refine wpList_plain hgd fun K hK => ?_
  obtain ⟨v', w', hr, h2, h3, h5⟩ := run_app w o.type v xs hown ao m c news hsrc hc hlim
  unfold Oper.wp execOp
  simp only [ho, resolve, invoke, builtin, Sem.run_bind, Sem.run_pure, Result.andThen_ok, List.map_toArray, List.map_cons, List.map_nil, hs, hx, hr]
  exact hK _ _ (h v' w' h2 h3 h5)

/-- The operation, for the walk: a string is appended. -/
theorem wp_appS {w : World} {ops : Array Oper} {rest : List Oper} {o : Oper} {a : Act} {Q : Exit → Act → World → Prop} (hgd : o.guard = none) (s x : Operand)
    (ho : o.op = .call { callee := .builtin .append, args := #[s, x], argTypes := #[22, 9] })
    (v : Value) (xs : List UInt8) (hs : a.eval s = v) (hown : Own w v xs) (str : ByteArray) (hx : a.eval x = .string str) (hlim : xs.length + str.size ≤ 140737488355328)
    (h : ∀ v' w', Own w' v' (xs ++ str.data.toList) → w.grownBy w' v.ownBlock → (v'.ownBlock = v.ownBlock ∨ v'.ownBlock = some w.heap.size) → wpList Tryd.prog ops Q rest (a.put o.dst v') w') :
    wpList Tryd.prog ops Q (o :: rest) a w := by
  refine wpList_plain hgd fun K hK => ?_
  obtain ⟨v', w', hr, h2, h3, h5⟩ := run_appS w o.type v xs hown str hlim
  unfold Oper.wp execOp
  simp only [ho, resolve, invoke, builtin, Sem.run_bind, Sem.run_pure, Result.andThen_ok, List.map_toArray, List.map_cons, List.map_nil, hs, hx, hr]
  exact hK _ _ (h v' w' h2 h3 h5)
end Go.Proofs.Qxb6625470aDoor

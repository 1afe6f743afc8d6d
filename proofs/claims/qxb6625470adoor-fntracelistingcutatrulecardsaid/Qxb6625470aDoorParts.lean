import Derived.Test.Qxb6625470aDoorExact
namespace Go.Proofs.Qxb6625470aDoor
open Go.RowKit
set_option linter.unusedVariables false
set_option linter.unusedSimpArgs false

section
variable {input lines : List UInt8} {zs : List Int} {zss zss' : List (List Int)} {add add' : List Bool} {outs : List Int}

theorem madeTo_congr : ∀ (i : Nat), (∀ j, j < i → zss.getD j [] = zss'.getD j []) → madeTo lines zs zss i = madeTo lines zs zss' i
  | 0, _ => rfl
  | i + 1, h => by
    show madeTo lines zs zss i ++ _ = madeTo lines zs zss' i ++ _
    rw [madeTo_congr i (fun j hj => h j (by omega)), h i (by omega)]

theorem issuedTo_congr : ∀ (i : Nat), (∀ j, j < i → zss.getD j [] = zss'.getD j [] ∧ add.getD j false = add'.getD j false) → issuedTo lines zs zss add i = issuedTo lines zs zss' add' i
  | 0, _ => rfl
  | i + 1, h => by
    show issuedTo lines zs zss add i ++ _ = issuedTo lines zs zss' add' i ++ _
    rw [issuedTo_congr i (fun j hj => h j (by omega)), (h i (by omega)).1, (h i (by omega)).2]

theorem headTo_congr : ∀ (i : Nat), (∀ j, j < i → zss.getD j [] = zss'.getD j [] ∧ add.getD j false = add'.getD j false) → headTo input lines zs zss add i = headTo input lines zs zss' add' i
  | 0, _ => rfl
  | i + 1, h => by
    show headTo input lines zs zss add i ++ part input lines zs zss add i = headTo input lines zs zss' add' i ++ part input lines zs zss' add' i
    unfold part
    rw [headTo_congr i (fun j hj => h j (by omega)), madeTo_congr (i + 1) (fun j hj => (h j hj).1), issuedTo_congr (i + 1) h]

theorem headTo_pre (m : Nat) : ∀ (R : Nat), m ≤ R → ∃ X, headTo input lines zs zss add R = headTo input lines zs zss add m ++ X ∧ (m = R → X = []) ∧ (m < R → ∃ Y, X = (sPre.data.toList ++ Lib.decDigits (m + 1) ++ sPost.data.toList ++ input) ++ Y)
  | 0, h => by
    obtain rfl : m = 0 := by omega
    exact ⟨[], by simp, fun _ => rfl, fun h => by omega⟩
  | R + 1, h => by
    by_cases e : m = R + 1
    · subst e
      exact ⟨[], by simp, fun _ => rfl, fun h => by omega⟩
    · obtain ⟨X, h1, h2, h3⟩ := headTo_pre m R (by omega)
      refine ⟨X ++ part input lines zs zss add R, ?_, fun e' => absurd e' e, fun _ => ?_⟩
      · show headTo input lines zs zss add R ++ _ = _
        rw [h1, List.append_assoc]
      · by_cases e2 : m = R
        · subst e2
          rw [h2 rfl]
          refine ⟨madeTo lines zs zss (m + 1) ++ sOut.data.toList ++ issuedTo lines zs zss add (m + 1), ?_⟩
          simp only [part, List.nil_append, List.append_assoc]
        · obtain ⟨Y, hY⟩ := h3 (by omega)
          exact ⟨Y ++ part input lines zs zss add R, by rw [hY, List.append_assoc]⟩

theorem headTo_open (m : Nat) : ∃ Z, headTo input lines zs zss add m = (sIn.data.toList ++ input) ++ Z := by
  obtain ⟨X, h, _, _⟩ := headTo_pre (input := input) (lines := lines) (zs := zs) (zss := zss) (add := add) 0 m (Nat.zero_le _)
  exact ⟨X, h⟩

theorem getD_take' {α : Type} (l : List α) (d : α) {m j : Nat} (h : j < m) : (l.take m).getD j d = l.getD j d := by
  simp [List.getD_eq_getElem?_getD, List.getElem?_take, h]

theorem listing_cut (m R : Nat) : listing input lines zs (zss.take m) (add.take m) outs m = headTo input lines zs zss add m ++ (sFin.data.toList ++ linesOf lines zs outs) := by
  unfold listing
  rw [headTo_congr (zss' := zss) (add' := add) m (fun j hj => ⟨getD_take' _ _ hj, getD_take' _ _ hj⟩), List.append_assoc]
end

theorem Args.cut {w : World} {a0 : Option Addr} {n0 c0 : Nat} {al : Option Addr} {L cl : Nat} {a2 : Option Addr} {n2 c2 : Nat} {am : Option Addr} {R cm : Nat} {a4 : Option Addr} {n4 c4 : Nat} {a5 : Option Addr} {n5 c5 : Nat}
    {input lines : List UInt8} {zs : List Int} {ms : List Sl} {zss : List (List Int)} {add : List Bool} {outs : List Int}
    (h : Args w a0 n0 c0 al L cl a2 n2 c2 am R cm a4 n4 c4 a5 n5 c5 input lines zs ms zss add outs) (m : Nat) (hm : m ≤ R) :
    Args w a0 n0 c0 al L cl a2 n2 c2 am m cm a4 m c4 a5 n5 c5 input lines zs (ms.take m) (zss.take m) (add.take m) outs := by
  have h4 := h.good.added
  have q := h.sized
  refine ⟨⟨q.b0, q.b1, q.b2, by have := q.b3; omega, by have := q.b4; omega, q.b5, fun j hj => by rw [getD_take' _ _ hj]; exact q.inner j (by omega)⟩, ⟨rfl, fun j hj p hp => h.good.made j (by omega) p (by rw [getD_take' _ _ hj] at hp; exact hp), h.good.out⟩,
    h.in0, h.in1, h.in2, h.li0, h.li1, h.li2, h.li3, h.li4, h.at0, h.at1, ⟨by rw [List.length_take, h.made.len]; omega, by rw [List.length_take, h.made.lenz]; omega, ?_, fun j hj => ?_⟩, ?_, by rw [List.length_take, h.ad1]; omega, h.ou0, h.ou1⟩
  · refine (h.made.row.short hm).congr fun j hj => ?_
    unfold cS
    rw [getD_take' _ _ hj]
  · rw [getD_take' _ _ hj, getD_take' _ _ hj]
    exact h.made.inner j (by omega)
  · refine (h.ad0.short (by omega)).congr fun j hj => ?_
    unfold cB
    rw [getD_take' _ _ hj]

theorem slice_to24 (a : Option Addr) (n c m : Nat) (h : SlIn a n c) (hm : m ≤ n) (hnc : n ≤ c) (hc : c ≤ maxLen) (W : World) :
    (Instr.sliceAt 24 (.slice a n c) none (some (.int .i64 (m : Int))) none).run Tryd.prog W = .ok (.slice a m c) W := by
  unfold maxLen at hc
  rcases h with ⟨rfl, rfl, rfl⟩ | ⟨ad, rfl⟩
  · obtain rfl : m = 0 := by omega
    go_simp
  · have i1 : (m : Int) ≤ (c : Int) := by omega
    have i2 : (0 : Int) ≤ (m : Int) := by omega
    go_simp

theorem slice_to25 (a : Option Addr) (n c m : Nat) (h : SlIn a n c) (hm : m ≤ n) (hnc : n ≤ c) (hc : c ≤ maxLen) (W : World) :
    (Instr.sliceAt 25 (.slice a n c) none (some (.int .i64 (m : Int))) none).run Tryd.prog W = .ok (.slice a m c) W := by
  unfold maxLen at hc
  rcases h with ⟨rfl, rfl, rfl⟩ | ⟨ad, rfl⟩
  · obtain rfl : m = 0 := by omega
    go_simp
  · have i1 : (m : Int) ≤ (c : Int) := by omega
    have i2 : (0 : Int) ≤ (m : Int) := by omega
    go_simp

end Go.Proofs.Qxb6625470aDoor

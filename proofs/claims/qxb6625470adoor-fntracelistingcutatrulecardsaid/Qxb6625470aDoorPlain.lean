import Derived.Lib.ItoaNum
namespace Go.Proofs.Qxb6625470aDoor
set_option linter.unusedVariables false
set_option linter.unusedSimpArgs false

/-! ### The plain listing: no Go in sight -/
def sIn : ByteArray := ⟨#[73, 110, 112, 117, 116, 32, 99, 108, 97, 105, 109, 115, 32, 97, 110, 100, 32, 73, 110, 105, 116, 105, 97, 108, 32, 69, 118, 97, 108, 117, 97, 116, 105, 111, 110, 32, 67, 111, 110, 116, 101, 120, 116, 58, 10]⟩
def sOut : ByteArray := ⟨#[32, 79, 117, 116, 112, 117, 116, 32, 67, 111, 110, 116, 101, 120, 116, 58, 10]⟩
def sFin : ByteArray := ⟨#[70, 105, 110, 97, 108, 32, 79, 117, 116, 112, 117, 116, 58, 10]⟩
def sPre : ByteArray := ⟨#[65, 102, 116, 101, 114, 32, 80, 114, 111, 99, 101, 115, 115, 105, 110, 103, 32, 82, 117, 108, 101, 32]⟩
def sPost : ByteArray := ⟨#[58, 10, 32, 69, 118, 97, 108, 117, 97, 116, 105, 111, 110, 32, 67, 111, 110, 116, 101, 120, 116, 58, 10]⟩

def lineOf (lines : List UInt8) (zs : List Int) (p : Int) : List UInt8 :=
  (lines.drop (zs.getD p.toNat 0).toNat).take ((zs.getD (p.toNat + 1) 0).toNat - (zs.getD p.toNat 0).toNat)
def linesOf (lines : List UInt8) (zs : List Int) (ps : List Int) : List UInt8 := ps.flatMap (lineOf lines zs)

theorem linesOf_nil (lines : List UInt8) (zs : List Int) : linesOf lines zs [] = [] := rfl
theorem linesOf_snoc (lines : List UInt8) (zs : List Int) (ps : List Int) (p : Int) : linesOf lines zs (ps ++ [p]) = linesOf lines zs ps ++ lineOf lines zs p := by
  simp [linesOf]

/-- All lines that the first i rules made. -/
def madeTo (lines : List UInt8) (zs : List Int) (zss : List (List Int)) : Nat → List UInt8
  | 0 => []
  | i + 1 => madeTo lines zs zss i ++ linesOf lines zs (zss.getD i [])

/-- All lines that the first i rules issued. -/
def issuedTo (lines : List UInt8) (zs : List Int) (zss : List (List Int)) (add : List Bool) : Nat → List UInt8
  | 0 => []
  | i + 1 => issuedTo lines zs zss add i ++ (if add.getD i false then [] else linesOf lines zs (zss.getD i []))

/-- What stands for rule i (from 0). -/
def part (input lines : List UInt8) (zs : List Int) (zss : List (List Int)) (add : List Bool) (i : Nat) : List UInt8 :=
  sPre.data.toList ++ Lib.decDigits (i + 1) ++ sPost.data.toList ++ input ++ madeTo lines zs zss (i + 1) ++ sOut.data.toList ++ issuedTo lines zs zss add (i + 1)

def headTo (input lines : List UInt8) (zs : List Int) (zss : List (List Int)) (add : List Bool) : Nat → List UInt8
  | 0 => sIn.data.toList ++ input
  | i + 1 => headTo input lines zs zss add i ++ part input lines zs zss add i

def listing (input lines : List UInt8) (zs : List Int) (zss : List (List Int)) (add : List Bool) (outs : List Int) (R : Nat) : List UInt8 :=
  headTo input lines zs zss add R ++ sFin.data.toList ++ linesOf lines zs outs

/-! ### Its length, in closed form -/
def sumTo (f : Nat → Nat) : Nat → Nat
  | 0 => 0
  | n + 1 => sumTo f n + f n

theorem sumTo_le (f : Nat → Nat) {i j : Nat} (h : i ≤ j) : sumTo f i ≤ sumTo f j := by
  induction j with
  | zero => have : i = 0 := by omega
            subst this; exact Nat.le_refl _
  | succ j ih =>
    by_cases e : i = j + 1
    · subst e; exact Nat.le_refl _
    · have := ih (by omega)
      simp only [sumTo]; omega

theorem sumTo_add (f g : Nat → Nat) (n : Nat) : sumTo (fun i => f i + g i) n = sumTo f n + sumTo g n := by
  induction n with
  | zero => rfl
  | succ n ih => simp only [sumTo, ih]; omega

theorem sumTo_const (c n : Nat) : sumTo (fun _ => c) n = n * c := by
  induction n with
  | zero => simp [sumTo]
  | succ n ih => simp only [sumTo, ih, Nat.add_mul, Nat.one_mul]

theorem sumTo_congr {f g : Nat → Nat} {n : Nat} (h : ∀ i, i < n → f i = g i) : sumTo f n = sumTo g n := by
  induction n with
  | zero => rfl
  | succ n ih => simp only [sumTo]; rw [ih fun i hi => h i (by omega), h n (by omega)]

/-- The weights. -/
theorem weigh_step (m : Nat → Nat) (i k : Nat) (h : k ≤ i + 1) : sumTo (fun j => (i + 1 - j) * m j) k = sumTo (fun j => (i - j) * m j) k + sumTo m k := by
  induction k with
  | zero => rfl
  | succ k ih =>
    simp only [sumTo, ih (by omega)]
    have e : i + 1 - k = (i - k) + 1 := by omega
    rw [e, Nat.add_mul, Nat.one_mul]
    omega

theorem weigh (m : Nat → Nat) (i : Nat) : sumTo (fun t => sumTo m (t + 1)) i = sumTo (fun j => (i - j) * m j) i := by
  induction i with
  | zero => rfl
  | succ i ih =>
    rw [weigh_step m i (i + 1) (Nat.le_refl _)]
    have e : sumTo (fun j => (i - j) * m j) (i + 1) = sumTo (fun j => (i - j) * m j) i := by simp [sumTo]
    rw [e, ← ih]
    rfl

theorem sumTo_two (f : Nat → Nat) (n : Nat) : sumTo f (n + 1) = sumTo f n + f n := rfl

theorem lenIn : sIn.data.toList.length = 45 := by decide
theorem lenOut : sOut.data.toList.length = 17 := by decide
theorem lenFin : sFin.data.toList.length = 14 := by decide
theorem lenPre : sPre.data.toList.length = 22 := by decide
theorem lenPost : sPost.data.toList.length = 23 := by decide

def lenOf (lines : List UInt8) (zs : List Int) (zss : List (List Int)) (k : Nat) : Nat := (linesOf lines zs (zss.getD k [])).length
/-- How often rule k's lines stand. -/
def times (add : List Bool) (R k : Nat) : Nat := if add.getD k false then R - k else 2 * (R - k)

theorem madeTo_length (lines : List UInt8) (zs : List Int) (zss : List (List Int)) (i : Nat) : (madeTo lines zs zss i).length = sumTo (lenOf lines zs zss) i := by
  induction i with
  | zero => rfl
  | succ i ih => simp only [madeTo, List.length_append, ih, sumTo, lenOf]

def lenIss (lines : List UInt8) (zs : List Int) (zss : List (List Int)) (add : List Bool) (k : Nat) : Nat := if add.getD k false then 0 else lenOf lines zs zss k

theorem issuedTo_length (lines : List UInt8) (zs : List Int) (zss : List (List Int)) (add : List Bool) (i : Nat) : (issuedTo lines zs zss add i).length = sumTo (lenIss lines zs zss add) i := by
  induction i with
  | zero => rfl
  | succ i ih =>
    simp only [issuedTo, List.length_append, ih, sumTo, lenIss]
    split <;> simp [lenOf]

theorem headTo_length (input lines : List UInt8) (zs : List Int) (zss : List (List Int)) (add : List Bool) (i : Nat) :
    (headTo input lines zs zss add i).length = 45 + (i + 1) * input.length + sumTo (fun t => 62 + Lib.nDigits (t + 1)) i + sumTo (fun t => sumTo (fun k => lenOf lines zs zss k + lenIss lines zs zss add k) (t + 1)) i := by
  induction i with
  | zero =>
    simp only [headTo, List.length_append, lenIn, sumTo]
    omega
  | succ i ih =>
    simp only [headTo, part, List.length_append, ih, madeTo_length, issuedTo_length, lenPre, lenPost, lenOut, Lib.decDigits_length]
    rw [sumTo_two (fun t => 62 + Lib.nDigits (t + 1)) i, sumTo_two (fun t => sumTo (fun k => lenOf lines zs zss k + lenIss lines zs zss add k) (t + 1)) i, sumTo_add (lenOf lines zs zss) (lenIss lines zs zss add) (i + 1)]
    have e : (i + 1 + 1) * input.length = (i + 1) * input.length + input.length := by rw [Nat.add_mul (i + 1) 1, Nat.one_mul]
    rw [e]
    omega

def total (input lines : List UInt8) (zs : List Int) (zss : List (List Int)) (add : List Bool) (outs : List Int) (R : Nat) : Nat :=
  59 + (R + 1) * input.length + sumTo (fun t => 62 + Lib.nDigits (t + 1)) R + sumTo (fun k => times add R k * lenOf lines zs zss k) R + (linesOf lines zs outs).length

theorem listing_length (input lines : List UInt8) (zs : List Int) (zss : List (List Int)) (add : List Bool) (outs : List Int) (R : Nat) :
    (listing input lines zs zss add outs R).length = total input lines zs zss add outs R := by
  simp only [listing, List.length_append, headTo_length, lenFin, total]
  rw [weigh]
  have e : sumTo (fun j => (R - j) * (lenOf lines zs zss j + lenIss lines zs zss add j)) R = sumTo (fun k => times add R k * lenOf lines zs zss k) R := by
    apply sumTo_congr
    intro k hk
    simp only [times, lenIss]
    split
    · rw [Nat.add_zero]
    · rw [Nat.mul_add, Nat.two_mul, Nat.add_mul]
  rw [e]
  omega

theorem linesOf_take (lines : List UInt8) (zs ps : List Int) (k : Nat) (h : k < ps.length) : linesOf lines zs (ps.take (k + 1)) = linesOf lines zs (ps.take k) ++ lineOf lines zs (ps.getD k 0) := by
  rw [List.take_succ_eq_append_getElem h, linesOf_snoc]
  simp [List.getD, h]

theorem linesOf_take_le (lines : List UInt8) (zs ps : List Int) (k : Nat) : (linesOf lines zs (ps.take k)).length ≤ (linesOf lines zs ps).length := by
  have e : linesOf lines zs ps = linesOf lines zs (ps.take k) ++ linesOf lines zs (ps.drop k) := by
    unfold linesOf
    rw [← List.flatMap_append, List.take_append_drop]
  rw [e, List.length_append]; omega
end Go.Proofs.Qxb6625470aDoor

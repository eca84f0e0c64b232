/-
  Arithmetic on float64 as one rule that parts on nothing: 'fr op x y w' are the result's bits (where the operation is invalid: the bits of a NaN that the tape chooses), 'fd op x y' how many answers are drawn. Two runs of one computation give the 'Same': the same bits, or a NaN each.
-/
import Derived.Laws.FloatArith
import Derived.Deep.Draws
namespace Go.Proofs.Ybulkksw

/-- The bits that the tape chooses for a NaN. -/
def nn (x y : Nat) (w : World) : Nat := Question.cut (.nanBits .f64 x y) (w.tape w.drawn (.nanBits .f64 x y))
def fr (op : BinOp) (x y : Nat) (w : World) : Nat := (floatBits op .f64 x y).getD (nn x y w)
def fd (op : BinOp) (x y : Nat) : Nat := if (floatBits op .f64 x y).isSome then 0 else 1
/-- x stands for a NaN. -/
def IsNan (x : Nat) : Prop := ∃ s t, FloatKind.f64.format.read x = .nan s t
/-- The same number, or a NaN each. -/
def Same (x y : Nat) : Prop := x = y ∨ (IsNan x ∧ IsNan y)

theorem nan_of (s k : Nat) (hk : k < 4503599627370495) : IsNan (s * 9223372036854775808 + 9218868437227405312 + 1 + k) := by
  have f1 : FloatKind.f64.format.signWeight = 9223372036854775808 := by decide
  have f2 : FloatKind.f64.format.binade = 4503599627370496 := by decide
  have f3 : FloatKind.f64.format.infRung = 9218868437227405312 := by decide
  unfold IsNan Ieee.Format.read
  rw [f1, f2, f3]
  have e : (s * 9223372036854775808 + 9218868437227405312 + 1 + k) % 9223372036854775808 = 9218868437227405312 + 1 + k := by omega
  simp only [e]
  rw [if_neg (by omega), if_neg (by omega), if_neg (by omega)]
  exact ⟨_, _, rfl⟩
theorem nan_nn (x y : Nat) (w : World) : IsNan (nn x y w) := by
  unfold nn
  generalize w.tape w.drawn (.nanBits .f64 x y) = t
  exact nan_of (t % 2) (t / 2 % 4503599627370495) (Nat.mod_lt _ (by decide))

/-- An operation on a NaN is invalid. -/
theorem nan_left {op : BinOp} {x : Nat} (y : Nat) (h : IsNan x) (ho : op = .mul ∨ op = .add) : floatBits op .f64 x y = none := by
  obtain ⟨s, t, h⟩ := h
  rcases ho with rfl | rfl
  · simp [floatBits, Ieee.Format.mul, h, Ieee.Datum.product]
  · simp [floatBits, Ieee.Format.add, h, Ieee.Datum.sum]
theorem nan_right {op : BinOp} (x : Nat) {y : Nat} (h : IsNan y) (ho : op = .mul ∨ op = .add) : floatBits op .f64 x y = none := by
  obtain ⟨s, t, h⟩ := h
  rcases ho with rfl | rfl
  · simp only [floatBits, Ieee.Format.mul, h]
    cases FloatKind.f64.format.read x <;> rfl
  · simp only [floatBits, Ieee.Format.add, h]
    cases FloatKind.f64.format.read x <;> rfl
theorem nan_fr {op : BinOp} {x y : Nat} (w : World) (h : floatBits op .f64 x y = none) : IsNan (fr op x y w) := by
  unfold fr
  rw [h]
  exact nan_nn x y w

/-- TWO RUNS OF ONE OPERATION, on operands that are the same. -/
theorem same_op {op : BinOp} (ho : op = .mul ∨ op = .add) {x x' y y' : Nat} (hx : Same x x') (hy : Same y y') (w w' : World) : Same (fr op x y w) (fr op x' y' w') := by
  rcases hx with rfl | ⟨h1, h2⟩
  · rcases hy with rfl | ⟨h3, h4⟩
    · cases h : floatBits op .f64 x y with
      | some r => exact .inl (by simp [fr, h])
      | none => exact .inr ⟨nan_fr w h, nan_fr w' h⟩
    · exact .inr ⟨nan_fr w (nan_right x h3 ho), nan_fr w' (nan_right x h4 ho)⟩
  · exact .inr ⟨nan_fr w (nan_left y h1 ho), nan_fr w' (nan_left y' h2 ho)⟩
theorem same_refl (x : Nat) : Same x x := .inl rfl

theorem order_nan {x : Nat} (y : Nat) (h : IsNan x) : FloatKind.f64.format.order x y = none := by
  obtain ⟨s, t, h⟩ := h
  simp [Ieee.Format.order, h, Ieee.Datum.order]

section
variable {P : Program}
theorem run_mul (t : TypeId) (x y : Nat) (w : World) : (binOp .mul t (.float .f64 x) (.float .f64 y)).run P w = .ok (.float .f64 (fr .mul x y w)) (w.drewN (fd .mul x y)) := by
  unfold fr fd
  cases h : floatBits .mul .f64 x y with
  | some r => exact run_float_arith w .mul t .f64 x y r h
  | none =>
    have h' : FloatKind.f64.format.mul x y = none := h
    simp [binOp, Op.floatArith, h', Question.forced]
    exact ⟨rfl, rfl⟩
theorem run_add (t : TypeId) (x y : Nat) (w : World) : (binOp .add t (.float .f64 x) (.float .f64 y)).run P w = .ok (.float .f64 (fr .add x y w)) (w.drewN (fd .add x y)) := by
  unfold fr fd
  cases h : floatBits .add .f64 x y with
  | some r => exact run_float_arith w .add t .f64 x y r h
  | none =>
    have h' : FloatKind.f64.format.add x y = none := h
    simp [binOp, Op.floatArith, h', Question.forced]
    exact ⟨rfl, rfl⟩
end
end Go.Proofs.Ybulkksw

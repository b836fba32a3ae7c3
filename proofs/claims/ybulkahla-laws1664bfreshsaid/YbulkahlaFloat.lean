import Derived.Test.YbulkahlaSamples
import Derived.Deep.Draws
namespace Go.Proofs.Ybulkahla
open Go.RowKit

/-! FLOATS UP TO WHICH NaN IT IS: 'cn b': none where the bits are a NaN's, else the bits. -/

def nanB (b : Nat) : Bool := (FloatKind.f64.format.read b).isNaN
def cn (b : Nat) : Option Nat := if nanB b = true then none else some b

theorem cn_nan {b : Nat} (h : nanB b = true) : cn b = none := if_pos h
theorem cn_num {b : Nat} (h : nanB b = false) : cn b = some b := if_neg (by rw [h]; exact Bool.false_ne_true)

theorem isNaN_iff {d : Ieee.Datum} (h : d.isNaN = true) : ∃ s f, d = .nan s f := by
  cases d <;> simp [Ieee.Datum.isNaN] at h
  exact ⟨_, _, rfl⟩

theorem nanB_out {b : Nat} (h : nanB b = true) : ∃ s f, FloatKind.f64.format.read b = .nan s f := isNaN_iff h

/-- an operation on floats, up to which NaN -/
def opF (op : BinOp) : Option Nat → Option Nat → Option Nat
  | some x, some y => (floatBits op .f64 x y).bind cn
  | _, _ => none

def ordF : Option Nat → Option Nat → Option Ordering
  | some x, some y => FloatKind.f64.format.order x y
  | _, _ => none

theorem sum_nan_left (s : Bool) (f : Nat) (d : Ieee.Datum) : (Ieee.Datum.nan s f).sum d = none := by cases d <;> rfl
theorem sum_nan_right (s : Bool) (f : Nat) (d : Ieee.Datum) : d.sum (Ieee.Datum.nan s f) = none := by cases d <;> rfl
theorem product_nan_left (s : Bool) (f : Nat) (d : Ieee.Datum) : (Ieee.Datum.nan s f).product d = none := by cases d <;> rfl
theorem product_nan_right (s : Bool) (f : Nat) (d : Ieee.Datum) : d.product (Ieee.Datum.nan s f) = none := by cases d <;> rfl
theorem quotient_nan_left (n : Nat) (s : Bool) (f : Nat) (d : Ieee.Datum) : (Ieee.Datum.nan s f).quotient n d = none := by cases d <;> rfl
theorem quotient_nan_right (n : Nat) (s : Bool) (f : Nat) (d : Ieee.Datum) : d.quotient n (Ieee.Datum.nan s f) = none := by cases d <;> rfl
theorem order_nan_left (s : Bool) (f : Nat) (d : Ieee.Datum) : (Ieee.Datum.nan s f).order d = none := by cases d <;> rfl
theorem order_nan_right (s : Bool) (f : Nat) (d : Ieee.Datum) : d.order (Ieee.Datum.nan s f) = none := by cases d <;> rfl

theorem floatBits_nan_left (op : BinOp) {x y : Nat} (h : nanB x = true) : floatBits op .f64 x y = none := by
  obtain ⟨s, f, e⟩ := nanB_out h
  unfold floatBits
  split <;> simp only [Ieee.Format.add, Ieee.Format.sub, Ieee.Format.mul, Ieee.Format.div, e, sum_nan_left, product_nan_left, quotient_nan_left, Option.map_none]

theorem floatBits_nan_right (op : BinOp) {x y : Nat} (h : nanB y = true) : floatBits op .f64 x y = none := by
  obtain ⟨s, f, e⟩ := nanB_out h
  unfold floatBits
  split <;> simp only [Ieee.Format.add, Ieee.Format.sub, Ieee.Format.mul, Ieee.Format.div, e, Ieee.Datum.opposite, sum_nan_right, product_nan_right, quotient_nan_right, Option.map_none]

theorem order_cn (x y : Nat) : FloatKind.f64.format.order x y = ordF (cn x) (cn y) := by
  cases hx : nanB x with
  | true =>
    rw [cn_nan hx]
    obtain ⟨s, f, e⟩ := nanB_out hx
    simp only [Ieee.Format.order, e, order_nan_left, ordF]
  | false =>
    cases hy : nanB y with
    | true =>
      rw [cn_nan hy, cn_num hx]
      obtain ⟨s, f, e⟩ := nanB_out hy
      simp only [Ieee.Format.order, e, order_nan_right, ordF]
    | false => rw [cn_num hx, cn_num hy]; rfl

/-- the bits of a NaN that the tape gave are a NaN's -/
theorem nan_of_rung (s u : Nat) (_hs : s < 2) (hu : u < 4503599627370495) : nanB (s * 9223372036854775808 + 9218868437227405312 + 1 + u) = true := by
  have h1 : FloatKind.f64.format.signWeight = 9223372036854775808 := by decide
  have h2 : FloatKind.f64.format.infRung = 9218868437227405312 := by decide
  have h3 : FloatKind.f64.format.binade = 4503599627370496 := by decide
  unfold nanB Ieee.Format.read
  simp only [h1, h2, h3]
  have hr : (s * 9223372036854775808 + 9218868437227405312 + 1 + u) % 9223372036854775808 = 9218868437227405312 + 1 + u := by omega
  rw [hr, if_neg (by omega), if_neg (by omega), if_neg (by omega)]
  rfl

theorem cut_nan (x y t : Nat) : nanB ((Question.nanBits .f64 x y).cut t) = true := by
  have h := nan_of_rung (t % 2) (t / 2 % 4503599627370495) (by omega) (by omega)
  exact h

theorem cut_minmax (m : Bool) (x y t : Nat) : nanB ((Question.nanMinMax .f64 m x y).cut t) = true := by
  have h := nan_of_rung (t % 2) (t / 2 % 4503599627370495) (by omega) (by omega)
  exact h

/-! what the walk takes: the bits behind an operation, and how many draws -/
def fval (op : BinOp) (x y : Nat) (w : World) : Nat := (floatBits op .f64 x y).getD ((Question.nanBits .f64 x y).cut (w.tape w.drawn (.nanBits .f64 x y)))
def fdr (op : BinOp) (x y : Nat) : Nat := if (floatBits op .f64 x y).isSome then 0 else 1

theorem cn_fval (op : BinOp) (x y : Nat) (w : World) : cn (fval op x y w) = opF op (cn x) (cn y) := by
  unfold fval
  cases hx : nanB x with
  | true => rw [floatBits_nan_left op hx, cn_nan hx, Option.getD_none, cn_nan (cut_nan _ _ _)]; rfl
  | false =>
    cases hy : nanB y with
    | true => rw [floatBits_nan_right op hy, cn_nan hy, cn_num hx, Option.getD_none, cn_nan (cut_nan _ _ _)]; rfl
    | false =>
      rw [cn_num hx, cn_num hy]
      show _ = (floatBits op .f64 x y).bind cn
      cases floatBits op .f64 x y with
      | none => rw [Option.getD_none, cn_nan (cut_nan _ _ _)]; rfl
      | some r => rfl

section
variable {P : Program} (w : World) (t : TypeId) (x y : Nat)
theorem run_farith (op : BinOp) (hop : op = .add ∨ op = .sub ∨ op = .mul ∨ op = .quo) : (binOp op t (.float .f64 x) (.float .f64 y)).run P w = .ok (.float .f64 (fval op x y w)) (w.drewN (fdr op x y)) := by
  cases hb : floatBits op .f64 x y with
  | some r =>
    rw [run_float_arith w op t .f64 x y r hb]
    simp [fval, fdr, hb, World.drewN_zero]
  | none =>
    unfold floatBits at hb
    rcases hop with rfl | rfl | rfl | rfl <;> simp only at hb <;>
      simp [binOp, Op.floatArith, hb, fval, fdr, floatBits, Question.forced, World.drewN, choose, Sem.run]
theorem run_fadd : (binOp .add t (.float .f64 x) (.float .f64 y)).run P w = .ok (.float .f64 (fval .add x y w)) (w.drewN (fdr .add x y)) := run_farith w t x y .add (by simp)
theorem run_fsub : (binOp .sub t (.float .f64 x) (.float .f64 y)).run P w = .ok (.float .f64 (fval .sub x y w)) (w.drewN (fdr .sub x y)) := run_farith w t x y .sub (by simp)
theorem run_fmul : (binOp .mul t (.float .f64 x) (.float .f64 y)).run P w = .ok (.float .f64 (fval .mul x y w)) (w.drewN (fdr .mul x y)) := run_farith w t x y .mul (by simp)
theorem run_fquo : (binOp .quo t (.float .f64 x) (.float .f64 y)).run P w = .ok (.float .f64 (fval .quo x y w)) (w.drewN (fdr .quo x y)) := run_farith w t x y .quo (by simp)
end

/-! min, max -/
def maxF : Option Nat → Option Nat → Option Nat
  | some x, some y => match FloatKind.f64.format.order x y with
    | none => none
    | some .lt => some y
    | some .gt => some x
    | some .eq => some (if (FloatKind.f64.decode x).neg then y else x)
  | _, _ => none
def minF : Option Nat → Option Nat → Option Nat
  | some x, some y => match FloatKind.f64.format.order x y with
    | none => none
    | some .lt => some x
    | some .gt => some y
    | some .eq => some (if (FloatKind.f64.decode x).neg then x else y)
  | _, _ => none
def fmaxv (x y : Nat) (w : World) : Nat := match FloatKind.f64.format.order x y with
    | none => (Question.nanMinMax .f64 true x y).cut (w.tape w.drawn (.nanMinMax .f64 true x y))
    | some .lt => y
    | some .gt => x
    | some .eq => if (FloatKind.f64.decode x).neg then y else x
def fminv (x y : Nat) (w : World) : Nat := match FloatKind.f64.format.order x y with
    | none => (Question.nanMinMax .f64 false x y).cut (w.tape w.drawn (.nanMinMax .f64 false x y))
    | some .lt => x
    | some .gt => y
    | some .eq => if (FloatKind.f64.decode x).neg then x else y
def fmdr (x y : Nat) : Nat := if (FloatKind.f64.format.order x y).isSome then 0 else 1

theorem order_nan_x {x y : Nat} (h : nanB x = true) : FloatKind.f64.format.order x y = none := by rw [order_cn, cn_nan h]; rfl
theorem order_nan_y {x y : Nat} (h : nanB y = true) : FloatKind.f64.format.order x y = none := by rw [order_cn, cn_nan h]; cases cn x <;> rfl

theorem cn_fmaxv (x y : Nat) (w : World) : cn (fmaxv x y w) = maxF (cn x) (cn y) := by
  unfold fmaxv
  cases hx : nanB x with
  | true => rw [order_nan_x hx, cn_nan hx]; simp only; rw [cn_nan (cut_minmax _ _ _ _)]; rfl
  | false =>
    cases hy : nanB y with
    | true => rw [order_nan_y hy, cn_nan hy, cn_num hx]; simp only; rw [cn_nan (cut_minmax _ _ _ _)]; rfl
    | false =>
      rw [cn_num hx, cn_num hy]
      simp only [maxF]
      cases FloatKind.f64.format.order x y with
      | none => exact cn_nan (cut_minmax _ _ _ _)
      | some o => cases o <;> simp only [] <;> first | exact cn_num hx | exact cn_num hy | (split; exact cn_num hy; exact cn_num hx)

theorem cn_fminv (x y : Nat) (w : World) : cn (fminv x y w) = minF (cn x) (cn y) := by
  unfold fminv
  cases hx : nanB x with
  | true => rw [order_nan_x hx, cn_nan hx]; simp only; rw [cn_nan (cut_minmax _ _ _ _)]; rfl
  | false =>
    cases hy : nanB y with
    | true => rw [order_nan_y hy, cn_nan hy, cn_num hx]; simp only; rw [cn_nan (cut_minmax _ _ _ _)]; rfl
    | false =>
      rw [cn_num hx, cn_num hy]
      simp only [minF]
      cases FloatKind.f64.format.order x y with
      | none => exact cn_nan (cut_minmax _ _ _ _)
      | some o => cases o <;> simp only [] <;> first | exact cn_num hx | exact cn_num hy | (split; exact cn_num hx; exact cn_num hy)

theorem run_fmax {P : Program} (w : World) (ts : Array TypeId) (t : TypeId) (x y : Nat) : (Builtin.max_ ts t #[.float .f64 x, .float .f64 y]).run P w = .ok (.float .f64 (fmaxv x y w)) (w.drewN (fmdr x y)) := by
  simp only [Builtin.max_, List.foldlM, Builtin.max2, fmaxv, fmdr]
  cases FloatKind.f64.format.order x y with
  | none => simp [choose, Sem.run, Question.forced, World.drewN]
  | some o => cases o <;> simp [World.drewN_zero]

theorem run_fmin {P : Program} (w : World) (ts : Array TypeId) (t : TypeId) (x y : Nat) : (Builtin.min_ ts t #[.float .f64 x, .float .f64 y]).run P w = .ok (.float .f64 (fminv x y w)) (w.drewN (fmdr x y)) := by
  simp only [Builtin.min_, List.foldlM, Builtin.min2, fminv, fmdr]
  cases FloatKind.f64.format.order x y with
  | none => simp [choose, Sem.run, Question.forced, World.drewN]
  | some o => cases o <;> simp [World.drewN_zero]

/-! the square root -/
def sqrtF : Option Nat → Option Nat
  | some x => (FloatKind.f64.format.sqrt x).bind cn
  | none => none
def fsqrt (x : Nat) (w : World) : Nat := (FloatKind.f64.format.sqrt x).getD ((Question.nanBits .f64 x x).cut (w.tape w.drawn (.nanBits .f64 x x)))
def fsdr (x : Nat) : Nat := if (FloatKind.f64.format.sqrt x).isSome then 0 else 1

theorem cn_fsqrt (x : Nat) (w : World) : cn (fsqrt x w) = sqrtF (cn x) := by
  unfold fsqrt
  cases hx : nanB x with
  | true =>
    rw [cn_nan hx]
    obtain ⟨s, f, e⟩ := nanB_out hx
    have : FloatKind.f64.format.sqrt x = none := by simp only [Ieee.Format.sqrt, e]; rfl
    rw [this, Option.getD_none, cn_nan (cut_nan _ _ _)]; rfl
  | false =>
    rw [cn_num hx]
    show _ = (FloatKind.f64.format.sqrt x).bind cn
    cases FloatKind.f64.format.sqrt x with
    | none => rw [Option.getD_none, cn_nan (cut_nan _ _ _)]; rfl
    | some r => rfl

theorem run_fsqrt {P : Program} (w : World) (x : Nat) : (Extern.MathSqrt.sqrt #[.float .f64 x]).run P w = .ok (.float .f64 (fsqrt x w)) (w.drewN (fsdr x)) := by
  have e : Extern.MathSqrt.sqrt #[.float .f64 x] = (match FloatKind.f64.format.sqrt x with
    | some r => pure (.float .f64 r)
    | none => do pure (.float .f64 (← choose (.nanBits .f64 x x)))) := rfl
  rw [e]
  simp only [fsqrt, fsdr]
  cases FloatKind.f64.format.sqrt x with
  | none => simp [choose, Sem.run, Question.forced, World.drewN]
  | some o => simp [World.drewN_zero]
end Go.Proofs.Ybulkahla

import Derived.Test.YbulkahlaFloat
import Derived.Sort.Statements
namespace Go.Proofs.Ybulkahla
open Ieee

/-! THE ORDER OF FLOATS AS cmp.Compare TELLS IT: NaN lowest, all NaN equal. -/
def cmpB (x y : Nat) : Int :=
  if nanB x then (if nanB y then 0 else -1) else if nanB y then 1 else if FloatKind.f64.format.order x y = some .lt then -1 else if FloatKind.f64.format.order x y = some .gt then 1 else 0

def plc (B : Int) : Datum → Prop
  | .number _ _ i => B ≤ i
  | _ => True
def lev : Datum → Int
  | .nan _ _ => 0
  | .infinity true => 1
  | .number _ _ _ => 2
  | .infinity false => 3
def vl (B : Int) : Datum → Int
  | .number s m i => signed s m (i - B).toNat
  | _ => 0
def ltD (x y : Datum) : Bool := if x.isNaN then !y.isNaN else if y.isNaN then false else x.order y == some .lt

theorem signed_shift (s : Bool) (m k c : Nat) : signed s m (k + c) = signed s m k * (2 ^ c : Nat) := by
  unfold signed
  rw [Nat.shiftLeft_eq, Nat.shiftLeft_eq, Nat.pow_add]
  split <;> simp [Int.mul_assoc, Int.neg_mul]

theorem compare_lt (a b : Int) : compare a b = .lt ↔ a < b := by
  simp only [compare, compareOfLessAndEq]
  split
  · simp [*]
  · split <;> simp [*]

theorem ltD_iff (B : Int) (x y : Datum) (hx : plc B x) (hy : plc B y) : ltD x y = true ↔ lev x < lev y ∨ (lev x = lev y ∧ vl B x < vl B y) := by
  cases x with
  | nan s f => cases y with
    | nan _ _ => simp [ltD, lev, vl, Datum.isNaN]
    | infinity t => cases t <;> simp [ltD, lev, Datum.isNaN]
    | number _ _ _ => simp [ltD, lev, Datum.isNaN]
  | infinity s => cases y with
    | nan _ _ => cases s <;> simp [ltD, lev, Datum.isNaN]
    | infinity t => cases s <;> cases t <;> simp [ltD, lev, vl, Datum.isNaN, Datum.order] <;> decide
    | number _ _ _ => cases s <;> simp [ltD, lev, Datum.isNaN, Datum.order]
  | number s m i => cases y with
    | nan _ _ => simp [ltD, lev, Datum.isNaN]
    | infinity t => cases t <;> simp [ltD, lev, Datum.isNaN, Datum.order]
    | number t n j =>
      simp only [plc] at hx hy
      have e1 : (i - B).toNat = (i - min i j).toNat + (min i j - B).toNat := by omega
      have e2 : (j - B).toNat = (j - min i j).toNat + (min i j - B).toNat := by omega
      have h2 : (0 : Int) < (2 ^ (min i j - B).toNat : Nat) := by
        have := Nat.pow_pos (n := (min i j - B).toNat) (show 0 < 2 by omega)
        omega
      simp only [ltD, Datum.isNaN, Datum.order, lev, vl, e1, e2, signed_shift]
      simp only [Bool.false_eq_true, if_false, beq_iff_eq, Option.some.injEq, compare_lt, Int.lt_irrefl, false_or, true_and]
      exact (Int.mul_lt_mul_right h2).symm

theorem ltD_swo : Sort.SWO ltD := by
  have key : ∀ x y z : Datum, ∃ B, plc B x ∧ plc B y ∧ plc B z := by
    intro x y z
    let p : Datum → Int := fun d => match d with | .number _ _ i => i | _ => 0
    have hp : ∀ d B, B ≤ p d → plc B d := fun d B h => by cases d <;> simp_all [plc, p]
    exact ⟨min (p x) (min (p y) (p z)), hp _ _ (by omega), hp _ _ (by omega), hp _ _ (by omega)⟩
  refine ⟨fun x => ?_, fun x y z h1 h2 => ?_, fun x y z h1 h2 => ?_⟩
  · obtain ⟨B, hx, _, _⟩ := key x x x
    have h := ltD_iff B x x hx hx
    cases hb : ltD x x with
    | false => rfl
    | true => have := h.1 hb; omega
  · obtain ⟨B, hx, hy, hz⟩ := key x y z
    rw [ltD_iff B _ _ hx hy] at h1
    rw [ltD_iff B _ _ hy hz] at h2
    rw [ltD_iff B _ _ hx hz]
    omega
  · obtain ⟨B, hx, hy, hz⟩ := key x y z
    have n1 := ltD_iff B _ _ hx hy
    have n2 := ltD_iff B _ _ hy hz
    have n3 := ltD_iff B _ _ hx hz
    rw [h1] at n1
    rw [h2] at n2
    cases hb : ltD x z with
    | false => rfl
    | true =>
      have := n3.1 hb
      simp only [Bool.false_eq_true, false_iff] at n1 n2
      omega

theorem cmpB_lt (x y : Nat) : decide (cmpB x y < 0) = ltD (FloatKind.f64.format.read x) (FloatKind.f64.format.read y) := by
  unfold cmpB ltD
  change _ = if nanB x = true then !nanB y else if nanB y = true then false else FloatKind.f64.format.order x y == some .lt
  cases nanB x <;> cases nanB y <;> simp
  cases FloatKind.f64.format.order x y with
  | none => simp
  | some o => cases o <;> simp
end Go.Proofs.Ybulkahla

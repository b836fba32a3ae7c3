import Derived.Test.YbulkahlaLeaves
import Derived.Test.YbulkahlaOrd
namespace Go.Proofs.Ybulkahla
open Go.RowKit

/-! THE PLAIN LAW: the least of the law and the least of the reading are one number. -/
def rdLeast' (a : Nat) (s : Smp) : Nat := if ans s then (if (FloatKind.f64.format.order a 0 == some .eq) || (FloatKind.f64.format.order s.2.2.1 a == some .lt) then s.2.2.1 else a) else a
def lawStep (p : Bool × Option Nat) (s : Smp) : Bool × Option Nat := if ans s then (true, if p.1 then minF p.2 (cn s.2.2.1) else cn s.2.2.1) else p
def lawL (l : List Smp) : Bool × Option Nat := l.foldl lawStep (false, cn 0)
theorem lawL_snoc (l : List Smp) (s : Smp) : lawL (l ++ [s]) = lawStep (lawL l) s := by simp [lawL]

def beqF (x y : Option Nat) : Bool := (ordF x y == some .eq) || (x.isNone && y.isNone)

theorem order_pos {y : Nat} (h : ordF (cn y) (cn 0) = some .gt) : nanB y = false := by
  cases hy : nanB y with
  | false => rfl
  | true => rw [cn_nan hy] at h; simp [ordF] at h

/-- the order of two numbers, by 'less' both ways -/
theorem order_of_lt (x y : Nat) (hx : nanB x = false) (hy : nanB y = false) : FloatKind.f64.format.order x y = some (if ltD (FloatKind.f64.format.read x) (FloatKind.f64.format.read y) then .lt else if ltD (FloatKind.f64.format.read y) (FloatKind.f64.format.read x) then .gt else .eq) := by
  have key : ∀ a b : Ieee.Datum, a.isNaN = false → b.isNaN = false → a.order b = some (if ltD a b then .lt else if ltD b a then .gt else .eq) := by
    intro a b ha hb
    cases a with
    | nan _ _ => simp [Ieee.Datum.isNaN] at ha
    | infinity s => cases b with
      | nan _ _ => simp [Ieee.Datum.isNaN] at hb
      | infinity t => cases s <;> cases t <;> rfl
      | number _ _ _ => cases s <;> rfl
    | number s m i => cases b with
      | nan _ _ => simp [Ieee.Datum.isNaN] at hb
      | infinity t => cases t <;> rfl
      | number t n j =>
        simp only [ltD, Ieee.Datum.isNaN, Ieee.Datum.order, Bool.false_eq_true, if_false]
        have hm : min j i = min i j := by omega
        rw [hm]
        generalize Ieee.signed s m (i - min i j).toNat = A
        generalize Ieee.signed t n (j - min i j).toNat = B
        simp only [compare, compareOfLessAndEq]
        by_cases h1 : A < B
        · simp [h1]
        · by_cases h2 : A = B
          · simp [h2]
          · have h3 : B < A := by omega
            simp [h1, h2, h3]
  exact key _ _ hx hy

def ltB (x y : Nat) : Bool := ltD (FloatKind.f64.format.read x) (FloatKind.f64.format.read y)
theorem ltB_swo : Sort.SWO ltB := ⟨fun _ => ltD_swo.irrefl _, fun _ _ _ => ltD_swo.trans _ _ _, fun _ _ _ => ltD_swo.ntrans _ _ _⟩
theorem order_ltB (x y : Nat) (hx : nanB x = false) (hy : nanB y = false) : FloatKind.f64.format.order x y = some (if ltB x y then .lt else if ltB y x then .gt else .eq) := order_of_lt x y hx hy

theorem nan0 : nanB 0 = false := by decide

/-- what ties the two: nothing seen and both zero, or both positive numbers that are equal -/
def Tie (a : Nat) (p : Bool × Option Nat) : Prop :=
  (p = (false, cn 0) ∧ a = 0) ∨ (p.1 = true ∧ ∃ b, p.2 = some b ∧ nanB a = false ∧ nanB b = false ∧ ltB 0 a = true ∧ ltB 0 b = true ∧ ltB a b = false ∧ ltB b a = false)

theorem ans_pos {s : Smp} (h : ans s = true) : nanB s.2.2.1 = false ∧ ltB 0 s.2.2.1 = true := by
  have h1 : ordF (cn s.2.2.1) (cn 0) = some .gt := by simpa [ans] using h
  have hn := order_pos h1
  refine ⟨hn, ?_⟩
  rw [← order_cn, order_ltB _ _ hn nan0] at h1
  cases hb : ltB 0 s.2.2.1 with
  | true => rfl
  | false =>
    rw [hb] at h1
    split at h1 <;> simp at h1

theorem tie_step {a : Nat} {p : Bool × Option Nat} (h : Tie a p) (s : Smp) : Tie (rdLeast' a s) (lawStep p s) := by
  cases ha : ans s with
  | false => simpa [rdLeast', lawStep, ha] using h
  | true =>
    obtain ⟨hy, hpos⟩ := ans_pos ha
    have irr := ltB_swo.irrefl
    rcases h with ⟨rfl, rfl⟩ | ⟨hp, b, hb, hna, hnb, h0a, h0b, hab, hba⟩
    · have e : (FloatKind.f64.format.order 0 0 == some .eq) = true := by decide
      simp only [rdLeast', lawStep, ha, if_true, e, Bool.true_or, Bool.false_eq_true, if_false]
      exact .inr ⟨rfl, s.2.2.1, cn_num hy, hy, hy, hpos, hpos, irr _, irr _⟩
    · obtain ⟨p1, p2⟩ := p
      simp only at hp hb
      subst hp hb
      have h0 : (FloatKind.f64.format.order a 0 == some .eq) = false := by
        rw [order_ltB a 0 hna nan0, h0a]
        split <;> simp
      have hl : (FloatKind.f64.format.order s.2.2.1 a == some .lt) = ltB s.2.2.1 a := by
        rw [order_ltB _ _ hy hna]
        cases ltB s.2.2.1 a <;> simp
        split <;> simp
      simp only [rdLeast', lawStep, ha, if_true, h0, Bool.false_or, hl]
      rw [cn_num hy]
      simp only [minF]
      rw [order_ltB b _ hnb hy]
      cases hya : ltB s.2.2.1 a with
      | true =>
        -- s < a, a = b: s < b: min is s
        have hyb : ltB s.2.2.1 b = true := by
          cases h : ltB s.2.2.1 b with
          | true => rfl
          | false => have := ltB_swo.ntrans _ _ _ h hba; rw [hya] at this; simp at this
        have hby : ltB b s.2.2.1 = false := by
          cases h : ltB b s.2.2.1 with
          | false => rfl
          | true => have := ltB_swo.trans _ _ _ h hyb; rw [irr] at this; simp at this
        simp only [hby, hyb, if_true, Bool.false_eq_true, if_false]
        exact .inr ⟨rfl, s.2.2.1, rfl, hy, hy, hpos, hpos, irr _, irr _⟩
      | false =>
        have hyb : ltB s.2.2.1 b = false := ltB_swo.ntrans _ _ _ hya hab
        cases hby : ltB b s.2.2.1 with
        | true =>
          simp only [if_true, Bool.false_eq_true, if_false]
          exact .inr ⟨rfl, b, rfl, hna, hnb, h0a, h0b, hab, hba⟩
        | false =>
          simp only [hyb, Bool.false_eq_true, if_false]
          have hay : ltB a s.2.2.1 = false := ltB_swo.ntrans _ _ _ hab hby
          split
          · exact .inr ⟨rfl, b, rfl, hna, hnb, h0a, h0b, hab, hba⟩
          · exact .inr ⟨rfl, s.2.2.1, rfl, hna, hy, h0a, hpos, hay, hya⟩

theorem tie_all (l : List Smp) : Tie (l.foldl rdLeast' 0) (lawL l) := by
  have key : ∀ (l : List Smp) a p, Tie a p → Tie (l.foldl rdLeast' a) (l.foldl lawStep p) := by
    intro l
    induction l with
    | nil => intro a p h; exact h
    | cons s l ih => intro a p h; exact ih _ _ (tie_step h s)
  exact key l 0 _ (.inl ⟨rfl, rfl⟩)

theorem tie_beq {a : Nat} {p : Bool × Option Nat} (h : Tie a p) : beqF (cn a) p.2 = true := by
  rcases h with ⟨rfl, rfl⟩ | ⟨_, b, hb, hna, hnb, _, _, hab, hba⟩
  · decide
  · rw [hb, cn_num hna]
    simp [beqF, ordF, order_ltB _ _ hna hnb, hab, hba]

theorem order_self' {x : Nat} (h : nanB x = false) : FloatKind.f64.format.order x x = some .eq := by
  rw [order_ltB x x h h, ltB_swo.irrefl]; simp
theorem beq_same {x y : Nat} (h : cn x = cn y) : beqF (cn x) (cn y) = true := by
  rw [← h]
  cases hx : nanB x with
  | true => rw [cn_nan hx]; rfl
  | false => rw [cn_num hx]; simp [beqF, ordF, order_self' hx]
end Go.Proofs.Ybulkahla

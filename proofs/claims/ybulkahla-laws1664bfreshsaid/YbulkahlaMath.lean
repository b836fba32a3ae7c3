import Derived.Test.YbulkahlaFloat
namespace Go.Proofs.Ybulkahla
open Go.RowKit

/-! the entries without a body -/
theorem call31 (n : Int) (w : World) : (callFunc 31 #[.int .u64 n]).run Yba.prog w = .ok (.value (.float .f64 n.toNat)) w := by
  rw [run_callFunc_extern (e := Extern.MathFloatBits.float64frombits) Yba.func31 (by kernel_rfl) (by kernel_rfl) (by kernel_rfl) (by kernel_rfl)]; rfl
theorem call42 (b : Nat) (w : World) : (callFunc 42 #[.float .f64 b]).run Yba.prog w = .ok (.value (.int .u64 b)) w := by
  rw [run_callFunc_extern (e := Extern.MathFloatBits.float64bits) Yba.func42 (by kernel_rfl) (by kernel_rfl) (by kernel_rfl) (by kernel_rfl)]; rfl
theorem call43 (b : Nat) (w : World) : (callFunc 43 #[.float .f64 b]).run Yba.prog w = .ok (.value (.float .f64 (fsqrt b w))) (w.drewN (fsdr b)) := by
  rw [run_callFunc_extern (e := Extern.MathSqrt.sqrt) Yba.func43 (by kernel_rfl) (by kernel_rfl) (by kernel_rfl) (by kernel_rfl), run_fsqrt]; rfl
attribute [local go_sem] call31 call42 call43

def infB : Nat := 9218868437227405312
set_option maxHeartbeats 400000 in
theorem inf_any (w : World) :
    Calls Yba.prog 10 #[.int .i64 1] w fun e w' => e = .returned (.float .f64 infB) ∧ w' = w := by
  go_enter Yba.func10, Yba.ntmps10
  go_wp2_with fail
  go_ret
  exact ⟨rfl, rfl⟩

theorem sqrt_any (x : Nat) (w : World) :
    Calls Yba.prog 36 #[.float .f64 x] w fun e w' => e = .returned (.float .f64 (fsqrt x w)) ∧ w' = w.drewN (fsdr x) := by
  go_enter Yba.func36, Yba.ntmps36
  go_wp2_with fail
  go_ret
  exact ⟨rfl, rfl⟩

def fabs (x : Nat) : Nat := x % 9223372036854775808
def absF : Option Nat → Option Nat
  | some x => cn (fabs x)
  | none => none

theorem nanB_mod (x : Nat) : nanB (x % 9223372036854775808) = nanB x := by
  have h1 : FloatKind.f64.format.signWeight = 9223372036854775808 := by decide
  have h2 : FloatKind.f64.format.infRung = 9218868437227405312 := by decide
  have h3 : FloatKind.f64.format.binade = 4503599627370496 := by decide
  unfold nanB Ieee.Format.read
  simp only [h1, h2, h3, Nat.mod_mod]
  split
  · rfl
  · split
    · rfl
    · split <;> rfl

theorem cn_fabs (x : Nat) : cn (fabs x) = absF (cn x) := by
  cases hx : nanB x with
  | true => rw [cn_nan hx]; exact cn_nan (by unfold fabs; rw [nanB_mod, hx])
  | false => rw [cn_num hx]; rfl

theorem andNot_top (x : Nat) : (bits BinOp.andNot IntKind.u64 (x : Int) 9223372036854775808).toNat = fabs x := by
  have e : bits BinOp.andNot IntKind.u64 (x : Int) 9223372036854775808 = bits BinOp.andNot IntKind.u64 ((x % 18446744073709551616 : Nat) : Int) ((9223372036854775808 : Nat) : Int) := by
    have : BitVec.ofInt IntKind.u64.bits (x : Int) = BitVec.ofInt IntKind.u64.bits ((x % 18446744073709551616 : Nat) : Int) := by
      apply BitVec.eq_of_toNat_eq
      simp [BitVec.toNat_ofInt, IntKind.bits]
      omega
    simp only [bits]
    rw [this]
    rfl
  rw [e, u64_andNot_nat _ _ (by omega) (by omega), Int.toNat_natCast]
  show (x % 18446744073709551616) &&& 9223372036854775807 = _
  have h63 : (x % 18446744073709551616) &&& 9223372036854775807 = (x % 18446744073709551616) % 9223372036854775808 := Nat.and_two_pow_sub_one_eq_mod (x % 18446744073709551616) 63
  rw [h63]
  unfold fabs
  omega

theorem abs_any (x : Nat) (w : World) :
    Calls Yba.prog 35 #[.float .f64 x] w fun e w' => e = .returned (.float .f64 (fabs x)) ∧ w' = w := by
  go_enter Yba.func35, Yba.ntmps35
  go_wp2_with fail
  go_ret
  exact ⟨by simp only [Array.getD_eq_getD_getElem?]; simp [andNot_top], rfl⟩

/-! math.Hypot -/
theorem run_floatArith {P : Program} (w : World) (x y : Nat) (op : BinOp) (hop : op = .add ∨ op = .sub ∨ op = .mul ∨ op = .quo) : (Op.floatArith op .f64 x y).run P w = .ok (.float .f64 (fval op x y w)) (w.drewN (fdr op x y)) := by
  have h := run_farith (P := P) w 0 x y op hop
  rcases hop with rfl | rfl | rfl | rfl <;> simpa [binOp] using h

theorem run_asm {P : Program} (w : World) (x y : Nat) (op : BinOp) (hop : op = .add ∨ op = .sub ∨ op = .mul ∨ op = .quo) : (Extern.MathAsm.arith op x y).run P w = .ok (fval op x y w) (w.drewN (fdr op x y)) := by
  simp [Extern.MathAsm.arith, run_floatArith w x y op hop]

theorem nanB_iff (x : Nat) : nanB x = decide (infB < x % 9223372036854775808) := by
  have h1 : FloatKind.f64.format.signWeight = 9223372036854775808 := by decide
  have h2 : FloatKind.f64.format.infRung = 9218868437227405312 := by decide
  have h3 : FloatKind.f64.format.binade = 4503599627370496 := by decide
  unfold nanB Ieee.Format.read infB
  simp only [h1, h2, h3]
  split
  · rename_i h; simp [Ieee.Datum.isNaN]; omega
  · split
    · rename_i h; simp [Ieee.Datum.isNaN]; omega
    · split
      · rename_i h; simp [Ieee.Datum.isNaN]; omega
      · simp [Ieee.Datum.isNaN]; omega

/-- the length of the longer side, then the shorter over it, and so on -/
def hypN (p q : Nat) : Option Nat :=
  if p = 0 ∧ q = 0 then cn 0
  else
    let big := if FloatKind.f64.format.order p q == some .lt then q else p
    let small := if FloatKind.f64.format.order p q == some .lt then p else q
    opF .mul (sqrtF (opF .add (opF .mul (opF .quo (cn small) (cn big)) (opF .quo (cn small) (cn big))) (cn 4607182418800017408))) (cn big)
def hypF (p q : Option Nat) : Option Nat :=
  if p.map fabs = some infB ∨ q.map fabs = some infB then cn infB
  else match p, q with
    | some p, some q => hypN (fabs p) (fabs q)
    | _, _ => none

theorem cn_map (x : Nat) : ((cn x).map fabs = some infB) ↔ (x % 9223372036854775808 = infB) := by
  cases hx : nanB x with
  | true =>
    rw [cn_nan hx]
    rw [nanB_iff] at hx
    simp at hx ⊢
    omega
  | false =>
    rw [cn_num hx]
    simp [fabs]

def hypBody (msg : String) (p q : Nat) : Sem Value := do
    if p == Extern.MathAsm.posInf || q == Extern.MathAsm.posInf then return .float .f64 Extern.MathAsm.posInf
    if p > Extern.MathAsm.posInf || q > Extern.MathAsm.posInf then return .float .f64 Extern.MathAsm.nan
    if p == 0 && q == 0 then return .float .f64 0
    let (big, small) := if Extern.MathAsm.lt p q then (q, p) else (p, q)
    let r ← Extern.MathAsm.div small big
    let r ← Extern.MathAsm.add (← Extern.MathAsm.mul r r) Extern.MathAsm.one
    let .float _ r ← Extern.MathSqrt.sqrt #[.float .f64 r] | stuck msg
    pure (.float .f64 (← Extern.MathAsm.mul r big))

theorem run_hypTail {P : Program} (msg : String) (big small : Nat) (w : World) : ∃ r n, (do
    let r ← Extern.MathAsm.div small big
    let r ← Extern.MathAsm.add (← Extern.MathAsm.mul r r) Extern.MathAsm.one
    let .float _ r ← Extern.MathSqrt.sqrt #[.float .f64 r] | stuck msg
    pure (.float .f64 (← Extern.MathAsm.mul r big)) : Sem Value).run P w = .ok (.float .f64 r) (w.drewN n) ∧
      cn r = opF .mul (sqrtF (opF .add (opF .mul (opF .quo (cn small) (cn big)) (opF .quo (cn small) (cn big))) (cn 4607182418800017408))) (cn big) := by
  apply Exists.intro
  apply Exists.intro
  constructor
  · simp only [Extern.MathAsm.div, Extern.MathAsm.add, Extern.MathAsm.mul, Sem.run_bind, run_asm _ _ _ .quo (by simp), run_asm _ _ _ .add (by simp), run_asm _ _ _ .mul (by simp), Result.andThen_ok, run_fsqrt, Sem.run_pure, World.drewN_drewN]
    rfl
  · simp only [cn_fval, cn_fsqrt]
    rfl

theorem run_archHypot {P : Program} (p q : Nat) (w : World) : ∃ r n, (Extern.MathHypot.archHypot #[.float .f64 p, .float .f64 q]).run P w = .ok (.float .f64 r) (w.drewN n) ∧ cn r = hypF (cn p) (cn q) := by
  obtain ⟨msg, e⟩ : ∃ msg, Extern.MathHypot.archHypot #[.float .f64 p, .float .f64 q] = hypBody msg (fabs p) (fabs q) := ⟨_, rfl⟩
  rw [e]
  unfold hypBody hypF
  have i1 : Extern.MathAsm.posInf = infB := rfl
  simp only [cn_map, i1]
  by_cases h1 : p % 9223372036854775808 = infB ∨ q % 9223372036854775808 = infB
  · rw [if_pos h1]
    have hb : (fabs p == infB || fabs q == infB) = true := by simpa [fabs] using h1
    refine ⟨infB, 0, ?_, rfl⟩
    simp [hb, World.drewN_zero]
  · rw [if_neg h1]
    have hb : (fabs p == infB || fabs q == infB) = false := by simpa [fabs] using h1
    simp only [hb, Bool.false_eq_true, if_false]
    cases hp : nanB p with
    | true =>
      rw [cn_nan hp]
      have hg : (decide (fabs p > infB) || decide (fabs q > infB)) = true := by rw [nanB_iff] at hp; simp [fabs] at hp ⊢; omega
      refine ⟨Extern.MathAsm.nan, 0, ?_, ?_⟩
      · simp [hg, World.drewN_zero]
      · exact cn_nan (by rw [nanB_iff]; decide)
    | false =>
      cases hq : nanB q with
      | true =>
        rw [cn_nan hq, cn_num hp]
        have hg : (decide (fabs p > infB) || decide (fabs q > infB)) = true := by rw [nanB_iff] at hq; simp [fabs] at hq ⊢; omega
        refine ⟨Extern.MathAsm.nan, 0, ?_, ?_⟩
        · simp [hg, World.drewN_zero]
        · exact cn_nan (by rw [nanB_iff]; decide)
      | false =>
        rw [cn_num hp, cn_num hq]
        have hg : (decide (fabs p > infB) || decide (fabs q > infB)) = false := by
          rw [nanB_iff] at hp hq; simp [fabs] at hp hq ⊢; omega
        simp only [hg, Bool.false_eq_true, if_false, hypN]
        by_cases h0 : fabs p = 0 ∧ fabs q = 0
        · have hz : (fabs p == 0 && fabs q == 0) = true := by simpa using h0
          refine ⟨0, 0, ?_, by rw [if_pos h0]⟩
          simp [hz, World.drewN_zero]
        · have hz : (fabs p == 0 && fabs q == 0) = false := by
            cases hzz : (fabs p == 0 && fabs q == 0) with
            | false => rfl
            | true => exact absurd (by simpa using hzz) h0
          simp only [hz, Bool.false_eq_true, if_false]
          rw [if_neg h0]
          cases hl : (FloatKind.f64.format.order (fabs p) (fabs q) == some .lt) with
          | true =>
            have hlt : Extern.MathAsm.lt (fabs p) (fabs q) = true := hl
            obtain ⟨r, n, h, hc⟩ := run_hypTail (P := P) msg (fabs q) (fabs p) w
            refine ⟨r, n, ?_, hc⟩
            rw [← h]
            simp only [hlt, if_true]
          | false =>
            have hlt : Extern.MathAsm.lt (fabs p) (fabs q) = false := hl
            obtain ⟨r, n, h, hc⟩ := run_hypTail (P := P) msg (fabs p) (fabs q) w
            refine ⟨r, n, ?_, hc⟩
            rw [← h]
            simp only [hlt, Bool.false_eq_true, if_false]

theorem call37 (p q : Nat) (w : World) : ∃ r n, (callFunc 37 #[.float .f64 p, .float .f64 q]).run Yba.prog w = .ok (.value (.float .f64 r)) (w.drewN n) ∧ cn r = hypF (cn p) (cn q) := by
  obtain ⟨r, n, h, hc⟩ := run_archHypot (P := Yba.prog) p q w
  refine ⟨r, n, ?_, hc⟩
  rw [run_callFunc_extern (e := Extern.MathHypot.archHypot) Yba.func37 (by kernel_rfl) (by kernel_rfl) (by kernel_rfl) (by kernel_rfl), h]; rfl

theorem hypot_any (p q : Nat) (w : World) :
    Calls Yba.prog 14 #[.float .f64 p, .float .f64 q] w fun e w' => ∃ r n, e = .returned (.float .f64 r) ∧ cn r = hypF (cn p) (cn q) ∧ w' = w.drewN n := by
  obtain ⟨r, n, h, hc⟩ := call37 p q w
  have HC : Hid (cn r = hypF (cn p) (cn q)) := hc
  clear hc
  go_enter Yba.func14, Yba.ntmps14
  go_wp2_with fail
  go_ret
  exact ⟨r, n, rfl, HC.out, rfl⟩
end Go.Proofs.Ybulkahla

import Derived.Test.YbulkahlaMath
import Derived.Deep.RegionHeld3
import Derived.BigQuiet
namespace Go.Proofs.Ybulkahla
open Go.RowKit
set_option linter.unusedSimpArgs false
attribute [local go_sem] run_store_float call31 call42 call43
attribute [local go_sem ↓] run_fadd run_fsub run_fmul run_fquo run_fmax run_fmin run_fsqrt

/-- a sample with a probe answered in time -/
def ans (s : Smp) : Bool := ordF (cn s.2.2.1) (cn 0) == some .gt

/-- a sample as a value -/
def smpVal (s : Smp) : Value := .agg #[.float .f64 s.1, .float .f64 s.2.1, .float .f64 0, .float .f64 s.2.2.1, .int .i64 s.2.2.2, .int .i64 0, .bool false, .float .f64 0, .float .f64 0]

theorem answered_any (s : Smp) (w : World) :
    Calls Yba.prog 32 #[.agg #[.float .f64 s.1, .float .f64 s.2.1, .float .f64 0, .float .f64 s.2.2.1, .int .i64 s.2.2.2, .int .i64 0, .bool false, .float .f64 0, .float .f64 0]] w fun e w' =>
      e = .returned (.bool (ans s)) ∧ w' = w.alloc (.cells #[.float .f64 s.1, .float .f64 s.2.1, .float .f64 0, .float .f64 s.2.2.1, .int .i64 s.2.2.2, .int .i64 0, .bool false, .float .f64 0, .float .f64 0] 42) := by
  go_enter Yba.func32, Yba.ntmps32
  go_wp2_with fail
  go_ret
  exact ⟨by simp only [ans, ← order_cn]; rfl, rfl⟩

def fixF (least ref : Option Nat) : Option Nat := minF least (opF .mul (cn 4606281698874543309) ref)

theorem fixed_any (least ref : Nat) (w : World) :
    Calls Yba.prog 33 #[.float .f64 least, .float .f64 ref] w fun e w' => ∃ r n, e = .returned (.float .f64 r) ∧ cn r = fixF (cn least) (cn ref) ∧ w' = w.drewN n := by
  go_enter Yba.func33, Yba.ntmps33
  go_wp2_with fail
  go_ret
  exact ⟨_, _, rfl, by simp only [cn_fminv, cn_fval, fixF], rfl⟩

def growF (lat least : Option Nat) : Option Nat := opF .sub lat (fixF least lat)

set_option maxHeartbeats 400000 in
theorem growth_any (a b lat : Nat) (p q : Int) (least : Nat) (w : World) :
    Calls Yba.prog 12 #[.agg #[.float .f64 a, .float .f64 b, .float .f64 lat, .int .i64 p, .int .i64 q], .float .f64 least] w fun e w' =>
      ∃ r, e = .returned (.float .f64 r) ∧ cn r = growF (cn lat) (cn least) ∧ Below w.heap.size w w' := by
  go_enter Yba.func12, Yba.ntmps12
  go_wp2_with fail
  go_region_with (go_at_call 33; refine (fixed_any _ _ _).mono ?_; rintro e w' ⟨r, n, rfl, hr, rfl⟩)
  all_goals
    go_wp2_with fail
    go_ret
    exact ⟨_, rfl, by simp only [cn_fval, growF, hr], below_drewN ((Below.refl _ _).alloc (Nat.le_refl _) _) _⟩

def capF (least load lat : Option Nat) (p : Int) : Option Nat × Option Nat :=
  let rate := opF .quo (cn 4652007308841189376) (growF lat least)
  (opF .add load rate, opF .quo rate (sqrtF (cn (floatOfInt .f64 p))))

set_option maxHeartbeats 400000 in
theorem capAt_any (a load lat : Nat) (p q : Int) (least : Nat) (w : World) :
    Calls Yba.prog 13 #[.agg #[.float .f64 a, .float .f64 load, .float .f64 lat, .int .i64 p, .int .i64 q], .float .f64 least] w fun e w' =>
      ∃ r r', e = .returned (.tuple #[.float .f64 r, .float .f64 r']) ∧ cn r = (capF (cn least) (cn load) (cn lat) p).1 ∧ cn r' = (capF (cn least) (cn load) (cn lat) p).2 ∧ Below w.heap.size w w' := by
  go_enter Yba.func13, Yba.ntmps13
  go_wp2_with (go_at_call 12; refine (growth_any _ _ _ _ _ _ _).mono ?_; rintro e w1 ⟨r, rfl, hr, hb⟩)
  have hb' : Below w.heap.size w w1 := ((Below.refl _ _).alloc (Nat.le_refl _) _).trans (hb.mono (by simp))
  have h1 : w1.cell? ⟨w.heap.size, 1, none⟩ = some (.float .f64 load) := by rw [hb.cell (by simp)]; simp [go_sem]
  have h3 : w1.cell? ⟨w.heap.size, 3, none⟩ = some (.int .i64 p) := by rw [hb.cell (by simp)]; simp [go_sem]
  have HR : Hid (cn r = growF (cn lat) (cn least)) := hr
  clear hr hb
  go_region_with (go_at_call 36; refine (sqrt_any _ _).mono ?_; rintro e w' ⟨rfl, rfl⟩)
  all_goals
    go_wp2_with fail
    go_ret2
    exact ⟨_, _, rfl, by simp only [cn_fval, cn_fsqrt, HR.out, capF], by simp only [cn_fval, cn_fsqrt, HR.out, capF], below_drewN hb' _⟩
end Go.Proofs.Ybulkahla

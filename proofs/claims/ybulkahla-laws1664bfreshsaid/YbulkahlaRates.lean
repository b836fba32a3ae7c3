import Derived.Test.YbulkahlaSrv
namespace Go.Proofs.Ybulkahla
open Go.RowKit
set_option linter.unusedSimpArgs false
attribute [local go_sem] run_store_float call31 call42 call43
attribute [local go_sem ↓] run_fadd run_fsub run_fmul run_fquo run_fmax run_fmin run_fsqrt

abbrev fInt (n : Int) : Option Nat := cn (floatOfInt .f64 n)

def ratesStep (c : Option Nat) (a : Option Nat × Option Nat) (s : Smp) : Option Nat × Option Nat :=
  if ans s then (opF .add a.1 (opF .quo (fInt s.2.2.2) (opF .sub c (cn s.1))), opF .add a.2 (opF .quo (fInt s.2.2.2) (opF .mul (opF .sub c (cn s.1)) (opF .sub c (cn s.1))))) else a
def ratesF (c : Option Nat) (l : List Smp) : Option Nat × Option Nat := l.foldl (ratesStep c) (cn 0, cn 0)

theorem rates_snoc (c : Option Nat) (l : List Smp) (s : Smp) : ratesF c (l ++ [s]) = ratesStep c (ratesF c l) s := by simp [ratesF]

theorem take_snoc' {α : Type} {l : List α} {k : Nat} {s : α} (h : l[k]? = some s) : l.take (k + 1) = l.take k ++ [s] := by rw [List.take_add_one, h]; rfl

/-- a new block, over the call's own first world -/
theorem bel_alloc {w wr : World} (h : Below w.heap.size w wr) (o : Obj) : Below w.heap.size w (wr.alloc o) := h.alloc h.size o

set_option maxHeartbeats 1000000 in
theorem rates_any (c bx bs bl cl br bg cg : Nat) (l : List Smp) (gs : List Lvl) (least : Nat) (mp : Int) (w : World) (hbx : w.cell? ⟨bx, 0, none⟩ = some (.pointer (some ⟨bs, 0, none⟩))) (hs : SrvAt w bs bl cl br bg cg l gs least mp) (hl : l.length ≤ 1024) :
    Calls Yba.prog 34 #[.float .f64 c, .pointer (some ⟨bx, 0, none⟩)] w fun e w' =>
      ∃ r r', e = .returned (.tuple #[.float .f64 r, .float .f64 r']) ∧ cn r = (ratesF (cn c) l).1 ∧ cn r' = (ratesF (cn c) l).2 ∧ Below w.heap.size w w' := by
  have h5 := hs.samples
  go_enter Yba.func34, Yba.ntmps34
  go_wp2_with fail
  go_loopw [3, 4, 13] (fun u v i wr => ∃ (k : Nat) (r r' : Nat), k ≤ l.length ∧ i = .int .i64 k ∧ u = .float .f64 r ∧ v = .float .f64 r' ∧ cn r = (ratesF (cn c) (l.take k)).1 ∧ cn r' = (ratesF (cn c) (l.take k)).2 ∧ Below w.heap.size w wr)
    (fun _ _ i _ => l.length - (intOf i).toNat)
  case atStart => exact ⟨0, 0, 0, Nat.zero_le _, rfl, rfl, rfl, rfl, rfl, Below.refl _ _⟩
  case round =>
    obtain ⟨k, r, r', hk, rfl, rfl, rfl, hr, hr', hnx⟩ := hrel
    have HR : Hid (cn r = (ratesF (cn c) (l.take k)).1) := hr
    have HR' : Hid (cn r' = (ratesF (cn c) (l.take k)).2) := hr'
    have hsz := hnx.size
    clear hr hr' h5 hbx
    by_cases hlt : k < l.length
    · obtain ⟨s, hsk⟩ : ∃ s, l[k]? = some s := ⟨l[k], by simp [hlt]⟩
      obtain ⟨h0, h1, h2, h3, h4, h5, h6, h7, h8⟩ := (hs.smp.below hnx) k s hsk
      have HT : Hid (ratesF (cn c) (l.take (k + 1)) = ratesStep (cn c) (ratesF (cn c) (l.take k)) s) := by
        show _ = _
        rw [take_snoc' hsk, rates_snoc]
      clear hs hsk
      cases ha : ans s with
      | true =>
        have HA : Hid (ans s = true) := ha
        go_wp2_with (go_at_call 32; refine (answered_any s _).mono ?_; rintro e w' ⟨rfl, rfl⟩)
        go_roundw
        case rel => exact ⟨k + 1, _, _, by omega, by go_num, rfl, rfl, by rw [HT.out]; simp only [ratesStep, HA.out, if_true, cn_fval, HR.out, HR'.out], by rw [HT.out]; simp only [ratesStep, HA.out, if_true, cn_fval, HR.out, HR'.out], by repeat (first | exact hnx | refine below_drewN ?_ _ | refine bel_alloc ?_ _)⟩
        case measure => simp [intOf]; omega
      | false =>
        have HA : Hid (ans s = false) := ha
        go_wp2_with (go_at_call 32; refine (answered_any s _).mono ?_; rintro e w' ⟨rfl, rfl⟩)
        go_roundw
        case rel => exact ⟨k + 1, _, _, by omega, by go_num, rfl, rfl, by rw [HT.out]; simp only [ratesStep, HA.out, HR.out, Bool.false_eq_true, if_false], by rw [HT.out]; simp only [ratesStep, HA.out, HR'.out, Bool.false_eq_true, if_false], by repeat (first | exact hnx | refine below_drewN ?_ _ | refine bel_alloc ?_ _)⟩
        case measure => simp [intOf]; omega
    · go_wp2_with fail
      go_ret2
      have : k = l.length := by omega
      subst this
      exact ⟨_, _, rfl, by rw [HR.out, List.take_length], by rw [HR'.out, List.take_length], hnx⟩
end Go.Proofs.Ybulkahla

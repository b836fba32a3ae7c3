import Derived.Test.YbulkahlaSrv
import Derived.Test.YbulkahlaOrd
import Derived.Deep.QuietTactic
import Derived.BigQuiet
namespace Go.Proofs.Ybulkahla
open Go.RowKit
set_option linter.unusedSimpArgs false

theorem order_self {x : Nat} (h : nanB x = false) : FloatKind.f64.format.order x x = some .eq := by
  unfold nanB at h
  simp only [Ieee.Format.order]
  cases hd : FloatKind.f64.format.read x with
  | nan s f => rw [hd] at h; simp [Ieee.Datum.isNaN] at h
  | infinity s => simp [Ieee.Datum.order]
  | number s m i => simp [Ieee.Datum.order]

theorem isNaN_any (x : Nat) (w : World) : Calls Yba.prog 56 #[.float .f64 x] w fun e w' => e = .returned (.bool (nanB x)) ∧ w' = w := by
  cases hx : nanB x with
  | true =>
    have ho := order_nan_x (y := x) hx
    go_enter Yba.func56, Yba.ntmps56
    go_wp2_with fail
    go_ret
    exact ⟨by simp [ho], rfl⟩
  | false =>
    have ho := order_self hx
    go_enter Yba.func56, Yba.ntmps56
    go_wp2_with fail
    go_ret
    exact ⟨by simp [ho], rfl⟩

theorem compare_any (x y : Nat) (w : World) : Calls Yba.prog 52 #[.float .f64 x, .float .f64 y] w fun e w' => e = .returned (.int .i64 (cmpB x y)) ∧ w' = w := by
  have hn := isNaN_any
  cases hx : nanB x with
  | true => cases hy : nanB y with
    | true =>
      go_enter Yba.func52, Yba.ntmps52
      go_wp2_with (go_at_call 56; refine (hn _ _).mono ?_; rintro e w' ⟨rfl, rfl⟩)
      go_ret
      exact ⟨by simp [cmpB, hx, hy], rfl⟩
    | false =>
      go_enter Yba.func52, Yba.ntmps52
      go_wp2_with (go_at_call 56; refine (hn _ _).mono ?_; rintro e w' ⟨rfl, rfl⟩)
      go_ret
      exact ⟨by simp [cmpB, hx, hy], rfl⟩
  | false => cases hy : nanB y with
    | true =>
      go_enter Yba.func52, Yba.ntmps52
      go_wp2_with (go_at_call 56; refine (hn _ _).mono ?_; rintro e w' ⟨rfl, rfl⟩)
      go_ret
      exact ⟨by simp [cmpB, hx, hy], rfl⟩
    | false =>
      rcases ho : FloatKind.f64.format.order x y with _ | o
      · go_enter Yba.func52, Yba.ntmps52
        go_wp2_with (go_at_call 56; refine (hn _ _).mono ?_; rintro e w' ⟨rfl, rfl⟩)
        go_ret
        exact ⟨by simp [cmpB, hx, hy, ho], rfl⟩
      · cases o
        all_goals
          go_enter Yba.func52, Yba.ntmps52
          go_wp2_with (go_at_call 56; refine (hn _ _).mono ?_; rintro e w' ⟨rfl, rfl⟩)
          go_ret
          exact ⟨by simp [cmpB, hx, hy, ho], rfl⟩

theorem clos_any (x y : Nat) (bx bs bl cl n : Nat) (i j : Nat) (w : World) (hx0 : w.cell? ⟨bx, 0, none⟩ = some (.pointer (some ⟨bs, 0, none⟩))) (hs5 : w.cell? ⟨bs, 5, none⟩ = some (.slice (some ⟨bl, 0, none⟩) n cl))
    (hi : i < n) (hj : j < n) (h1 : w.cell? ⟨bl, i * 9, none⟩ = some (.float .f64 x)) (h2 : w.cell? ⟨bl, j * 9, none⟩ = some (.float .f64 y)) :
    Calls Yba.prog 51 #[.int .i64 i, .int .i64 j, .pointer (some ⟨bx, 0, none⟩)] w fun e w' => e = .returned (.int .i64 (cmpB x y)) ∧ ∃ m, w' = w.drewN m := by
  have hi' : (i : Int) < n := by omega
  have hj' : (j : Int) < n := by omega
  have hi0 : (0 : Int) ≤ i := by omega
  have hj0 : (0 : Int) ≤ j := by omega
  go_enter Yba.func51, Yba.ntmps51
  go_wp2_with fail
  go_quiet ((go_at_call 52; exact Calls.quiet_of_same (compare_any _ _ _)))
  go_wp2_with fail
  go_ret
  exact ⟨rfl, _, rfl⟩
end Go.Proofs.Ybulkahla

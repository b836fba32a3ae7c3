import Derived.Test.YbulkahlaRates
import Derived.Deep.QuietTactic
import Derived.BigQuiet
namespace Go.Proofs.Ybulkahla
open Go.RowKit
set_option linter.unusedSimpArgs false
attribute [local go_sem] run_store_float call31 call42 call43
attribute [local go_sem ↓] run_fadd run_fsub run_fmul run_fquo run_fmax run_fmin run_fsqrt

theorem light_clos (s : Smp) (b3 br lg : Nat) (w : World) (h3 : w.cell? ⟨b3, 0, none⟩ = some (.pointer (some ⟨br, 0, none⟩))) (hb3 : b3 < w.heap.size) (hbr : br < w.heap.size) (hl : w.cell? ⟨br, 1, none⟩ = some (.float .f64 lg)) :
    Calls Yba.prog 47 #[.agg #[.float .f64 s.1, .float .f64 s.2.1, .float .f64 0, .float .f64 s.2.2.1, .int .i64 s.2.2.2, .int .i64 0, .bool false, .float .f64 0, .float .f64 0], .pointer (some ⟨b3, 0, none⟩)] w fun e w' =>
      ∃ b m, e = .returned (.bool b) ∧ w' = (w.alloc (.cells #[.float .f64 s.1, .float .f64 s.2.1, .float .f64 0, .float .f64 s.2.2.1, .int .i64 s.2.2.2, .int .i64 0, .bool false, .float .f64 0, .float .f64 0] 42)).drewN m := by
  have c3 : ∀ o, (w.alloc o).cell? ⟨b3, 0, none⟩ = some (.pointer (some ⟨br, 0, none⟩)) := fun o => by rw [World.cell?_alloc_past _ _ _ hb3]; exact h3
  have cr : ∀ o, (w.alloc o).cell? ⟨br, 1, none⟩ = some (.float .f64 lg) := fun o => by rw [World.cell?_alloc_past _ _ _ hbr]; exact hl
  go_enter Yba.func47, Yba.ntmps47
  go_wp2_with fail
  go_region
  all_goals
    go_wp2_with fail
    go_ret
    exact ⟨_, _, rfl, rfl⟩

set_option maxHeartbeats 1000000 in
set_option maxRecDepth 100000 in
theorem mean_any (bs bl cl b3 br lg : Nat) (l : List Smp) (w : World) (hs5 : w.cell? ⟨bs, 5, none⟩ = some (.slice (some ⟨bl, 0, none⟩) l.length cl)) (hsm : SmpRow w bl l) (hl : l.length ≤ 1024)
    (h3 : w.cell? ⟨b3, 0, none⟩ = some (.pointer (some ⟨br, 0, none⟩))) (hlg : w.cell? ⟨br, 1, none⟩ = some (.float .f64 lg)) :
    Calls Yba.prog 46 #[.pointer (some ⟨bs, 0, none⟩), .func (.func 47) #[] #[.pointer (some ⟨b3, 0, none⟩)]] w fun e w' =>
      ∃ r p, e = .returned (.tuple #[.float .f64 r, .int .i64 p]) ∧ Below w.heap.size w w' := by
  have hb3 := World.block_lt_of_cell? w _ h3
  have hbr := World.block_lt_of_cell? w _ hlg
  simp only at hb3 hbr
  go_enter Yba.func46, Yba.ntmps46
  go_wp2_with fail
  go_loopw [4, 5, 13] (fun u v i wr => ∃ (k r : Nat) (p : Int), k ≤ l.length ∧ i = .int .i64 k ∧ u = .float .f64 r ∧ v = .int .i64 p ∧ Below w.heap.size w wr)
    (fun _ _ i _ => l.length - (intOf i).toNat)
  case atStart => exact ⟨0, 0, 0, Nat.zero_le _, rfl, rfl, rfl, Below.refl _ _⟩
  case round =>
    obtain ⟨k, r, p, hk, rfl, rfl, rfl, hnx⟩ := hrel
    have hsz := hnx.size
    by_cases hlt : k < l.length
    · obtain ⟨s, hsk⟩ : ∃ s, l[k]? = some s := ⟨l[k], by simp [hlt]⟩
      obtain ⟨h0, h1, h2, h3', h4, h5, h6, h7, h8⟩ := (hsm.below hnx) k s hsk
      have c3 : ∀ o o', ((wr.alloc o).alloc o').cell? ⟨b3, 0, none⟩ = some (.pointer (some ⟨br, 0, none⟩)) := fun o o' => by rw [World.cell?_alloc_past _ _ _ (show b3 < (wr.alloc o).heap.size by simp; omega), World.cell?_alloc_past _ _ _ (show b3 < wr.heap.size by omega), hnx.cell hb3]; exact h3
      have cr : ∀ o o', ((wr.alloc o).alloc o').cell? ⟨br, 1, none⟩ = some (.float .f64 lg) := fun o o' => by rw [World.cell?_alloc_past _ _ _ (show br < (wr.alloc o).heap.size by simp; omega), World.cell?_alloc_past _ _ _ (show br < wr.heap.size by omega), hnx.cell hbr]; exact hlg
      have hb3' : ∀ o o', b3 < ((wr.alloc o).alloc o').heap.size := fun o o' => by simp; omega
      have hbr' : ∀ o o', br < ((wr.alloc o).alloc o').heap.size := fun o o' => by simp; omega
      clear hsm hsk hs5 h3 hlg
      cases ha : ans s with
      | true =>
        go_wp2_with (first | (go_at_call 32; refine (answered_any s _).mono ?_; rintro e w' ⟨rfl, rfl⟩) | (go_at_call 47; refine (light_clos s b3 br lg _ (c3 _ _) (hb3' _ _) (hbr' _ _) (cr _ _)).mono ?_; rintro e w' ⟨b, m, rfl, rfl⟩))
        all_goals
          go_roundw
          case rel => exact ⟨k + 1, _, _, by omega, by go_num, rfl, rfl, by repeat (first | exact hnx | refine below_drewN ?_ _ | refine bel_alloc ?_ _)⟩
          case measure => simp [intOf]; omega
      | false =>
        go_wp2_with (go_at_call 32; refine (answered_any s _).mono ?_; rintro e w' ⟨rfl, rfl⟩)
        go_roundw
        case rel => exact ⟨k + 1, _, _, by omega, by go_num, rfl, rfl, by repeat (first | exact hnx | refine below_drewN ?_ _ | refine bel_alloc ?_ _)⟩
        case measure => simp [intOf]; omega
    · by_cases hp : p = 0
      · go_wp2_with fail
        go_ret2
        exact ⟨_, _, rfl, hnx⟩
      · go_wp2_with fail
        go_ret2
        exact ⟨_, _, rfl, below_drewN hnx _⟩
end Go.Proofs.Ybulkahla

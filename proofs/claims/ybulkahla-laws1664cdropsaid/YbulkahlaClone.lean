import Derived.Test.YbulkahlaDropFn
import Derived.Lib.LazyBuf
namespace Go.Proofs.Ybulkahla
open Go.RowKit
set_option linter.unusedSimpArgs false

set_option maxHeartbeats 1000000 in
set_option maxRecDepth 100000 in
theorem clone_any {B0 g n cap : Nat} {xs : List Int} (w : World) (h : w.ownsRow B0 3 1 (.slice (some ⟨g, 0, none⟩) n cap) n (xs.map (.int .i64))) (hn : 0 < n) (hn2 : n ≤ 5000) :
    Calls Yba.prog 24 #[.slice (some ⟨g, 0, none⟩) n cap] w fun e w' => ∃ g' cap', e = .returned (.slice (some ⟨g', 0, none⟩) n cap') ∧ w'.ownsRow w.heap.size 3 1 (.slice (some ⟨g', 0, none⟩) n cap') n (xs.map (.int .i64)) ∧ Below w.heap.size w w' := by
  obtain ⟨i3, hi3, hz3, hs3, hb3⟩ := info_parts Yba.infoN3
  have hl : xs.length = n := by simpa using h.1
  have hgl : g < w.heap.size := (h.form hn).elim fun g' ⟨c', e, _, hl⟩ => by cases e; exact hl
  have hB0 : Below w.heap.size w (w.alloc (.cells #[] 3)) := bel_alloc (Below.refl _ _) _
  have hown3 : (w.alloc (.cells #[] 3)).ownsRow w.heap.size 3 1 (.slice (some ⟨w.heap.size, 0, none⟩) 0 0) 0 [] := World.ownsRow_made w #[] 0 (Nat.le_refl _) (by unfold maxLen; omega) rfl
  have hnl : ∀ w, (binOp .eql 76 (.slice (some ⟨g, 0, none⟩) n cap) (.slice none 0 0)).run Yba.prog w = .ok (.bool false) w := fun w => Go.run_eql_slice_nil w 76 3 _ _ _ Yba.underlying76
  go_enter Yba.func24, Yba.ntmps24
  go_wp2_with (at_builtin; refine wpList_append_lies _ rfl _ _ 76 rfl w.heap.size 3 i3 _ 1 8 Yba.underlying76 hi3 hz3 hs3 hb3 rfl (by decide) _ _ _ rfl hown3 ⟨g, 0, none⟩ n cap (xs.map (.int .i64)) rfl ?c0 ?c1 ?c2 hn ?c3 ?c4 ?c5 _ rfl ?_)
  case c0 => simpa using hl
  case c1 =>
    intro j u hj
    have hjn : j < n := by have := (List.getElem?_eq_some_iff.1 hj).1; simp at this; omega
    have e : (⟨g, 0, none⟩ : Addr).add j = ⟨g, j, none⟩ := by unfold Addr.add; split <;> simp_all
    rw [e, World.cell?_alloc_past _ _ _ hgl, h.cellAt j (by omega)]
    exact hj
  case c2 => intro u hu; simp at hu; obtain ⟨x, _, rfl⟩ := hu; rfl
  case c3 => unfold maxLen; omega
  case c4 => omega
  case c5 => simp
  intro g1 cap1 w2 ho2 hg2 hat2 hlt2
  have hB2 : Below w.heap.size w w2 := hB0.grown hg2 (by simp) (fun k hk => by simp [Value.ownBlock] at hk; omega)
  clear hg2 hat2 hlt2 hown3 hB0 h
  go_wp2_with fail
  go_ret
  exact ⟨g1, cap1, by simp, by simpa using ho2, hB2⟩

set_option maxHeartbeats 1000000 in
set_option maxRecDepth 100000 in
theorem equal_any {p1 p2 : Option Addr} {n c1 c2 : Nat} (f : Nat → Int) (w : World) (hn : n ≤ 5000) (h1 : ∀ j, j < n → ∃ g, p1 = some ⟨g, 0, none⟩ ∧ w.cell? ⟨g, j, none⟩ = some (.int .i64 (f j))) (h2 : ∀ j, j < n → ∃ g, p2 = some ⟨g, 0, none⟩ ∧ w.cell? ⟨g, j, none⟩ = some (.int .i64 (f j))) :
    Calls Yba.prog 26 #[.slice p1 n c1, .slice p2 n c2] w fun e w' => e = .returned (.bool true) ∧ ∃ m, w' = w.drewN m := by
  go_enter Yba.func26, Yba.ntmps26
  go_wp2_with fail
  go_loopw [13] (fun i wr => ∃ j : Nat, j ≤ n ∧ i = .int .i64 j ∧ ∃ m, wr = w.drewN m) (fun i _ => n - (intOf i).toNat)
  case atStart => exact ⟨0, by omega, rfl, 0, rfl⟩
  case round =>
    obtain ⟨j, hj, rfl, m, rfl⟩ := hrel
    by_cases hlt : j < n
    · obtain ⟨g1, rfl, a1⟩ := h1 j hlt
      obtain ⟨g2, rfl, a2⟩ := h2 j hlt
      clear h1 h2
      go_upto_region 6 with fail
      go_quiet (fail)
      go_wp2_with fail
      go_roundw
      case rel => exact ⟨j + 1, by omega, by simp, _, rfl⟩
      case measure => simp [intOf]; omega
    · go_wp2_with fail
      go_ret
      exact ⟨rfl, m, rfl⟩
end Go.Proofs.Ybulkahla

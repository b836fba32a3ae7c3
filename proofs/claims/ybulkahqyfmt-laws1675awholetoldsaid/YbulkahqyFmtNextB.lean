import Derived.Test.YbulkahqyFmtNext
import Derived.Deep.RegionWith
namespace Go.Proofs.YbulkahqyFmt
open Go.RowKit
set_option linter.unusedSimpArgs false
set_option linter.unusedVariables false

set_option maxHeartbeats 2000000 in
set_option maxRecDepth 100000 in
theorem next4 {w : World} {b : Nat} {off rc fed L : Int} {t0 t1 t2 : ByteArray} (h : Blk w b { off := off, rc := rc, fed := fed, st := 4, lg := 0, ps := 39, lf := 0, n := 0, en := 56 + L, ho := 56 + L, ex := 0, n1 := 0, n2 := 0 }) (hl : Leg w 2 t0 t1 t2) (hne : 2 ≠ b) (hL1 : 1 ≤ L) (hL2 : L ≤ 255) :
    Calls Ybaf.prog 22 #[.pointer (some ⟨b, 3, none⟩)] w fun e w' => e = .returned .nilIface ∧ Blk w' b { off := off, rc := rc, fed := fed, st := 5, lg := 0, ps := 39, lf := 0, n := 0, en := 56 + L, ho := 56 + L, ex := 0, n1 := 0, n2 := 0 } ∧ G b w w' := by
  obtain ⟨c0, c1, c2, c3, c4, c5, c6, c7, c8, c9, c10, c11, c12, c14⟩ := h.cs
  simp only at c0 c1 c2 c3 c4 c5 c6 c7 c8 c9 c10 c11 c12
  have fz := h.free
  have hbl := h.lt
  have f3 := fz 3
  have f4 := fz 4
  have f5 := fz 5
  have f6 := fz 6
  have f7 := fz 7
  have f8 := fz 8
  have f9 := fz 9
  have f10 := fz 10
  have f11 := fz 11
  have f12 := fz 12
  obtain ⟨g0, g1, g2, g3, g4, g5, g6, g7, g8, g9, g10, g11, g12, g13, g14⟩ := hl
  have hC := fun w => checkLength_ok t0 1 0 32 1 0 w (by omega) (by omega) (by omega) (by omega) (by decide)
  have hE := fun (W : World) (hB : Blk W b { off := off, rc := rc, fed := fed, st := 4, lg := 0, ps := 39, lf := 0, n := 0, en := 56 + L, ho := 56 + L, ex := 0, n1 := 0, n2 := 0 }) str => expect_ok hB 5 0 str (by dsimp only; omega) (by dsimp only; omega) (by dsimp only; omega) (by dsimp only; omega) (by dsimp only; omega)
  go_enter Ybaf.func22, Ybaf.ntmps22
  go_upto_region 18 with fail
  go_region_with (go_at_call 29; refine (hC _).mono ?_; rintro e w' ⟨rfl, rfl⟩)
  all_goals
    go_upto_region 21 with fail
    go_region_with (go_at_call 27; refine (hE _ (by first | exact (h.alloc _).alloc _) _).mono ?_; rintro e w' ⟨rfl, hb, hg⟩)
    all_goals
      go_wp2_with fail
      go_ret
      exact ⟨rfl, hb.cast (by simp), ((((G.refl b w).alloc _).alloc _).drew.drew).trans hg⟩

set_option maxHeartbeats 2000000 in
set_option maxRecDepth 100000 in
theorem next6 {w : World} {b : Nat} {off rc fed L : Int} {t0 t1 t2 : ByteArray} (h : Blk w b { off := off, rc := rc, fed := fed, st := 4, lg := 1, ps := 41, lf := 0, n := 2, en := 56 + L, ho := 56 + L, ex := 0, n1 := 0, n2 := 0 }) (hl : Leg w 2 t0 t1 t2) (hne : 2 ≠ b) (hL1 : 1 ≤ L) (hL2 : L ≤ 255) :
    Calls Ybaf.prog 22 #[.pointer (some ⟨b, 3, none⟩)] w fun e w' => e = .returned .nilIface ∧ Blk w' b { off := off, rc := rc, fed := fed, st := 5, lg := 1, ps := 41, lf := 2, n := 0, en := 56 + L, ho := 56 + L, ex := 0, n1 := 0, n2 := 0 } ∧ G b w w' := by
  obtain ⟨c0, c1, c2, c3, c4, c5, c6, c7, c8, c9, c10, c11, c12, c14⟩ := h.cs
  simp only at c0 c1 c2 c3 c4 c5 c6 c7 c8 c9 c10 c11 c12
  have fz := h.free
  have hbl := h.lt
  have f3 := fz 3
  have f4 := fz 4
  have f5 := fz 5
  have f6 := fz 6
  have f7 := fz 7
  have f8 := fz 8
  have f9 := fz 9
  have f10 := fz 10
  have f11 := fz 11
  have f12 := fz 12
  obtain ⟨g0, g1, g2, g3, g4, g5, g6, g7, g8, g9, g10, g11, g12, g13, g14⟩ := hl
  have hC := fun w => checkLength_ok t1 2 2 65534 2 2 w (by omega) (by omega) (by omega) (by omega) (by decide)
  have hE := fun (W : World) (hB : Blk W b { off := off, rc := rc, fed := fed, st := 4, lg := 1, ps := 41, lf := 0, n := 2, en := 56 + L, ho := 56 + L, ex := 0, n1 := 0, n2 := 0 }) str => expect_ok hB 5 2 str (by dsimp only; omega) (by dsimp only; omega) (by dsimp only; omega) (by dsimp only; omega) (by dsimp only; omega)
  go_enter Ybaf.func22, Ybaf.ntmps22
  go_upto_region 18 with fail
  go_region_with (go_at_call 29; refine (hC _).mono ?_; rintro e w' ⟨rfl, rfl⟩)
  all_goals
    go_upto_region 21 with fail
    go_region_with (go_at_call 27; refine (hE _ (by first | exact (h.alloc _).alloc _) _).mono ?_; rintro e w' ⟨rfl, hb, hg⟩)
    all_goals
      go_wp2_with fail
      go_ret
      exact ⟨rfl, hb.cast (by simp), ((((G.refl b w).alloc _).alloc _).drew.drew).trans hg⟩

set_option maxHeartbeats 2000000 in
set_option maxRecDepth 100000 in
theorem next8 {w : World} {b : Nat} {off rc fed L : Int} {t0 t1 t2 : ByteArray} (h : Blk w b { off := off, rc := rc, fed := fed, st := 4, lg := 2, ps := 44, lf := 0, n := 1, en := 56 + L, ho := 56 + L, ex := 0, n1 := 0, n2 := 0 }) (hl : Leg w 2 t0 t1 t2) (hne : 2 ≠ b) (hL1 : 1 ≤ L) (hL2 : L ≤ 255) :
    Calls Ybaf.prog 22 #[.pointer (some ⟨b, 3, none⟩)] w fun e w' => e = .returned .nilIface ∧ Blk w' b { off := off, rc := rc, fed := fed, st := 5, lg := 2, ps := 44, lf := 1, n := 0, en := 56 + L, ho := 56 + L, ex := 0, n1 := 0, n2 := 0 } ∧ G b w w' := by
  obtain ⟨c0, c1, c2, c3, c4, c5, c6, c7, c8, c9, c10, c11, c12, c14⟩ := h.cs
  simp only at c0 c1 c2 c3 c4 c5 c6 c7 c8 c9 c10 c11 c12
  have fz := h.free
  have hbl := h.lt
  have f3 := fz 3
  have f4 := fz 4
  have f5 := fz 5
  have f6 := fz 6
  have f7 := fz 7
  have f8 := fz 8
  have f9 := fz 9
  have f10 := fz 10
  have f11 := fz 11
  have f12 := fz 12
  obtain ⟨g0, g1, g2, g3, g4, g5, g6, g7, g8, g9, g10, g11, g12, g13, g14⟩ := hl
  have hC := fun w => checkLength_ok t2 1 1 255 1 1 w (by omega) (by omega) (by omega) (by omega) (by decide)
  have hE := fun (W : World) (hB : Blk W b { off := off, rc := rc, fed := fed, st := 4, lg := 2, ps := 44, lf := 0, n := 1, en := 56 + L, ho := 56 + L, ex := 0, n1 := 0, n2 := 0 }) str => expect_ok hB 5 1 str (by dsimp only; omega) (by dsimp only; omega) (by dsimp only; omega) (by dsimp only; omega) (by dsimp only; omega)
  go_enter Ybaf.func22, Ybaf.ntmps22
  go_upto_region 18 with fail
  go_region_with (go_at_call 29; refine (hC _).mono ?_; rintro e w' ⟨rfl, rfl⟩)
  all_goals
    go_upto_region 21 with fail
    go_region_with (go_at_call 27; refine (hE _ (by first | exact (h.alloc _).alloc _) _).mono ?_; rintro e w' ⟨rfl, hb, hg⟩)
    all_goals
      go_wp2_with fail
      go_ret
      exact ⟨rfl, hb.cast (by simp), ((((G.refl b w).alloc _).alloc _).drew.drew).trans hg⟩

end Go.Proofs.YbulkahqyFmt

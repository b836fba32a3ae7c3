import Derived.Test.YbulkahqyFmtStep
import Derived.Deep.RegionWith
namespace Go.Proofs.YbulkahqyFmt
open Go.RowKit
set_option linter.unusedSimpArgs false
set_option linter.unusedVariables false

/-! THE FIELDS OF THE MESSAGE, k = 0 .. 17: their steps, where each ends, what the walker holds there. -/
def stepN (k : Nat) : Int := [0, 1, 2, 3, 4, 5, 4, 5, 4, 5, 6, 7, 8, 10, 11, 12, 13, 17].getD k 17
def tillN (L : Int) (k : Nat) : Int := [0, 1, 4, 38, 39, 39, 41, 43, 44, 45, 47, 49, 51, 53, 54, 56, 56 + L, 56 + L].getD k (56 + L)
def lgN (k : Nat) : Int := [0, 0, 0, 0, 0, 0, 1, 1, 2].getD k 2
def enN (L : Int) (k : Nat) : Int := [0, 4, 4].getD k (56 + L)
def valN (L : Int) (k : Nat) : Int := [0, 1, 52 + L, 0, 0, 0, 2, 0, 1, 0, 9 + L, 0, 5 + L, 3 + L, 0, L, 0].getD k 0
def nmN (k : Nat) (x : Int) : Int := if 16 ≤ k then x else 0

/-- field k, p bytes read, the number so far v -/
def fs (off rc fed L : Int) (k : Nat) (p v : Int) : Fr := { off := off, rc := rc, fed := fed, st := stepN k, lg := lgN k, ps := p, lf := tillN L k - p, n := v, en := enN L k, ho := enN L k, ex := 0, n1 := nmN k 56, n2 := nmN k (56 + L) }

theorem G.drew {b : Nat} {w w' : World} (h : G b w w') : G b w w'.drew := ⟨h.os, h.tape, h.output, h.size, h.block⟩
theorem Blk.cast {w : World} {b : Nat} {s s' : Fr} (h : Blk w b s) (e : s = s') : Blk w b s' := e ▸ h

set_option maxHeartbeats 2000000 in
set_option maxRecDepth 100000 in
theorem next0 {w : World} {b : Nat} {off rc fed L : Int} {t0 t1 t2 : ByteArray} (h : Blk w b { off := off, rc := rc, fed := fed, st := 0, lg := 0, ps := 0, lf := 0, n := 0, en := 0, ho := 0, ex := 0, n1 := 0, n2 := 0 }) (hl : Leg w 2 t0 t1 t2) (hne : 2 ≠ b) (hL1 : 1 ≤ L) (hL2 : L ≤ 255) :
    Calls Ybaf.prog 22 #[.pointer (some ⟨b, 3, none⟩)] w fun e w' => e = .returned .nilIface ∧ Blk w' b { off := off, rc := rc, fed := fed, st := 1, lg := 0, ps := 0, lf := 1, n := 0, en := 4, ho := 4, ex := 0, n1 := 0, n2 := 0 } ∧ G b w w' := by
  obtain ⟨c0, c1, c2, c3, c4, c5, c6, c7, c8, c9, c10, c11, c12, c14⟩ := h.cs
  simp only at c0 c1 c2 c3 c4 c5 c6 c7 c8 c9 c10 c11 c12
  have fz := h.free
  have hbl := h.lt
  have f3 := fz 3
  have f4 := fz 4
  have f5 := fz 5
  have f6 := fz 6
  have f7 := fz 7
  have f8 := fz 8
  have f9 := fz 9
  have f10 := fz 10
  have f11 := fz 11
  have f12 := fz 12
  have hE := fun str => expect_ok (w := (w.setCell ⟨b, 8, none⟩ (.int .i64 4)).setCell ⟨b, 9, none⟩ (.int .i64 4)) ((h.set8 4).set9 4) 1 1 str (by dsimp only; omega) (by dsimp only; omega) (by dsimp only; omega) (by dsimp only; omega) (by dsimp only; omega)
  simp only at hE
  go_enter Ybaf.func22, Ybaf.ntmps22
  go_wp2_with (go_at_call 27; refine (hE _).mono ?_; rintro e w' ⟨rfl, hb, hg⟩)
  go_ret
  exact ⟨rfl, hb.cast (by simp), ((G.refl b w).set 8 _ |>.set 9 _).trans hg⟩

set_option maxHeartbeats 2000000 in
set_option maxRecDepth 100000 in
theorem next1 {w : World} {b : Nat} {off rc fed L : Int} {t0 t1 t2 : ByteArray} (h : Blk w b { off := off, rc := rc, fed := fed, st := 1, lg := 0, ps := 1, lf := 0, n := 1, en := 4, ho := 4, ex := 0, n1 := 0, n2 := 0 }) (hl : Leg w 2 t0 t1 t2) (hne : 2 ≠ b) (hL1 : 1 ≤ L) (hL2 : L ≤ 255) :
    Calls Ybaf.prog 22 #[.pointer (some ⟨b, 3, none⟩)] w fun e w' => e = .returned .nilIface ∧ Blk w' b { off := off, rc := rc, fed := fed, st := 2, lg := 0, ps := 1, lf := 3, n := 0, en := 4, ho := 4, ex := 0, n1 := 0, n2 := 0 } ∧ G b w w' := by
  obtain ⟨c0, c1, c2, c3, c4, c5, c6, c7, c8, c9, c10, c11, c12, c14⟩ := h.cs
  simp only at c0 c1 c2 c3 c4 c5 c6 c7 c8 c9 c10 c11 c12
  have fz := h.free
  have hbl := h.lt
  have f3 := fz 3
  have f4 := fz 4
  have f5 := fz 5
  have f6 := fz 6
  have f7 := fz 7
  have f8 := fz 8
  have f9 := fz 9
  have f10 := fz 10
  have f11 := fz 11
  have f12 := fz 12
  have hE := fun str => expect_ok (w := w) h 2 3 str (by dsimp only; omega) (by dsimp only; omega) (by dsimp only; omega) (by dsimp only; omega) (by dsimp only; omega)
  simp only at hE
  go_enter Ybaf.func22, Ybaf.ntmps22
  go_wp2_with (go_at_call 27; refine (hE _).mono ?_; rintro e w' ⟨rfl, hb, hg⟩)
  go_ret
  exact ⟨rfl, hb.cast (by simp), (G.refl b w).trans hg⟩

set_option maxHeartbeats 2000000 in
set_option maxRecDepth 100000 in
theorem next2 {w : World} {b : Nat} {off rc fed L : Int} {t0 t1 t2 : ByteArray} (h : Blk w b { off := off, rc := rc, fed := fed, st := 2, lg := 0, ps := 4, lf := 0, n := 52 + L, en := 4, ho := 4, ex := 0, n1 := 0, n2 := 0 }) (hl : Leg w 2 t0 t1 t2) (hne : 2 ≠ b) (hL1 : 1 ≤ L) (hL2 : L ≤ 255) :
    Calls Ybaf.prog 22 #[.pointer (some ⟨b, 3, none⟩)] w fun e w' => e = .returned .nilIface ∧ Blk w' b { off := off, rc := rc, fed := fed, st := 3, lg := 0, ps := 4, lf := 34, n := 0, en := 56 + L, ho := 56 + L, ex := 0, n1 := 0, n2 := 0 } ∧ G b w w' := by
  obtain ⟨c0, c1, c2, c3, c4, c5, c6, c7, c8, c9, c10, c11, c12, c14⟩ := h.cs
  simp only at c0 c1 c2 c3 c4 c5 c6 c7 c8 c9 c10 c11 c12
  have fz := h.free
  have hbl := h.lt
  have f3 := fz 3
  have f4 := fz 4
  have f5 := fz 5
  have f6 := fz 6
  have f7 := fz 7
  have f8 := fz 8
  have f9 := fz 9
  have f10 := fz 10
  have f11 := fz 11
  have f12 := fz 12
  have hq : decide ((16384 : Int) < 52 + L) = false := by simp; omega
  have hs : (4 : Int) + (52 + L) = 56 + L := by omega
  go_enter Ybaf.func22, Ybaf.ntmps22
  go_wp2_with fail
  go_big_region
  have hE := fun str => expect_ok (w := ((w.setCell ⟨b, 8, none⟩ (.int .i64 (56 + L))).setCell ⟨b, 9, none⟩ (.int .i64 (56 + L))).drew) ((h.set8 (56 + L)).set9 (56 + L)) 3 34 str (by dsimp only; omega) (by dsimp only; omega) (by dsimp only; omega) (by dsimp only; omega) (by dsimp only; omega)
  simp only at hE
  go_wp2_with (go_at_call 27; refine (hE _).mono ?_; rintro e w' ⟨rfl, hb, hg⟩)
  go_ret
  exact ⟨rfl, hb.cast (by simp), ((G.refl b w).set 8 _ |>.set 9 _ |>.drew).trans hg⟩

set_option maxHeartbeats 2000000 in
set_option maxRecDepth 100000 in
theorem next3 {w : World} {b : Nat} {off rc fed L : Int} {t0 t1 t2 : ByteArray} (h : Blk w b { off := off, rc := rc, fed := fed, st := 3, lg := 0, ps := 38, lf := 0, n := 0, en := 56 + L, ho := 56 + L, ex := 0, n1 := 0, n2 := 0 }) (hl : Leg w 2 t0 t1 t2) (hne : 2 ≠ b) (hL1 : 1 ≤ L) (hL2 : L ≤ 255) :
    Calls Ybaf.prog 22 #[.pointer (some ⟨b, 3, none⟩)] w fun e w' => e = .returned .nilIface ∧ Blk w' b { off := off, rc := rc, fed := fed, st := 4, lg := 0, ps := 38, lf := 1, n := 0, en := 56 + L, ho := 56 + L, ex := 0, n1 := 0, n2 := 0 } ∧ G b w w' := by
  obtain ⟨c0, c1, c2, c3, c4, c5, c6, c7, c8, c9, c10, c11, c12, c14⟩ := h.cs
  simp only at c0 c1 c2 c3 c4 c5 c6 c7 c8 c9 c10 c11 c12
  have fz := h.free
  have hbl := h.lt
  have f3 := fz 3
  have f4 := fz 4
  have f5 := fz 5
  have f6 := fz 6
  have f7 := fz 7
  have f8 := fz 8
  have f9 := fz 9
  have f10 := fz 10
  have f11 := fz 11
  have f12 := fz 12
  have hE := legacy0_ok h hl hne (by simp) (by simp) (by simp; omega) (by simp; omega) (by simp; omega)
  simp only at hE
  go_enter Ybaf.func22, Ybaf.ntmps22
  go_wp2_with (go_at_call 28; refine hE.mono ?_; rintro e w' ⟨rfl, hb, hg⟩)
  go_ret
  exact ⟨rfl, hb, hg⟩

set_option maxHeartbeats 2000000 in
set_option maxRecDepth 100000 in
theorem next5 {w : World} {b : Nat} {off rc fed L : Int} {t0 t1 t2 : ByteArray} (h : Blk w b { off := off, rc := rc, fed := fed, st := 5, lg := 0, ps := 39, lf := 0, n := 0, en := 56 + L, ho := 56 + L, ex := 0, n1 := 0, n2 := 0 }) (hl : Leg w 2 t0 t1 t2) (hne : 2 ≠ b) (hL1 : 1 ≤ L) (hL2 : L ≤ 255) :
    Calls Ybaf.prog 22 #[.pointer (some ⟨b, 3, none⟩)] w fun e w' => e = .returned .nilIface ∧ Blk w' b { off := off, rc := rc, fed := fed, st := 4, lg := 1, ps := 39, lf := 2, n := 0, en := 56 + L, ho := 56 + L, ex := 0, n1 := 0, n2 := 0 } ∧ G b w w' := by
  obtain ⟨c0, c1, c2, c3, c4, c5, c6, c7, c8, c9, c10, c11, c12, c14⟩ := h.cs
  simp only at c0 c1 c2 c3 c4 c5 c6 c7 c8 c9 c10 c11 c12
  have fz := h.free
  have hbl := h.lt
  have f3 := fz 3
  have f4 := fz 4
  have f5 := fz 5
  have f6 := fz 6
  have f7 := fz 7
  have f8 := fz 8
  have f9 := fz 9
  have f10 := fz 10
  have f11 := fz 11
  have f12 := fz 12
  have hE := legacy1_ok h hl hne (by simp) (by simp) (by simp; omega) (by simp; omega) (by simp; omega)
  simp only at hE
  go_enter Ybaf.func22, Ybaf.ntmps22
  go_wp2_with (go_at_call 28; refine hE.mono ?_; rintro e w' ⟨rfl, hb, hg⟩)
  go_ret
  exact ⟨rfl, hb, hg⟩

set_option maxHeartbeats 2000000 in
set_option maxRecDepth 100000 in
theorem next7 {w : World} {b : Nat} {off rc fed L : Int} {t0 t1 t2 : ByteArray} (h : Blk w b { off := off, rc := rc, fed := fed, st := 5, lg := 1, ps := 43, lf := 0, n := 0, en := 56 + L, ho := 56 + L, ex := 0, n1 := 0, n2 := 0 }) (hl : Leg w 2 t0 t1 t2) (hne : 2 ≠ b) (hL1 : 1 ≤ L) (hL2 : L ≤ 255) :
    Calls Ybaf.prog 22 #[.pointer (some ⟨b, 3, none⟩)] w fun e w' => e = .returned .nilIface ∧ Blk w' b { off := off, rc := rc, fed := fed, st := 4, lg := 2, ps := 43, lf := 1, n := 0, en := 56 + L, ho := 56 + L, ex := 0, n1 := 0, n2 := 0 } ∧ G b w w' := by
  obtain ⟨c0, c1, c2, c3, c4, c5, c6, c7, c8, c9, c10, c11, c12, c14⟩ := h.cs
  simp only at c0 c1 c2 c3 c4 c5 c6 c7 c8 c9 c10 c11 c12
  have fz := h.free
  have hbl := h.lt
  have f3 := fz 3
  have f4 := fz 4
  have f5 := fz 5
  have f6 := fz 6
  have f7 := fz 7
  have f8 := fz 8
  have f9 := fz 9
  have f10 := fz 10
  have f11 := fz 11
  have f12 := fz 12
  have hE := legacy2_ok h hl hne (by simp) (by simp) (by simp; omega) (by simp; omega) (by simp; omega)
  simp only at hE
  go_enter Ybaf.func22, Ybaf.ntmps22
  go_wp2_with (go_at_call 28; refine hE.mono ?_; rintro e w' ⟨rfl, hb, hg⟩)
  go_ret
  exact ⟨rfl, hb, hg⟩

set_option maxHeartbeats 2000000 in
set_option maxRecDepth 100000 in
theorem next9 {w : World} {b : Nat} {off rc fed L : Int} {t0 t1 t2 : ByteArray} (h : Blk w b { off := off, rc := rc, fed := fed, st := 5, lg := 2, ps := 45, lf := 0, n := 0, en := 56 + L, ho := 56 + L, ex := 0, n1 := 0, n2 := 0 }) (hl : Leg w 2 t0 t1 t2) (hne : 2 ≠ b) (hL1 : 1 ≤ L) (hL2 : L ≤ 255) :
    Calls Ybaf.prog 22 #[.pointer (some ⟨b, 3, none⟩)] w fun e w' => e = .returned .nilIface ∧ Blk w' b { off := off, rc := rc, fed := fed, st := 6, lg := 2, ps := 45, lf := 2, n := 0, en := 56 + L, ho := 56 + L, ex := 0, n1 := 0, n2 := 0 } ∧ G b w w' := by
  obtain ⟨c0, c1, c2, c3, c4, c5, c6, c7, c8, c9, c10, c11, c12, c14⟩ := h.cs
  simp only at c0 c1 c2 c3 c4 c5 c6 c7 c8 c9 c10 c11 c12
  have fz := h.free
  have hbl := h.lt
  have f3 := fz 3
  have f4 := fz 4
  have f5 := fz 5
  have f6 := fz 6
  have f7 := fz 7
  have f8 := fz 8
  have f9 := fz 9
  have f10 := fz 10
  have f11 := fz 11
  have f12 := fz 12
  have hq : ((45 : Int) == 56 + L) = false := by simp; omega
  go_enter Ybaf.func22, Ybaf.ntmps22
  go_wp2_with fail
  go_quiet (fail)
  have hE := fun str => expect_ok (w := w.drewN nq) (h.drewN nq) 6 2 str (by dsimp only; omega) (by dsimp only; omega) (by dsimp only; omega) (by dsimp only; omega) (by dsimp only; omega)
  simp only at hE
  go_wp2_with (go_at_call 27; refine (hE _).mono ?_; rintro e w' ⟨rfl, hb, hg⟩)
  go_ret
  exact ⟨rfl, hb.cast (by simp), ((G.refl b w).drewN nq).trans hg⟩

set_option maxHeartbeats 2000000 in
set_option maxRecDepth 100000 in
theorem next10 {w : World} {b : Nat} {off rc fed L : Int} {t0 t1 t2 : ByteArray} (h : Blk w b { off := off, rc := rc, fed := fed, st := 6, lg := 2, ps := 47, lf := 0, n := 9 + L, en := 56 + L, ho := 56 + L, ex := 0, n1 := 0, n2 := 0 }) (hl : Leg w 2 t0 t1 t2) (hne : 2 ≠ b) (hL1 : 1 ≤ L) (hL2 : L ≤ 255) :
    Calls Ybaf.prog 22 #[.pointer (some ⟨b, 3, none⟩)] w fun e w' => e = .returned .nilIface ∧ Blk w' b { off := off, rc := rc, fed := fed, st := 7, lg := 2, ps := 47, lf := 2, n := 0, en := 56 + L, ho := 56 + L, ex := 0, n1 := 0, n2 := 0 } ∧ G b w w' := by
  obtain ⟨c0, c1, c2, c3, c4, c5, c6, c7, c8, c9, c10, c11, c12, c14⟩ := h.cs
  simp only at c0 c1 c2 c3 c4 c5 c6 c7 c8 c9 c10 c11 c12
  have fz := h.free
  have hbl := h.lt
  have f3 := fz 3
  have f4 := fz 4
  have f5 := fz 5
  have f6 := fz 6
  have f7 := fz 7
  have f8 := fz 8
  have f9 := fz 9
  have f10 := fz 10
  have f11 := fz 11
  have f12 := fz 12
  have hF := fun a c => fill_ok h (9 + L) a c (by dsimp only; omega) (by dsimp only; omega) (by dsimp only; omega) (by dsimp only; omega) (by dsimp only; omega)
  have hX := fun m => nextExt_more (h.drewN m) (by dsimp only; omega) (by dsimp only; omega) (by dsimp only; omega)
  simp only at hX
  go_enter Ybaf.func22, Ybaf.ntmps22
  go_wp2_with (first | (go_at_call 30; refine (hF _ _).mono ?_; rintro e w' ⟨rfl, m, rfl⟩) | (go_at_call 31; refine (hX _).mono ?_; rintro e w' ⟨rfl, hb, hg⟩))
  go_ret
  exact ⟨rfl, hb.cast (by simp), ((G.refl b w).drewN m).trans hg⟩

set_option maxHeartbeats 2000000 in
set_option maxRecDepth 100000 in
theorem next11 {w : World} {b : Nat} {off rc fed L : Int} {t0 t1 t2 : ByteArray} (h : Blk w b { off := off, rc := rc, fed := fed, st := 7, lg := 2, ps := 49, lf := 0, n := 0, en := 56 + L, ho := 56 + L, ex := 0, n1 := 0, n2 := 0 }) (hl : Leg w 2 t0 t1 t2) (hne : 2 ≠ b) (hL1 : 1 ≤ L) (hL2 : L ≤ 255) :
    Calls Ybaf.prog 22 #[.pointer (some ⟨b, 3, none⟩)] w fun e w' => e = .returned .nilIface ∧ Blk w' b { off := off, rc := rc, fed := fed, st := 8, lg := 2, ps := 49, lf := 2, n := 0, en := 56 + L, ho := 56 + L, ex := 0, n1 := 0, n2 := 0 } ∧ G b w w' := by
  obtain ⟨c0, c1, c2, c3, c4, c5, c6, c7, c8, c9, c10, c11, c12, c14⟩ := h.cs
  simp only at c0 c1 c2 c3 c4 c5 c6 c7 c8 c9 c10 c11 c12
  have fz := h.free
  have hbl := h.lt
  have f3 := fz 3
  have f4 := fz 4
  have f5 := fz 5
  have f6 := fz 6
  have f7 := fz 7
  have f8 := fz 8
  have f9 := fz 9
  have f10 := fz 10
  have f11 := fz 11
  have f12 := fz 12
  have hE := fun str => expect_ok (w := w.setCell ⟨b, 10, none⟩ (.int .i64 0)) (h.set10 0) 8 2 str (by dsimp only; omega) (by dsimp only; omega) (by dsimp only; omega) (by dsimp only; omega) (by dsimp only; omega)
  simp only at hE
  go_enter Ybaf.func22, Ybaf.ntmps22
  go_wp2_with (go_at_call 27; refine (hE _).mono ?_; rintro e w' ⟨rfl, hb, hg⟩)
  go_ret
  exact ⟨rfl, hb.cast (by simp), ((G.refl b w).set 10 _).trans hg⟩

set_option maxHeartbeats 2000000 in
set_option maxRecDepth 100000 in
theorem next12 {w : World} {b : Nat} {off rc fed L : Int} {t0 t1 t2 : ByteArray} (h : Blk w b { off := off, rc := rc, fed := fed, st := 8, lg := 2, ps := 51, lf := 0, n := 5 + L, en := 56 + L, ho := 56 + L, ex := 0, n1 := 0, n2 := 0 }) (hl : Leg w 2 t0 t1 t2) (hne : 2 ≠ b) (hL1 : 1 ≤ L) (hL2 : L ≤ 255) :
    Calls Ybaf.prog 22 #[.pointer (some ⟨b, 3, none⟩)] w fun e w' => e = .returned .nilIface ∧ Blk w' b { off := off, rc := rc, fed := fed, st := 10, lg := 2, ps := 51, lf := 2, n := 0, en := 56 + L, ho := 56 + L, ex := 0, n1 := 0, n2 := 0 } ∧ G b w w' := by
  obtain ⟨c0, c1, c2, c3, c4, c5, c6, c7, c8, c9, c10, c11, c12, c14⟩ := h.cs
  simp only at c0 c1 c2 c3 c4 c5 c6 c7 c8 c9 c10 c11 c12
  have fz := h.free
  have hbl := h.lt
  have f3 := fz 3
  have f4 := fz 4
  have f5 := fz 5
  have f6 := fz 6
  have f7 := fz 7
  have f8 := fz 8
  have f9 := fz 9
  have f10 := fz 10
  have f11 := fz 11
  have f12 := fz 12
  have hs : (51 : Int) + (5 + L) = 56 + L := by omega
  have hF := fun a => fits_ok h (5 + L) a (by dsimp only; omega) (by dsimp only; omega) (by dsimp only; omega) (by dsimp only; omega) (by dsimp only; omega)
  go_enter Ybaf.func22, Ybaf.ntmps22
  go_wp2_with (go_at_call 32; refine (hF _).mono ?_; rintro e w' ⟨rfl, m, rfl⟩)
  go_big_region
  have hE := fun str => expect_ok (w := ((w.drewN m).setCell ⟨b, 9, none⟩ (.int .i64 (56 + L))).drew) ((h.drewN m).set9 (56 + L)) 10 2 str (by dsimp only; omega) (by dsimp only; omega) (by dsimp only; omega) (by dsimp only; omega) (by dsimp only; omega)
  simp only at hE
  go_wp2_with (go_at_call 27; refine (hE _).mono ?_; rintro e w' ⟨rfl, hb, hg⟩)
  go_ret
  exact ⟨rfl, hb.cast (by simp), (((G.refl b w).drewN m |>.set 9 _).drew).trans hg⟩

set_option maxHeartbeats 2000000 in
set_option maxRecDepth 100000 in
theorem next13 {w : World} {b : Nat} {off rc fed L : Int} {t0 t1 t2 : ByteArray} (h : Blk w b { off := off, rc := rc, fed := fed, st := 10, lg := 2, ps := 53, lf := 0, n := 3 + L, en := 56 + L, ho := 56 + L, ex := 0, n1 := 0, n2 := 0 }) (hl : Leg w 2 t0 t1 t2) (hne : 2 ≠ b) (hL1 : 1 ≤ L) (hL2 : L ≤ 255) :
    Calls Ybaf.prog 22 #[.pointer (some ⟨b, 3, none⟩)] w fun e w' => e = .returned .nilIface ∧ Blk w' b { off := off, rc := rc, fed := fed, st := 11, lg := 2, ps := 53, lf := 1, n := 0, en := 56 + L, ho := 56 + L, ex := 0, n1 := 0, n2 := 0 } ∧ G b w w' := by
  obtain ⟨c0, c1, c2, c3, c4, c5, c6, c7, c8, c9, c10, c11, c12, c14⟩ := h.cs
  simp only at c0 c1 c2 c3 c4 c5 c6 c7 c8 c9 c10 c11 c12
  have fz := h.free
  have hbl := h.lt
  have f3 := fz 3
  have f4 := fz 4
  have f5 := fz 5
  have f6 := fz 6
  have f7 := fz 7
  have f8 := fz 8
  have f9 := fz 9
  have f10 := fz 10
  have f11 := fz 11
  have f12 := fz 12
  have hq : ((3 + L : Int) == 0) = false := by simp; omega
  have hF := fun a c => fill_ok h (3 + L) a c (by dsimp only; omega) (by dsimp only; omega) (by dsimp only; omega) (by dsimp only; omega) (by dsimp only; omega)
  have hE := fun m str => expect_ok (h.drewN m) 11 1 str (by dsimp only; omega) (by dsimp only; omega) (by dsimp only; omega) (by dsimp only; omega) (by dsimp only; omega)
  simp only at hE
  go_enter Ybaf.func22, Ybaf.ntmps22
  go_wp2_with (first | (go_at_call 30; refine (hF _ _).mono ?_; rintro e w' ⟨rfl, m, rfl⟩) | (go_at_call 27; refine (hE _ _).mono ?_; rintro e w' ⟨rfl, hb, hg⟩))
  go_ret
  exact ⟨rfl, hb.cast (by simp), ((G.refl b w).drewN m).trans hg⟩

set_option maxHeartbeats 2000000 in
set_option maxRecDepth 100000 in
theorem next14 {w : World} {b : Nat} {off rc fed L : Int} {t0 t1 t2 : ByteArray} (h : Blk w b { off := off, rc := rc, fed := fed, st := 11, lg := 2, ps := 54, lf := 0, n := 0, en := 56 + L, ho := 56 + L, ex := 0, n1 := 0, n2 := 0 }) (hl : Leg w 2 t0 t1 t2) (hne : 2 ≠ b) (hL1 : 1 ≤ L) (hL2 : L ≤ 255) :
    Calls Ybaf.prog 22 #[.pointer (some ⟨b, 3, none⟩)] w fun e w' => e = .returned .nilIface ∧ Blk w' b { off := off, rc := rc, fed := fed, st := 12, lg := 2, ps := 54, lf := 2, n := 0, en := 56 + L, ho := 56 + L, ex := 0, n1 := 0, n2 := 0 } ∧ G b w w' := by
  obtain ⟨c0, c1, c2, c3, c4, c5, c6, c7, c8, c9, c10, c11, c12, c14⟩ := h.cs
  simp only at c0 c1 c2 c3 c4 c5 c6 c7 c8 c9 c10 c11 c12
  have fz := h.free
  have hbl := h.lt
  have f3 := fz 3
  have f4 := fz 4
  have f5 := fz 5
  have f6 := fz 6
  have f7 := fz 7
  have f8 := fz 8
  have f9 := fz 9
  have f10 := fz 10
  have f11 := fz 11
  have f12 := fz 12
  have hE := fun str => expect_ok (w := w) h 12 2 str (by dsimp only; omega) (by dsimp only; omega) (by dsimp only; omega) (by dsimp only; omega) (by dsimp only; omega)
  simp only at hE
  go_enter Ybaf.func22, Ybaf.ntmps22
  go_wp2_with (go_at_call 27; refine (hE _).mono ?_; rintro e w' ⟨rfl, hb, hg⟩)
  go_ret
  exact ⟨rfl, hb.cast (by simp), (G.refl b w).trans hg⟩

set_option maxHeartbeats 2000000 in
set_option maxRecDepth 100000 in
theorem next15 {w : World} {b : Nat} {off rc fed L : Int} {t0 t1 t2 : ByteArray} (h : Blk w b { off := off, rc := rc, fed := fed, st := 12, lg := 2, ps := 56, lf := 0, n := L, en := 56 + L, ho := 56 + L, ex := 0, n1 := 0, n2 := 0 }) (hl : Leg w 2 t0 t1 t2) (hne : 2 ≠ b) (hL1 : 1 ≤ L) (hL2 : L ≤ 255) :
    Calls Ybaf.prog 22 #[.pointer (some ⟨b, 3, none⟩)] w fun e w' => e = .returned .nilIface ∧ Blk w' b { off := off, rc := rc, fed := fed, st := 13, lg := 2, ps := 56, lf := L, n := 0, en := 56 + L, ho := 56 + L, ex := 0, n1 := 56, n2 := 56 + L } ∧ G b w w' := by
  obtain ⟨c0, c1, c2, c3, c4, c5, c6, c7, c8, c9, c10, c11, c12, c14⟩ := h.cs
  simp only at c0 c1 c2 c3 c4 c5 c6 c7 c8 c9 c10 c11 c12
  have fz := h.free
  have hbl := h.lt
  have f3 := fz 3
  have f4 := fz 4
  have f5 := fz 5
  have f6 := fz 6
  have f7 := fz 7
  have f8 := fz 8
  have f9 := fz 9
  have f10 := fz 10
  have f11 := fz 11
  have f12 := fz 12
  have hq : ((L : Int) == 0) = false := by simp; omega
  have hq2 : decide ((255 : Int) < L) = false := by simp; omega
  go_enter Ybaf.func22, Ybaf.ntmps22
  go_wp2_with fail
  go_big_region
  have hE := fun str => expect_ok (w := ((w.setCell ⟨b, 11, none⟩ (.int .i64 56)).setCell ⟨b, 12, none⟩ (.int .i64 (56 + L))).drew) ((h.set11 56).set12 (56 + L)) 13 L str (by dsimp only; omega) (by dsimp only; omega) (by dsimp only; omega) (by dsimp only; omega) (by dsimp only; omega)
  simp only at hE
  go_wp2_with (go_at_call 27; refine (hE _).mono ?_; rintro e w' ⟨rfl, hb, hg⟩)
  go_ret
  exact ⟨rfl, hb.cast (by simp), ((G.refl b w).set 11 _ |>.set 12 _ |>.drew).trans hg⟩

set_option maxHeartbeats 2000000 in
set_option maxRecDepth 100000 in
theorem next16 {w : World} {b : Nat} {off rc fed L : Int} {t0 t1 t2 : ByteArray} (h : Blk w b { off := off, rc := rc, fed := fed, st := 13, lg := 2, ps := 56 + L, lf := 0, n := 0, en := 56 + L, ho := 56 + L, ex := 0, n1 := 56, n2 := 56 + L }) (hl : Leg w 2 t0 t1 t2) (hne : 2 ≠ b) (hL1 : 1 ≤ L) (hL2 : L ≤ 255) :
    Calls Ybaf.prog 22 #[.pointer (some ⟨b, 3, none⟩)] w fun e w' => e = .returned .nilIface ∧ Blk w' b { off := off, rc := rc, fed := fed, st := 17, lg := 2, ps := 56 + L, lf := 0, n := 0, en := 56 + L, ho := 56 + L, ex := 0, n1 := 56, n2 := 56 + L } ∧ G b w w' := by
  obtain ⟨c0, c1, c2, c3, c4, c5, c6, c7, c8, c9, c10, c11, c12, c14⟩ := h.cs
  simp only at c0 c1 c2 c3 c4 c5 c6 c7 c8 c9 c10 c11 c12
  have fz := h.free
  have hbl := h.lt
  have f3 := fz 3
  have f4 := fz 4
  have f5 := fz 5
  have f6 := fz 6
  have f7 := fz 7
  have f8 := fz 8
  have f9 := fz 9
  have f10 := fz 10
  have f11 := fz 11
  have f12 := fz 12
  have hE := fun str => nextEntry_ok h 11 1 str rfl rfl
  simp only at hE
  go_enter Ybaf.func22, Ybaf.ntmps22
  go_wp2_with (go_at_call 33; refine (hE _).mono ?_; rintro e w' ⟨rfl, hb, hg⟩)
  go_ret
  exact ⟨rfl, hb, hg⟩

end Go.Proofs.YbulkahqyFmt

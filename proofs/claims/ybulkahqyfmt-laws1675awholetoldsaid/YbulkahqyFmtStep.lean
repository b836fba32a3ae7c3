import Derived.Test.YbulkahqyFmtBlk
import Derived.Deep.RegionHeld3
namespace Go.Proofs.YbulkahqyFmt
open Go.RowKit
set_option linter.unusedSimpArgs false

/-- the fields between the random and the extensions, as the variable legacyFields holds them in block gb -/
structure Leg (w : World) (gb : Nat) (t0 t1 t2 : ByteArray) : Prop where
  c0 : w.cell? ⟨gb, 0, none⟩ = some (.string t0)
  c1 : w.cell? ⟨gb, 1, none⟩ = some (.int .i64 1)
  c2 : w.cell? ⟨gb, 2, none⟩ = some (.int .i64 0)
  c3 : w.cell? ⟨gb, 3, none⟩ = some (.int .i64 32)
  c4 : w.cell? ⟨gb, 4, none⟩ = some (.int .i64 1)
  c5 : w.cell? ⟨gb, 5, none⟩ = some (.string t1)
  c6 : w.cell? ⟨gb, 6, none⟩ = some (.int .i64 2)
  c7 : w.cell? ⟨gb, 7, none⟩ = some (.int .i64 2)
  c8 : w.cell? ⟨gb, 8, none⟩ = some (.int .i64 65534)
  c9 : w.cell? ⟨gb, 9, none⟩ = some (.int .i64 2)
  c10 : w.cell? ⟨gb, 10, none⟩ = some (.string t2)
  c11 : w.cell? ⟨gb, 11, none⟩ = some (.int .i64 1)
  c12 : w.cell? ⟨gb, 12, none⟩ = some (.int .i64 1)
  c13 : w.cell? ⟨gb, 13, none⟩ = some (.int .i64 255)
  c14 : w.cell? ⟨gb, 14, none⟩ = some (.int .i64 1)

theorem Leg.of {w w' : World} {gb b : Nat} {t0 t1 t2 : ByteArray} (h : Leg w gb t0 t1 t2) (hg : G b w w') (hne : gb ≠ b) : Leg w' gb t0 t1 t2 :=
  ⟨hg.cell h.c0 hne, hg.cell h.c1 hne, hg.cell h.c2 hne, hg.cell h.c3 hne, hg.cell h.c4 hne, hg.cell h.c5 hne, hg.cell h.c6 hne, hg.cell h.c7 hne, hg.cell h.c8 hne, hg.cell h.c9 hne, hg.cell h.c10 hne, hg.cell h.c11 hne, hg.cell h.c12 hne, hg.cell h.c13 hne, hg.cell h.c14 hne⟩

set_option maxHeartbeats 1000000 in
theorem fill_ok {w : World} {b : Nat} {s : Fr} (h : Blk w b s) (n : Int) (st1 st2 : ByteArray) (h1 : 0 ≤ s.ps) (h2 : s.ps ≤ 100000) (h3 : 0 ≤ s.ho) (h4 : s.ho ≤ 100000) (hn : n = s.ho - s.ps) :
    Calls Ybaf.prog 30 #[.pointer (some ⟨b, 3, none⟩), .int .i64 n, .string st1, .string st2] w fun e w' => e = .returned .nilIface ∧ ∃ m, w' = w.drewN m := by
  have hf := fits_ok h n st1 h1 h2 h3 h4 (by omega)
  obtain ⟨c0, c1, c2, c3, c4, c5, c6, c7, c8, c9, c10, c11, c12, c14⟩ := h.cs
  have HN : Hid (n = s.ho - s.ps) := hn
  have hd : s.ho - s.ps - n = 0 := by omega
  clear hn
  go_enter Ybaf.func30, Ybaf.ntmps30
  go_wp2_with (go_at_call 32; refine hf.mono ?_; rintro e w' ⟨rfl, m, rfl⟩)
  go_quiet (fail)
  go_wp2_with fail
  go_ret
  exact ⟨rfl, m + nq, by simp [World.drewN, Nat.add_assoc]⟩

set_option maxHeartbeats 1000000 in
theorem nextExt_done {w : World} {b : Nat} {s : Fr} (h : Blk w b s) (hn : s.ps = s.en) :
    Calls Ybaf.prog 31 #[.pointer (some ⟨b, 3, none⟩)] w fun e w' => e = .returned .nilIface ∧ Blk w' b { s with ho := s.en, st := 17 } ∧ G b w w' := by
  have h' := h.set9 s.en
  obtain ⟨c0, c1, c2, c3, c4, c5, c6, c7, c8, c9, c10, c11, c12, c14⟩ := h.cs
  obtain ⟨d0, d1, d2, d3, d4, d5, d6, d7, d8, d9, d10, d11, d12, d14⟩ := h'.cs
  have f9 := h.free 9
  have f3 := h'.free 3
  have hG : G b w (w.setCell ⟨b, 9, none⟩ (.int .i64 s.en)) := (G.refl b w).set 9 _
  have hq : ((s.ps : Int) == s.en) = true := by simp [hn]
  go_enter Ybaf.func31, Ybaf.ntmps31
  go_wp2_with fail
  clear h c0 c1 c2 c3 c4 c5 c6 c7 c8 c9 c10 c11 c12 c14 f9
  generalize w.setCell ⟨b, 9, none⟩ (.int .i64 s.en) = w1 at *
  go_quiet (fail)
  go_wp2_with fail
  go_ret
  exact ⟨rfl, (h'.drewN nq).set3 17, (hG.drewN nq).set 3 _⟩

set_option maxHeartbeats 1000000 in
theorem nextExt_more {w : World} {b : Nat} {s : Fr} (h : Blk w b s) (h1 : 0 ≤ s.ps) (h2 : s.en ≤ 100000) (hn : s.ps + 2 ≤ s.en) :
    Calls Ybaf.prog 31 #[.pointer (some ⟨b, 3, none⟩)] w fun e w' => e = .returned .nilIface ∧ Blk w' b { s with ho := s.en, st := 7, lf := 2, n := 0 } ∧ G b w w' := by
  have h' := h.set9 s.en
  obtain ⟨c0, c1, c2, c3, c4, c5, c6, c7, c8, c9, c10, c11, c12, c14⟩ := h.cs
  obtain ⟨d0, d1, d2, d3, d4, d5, d6, d7, d8, d9, d10, d11, d12, d14⟩ := h'.cs
  have f9 := h.free 9
  have hG : G b w (w.setCell ⟨b, 9, none⟩ (.int .i64 s.en)) := (G.refl b w).set 9 _
  have hq : ((s.ps : Int) == s.en) = false := by simp; omega
  go_enter Ybaf.func31, Ybaf.ntmps31
  go_wp2_with fail
  clear h c0 c1 c2 c3 c4 c5 c6 c7 c8 c9 c10 c11 c12 c14 f9
  generalize w.setCell ⟨b, 9, none⟩ (.int .i64 s.en) = w1 at *
  go_quiet (fail)
  have hE := fun str => expect_ok (h'.drewN nq) 7 2 str h1 (by show s.ps ≤ 100000; omega) (by show 0 ≤ s.en; omega) (by show s.en ≤ 100000; omega) (by show 2 ≤ s.en - s.ps; omega)
  go_wp2_with (go_at_call 27; refine (hE _).mono ?_; rintro e w' ⟨rfl, hb, hg⟩)
  go_ret
  exact ⟨rfl, hb, (hG.drewN nq).trans hg⟩

set_option maxHeartbeats 1000000 in
theorem nextEntry_ok {w : World} {b : Nat} {s : Fr} (h : Blk w b s) (st n : Int) (str : ByteArray) (hn : s.ps = s.en) (hh : s.ps = s.ho) :
    Calls Ybaf.prog 33 #[.pointer (some ⟨b, 3, none⟩), .int .u8 st, .int .i64 n, .string str] w fun e w' => e = .returned .nilIface ∧ Blk w' b { s with ho := s.en, st := 17 } ∧ G b w w' := by
  obtain ⟨c0, c1, c2, c3, c4, c5, c6, c7, c8, c9, c10, c11, c12, c14⟩ := h.cs
  have hq : decide (s.ps < s.ho) = false := by simp; omega
  have HH : Hid (s.ps = s.ho) := hh
  have HN : Hid (s.ps = s.en) := hn
  clear hh hn
  go_enter Ybaf.func33, Ybaf.ntmps33
  go_wp2_with fail
  go_quiet (fail)
  have hE := nextExt_done (h.drewN nq) HN.out
  go_wp2_with (go_at_call 31; refine hE.mono ?_; rintro e w' ⟨rfl, hb, hg⟩)
  go_ret
  exact ⟨rfl, hb, ((G.refl b w).drewN nq).trans hg⟩

set_option maxHeartbeats 1000000 in
theorem checkLength_ok (t : ByteArray) (sz mn mx en n : Int) (w : World) (h1 : mn ≤ n) (h2 : n ≤ mx) (h0 : 0 < en) (h0' : 0 ≤ n) (h3 : n % en = 0) :
    Calls Ybaf.prog 29 #[.agg #[.string t, .int .i64 sz, .int .i64 mn, .int .i64 mx, .int .i64 en], .int .i64 n] w fun e w' => e = .returned .nilIface ∧ w' = w.alloc (.cells #[.string t, .int .i64 sz, .int .i64 mn, .int .i64 mx, .int .i64 en] 73) := by
  have hd1 : decide (n < mn) = false := by simp; omega
  have hd2 : decide (mx < n) = false := by simp; omega
  have hne : en ≠ 0 := by omega
  go_enter Ybaf.func29, Ybaf.ntmps29
  go_wp2_with fail
  go_ret
  exact ⟨rfl, rfl⟩

set_option maxHeartbeats 1000000 in
theorem legacy0_ok {w : World} {b : Nat} {s : Fr} {t0 t1 t2 : ByteArray} (h : Blk w b s) (hl : Leg w 2 t0 t1 t2) (hne : 2 ≠ b) (h1 : 0 ≤ s.ps) (h2 : s.ps ≤ 100000) (h3 : 0 ≤ s.ho) (h4 : s.ho ≤ 100000) (hn : s.ps + 1 ≤ s.ho) :
    Calls Ybaf.prog 28 #[.pointer (some ⟨b, 3, none⟩), .int .i64 0] w fun e w' => e = .returned .nilIface ∧ Blk w' b { s with lg := 0, st := 4, lf := 1, n := 0 } ∧ G b w w' := by
  have h' := h.set4 0
  obtain ⟨c0, c1, c2, c3, c4, c5, c6, c7, c8, c9, c10, c11, c12, c14⟩ := h.cs
  have f4 := h.free 4
  have hG : G b w (w.setCell ⟨b, 4, none⟩ (.int .i64 0)) := (G.refl b w).set 4 _
  have hl' := hl.of hG hne
  obtain ⟨g0, g1, g2, g3, g4, g5, g6, g7, g8, g9, g10, g11, g12, g13, g14⟩ := hl'
  go_enter Ybaf.func28, Ybaf.ntmps28
  go_wp2_with fail
  clear h c0 c1 c2 c3 c4 c5 c6 c7 c8 c9 c10 c11 c12 c14 f4 hl
  generalize w.setCell ⟨b, 4, none⟩ (.int .i64 0) = w1 at *
  have hE := fun str => expect_ok (w := w1.drew) h' 4 1 str h1 h2 h3 h4 (by show 1 ≤ s.ho - s.ps; omega)
  go_region_with (go_at_call 27; refine (hE _).mono ?_; rintro e w' ⟨rfl, hb, hg⟩)
  all_goals
    go_wp2_with fail
    go_ret
    exact ⟨rfl, hb, (hG.drewN 1).trans hg⟩

set_option maxHeartbeats 1000000 in
theorem legacy1_ok {w : World} {b : Nat} {s : Fr} {t0 t1 t2 : ByteArray} (h : Blk w b s) (hl : Leg w 2 t0 t1 t2) (hne : 2 ≠ b) (h1 : 0 ≤ s.ps) (h2 : s.ps ≤ 100000) (h3 : 0 ≤ s.ho) (h4 : s.ho ≤ 100000) (hn : s.ps + 2 ≤ s.ho) :
    Calls Ybaf.prog 28 #[.pointer (some ⟨b, 3, none⟩), .int .i64 1] w fun e w' => e = .returned .nilIface ∧ Blk w' b { s with lg := 1, st := 4, lf := 2, n := 0 } ∧ G b w w' := by
  have h' := h.set4 1
  obtain ⟨c0, c1, c2, c3, c4, c5, c6, c7, c8, c9, c10, c11, c12, c14⟩ := h.cs
  have f4 := h.free 4
  have hG : G b w (w.setCell ⟨b, 4, none⟩ (.int .i64 1)) := (G.refl b w).set 4 _
  have hl' := hl.of hG hne
  obtain ⟨g0, g1, g2, g3, g4, g5, g6, g7, g8, g9, g10, g11, g12, g13, g14⟩ := hl'
  go_enter Ybaf.func28, Ybaf.ntmps28
  go_wp2_with fail
  clear h c0 c1 c2 c3 c4 c5 c6 c7 c8 c9 c10 c11 c12 c14 f4 hl
  generalize w.setCell ⟨b, 4, none⟩ (.int .i64 1) = w1 at *
  have hE := fun str => expect_ok (w := w1.drew) h' 4 2 str h1 h2 h3 h4 (by show 2 ≤ s.ho - s.ps; omega)
  go_region_with (go_at_call 27; refine (hE _).mono ?_; rintro e w' ⟨rfl, hb, hg⟩)
  all_goals
    go_wp2_with fail
    go_ret
    exact ⟨rfl, hb, (hG.drewN 1).trans hg⟩

set_option maxHeartbeats 1000000 in
theorem legacy2_ok {w : World} {b : Nat} {s : Fr} {t0 t1 t2 : ByteArray} (h : Blk w b s) (hl : Leg w 2 t0 t1 t2) (hne : 2 ≠ b) (h1 : 0 ≤ s.ps) (h2 : s.ps ≤ 100000) (h3 : 0 ≤ s.ho) (h4 : s.ho ≤ 100000) (hn : s.ps + 1 ≤ s.ho) :
    Calls Ybaf.prog 28 #[.pointer (some ⟨b, 3, none⟩), .int .i64 2] w fun e w' => e = .returned .nilIface ∧ Blk w' b { s with lg := 2, st := 4, lf := 1, n := 0 } ∧ G b w w' := by
  have h' := h.set4 2
  obtain ⟨c0, c1, c2, c3, c4, c5, c6, c7, c8, c9, c10, c11, c12, c14⟩ := h.cs
  have f4 := h.free 4
  have hG : G b w (w.setCell ⟨b, 4, none⟩ (.int .i64 2)) := (G.refl b w).set 4 _
  have hl' := hl.of hG hne
  obtain ⟨g0, g1, g2, g3, g4, g5, g6, g7, g8, g9, g10, g11, g12, g13, g14⟩ := hl'
  go_enter Ybaf.func28, Ybaf.ntmps28
  go_wp2_with fail
  clear h c0 c1 c2 c3 c4 c5 c6 c7 c8 c9 c10 c11 c12 c14 f4 hl
  generalize w.setCell ⟨b, 4, none⟩ (.int .i64 2) = w1 at *
  have hE := fun str => expect_ok (w := w1.drew) h' 4 1 str h1 h2 h3 h4 (by show 1 ≤ s.ho - s.ps; omega)
  go_region_with (go_at_call 27; refine (hE _).mono ?_; rintro e w' ⟨rfl, hb, hg⟩)
  all_goals
    go_wp2_with fail
    go_ret
    exact ⟨rfl, hb, (hG.drewN 1).trans hg⟩

end Go.Proofs.YbulkahqyFmt

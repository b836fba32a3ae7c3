import Derived.Test.YbulkahlaPairs
import Derived.Deep.QuietTactic
import Derived.BigQuiet
namespace Go.Proofs.Ybulkahla
open Go.RowKit
set_option linter.unusedSimpArgs false
attribute [local go_sem] run_store_float
attribute [local go_sem ↓] run_fsub

theorem Prs.drewN {wN w : World} {bn nS nR B : Nat} {k : Bk} {cs : Nat → Value} {L : Nat → List Int} {at_ : Nat → Int} {lo : Nat → Bool} {cnt : Int} (h : Prs wN w bn nS nR B k cs L at_ lo cnt) (n : Nat) : Prs wN (w.drewN n) bn nS nR B k cs L at_ lo cnt :=
  ⟨h.lay, ⟨h.bel.os, h.bel.tape, h.bel.output, h.bel.size, h.bel.block⟩, h.bsz, h.p, h.ms, h.inn, h.bck, h.car, h.at_, h.lo, ⟨h.fam.own, h.fam.apart⟩⟩
theorem Frm.drewN {B : Nat} {k : Bk} {w w' : World} (h : Frm B k w w') (n : Nat) : Frm B k w (w'.drewN n) := h

set_option maxHeartbeats 2000000 in
set_option maxRecDepth 100000 in
theorem take_any {wN : World} {bn bd bt br cr bm cm nS nG nR B : Nat} {k : Bk} {cs : Nat → Value} {L : Nat → List Int} {at_ : Nat → Int} {lo : Nat → Bool} {cnt : Int} (r : Nat) (w : World)
    (hN : NetAt wN bn bd bt br cr bm cm nS nG nR) (h : Prs wN w bn nS nR B k cs L at_ lo cnt) (h1S : 1 ≤ nS) (hS : nS ≤ 4) (h1G : 1 ≤ nG) (hG : nG ≤ 3) (hRe : nR = nS * nG) (hR : nR ≤ 12) (hr : r < nR) :
    Calls Yba.prog 41 #[.pointer (some ⟨k.p, 0, none⟩), .int .i64 r] w fun e w' => e = .returned (.tuple #[]) ∧ Prs wN w' bn nS nR B k cs L at_ lo cnt ∧ Frm B k w w' := by
  have hw := hN.below h.bel
  obtain ⟨r0, r1⟩ := hw.rt r hr
  obtain ⟨xm, hxm⟩ := hw.ms r hr
  have n4 := hw.rts
  have n6 := hw.rms
  have n8 := hw.tog
  obtain ⟨p0, p1, p2, p3, p4, p5, p6, p7, p8, f6⟩ := h.pc
  obtain ⟨tto, hto⟩ : ∃ tto, r / nG = tto := ⟨_, rfl⟩
  obtain ⟨g, hg⟩ : ∃ g, r % nG = g := ⟨_, rfl⟩
  have hgl : g < nG := by rw [← hg]; exact Nat.mod_lt _ (by omega)
  have htl : tto < nS := by rw [← hto]; exact Nat.div_lt_of_lt_mul (by rw [Nat.mul_comm]; omega)
  rw [hto] at r0
  rw [hg] at r1
  obtain ⟨pt, len, ct, tgc0, hlen, htg⟩ := hN.tg g hgl
  have tgc := cell_kept h.bel tgc0
  obtain ⟨m, hm⟩ : ∃ m, nS * nS = m := ⟨_, rfl⟩
  obtain ⟨row, hrow⟩ : ∃ row, tto * nS = row := ⟨_, rfl⟩
  have hri : (tto : Int) * nS = row := by rw [← hrow]; simp
  have hrm : row + nS ≤ m := by
    rw [← hrow, ← hm]
    have := Nat.mul_le_mul_right nS (show tto + 1 ≤ nS by omega)
    rw [Nat.succ_mul] at this
    exact this
  have hm16 : m ≤ 16 := by rw [← hm]; exact Nat.mul_le_mul hS hS
  rw [hm] at p2 p3 p4
  clear hto hg hRe
  go_enter Yba.func41, Yba.ntmps41
  go_upto_region 0 with fail
  go_quiet (fail)
  go_upto_region 2 with fail
  go_quiet (fail)
  go_upto_region 3 with fail
  go_quiet (fail)
  go_wp2_with fail
  have hbd := h.lay.bd
  have hlt' : ∀ x, x ∈ k.list → x < w.heap.size := fun x hx => by have := (h.lay.rng x hx).2; have := h.bsz; omega
  rw [show row + nS - row = nS by omega]
  clear r0 r1 hxm n4 n6 n8 p0 p1 p2 p3 p4 p5 p6 p7 p8 f6 tgc tgc0 hw
  go_loopw [97] (fun i wr => ∃ j : Nat, j ≤ len ∧ i = .int .i64 j ∧ Prs wN wr bn nS nR B k cs L at_ lo cnt ∧ Frm B k w wr) (fun i _ => len - (intOf i).toNat)
  case atStart => exact ⟨0, by omega, rfl, ((h.drewN _).drewN _).drewN _, Frm.refl _ _ _⟩
  case round =>
    obtain ⟨j, hj, rfl, hp, hfr⟩ := hrel
    by_cases hlt : j < len
    · obtain ⟨b, rfl, q, s, mm, hs, a1, a2, a3⟩ := htg j hlt
      have y1 := cell_kept hp.bel a1
      have y2 := cell_kept hp.bel a2
      have y3 := cell_kept hp.bel a3
      have lb := World.block_lt_of_cell? _ _ y1
      simp only at lb
      obtain ⟨f, hf⟩ := hp.ms
      obtain ⟨fi, hfi⟩ := hp.inn
      obtain ⟨fb, hfb⟩ := hp.bck
      have z1 := hf.cell (i := row + s) (by omega)
      have z2 := hfi.cell (i := row + s) (by omega)
      have z3 := hfb.cell (i := row + s) (by omega)
      have g1 := hf.free (row + s)
      have g2 := hfi.free (row + s)
      have g3 := hfb.free (row + s)
      have l1 := hf.lt
      have l2 := hfi.lt
      have l3 := hfb.lt
      have hp1 := hp.alloc (.cells #[.int .i64 q, .int .i64 s, .float .f64 mm] 100)
      have hfr1 := hfr.alloc hp.bsz (.cells #[.int .i64 q, .int .i64 s, .float .f64 mm] 100)
      clear a1 a2 a3 hf hfi hfb htg hp hfr h hN
      go_upto_region 7 with fail
      go_cut [116] (fun u wc => ∃ bb n, u = .bool bb ∧ wc = (wr.alloc (.cells #[.int .i64 q, .int .i64 s, .float .f64 mm] 100)).drewN n)
      case first =>
        cases hq : (FloatKind.f64.format.order (fval .sub mm xm (wr.alloc (.cells #[.int .i64 q, .int .i64 s, .float .f64 mm] 100)).drew) (f (row + s)) == some .lt)
        · go_region
          all_goals
            go_wp2_with fail
            go_meet
            case rel => exact ⟨_, _, rfl, rfl⟩
        · go_region
          all_goals
            go_wp2_with fail
            go_meet
            case rel => exact ⟨_, _, rfl, rfl⟩
      case rest =>
        obtain ⟨bb, n, rfl, rfl⟩ := hcut
        have hp2 := hp1.drewN n
        have hfr2 := hfr1.drewN n
        cases bb
        · clear hp1 hfr1
          go_wp2_with fail
          go_roundw
          case rel => exact ⟨j + 1, by omega, by simp, hp2, hfr2⟩
          case measure => simp [intOf]; omega
        · have hne := hp1.lay.ne
          have e1 : k.ms ≠ k.inn := hne.2.2.2.2.2.2.1
          have e2 : k.ms ≠ k.bck := hne.2.2.2.2.2.2.2.1
          have e3 : k.inn ≠ k.bck := hne.2.2.2.2.2.2.2.2.2.2.2.1
          have e1' := e1.symm
          have e2' := e2.symm
          have e3' := e3.symm
          have i1 : k.ms ∈ k.list := by simp [Bk.list]
          have i2 : k.inn ∈ k.list := by simp [Bk.list]
          have i3 : k.bck ∈ k.list := by simp [Bk.list]
          clear hne hp2 hfr2
          go_upto_region 8 with fail
          go_region
          all_goals
            have hp3 := (((hp1.drewN (n + 1 + fdr .sub mm xm)).set_ms (row + s) (fval .sub mm xm ((wr.alloc (.cells #[.int .i64 q, .int .i64 s, .float .f64 mm] 100)).drewN (n + 1)))).set_inn (row + s) q).set_bck (row + s) r
            have hfr3 := (((hfr1.drewN (n + 1 + fdr .sub mm xm)).set (a := ⟨k.ms, row + s, none⟩) i1 (.float .f64 (fval .sub mm xm ((wr.alloc (.cells #[.int .i64 q, .int .i64 s, .float .f64 mm] 100)).drewN (n + 1))))).set (a := ⟨k.inn, row + s, none⟩) i2 (.int .i64 q)).set (a := ⟨k.bck, row + s, none⟩) i3 (.int .i64 r)
            go_wp2_with fail
            go_roundw
            case rel => exact ⟨j + 1, by omega, by simp, hp3, hfr3⟩
            case measure => simp [intOf]; omega
    · go_wp2_with fail
      go_end0
      exact ⟨rfl, hp, hfr⟩
end Go.Proofs.Ybulkahla

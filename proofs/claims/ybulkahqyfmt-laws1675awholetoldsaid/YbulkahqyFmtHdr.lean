import Derived.Test.YbulkahqyFmtFeed
namespace Go.Proofs.YbulkahqyFmt
open Go.RowKit
set_option linter.unusedSimpArgs false

set_option maxHeartbeats 1000000 in
theorem payload_ok {w : World} {gi o R c n : Nat} (h5 : 5 ≤ R) (hn : n ≤ 311) (d3 : w.cell? ⟨gi, o + 3, none⟩ = some (.int .u8 ((n : Int) / 256))) (d4 : w.cell? ⟨gi, o + 4, none⟩ = some (.int .u8 ((n : Int) % 256))) :
    Calls Ybaf.prog 14 #[.slice (some ⟨gi, o, none⟩) R c] w fun e w' => e = .returned (.int .i64 n) ∧ ∃ m, w' = w.drewN m := by
  obtain ⟨A, hA⟩ : ∃ A : Int, (n : Int) / 256 = A := ⟨_, rfl⟩
  obtain ⟨B, hB⟩ : ∃ B : Int, (n : Int) % 256 = B := ⟨_, rfl⟩
  rw [hA] at d3
  rw [hB] at d4
  have hA1 : 0 ≤ A := by omega
  have hA2 : A ≤ 1 := by omega
  have hB1 : 0 ≤ B := by omega
  have hB2 : B ≤ 255 := by omega
  have HAB : Hid (A * 256 + B = (n : Int)) := by show _ = _; omega
  have hor := or_byte A B hA1 (by omega) hB1 hB2
  have h5' : (4 : Int) < (R : Int) := by omega
  have h5'' : (3 : Int) < (R : Int) := by omega
  clear hA hB
  go_enter Ybaf.func14, Ybaf.ntmps14
  go_wp2_with fail
  go_quiet (fail)
  go_wp2_with fail
  go_ret
  exact ⟨by rw [HAB.out]; rfl, _, rfl⟩

set_option maxHeartbeats 2000000 in
set_option maxRecDepth 100000 in
theorem header_ok {w : World} {gi o R c n : Nat} (rc : Int) (hn1 : 1 ≤ n) (hn : n ≤ 311) (d0 : 1 ≤ R → w.cell? ⟨gi, o, none⟩ = some (.int .u8 22)) (d1 : 2 ≤ R → w.cell? ⟨gi, o + 1, none⟩ = some (.int .u8 3)) (d2 : 3 ≤ R → w.cell? ⟨gi, o + 2, none⟩ = some (.int .u8 1))
    (d3 : 5 ≤ R → w.cell? ⟨gi, o + 3, none⟩ = some (.int .u8 ((n : Int) / 256))) (d4 : 5 ≤ R → w.cell? ⟨gi, o + 4, none⟩ = some (.int .u8 ((n : Int) % 256))) :
    Calls Ybaf.prog 13 #[.slice (some ⟨gi, o, none⟩) R c, .int .i64 rc] w fun e w' => e = .returned .nilIface ∧ ∃ m, w' = w.drewN m := by
  by_cases h5 : 5 ≤ R
  · have e0 := d0 (by omega)
    have e1 := d1 (by omega)
    have e2 := d2 (by omega)
    have hp := payload_ok (c := c) h5 hn (d3 h5) (d4 h5)
    have q1 : decide ((16384 : Int) < (n : Int)) = false := by simp; omega
    have q2 : ((n : Int) == 0) = false := by simp; omega
    have r1 : (1 : Int) ≤ (R : Int) := by omega
    have r2 : (2 : Int) ≤ (R : Int) := by omega
    have r3 : (3 : Int) ≤ (R : Int) := by omega
    have r5 : (5 : Int) ≤ (R : Int) := by omega
    have r0 : (0 : Int) < (R : Int) := by omega
    have r1' : (1 : Int) < (R : Int) := by omega
    have r2' : (2 : Int) < (R : Int) := by omega
    clear d0 d1 d2 d3 d4
    go_enter Ybaf.func13, Ybaf.ntmps13
    go_wp2_with (go_at_call 14; refine hp.mono ?_; rintro e w' ⟨rfl, m, rfl⟩)
    go_ret
    exact ⟨rfl, m, rfl⟩
  · have hR : R = 0 ∨ R = 1 ∨ R = 2 ∨ R = 3 ∨ R = 4 := by omega
    rcases hR with rfl | rfl | rfl | rfl | rfl
    · clear d0 d1 d2 d3 d4
      go_enter Ybaf.func13, Ybaf.ntmps13
      go_wp2_with fail
      go_ret
      exact ⟨rfl, 0, rfl⟩
    · have e0 := d0 (by omega)
      clear d0 d1 d2 d3 d4
      go_enter Ybaf.func13, Ybaf.ntmps13
      go_wp2_with fail
      go_ret
      exact ⟨rfl, 0, rfl⟩
    · have e0 := d0 (by omega)
      have e1 := d1 (by omega)
      clear d0 d1 d2 d3 d4
      go_enter Ybaf.func13, Ybaf.ntmps13
      go_wp2_with fail
      go_ret
      exact ⟨rfl, 0, rfl⟩
    · have e0 := d0 (by omega)
      have e1 := d1 (by omega)
      have e2 := d2 (by omega)
      clear d0 d1 d2 d3 d4
      go_enter Ybaf.func13, Ybaf.ntmps13
      go_wp2_with fail
      go_ret
      exact ⟨rfl, 0, rfl⟩
    · have e0 := d0 (by omega)
      have e1 := d1 (by omega)
      have e2 := d2 (by omega)
      clear d0 d1 d2 d3 d4
      go_enter Ybaf.func13, Ybaf.ntmps13
      go_wp2_with fail
      go_ret
      exact ⟨rfl, 0, rfl⟩
end Go.Proofs.YbulkahqyFmt

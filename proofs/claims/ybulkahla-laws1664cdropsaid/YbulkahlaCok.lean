import Derived.Test.YbulkahlaClone
namespace Go.Proofs.Ybulkahla
open Go.RowKit
set_option linter.unusedSimpArgs false

def tot (L : Nat → List Int) : Nat → Nat
  | 0 => 0
  | n + 1 => tot L n + (L n).length
theorem tot_le {L : Nat → List Int} {M : Nat} (n : Nat) (h : ∀ s, s < n → (L s).length ≤ M) : tot L n ≤ n * M := by
  induction n with
  | zero => simp [tot]
  | succ n ih => have := ih (fun s hs => h s (by omega)); have := h n (by omega); rw [Nat.succ_mul]; simp only [tot]; omega

/-- THE BOOK-KEEPING, in plain words: route q comes from source q / nG. -/
structure PI (nS nG nR : Nat) (on : Nat → Bool) (L : Nat → List Int) (at_ : Nat → Int) (cnt : Int) : Prop where
  off : ∀ q, q < nR → on q = false → at_ q = -1
  on_ : ∀ q, q < nR → on q = true → ∃ i : Nat, at_ q = i ∧ (L (q / nG))[i]? = some (q : Int)
  mem : ∀ s, s < nS → ∀ (i : Nat) x, (L s)[i]? = some x → ∃ q : Nat, x = q ∧ q < nR ∧ q / nG = s ∧ at_ q = i
  sum : cnt = (tot L nS : Nat)

set_option maxHeartbeats 2000000 in
set_option maxRecDepth 100000 in
theorem cok_any {wN : World} {bn bd bt br cr bm cm nS nG nR B : Nat} {k : Bk} {cs : Nat → Value} {L : Nat → List Int} {at_ : Nat → Int} {lo on : Nat → Bool} {cnt : Int} (bon bl2 : Nat) (w : World)
    (hN : NetAt wN bn bd bt br cr bm cm nS nG nR) (h : Prs wN w bn nS nR B k cs L at_ lo cnt) (hS : nS ≤ 4) (hRe : nR = nS * nG) (hR : nR ≤ 12)
    (hon : Row w bon nR 4 (fun i => .bool (on i))) (hl2 : Row w bl2 nS 4 (fun i => .bool (lo i))) (hL : ∀ s, s < nS → (L s).length ≤ 2000) (hPI : PI nS nG nR on L at_ cnt) :
    Calls Yba.prog 27 #[.pointer (some ⟨k.p, 0, none⟩), slv bon nR, slv bl2 nS, .int .i64 cnt] w fun e w' => e = .returned (.bool true) ∧ ∃ m, w' = w.drewN m := by
  obtain ⟨p0, p1, p2, p3, p4, p5, p6, p7, p8, f6⟩ := h.pc
  have hw := hN.below h.bel
  have n4 := hw.rts
  obtain rfl : cnt = (tot L nS : Nat) := hPI.sum
  have hdv : ∀ q, q < nR → q / nG < nS := fun q hq => Nat.div_lt_of_lt_mul (by rw [Nat.mul_comm]; omega)
  clear hRe
  have hT : tot L nS ≤ 8000 := Nat.le_trans (tot_le nS hL) (by have := Nat.mul_le_mul_right 2000 hS; omega)
  go_enter Yba.func27, Yba.ntmps27
  go_wp2_with fail
  go_loopw [9, 10] (fun t i wr => ∃ s : Nat, s ≤ nS ∧ i = .int .i64 s ∧ t = .int .i64 (tot L s : Nat) ∧ ∃ m, wr = w.drewN m) (fun _ i _ => nS - (intOf i).toNat)
  case atStart => exact ⟨0, by omega, rfl, rfl, 0, rfl⟩
  case round =>
    obtain ⟨s, hs, rfl, rfl, m, rfl⟩ := hrel
    by_cases hlt : s < nS
    · have hbt : tot L s ≤ 8000 := Nat.le_trans (tot_le s (fun j hj => hL j (by omega))) (by have := Nat.mul_le_mul_right 2000 (show s ≤ 4 by omega); omega)
      have hls := hL s hlt
      obtain ⟨pc, cc, hcs⟩ := slice_of_owns (h.fam.own s hlt)
      have c1 := h.car.cell hlt
      rw [hcs] at c1
      have c2 := h.lo.cell hlt
      have c3 := hl2.cell hlt
      have hte : (tot L (s + 1) : Nat) = tot L s + (L s).length := rfl
      go_upto_region 8 with fail
      go_quiet (fail)
      go_wp2_with fail
      exact ⟨⟨s + 1, by omega, by simp, by rw [hte]; simp, _, rfl⟩, by simp [intOf]; omega⟩
    · have hsn : s = nS := by omega
      subst hsn
      go_wp2_with fail
      go_loopw [11] (fun i wr => ∃ q : Nat, q ≤ nR ∧ i = .int .i64 q ∧ ∃ m, wr = w.drewN m) (fun i _ => nR - (intOf i).toNat)
      case atStart => exact ⟨0, by omega, rfl, m, rfl⟩
      case round =>
        obtain ⟨q, hq, rfl, m2, rfl⟩ := hrel
        by_cases hlq : q < nR
        · have a1 := h.at_.cell hlq
          have a2 := hon.cell hlq
          cases hoq : on q with
          | false =>
            simp only [hPI.off q hlq hoq] at a1
            rw [hoq] at a2
            go_wp2_with fail
            go_roundw
            case rel => exact ⟨q + 1, by omega, by simp, _, rfl⟩
            case measure => simp [intOf]; omega
          | true =>
            obtain ⟨i, hai, hLi⟩ := hPI.on_ q hlq hoq
            simp only [hai] at a1
            rw [hoq] at a2
            obtain ⟨sq, hsq⟩ : ∃ sq, q / nG = sq := ⟨_, rfl⟩
            have hsl : sq < s := by rw [← hsq]; exact hdv q hlq
            rw [hsq] at hLi
            have r0 := (hw.rt q hlq).1
            rw [hsq] at r0
            have hil : i < (L sq).length := (List.getElem?_eq_some_iff.1 hLi).1
            have ho := h.fam.own sq hsl
            obtain ⟨g, cap, hcs, _⟩ := ho.form (by omega)
            have c1 := h.car.cell hsl
            rw [hcs] at c1 ho
            have d1 : w.cell? ⟨g, i, none⟩ = some (.int .i64 (q : Int)) := by
              rw [ho.cellAt i (by omega)]; simp [hLi]
            go_upto_region 19 with fail
            go_quiet (fail)
            go_wp2_with fail
            go_roundw
            case rel => exact ⟨q + 1, by omega, by simp, _, rfl⟩
            case measure => simp [intOf]; omega
        · go_wp2_with fail
          go_ret
          exact ⟨rfl, _, rfl⟩
end Go.Proofs.Ybulkahla

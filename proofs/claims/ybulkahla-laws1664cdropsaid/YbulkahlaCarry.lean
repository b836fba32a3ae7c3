import Derived.Test.YbulkahlaTake
namespace Go.Proofs.Ybulkahla
open Go.RowKit
set_option linter.unusedSimpArgs false

theorem int_one (r : Int) : ∀ u ∈ [Value.int .i64 r], u.oneCell' = true := by
  intro u hu; simp at hu; subst hu; rfl

/-- source s's list has grown by one route -/
theorem Prs.push {wN w w2 : World} {bn nS nR B : Nat} {k : Bk} {cs : Nat → Value} {L : Nat → List Int} {at_ : Nat → Int} {lo : Nat → Bool} {cnt : Int} (h : Prs wN w bn nS nR B k cs L at_ lo cnt) {s : Nat} (hs : s < nS) {r : Int} {g cap : Nat}
    (ho : w2.ownsRow B 3 1 (.slice (some ⟨g, 0, none⟩) ((L s).length + 1) cap) ((L s).length + 1) ((L s).map (.int .i64) ++ [.int .i64 r])) (hg : w.grownBy w2 (cs s).ownBlock) (hat : (cs s).ownBlock = some g ∨ g = w.heap.size) :
    Prs wN (w2.setCell ⟨k.car, s, none⟩ (.slice (some ⟨g, 0, none⟩) ((L s).length + 1) cap)) bn nS nR B k (upd cs s (.slice (some ⟨g, 0, none⟩) ((L s).length + 1) cap)) (upd L s (L s ++ [r])) at_ lo cnt := by
  have hB := h.bsz
  have hb : Below B w w2 := (Below.refl B w).grown hg hB (fun j hj => (h.fam.lt hs hj).1)
  have hf := h.fam.append hs ho hg hat
  have e1 : (upd (fun s => (L s).length) s ((L s).length + 1)) = fun j => (upd L s (L s ++ [r]) j).length := by
    funext j; by_cases hj : j = s
    · subst hj; simp [upd_same]
    · simp [upd_other _ _ hj]
  have e2 : (upd (fun s => (L s).map (Value.int .i64)) s ((L s).map (.int .i64) ++ [.int .i64 r])) = fun j => (upd L s (L s ++ [r]) j).map (.int .i64) := by
    funext j; by_cases hj : j = s
    · subst hj; simp [upd_same]
    · simp [upd_other _ _ hj]
  rw [e1, e2] at hf
  obtain ⟨b1, b2, b3, b4, b5, b6, b7⟩ := h.lay.bd
  obtain ⟨n1, n2, n3, n4, n5, n6, n7, n8, n9, n10, n11, n12, n13, n14, n15, n16, n17, n18, n19, n20, n21⟩ := h.lay.ne
  have hNB : wN.heap.size ≤ B := by omega
  exact ⟨h.lay, (h.bel.trans (hb.mono hNB)).setCell b5.1 _, by have := hb.size; simp [World.setCell]; omega, by rw [heap_set_other _ _ _ n4, hb.block _ b1.2]; exact h.p,
    let ⟨f, hf⟩ := h.ms; ⟨f, (hf.below hb b2.2).other n9 _⟩, let ⟨f, hf⟩ := h.inn; ⟨f, (hf.below hb b3.2).other n13 _⟩, let ⟨f, hf⟩ := h.bck; ⟨f, (hf.below hb b4.2).other n16 _⟩,
    (h.car.below hb b5.2).set _, (h.at_.below hb b6.2).other (Ne.symm n19) _, (h.lo.below hb b7.2).other (Ne.symm n20) _, hf.set_below b5.2 _⟩

set_option maxHeartbeats 2000000 in
set_option maxRecDepth 100000 in
theorem carry_any {wN : World} {bn bd bt br cr bm cm nS nG nR B : Nat} {k : Bk} {cs : Nat → Value} {L : Nat → List Int} {at_ : Nat → Int} {lo : Nat → Bool} {cnt : Int} (r s : Nat) (w : World)
    (hN : NetAt wN bn bd bt br cr bm cm nS nG nR) (h : Prs wN w bn nS nR B k cs L at_ lo cnt) (h1S : 1 ≤ nS) (hS : nS ≤ 4) (h1G : 1 ≤ nG) (hG : nG ≤ 3) (hRe : nR = nS * nG) (hR : nR ≤ 12) (hr : r < nR) (hsr : r / nG = s) (hs : s < nS)
    (hL : (L s).length ≤ 2000) (hc0 : 0 ≤ cnt) (hc1 : cnt ≤ 2000) :
    Calls Yba.prog 23 #[.pointer (some ⟨k.p, 0, none⟩), .int .i64 r] w fun e w' => ∃ cs', e = .returned (.tuple #[]) ∧ Prs wN w' bn nS nR B k cs' (upd L s (L s ++ [(r : Int)])) (upd at_ r (L s).length) lo (cnt + 1) ∧ Frm B k w w' := by
  obtain ⟨i3, hi3, hz3, hs3, hb3⟩ := info_parts Yba.infoN3
  have hw := hN.below h.bel
  obtain ⟨r0, r1⟩ := hw.rt r hr
  rw [hsr] at r0
  have n4 := hw.rts
  obtain ⟨p0, p1, p2, p3, p4, p5, p6, p7, p8, f6⟩ := h.pc
  obtain ⟨pc, cc, hcs⟩ := slice_of_owns (h.fam.own s hs)
  have c1 := h.car.cell hs
  rw [hcs] at c1
  have q1 := h.at_.cell hr
  have q2 := h.at_.free r
  have la := h.at_.lt
  have lc := h.car.lt
  have lp := heap_lt h.p
  have hne := h.lay.ne
  have e1 : k.at_ ≠ k.p := hne.2.2.2.2.1.symm
  have e2 : k.at_ ≠ k.car := hne.2.2.2.2.2.2.2.2.2.2.2.2.2.2.2.2.2.2.1.symm
  have e1' := e1.symm
  have e2' := e2.symm
  clear hne
  have hri : (r : Int) < (nR : Int) := by omega
  have hri0 : (0 : Int) ≤ (r : Int) := by omega
  go_enter Yba.func23, Yba.ntmps23
  go_upto_region 1 with fail
  go_region
  have hp1 := (h.set_at r (L s).length).drew
  have hf1 : Frm B k w (w.setCell ⟨k.at_, r, none⟩ (.int .i64 ((L s).length : Int))).drew := ((Frm.refl B k w).set (a := ⟨k.at_, r, none⟩) (by simp [Bk.list]) _).drew
  clear c1 q1 q2 la lc lp p0 p1 p2 p3 p4 p5 p6 p7 p8 f6 r0 r1 n4 hw h e1 e2 e1' e2'
  go_upto_region 2 with fail
  generalize (w.setCell ⟨k.at_, r, none⟩ (.int .i64 ((L s).length : Int))).drew = w1 at *
  obtain ⟨p0, p1, p2, p3, p4, p5, p6, p7, p8, f6⟩ := hp1.pc
  have c1 := hp1.car.cell hs
  rw [hcs] at c1
  have c2 := hp1.car.free s
  have lc := hp1.car.lt
  have lp := heap_lt hp1.p
  have hBs := hp1.bsz
  have hfo := hp1.fam.own s hs
  rw [hcs] at hfo
  have hb := hp1.lay.bd
  have hne1 : some k.p ≠ (cs s).ownBlock := fun e => by have := (hp1.fam.lt hs e.symm).1; omega
  have hne2 : some k.car ≠ (cs s).ownBlock := fun e => by have := (hp1.fam.lt hs e.symm).1; omega
  rw [hcs] at hne1 hne2
  have e1 : k.p ≠ k.car := hp1.lay.ne.2.2.2.1
  go_region_law ((
    refine step_append_lies _ rfl (.tmp 41) (.tmp 43) 76 rfl B 3 i3 _ 1 8 Yba.underlying76 hi3 hz3 hs3 hb3 rfl (by decide) (.slice pc (L s).length cc) (L s).length ((L s).map (.int .i64)) rfl (ownsRow_drew (hfo.alloc _)) ⟨w1.heap.size, 0, none⟩ 1 1 [.int .i64 (r : Int)] rfl rfl (World.news_of_block (heap_alloc_new _ _)) (int_one _) (by decide) (by unfold maxLen; omega) (by omega) (by simp; omega) _ rfl ?_
    intro g3 cap3 w6 ho6 hg6 hat6 hlt6
    have q1 := hg6.cell (a := ⟨k.p, 5, none⟩) (v := slv k.car nS) (by simp [go_sem, *]) hne1
    have q2 := hg6.cell (a := ⟨k.car, s, none⟩) (v := .slice pc (L s).length cc) (by simp [go_sem, *]) hne2
    have q3 : w6.frozen? ⟨k.car, s, none⟩ = false := by
      rw [hg6.frozen_far ⟨k.car, s, none⟩ (by simp; omega) hne2]
      simp [go_sem, *]
    have q4 : k.car < w6.heap.size := Nat.lt_of_lt_of_le (by simp; omega) hg6.size))
  all_goals
    have hp6 := ((hp1.alloc _).drew).push hs ho6 (by rw [hcs]; exact hg6) (by rw [hcs]; exact hat6)
    have hf6 := (((hf1.alloc hBs _).drew).grown hg6 (by simp; omega) (fun x hx => (hfo.lt x hx).1)).set (a := ⟨k.car, s, none⟩) (by simp [Bk.list]) (.slice (some ⟨g3, 0, none⟩) ((L s).length + 1) cap3)
    clear p0 p1 p2 p3 p4 p5 p6 p7 p8 f6 q1 q2 q3 q4 c1 c2 lc lp hfo hg6 ho6 hat6 hlt6 hp1 hf1 hBs
    generalize w6.setCell ⟨k.car, s, none⟩ (.slice (some ⟨g3, 0, none⟩) ((L s).length + 1) cap3) = w7 at *
    obtain ⟨p0, p1, p2, p3, p4, p5, p6, p7, p8, f6⟩ := hp6.pc
    have lp := heap_lt hp6.p
    have hp7 := hp6.set_cnt (cnt + 1)
    have hf7 := hf6.set (a := ⟨k.p, 6, none⟩) (by simp [Bk.list]) (.int .i64 (cnt + 1))
    go_wp2_with (go_at_call 41; refine (take_any r _ hN hp7 h1S hS h1G hG hRe hR hr).mono ?_; rintro e w8 ⟨rfl, hp8, hf8⟩)
    go_end0
    exact ⟨_, rfl, hp8, hf7.trans hf8⟩
end Go.Proofs.Ybulkahla

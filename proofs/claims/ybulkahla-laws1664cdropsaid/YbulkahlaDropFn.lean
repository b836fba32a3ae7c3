import Derived.Test.YbulkahlaCarry
namespace Go.Proofs.Ybulkahla
open Go.RowKit
set_option linter.unusedSimpArgs false

theorem upd_upd {α : Type} (f : Nat → α) (i : Nat) (a b : α) : upd (upd f i a) i b = upd f i b := by funext j; unfold upd; split <;> rfl
theorem owns_poke {w : World} {B g n cap i : Nat} {xs : List Value} (h : w.ownsRow B 3 1 (.slice (some ⟨g, 0, none⟩) n cap) n xs) (_hi : i < n) (u : Value) :
    (w.setCell ⟨g, i, none⟩ u).ownsRow B 3 1 (.slice (some ⟨g, 0, none⟩) n cap) n (xs.set i u) := by
  obtain ⟨hl, h2⟩ := h
  rcases h2 with ⟨h0, _⟩ | ⟨g', cap', cur, hv, hg, hh, hn, hcap, hsz, htake⟩
  · cases h0
  · cases hv
    refine ⟨by simpa using hl, .inr ⟨g, cap, cur.setIfInBounds i u, rfl, hg, heap_set_same hh i u, hn, hcap, by simpa using hsz, ?_⟩⟩
    rw [Array.toList_setIfInBounds, List.take_set, htake]
theorem owns_shrink {w : World} {B g n cap n' : Nat} {xs : List Value} (h : w.ownsRow B 3 1 (.slice (some ⟨g, 0, none⟩) n cap) n xs) (hi : n' ≤ n) :
    w.ownsRow B 3 1 (.slice (some ⟨g, 0, none⟩) n' cap) n' (xs.take n') := by
  obtain ⟨hl, h2⟩ := h
  rcases h2 with ⟨h0, _⟩ | ⟨g', cap', cur, hv, hg, hh, hn, hcap, hsz, htake⟩
  · cases h0
  · cases hv
    refine ⟨by simp; omega, .inr ⟨g, cap, cur, rfl, hg, hh, by omega, hcap, hsz, ?_⟩⟩
    rw [← htake, List.take_take]
    congr 1
    omega

section
variable {wN w : World} {bn nS nR B : Nat} {k : Bk} {cs : Nat → Value} {L : Nat → List Int} {at_ : Nat → Int} {lo : Nat → Bool} {cnt : Int}
/-- a cell of source s's list is written -/
theorem Prs.poke (h : Prs wN w bn nS nR B k cs L at_ lo cnt) {s g cap i : Nat} (hs : s < nS) (hcs : cs s = .slice (some ⟨g, 0, none⟩) (L s).length cap) (hi : i < (L s).length) (x : Int) :
    Prs wN (w.setCell ⟨g, i, none⟩ (.int .i64 x)) bn nS nR B k cs (upd L s ((L s).set i x)) at_ lo cnt := by
  obtain ⟨b1, b2, b3, b4, b5, b6, b7⟩ := h.lay.bd
  have hgo : (cs s).ownBlock = some g := by rw [hcs]; rfl
  have hgB := (h.fam.lt hs hgo).1
  have hf : Fam (w.setCell ⟨g, i, none⟩ (.int .i64 x)) B 3 1 nS cs (fun j => (upd L s ((L s).set i x) j).length) (fun j => (upd L s ((L s).set i x) j).map (.int .i64)) := by
    refine ⟨fun j hj => ?_, h.fam.apart⟩
    by_cases hjs : j = s
    · subst hjs
      have ho := h.fam.own j hj
      simp only [upd_same]
      rw [hcs] at ho ⊢
      have := owns_poke ho hi (.int .i64 x)
      simpa [List.map_set] using this
    · simp only [upd_other _ _ hjs]
      exact owns_of_block (h.fam.own j hj) fun g' hg' => heap_set_other w _ _ (fun e => by subst e; exact h.fam.apart j s hj hs hjs _ hg' hgo)
  have hx : ∀ y, y < B → (w.setCell ⟨g, i, none⟩ (.int .i64 x)).heap[y]? = w.heap[y]? := fun y hy => heap_set_other w _ _ (by simp; omega)
  exact ⟨h.lay, h.bel.setCell (by simp; omega) _, by have := h.bsz; simpa [World.setCell] using this, (hx _ b1.2).trans h.p, let ⟨f, hf⟩ := h.ms; ⟨f, hf.of_block (hx _ b2.2)⟩, let ⟨f, hf⟩ := h.inn; ⟨f, hf.of_block (hx _ b3.2)⟩, let ⟨f, hf⟩ := h.bck; ⟨f, hf.of_block (hx _ b4.2)⟩,
    h.car.of_block (hx _ b5.2), h.at_.of_block (hx _ b6.2), h.lo.of_block (hx _ b7.2), hf⟩
/-- source s's list is cut to its first n' -/
theorem Prs.shrink (h : Prs wN w bn nS nR B k cs L at_ lo cnt) {s g cap n' : Nat} (hs : s < nS) (hcs : cs s = .slice (some ⟨g, 0, none⟩) (L s).length cap) (hi : n' ≤ (L s).length) :
    Prs wN (w.setCell ⟨k.car, s, none⟩ (.slice (some ⟨g, 0, none⟩) n' cap)) bn nS nR B k (upd cs s (.slice (some ⟨g, 0, none⟩) n' cap)) (upd L s ((L s).take n')) at_ lo cnt := by
  refine h.set_car s ⟨fun j hj => ?_, fun j j' hj hj' hne g' hg' => ?_⟩
  · by_cases hjs : j = s
    · subst hjs
      have ho := h.fam.own j hj
      simp only [upd_same]
      rw [hcs] at ho
      have := owns_shrink ho hi
      simpa [List.map_take, Nat.min_eq_left hi] using this
    · simp only [upd_other _ _ hjs]
      exact h.fam.own j hj
  · have ho : ∀ y, (upd cs s (.slice (some ⟨g, 0, none⟩) n' cap) y).ownBlock = (cs y).ownBlock := fun y => by
      by_cases hy : y = s
      · subst hy; rw [upd_same, hcs]; rfl
      · rw [upd_other _ _ hy]
    rw [ho] at hg' ⊢
    exact h.fam.apart j j' hj hj' hne g' hg'
end

set_option maxHeartbeats 2000000 in
set_option maxRecDepth 100000 in
theorem drop_any {wN : World} {bn bd bt br cr bm cm nS nG nR B : Nat} {k : Bk} {cs : Nat → Value} {L : Nat → List Int} {at_ : Nat → Int} {lo : Nat → Bool} {cnt : Int} (r s i n mv : Nat) (w : World)
    (hN : NetAt wN bn bd bt br cr bm cm nS nG nR) (h : Prs wN w bn nS nR B k cs L at_ lo cnt) (hr : r < nR) (hsr : r / nG = s) (hs : s < nS) (hai : at_ r = i) (hi : i ≤ n) (hLn : (L s).length = n + 1) (hmv : (L s)[n]? = some (mv : Int)) (hmr : mv < nR) (hn : n ≤ 2000) (hc0 : 1 ≤ cnt) (hc1 : cnt ≤ 2000) :
    Calls Yba.prog 25 #[.pointer (some ⟨k.p, 0, none⟩), .int .i64 r] w fun e w' => ∃ cs', e = .returned (.tuple #[]) ∧ Prs wN w' bn nS nR B k cs' (upd L s (((L s).set i mv).take n)) (upd (upd at_ mv i) r (-1)) (upd lo s true) (cnt - 1) ∧ (∀ x, x ∉ k.list → (cs s).ownBlock ≠ some x → w'.heap[x]? = w.heap[x]?) := by
  have hw := hN.below h.bel
  obtain ⟨r0, r1⟩ := hw.rt r hr
  rw [hsr] at r0
  have n4 := hw.rts
  obtain ⟨p0, p1, p2, p3, p4, p5, p6, p7, p8, f6⟩ := h.pc
  have ho := h.fam.own s hs
  obtain ⟨g, cap, hcs, hgB, hgl⟩ := ho.form (by omega)
  have c1 := h.car.cell hs
  rw [hcs, hLn] at c1
  have q1 := h.at_.cell hr
  simp only [hai] at q1
  have q3 := h.at_.cell hmr
  have q4 := h.at_.free mv
  have la := h.at_.lt
  have lc := h.car.lt
  have lp := heap_lt h.p
  have hbd := h.lay.bd
  have hne := h.lay.ne
  rw [hcs] at ho
  have hcap : n + 1 ≤ cap := by
    rcases ho.2 with ⟨h0, _⟩ | ⟨g', cap', cur, hv, _, hh, hle, _⟩
    · cases h0
    · cases hv
      omega
  have d1 : w.cell? ⟨g, n, none⟩ = some (.int .i64 (mv : Int)) := by
    rw [ho.cellAt n (by omega)]; simp [hmv]
  have d2 : ∃ y, w.cell? ⟨g, i, none⟩ = some (.int .i64 y) := by
    rw [ho.cellAt i (by omega)]
    exact ⟨(L s)[i]'(by omega), by simp [show i < (L s).length by omega]⟩
  obtain ⟨y, d2⟩ := d2
  have d3 : w.frozen? ⟨g, i, none⟩ = false := by
    rcases ho.2 with ⟨h0, _⟩ | ⟨g', cap', cur, hv, _, hh, _⟩
    · cases h0
    · cases hv
      simp [World.frozen?, hh]
  have e1 : g ≠ k.at_ := by omega
  have e2 : g ≠ k.p := by omega
  have e3 : g ≠ k.car := by omega
  have e1' := e1.symm
  have e2' := e2.symm
  have e3' := e3.symm
  have hri : (r : Int) < (nR : Int) := by omega
  have hmri : (mv : Int) < (nR : Int) := by omega
  clear hne hbd hmv ho
  go_enter Yba.func25, Yba.ntmps25
  go_upto_region 1 with fail
  go_quiet (fail)
  go_upto_region 4 with fail
  have hp1 := ((h.drewN nq).poke (x := (mv : Int)) hs hcs (i := i) (by omega)).set_at mv i
  have hf1 : ∀ x, x ∉ k.list → (cs s).ownBlock ≠ some x → (((w.drewN nq).setCell ⟨g, i, none⟩ (.int .i64 (mv : Int))).setCell ⟨k.at_, mv, none⟩ (.int .i64 (i : Int))).heap[x]? = w.heap[x]? := fun x hx hg => by
    rw [heap_set_other _ _ _ (fun e => hx (by rw [e]; simp [Bk.list])), heap_set_other _ _ _ (fun e => hg (by rw [hcs, e]; rfl))]
    rfl
  clear h p0 p1 p2 p3 p4 p5 p6 p7 p8 f6 q1 q3 q4 la lc lp c1 d1 d2 d3 r0 r1 n4 hw
  generalize ((w.drewN nq).setCell ⟨g, i, none⟩ (.int .i64 (mv : Int))).setCell ⟨k.at_, mv, none⟩ (.int .i64 (i : Int)) = w1 at *
  obtain ⟨p0, p1, p2, p3, p4, p5, p6, p7, p8, f6⟩ := hp1.pc
  have hL1 : (upd L s ((L s).set i (mv : Int)) s).length = n + 1 := by rw [upd_same]; simpa using hLn
  have hcs1 : cs s = .slice (some ⟨g, 0, none⟩) (upd L s ((L s).set i (mv : Int)) s).length cap := by rw [hL1, hcs, hLn]
  have c1 := hp1.car.cell hs
  rw [hcs, hLn] at c1
  have c2 := hp1.car.free s
  have q1 := hp1.at_.cell hr
  have q2 := hp1.at_.free r
  have la := hp1.at_.lt
  have lc := hp1.car.lt
  have ll := hp1.lo.cell hs
  have ll2 := hp1.lo.free s
  have l3 := hp1.lo.lt
  have lp := heap_lt hp1.p
  have hne := hp1.lay.ne
  have b1 : k.car ≠ k.at_ := hne.2.2.2.2.2.2.2.2.2.2.2.2.2.2.2.2.2.2.1
  have b2 : k.p ≠ k.car := hne.2.2.2.1
  have b3 : k.p ≠ k.at_ := hne.2.2.2.2.1
  have b4 : k.p ≠ k.lo := hne.2.2.2.2.2.1
  have b5 : k.car ≠ k.lo := hne.2.2.2.2.2.2.2.2.2.2.2.2.2.2.2.2.2.2.2.1
  have b6 : k.at_ ≠ k.lo := hne.2.2.2.2.2.2.2.2.2.2.2.2.2.2.2.2.2.2.2.2
  have b1' := b1.symm
  have b2' := b2.symm
  have b3' := b3.symm
  have b4' := b4.symm
  have b5' := b5.symm
  have b6' := b6.symm
  clear hne
  have hp2 := ((((hp1.shrink hs hcs1 (n' := n) (by omega)).set_at r (-1)).set_cnt (cnt - 1)).set_lo s true).drew
  have hf2 : ∀ x, x ∉ k.list → (cs s).ownBlock ≠ some x → ((((w1.setCell ⟨k.car, s, none⟩ (.slice (some ⟨g, 0, none⟩) n cap)).setCell ⟨k.at_, r, none⟩ (.int .i64 (-1))).setCell ⟨k.p, 6, none⟩ (.int .i64 (cnt - 1))).setCell ⟨k.lo, s, none⟩ (.bool true)).drew.heap[x]? = w.heap[x]? := fun x hx hg => by
    show ((((w1.setCell ⟨k.car, s, none⟩ (.slice (some ⟨g, 0, none⟩) n cap)).setCell ⟨k.at_, r, none⟩ (.int .i64 (-1))).setCell ⟨k.p, 6, none⟩ (.int .i64 (cnt - 1))).setCell ⟨k.lo, s, none⟩ (.bool true)).heap[x]? = _
    rw [heap_set_other _ _ _ (fun e => hx (by rw [e]; simp [Bk.list])), heap_set_other _ _ _ (fun e => hx (by rw [e]; simp [Bk.list])), heap_set_other _ _ _ (fun e => hx (by rw [e]; simp [Bk.list])), heap_set_other _ _ _ (fun e => hx (by rw [e]; simp [Bk.list]))]
    exact hf1 x hx hg
  rw [upd_same, upd_upd] at hp2
  clear hp1 hf1
  go_region
  go_wp2_with fail
  go_end0
  exact ⟨_, rfl, hp2, hf2⟩
end Go.Proofs.Ybulkahla

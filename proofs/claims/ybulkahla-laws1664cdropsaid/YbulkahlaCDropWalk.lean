import Derived.Test.YbulkahlaPI
namespace Go.Proofs.Ybulkahla
open Go.RowKit
set_option linter.unusedSimpArgs false

theorem Prs.rebase {wN w : World} {bn nS nR B B' : Nat} {k : Bk} {at_ : Nat → Int} {lo : Nat → Bool} {cnt : Int} (h : Prs wN w bn nS nR B k (fun _ => nilV) (fun _ => []) at_ lo cnt) (hB : B ≤ B') (hB' : B' ≤ w.heap.size) :
    Prs wN w bn nS nR B' k (fun _ => nilV) (fun _ => []) at_ lo cnt :=
  ⟨⟨fun x hx => ⟨(h.lay.rng x hx).1, Nat.lt_of_lt_of_le (h.lay.rng x hx).2 hB⟩, h.lay.nd⟩, h.bel, hB', h.p, h.ms, h.inn, h.bck, h.car, h.at_, h.lo, fam_nil _ _ _ _ _⟩

/-- WHAT THE WALK IS TOLD OF THE OPERATIONS THAT CAME IN -/
def OpsAt (w : World) (a : Option Addr) (l : List Nat) : Prop := ∀ (i z : Nat), l[i]? = some z → ∃ b off, a = some ⟨b, off, none⟩ ∧ b < w.heap.size ∧ w.cell? ⟨b, off + i, none⟩ = some (.int .u8 (z : Int)) ∧ z < 256
theorem OpsAt.below {w w' : World} {a : Option Addr} {l : List Nat} (h : OpsAt w a l) (hb : Below w.heap.size w w') : OpsAt w' a l := by
  intro i s hs
  obtain ⟨b, off, rfl, hlt, h1, h2⟩ := h i s hs
  exact ⟨b, off, rfl, Nat.lt_of_lt_of_le hlt hb.size, cell_kept hb h1, h2⟩

theorem tot_nil (n : Nat) : tot (fun _ => []) n = 0 := by
  induction n with
  | zero => rfl
  | succ n ih => simp [tot, ih]

/-- the state of the law's loop before operation j -/
def Inv (wN w : World) (bn nS nG nR B bon bl2 : Nat) (k : Bk) (j : Nat) (cnt : Int) : Prop :=
  ∃ cs L at_ lo on, Prs wN w bn nS nR B k cs L at_ lo cnt ∧ Row w bon nR 4 (fun i => .bool (on i)) ∧ Row w bl2 nS 4 (fun i => .bool (lo i)) ∧ PI nS nG nR on L at_ cnt ∧ (∀ s, s < nS → (L s).length ≤ j) ∧ cnt ≤ j

set_option maxHeartbeats 4000000 in
set_option maxRecDepth 100000 in
theorem cdrop_any (na nb : Nat) (a : Option Addr) (cap : Nat) (l : List Nat) (w : World) (ha : na < 256) (hb : nb < 256) (hops : OpsAt w a l) :
    Calls Yba.prog 7 #[.int .u8 na, .int .u8 nb, .slice a l.length cap] w fun e w' => e = .returned (.bool true) ∧ Below w.heap.size w w' := by
  by_cases hl : l.length ≤ 1024
  · obtain ⟨nS, h1S, hS, hA⟩ : ∃ nS : Nat, 1 ≤ nS ∧ nS ≤ 4 ∧ (1 : Int) + (na : Int) % 4 = nS := ⟨1 + na % 4, by omega, by omega, by omega⟩
    obtain ⟨nG, h1G, hG, hA2⟩ : ∃ nG : Nat, 1 ≤ nG ∧ nG ≤ 3 ∧ (1 : Int) + (nb : Int) % 3 = nG := ⟨1 + nb % 3, by omega, by omega, by omega⟩
    obtain ⟨nR, hRe⟩ : ∃ nR, nR = nS * nG := ⟨_, rfl⟩
    have hRi : (nS : Int) * nG = nR := by rw [hRe]; simp
    have hR : nR ≤ 12 := by rw [hRe]; exact Nat.mul_le_mul hS hG
    have hR0 : 1 ≤ nR := by rw [hRe]; exact Nat.mul_le_mul h1S h1G
    have hdv : ∀ q, q < nR → q / nG < nS := fun q hq => Nat.div_lt_of_lt_mul (by rw [Nat.mul_comm]; omega)
    have HRE : Hid (nR = nS * nG) := hRe
    clear hRe
    have k1 := run_make_row' (P := Yba.prog) 72 4 _ 1 Yba.underlying72 Yba.infoN4 rfl .i64 .i64 nR (by omega) (by omega)
    have k2 := run_make_row' (P := Yba.prog) 72 4 _ 1 Yba.underlying72 Yba.infoN4 rfl .i64 .i64 nS (by omega) (by omega)
    go_enter Yba.func7, Yba.ntmps7
    go_upto_region 6 with
      (first
        | (go_at_call 22; refine (cnet_any nS nG _ h1S hS h1G hG).mono ?_
           rintro e wN ⟨B0, bn, bd, bt, vr, vm, cs, es, ms, rfl, hmid⟩
           have hbN : Below w.heap.size w wN := hmid.bel
           rw [← HRE.out] at hmid
           obtain ⟨br, cr, bm, cm, hN⟩ := hmid.netAt (by omega)
           clear hmid)
        | (go_at_call 21; refine (newPairs_any _ hN h1S hS hR).mono ?_; rintro e w2 ⟨B1, k, rfl, hP⟩))
    go_wp2_with fail
    clear k1 k2 hA hA2
    have hB1 := hP.bsz
    have hkb : ∀ x ∈ k.list, x < w2.heap.size := fun x hx => Nat.lt_of_lt_of_le (hP.lay.rng x hx).2 hB1
    have hNb : wN.heap.size ≤ w2.heap.size := hP.bel.size
    have hP3 := ((hP.alloc (.cells (madeCells #[.bool false] nR) 4)).alloc (.cells (madeCells #[.bool false] nS) 4)).rebase (B' := w2.heap.size + 2) (by omega) (by simp)
    have hr1 : Row ((w2.alloc (.cells (madeCells #[.bool false] nR) 4)).alloc (.cells (madeCells #[.bool false] nS) 4)) w2.heap.size nR 4 (fun _ => .bool false) := (made_row (heap_alloc_new _ _)).alloc _
    have hr2 : Row ((w2.alloc (.cells (madeCells #[.bool false] nR) 4)).alloc (.cells (madeCells #[.bool false] nS) 4)) (w2.heap.size + 1) nS 4 (fun _ => .bool false) := made_row (heap_alloc_new' (by simp))
    have hpi0 : PI nS nG nR (fun _ => false) (fun _ => []) (fun _ => -1) 0 := ⟨fun _ _ _ => rfl, fun _ _ h => (by cases h), fun _ _ _ _ h => (by simp at h), by rw [tot_nil]; rfl⟩
    clear hP hB1
    generalize (w2.alloc (.cells (madeCells #[.bool false] nR) 4)).alloc (.cells (madeCells #[.bool false] nS) 4) = w3 at *
    obtain ⟨bon, hbon⟩ : ∃ bon, w2.heap.size = bon := ⟨_, rfl⟩
    rw [hbon] at hkb hNb hP3 hr1 hr2 ⊢
    clear hbon
    go_loopw [13, 45] (fun c i wr => ∃ (j : Nat) (cnt : Int), j ≤ l.length ∧ i = .int .i64 j ∧ c = .int .i64 cnt ∧ Inv wN wr bn nS nG nR (bon + 2) bon (bon + 1) k j cnt) (fun _ i _ => l.length - (intOf i).toNat)
    case atStart => exact ⟨0, 0, by omega, rfl, rfl, _, _, _, _, _, hP3, hr1, hr2, hpi0, fun _ _ => Nat.zero_le _, by omega⟩
    case round =>
      obtain ⟨j, cnt, hj, rfl, rfl, cs, L, at_, lo, on, hp, hon, hl2, hpi, hLj, hcj⟩ := hrel
      clear hP3 hr1 hr2 hpi0
      have hw := hN.below hp.bel
      have hbw : Below w.heap.size w wr := hbN.trans (hp.bel.mono hbN.size)
      have hc0 : 0 ≤ cnt := by have := hpi.sum; omega
      by_cases hlt : j < l.length
      · obtain ⟨z, hz⟩ : ∃ z, l[j]? = some z := ⟨l[j], by simp [hlt]⟩
        obtain ⟨b, off, rfl, hbl, y1, hz256⟩ := (hops.below hbw) j z hz
        obtain ⟨r, hr⟩ : ∃ r, z % nR = r := ⟨_, rfl⟩
        have hri : (z : Int) % (nR : Int) = r := by rw [← hr]; simp
        have hrl : r < nR := by rw [← hr]; exact Nat.mod_lt _ (by omega)
        obtain ⟨s, hsr⟩ : ∃ s, r / nG = s := ⟨_, rfl⟩
        have hs : s < nS := by rw [← hsr]; exact hdv r hrl
        have r0 := (hw.rt r hrl).1
        rw [hsr] at r0
        have n4 := hw.rts
        obtain ⟨p0, p1, p2, p3, p4, p5, p6, p7, p8, f6⟩ := hp.pc
        have a1 := hp.at_.cell hrl
        have hls := hLj s hs
        clear hz hr
        cases ho : on r with
        | false =>
          simp only [hpi.off r hrl ho] at a1
          go_upto_region 17 with (go_at_call 23; refine (carry_any r s _ hN hp h1S hS h1G hG HRE.out hR hrl hsr hs (by omega) hc0 (by omega)).mono ?_; rintro e w4 ⟨cs4, rfl, hp4, hf4⟩)
          have hnk : bon ∉ k.list := fun h => by have := hkb bon h; omega
          have hnk2 : bon + 1 ∉ k.list := fun h => by have := hkb (bon + 1) h; omega
          have hon4 := hon.of_block (hf4 bon (by omega) hnk)
          have hl4 := hl2.of_block (hf4 (bon + 1) (by omega) hnk2)
          have x1 := hon4.cell hrl
          have x2 := hon4.free r
          have hp5 := hp4.set_else (a := ⟨bon, r, none⟩) (by simp) hNb hnk (.bool true)
          have hon5 := (hon4.set (k := r) (.bool true)).congr (g := fun i => .bool (upd on r true i)) (fun i _ => by unfold upd; split <;> rfl)
          have hl5 := hl4.other (a := ⟨bon, r, none⟩) (by simp) (.bool true)
          have hpi5 := hpi.carry hrl hsr hs ho
          have hLj5 : ∀ s', s' < nS → (upd L s (L s ++ [(r : Int)]) s').length ≤ j + 1 := fun s' hs' => by
            by_cases e : s' = s
            · subst e; rw [upd_same]; simp; omega
            · rw [upd_other _ _ e]; have := hLj s' hs'; omega
          clear hp4 hf4 hon4 hl4 hp hon hl2 a1 p0 p1 p2 p3 p4 p5 p6 p7 p8 f6 r0 n4 y1
          go_wp2_with fail
          go_roundw
          case rel => exact ⟨j + 1, cnt + 1, by omega, by simp, rfl, _, _, _, _, _, hp5, hon5, hl5, hpi5, hLj5, by omega⟩
          case measure => simp [intOf]; omega
        | true =>
          obtain ⟨i, hai, hLi⟩ := hpi.on_ r hrl ho
          rw [hsr] at hLi
          have hil : i < (L s).length := (List.getElem?_eq_some_iff.1 hLi).1
          obtain ⟨n, hLn⟩ : ∃ n, (L s).length = n + 1 := ⟨(L s).length - 1, by omega⟩
          obtain ⟨x, hx⟩ : ∃ x, (L s)[n]? = some x := ⟨(L s)[n]'(by omega), by simp [show n < (L s).length by omega]⟩
          obtain ⟨mv, rfl, hmr, hms, ham⟩ := hpi.mem s hs n x hx
          simp only [hai] at a1
          have hfo := hp.fam.own s hs
          obtain ⟨g, cap', hcs, hgB, hgl⟩ := hfo.form (by omega)
          have c1 := hp.car.cell hs
          rw [hcs, hLn] at c1
          rw [hcs, hLn] at hfo
          have hBw := hp.bsz
          go_upto_region 20 with (go_at_call 24; refine (clone_any _ hfo (by omega) (by omega)).mono ?_; rintro e w4 ⟨g1, cap1, rfl, ho4, hb4⟩)
          have hp4 := hp.kept hb4
          have hon4 := hon.below hb4 hon.lt
          have hl4 := hl2.below hb4 hl2.lt
          have hg1 : wr.heap.size ≤ g1 ∧ g1 < w4.heap.size := (ho4.form (by omega)).elim fun g' ⟨c', e, h1, h2⟩ => by cases e; exact ⟨h1, h2⟩
          have d1 : w4.cell? ⟨g1, i, none⟩ = some (.int .i64 (r : Int)) := by
            rw [ho4.cellAt i (by omega)]; simp [hLi]
          have a4 := hp4.at_.cell hrl
          simp only [hai] at a4
          obtain ⟨p0', p1', p2', p3', p4', p5', p6', p7', p8', f6'⟩ := hp4.pc
          clear p0 p1 p2 p3 p4 p5 p6 p7 p8 f6 c1 a1 r0 n4 y1 hon hl2 hfo hw
          have hc1 : 1 ≤ cnt := by
            have h1 := hpi.sum
            have h2 := (tot_upd (L := L) (l' := []) (s := s) nS).1 hs
            simp at h2
            omega
          have hin : i ≤ n := by omega
          go_upto_region 24 with (go_at_call 25; refine (drop_any r s i n mv _ hN hp4 hrl hsr hs hai hin hLn hx hmr (by omega) hc1 (by omega)).mono ?_; rintro e w5 ⟨cs5, rfl, hp5, hf5⟩)
          have hnk : bon ∉ k.list := fun h => by have := hkb bon h; omega
          have hnk2 : bon + 1 ∉ k.list := fun h => by have := hkb (bon + 1) h; omega
          have hob : (cs s).ownBlock = some g := by rw [hcs]; rfl
          have hon5 := hon4.of_block (hf5 bon hnk (fun e => by rw [hob] at e; injection e with e; omega))
          have hl5 := hl4.of_block (hf5 (bon + 1) hnk2 (fun e => by rw [hob] at e; injection e with e; omega))
          have ho5 := owns_of_block ho4 (w' := w5) (fun x hx' => by
            have : g1 = x := by simpa [Value.ownBlock] using hx'
            subst this
            exact hf5 g1 (fun h => by have := hkb g1 h; omega) (fun e => by rw [hob] at e; injection e with e; omega))
          have x1 := hon5.cell hrl
          have x2 := hon5.free r
          have x3 := hl5.cell hs
          have x4 := hl5.free s
          have x5 := hon5.lt
          have x6 := hl5.lt
          have hp6 := (hp5.set_else (a := ⟨bon, r, none⟩) (by simp) hNb hnk (.bool false)).set_else (a := ⟨bon + 1, s, none⟩) (by simp) (by simp; omega) hnk2 (.bool true)
          have hon6 := ((hon5.set (k := r) (.bool false)).congr (g := fun i => .bool (upd on r false i)) (fun i _ => by unfold upd; split <;> rfl)).other (a := ⟨bon + 1, s, none⟩) (by simp) (.bool true)
          have hl6 := ((hl5.other (a := ⟨bon, r, none⟩) (by simp) (.bool false)).set (k := s) (.bool true)).congr (g := fun i => .bool (upd lo s true i)) (fun i _ => by unfold upd; split <;> rfl)
          have ho6 := ownsRow_setCell_below (a := ⟨bon + 1, s, none⟩) (ownsRow_setCell_below (a := ⟨bon, r, none⟩) ho5 (by simp; omega) (.bool false)) (by simp; omega) (.bool true)
          have hpi6 := hpi.drop hrl hsr hs hai hLi hLn hx
          clear hp hp4 hp5 hon4 hl4 hon5 hl5 hf5 ho4 ho5 d1 a4 p0' p1' p2' p3' p4' p5' p6' p7' p8' f6' hb4
          go_upto_region 27 with fail
          generalize (w5.setCell ⟨bon, r, none⟩ (.bool false)).setCell ⟨bon + 1, s, none⟩ (.bool true) = w6 at *
          clear x1 x2 x3 x4 x5 x6
          go_upto_region 28 with (go_at_call 24; refine (clone_any _ ho6 (by omega) (by omega)).mono ?_; rintro e w7 ⟨g2, cap2, rfl, ho7, hb7⟩)
          have hg2 : w6.heap.size ≤ g2 ∧ g2 < w7.heap.size := (ho7.form (by omega)).elim fun g' ⟨c', e, h1, h2⟩ => by cases e; exact ⟨h1, h2⟩
          have hcap2 : n + 1 ≤ cap2 := by
            rcases ho7.2 with ⟨h0, _⟩ | ⟨g', c', cur, hv, _, hh, hle, _⟩
            · cases h0
            · cases hv
              omega
          have e1 : w7.cell? ⟨g2, n, none⟩ = some (.int .i64 (mv : Int)) := by
            rw [ho7.cellAt n (by omega)]; simp [hx]
          have e2 : w7.cell? ⟨g2, i, none⟩ = some (.int .i64 (r : Int)) := by
            rw [ho7.cellAt i (by omega)]; simp [hLi]
          have e3 : w7.frozen? ⟨g2, i, none⟩ = false := by
            rcases ho7.2 with ⟨h0, _⟩ | ⟨g', c', cur, hv, _, hh, _⟩
            · cases h0
            · cases hv
              simp [World.frozen?, hh]
          have hb8 := hb7.setCell (p := ⟨g2, i, none⟩) hg2.1 (.int .i64 (mv : Int))
          have hp8 := hp6.kept hb8
          have hon8 := hon6.below hb8 hon6.lt
          have hl8 := hl6.below hb8 hl6.lt
          have ho8 := owns_shrink (owns_poke ho7 (i := i) (by omega) (.int .i64 (mv : Int))) (n' := n) (by omega)
          clear hp6 hon6 hl6 ho7 ho6
          go_upto_region 30 with fail
          generalize w7.setCell ⟨g2, i, none⟩ (.int .i64 (mv : Int)) = w8 at *
          clear e1 e2 e3 hb7
          obtain ⟨X, hX⟩ : ∃ X, ((L s).set i (mv : Int)).take n = X := ⟨_, rfl⟩
          have hXl : X.length = n := by rw [← hX]; simp; omega
          have hXm : (((L s).map (Value.int .i64)).set i (.int .i64 (mv : Int))).take n = X.map (.int .i64) := by rw [← hX]; simp [List.map_take, List.map_set]
          rw [hX] at hp8 hpi6
          rw [hXm] at ho8
          have hf8 := hp8.fam.own s hs
          simp only [upd_same, hXl] at hf8
          obtain ⟨pq, cq, hcq⟩ := slice_of_owns hf8
          have c8 := hp8.car.cell hs
          rw [hcq] at c8
          have a8 := hp8.at_.cell hrl
          simp only [upd_same] at a8
          obtain ⟨p0, p1, p2, p3, p4, p5, p6, p7, p8, f6⟩ := hp8.pc
          have hg1' : ∀ jj, jj < n → ∃ g, pq = some ⟨g, 0, none⟩ ∧ w8.cell? ⟨g, jj, none⟩ = some (.int .i64 (X.getD jj 0)) := fun jj hjj => by
            obtain ⟨g', c', hc', _⟩ := hf8.form (by omega)
            rw [hcq] at hc'
            injection hc' with hpq _ _
            refine ⟨g', hpq, ?_⟩
            rw [hcq, hpq] at hf8
            rw [hf8.cellAt jj (by omega)]
            simp [List.getD, show jj < X.length by omega]
          have hg2' : ∀ jj, jj < n → ∃ g, (some ⟨g2, 0, none⟩ : Option Addr) = some ⟨g, 0, none⟩ ∧ w8.cell? ⟨g, jj, none⟩ = some (.int .i64 (X.getD jj 0)) := fun jj hjj => by
            refine ⟨g2, rfl, ?_⟩
            rw [ho8.cellAt jj (by omega)]
            simp [List.getD, show jj < X.length by omega]
          have hLj8 : ∀ s', s' < nS → (upd L s X s').length ≤ j := fun s' hs' => by
            by_cases e : s' = s
            · subst e; rw [upd_same, hXl]; have := hLj s' hs'; omega
            · rw [upd_other _ _ e]; exact hLj s' hs'
          clear hX hXm hLi hx hf8 ho8
          go_upto_region 32 with (go_at_call 26; refine (equal_any (fun jj => X.getD jj 0) _ (by omega) hg1' hg2').mono ?_; rintro e w9 ⟨rfl, m9, rfl⟩)
          have hp9 := hp8.drewN m9
          clear c8 a8 p0 p1 p2 p3 p4 p5 p6 p7 p8 f6 hg1' hg2'
          go_wp2_with (go_at_call 27; refine (cok_any bon (bon + 1) _ hN hp9 hS HRE.out hR (Row.of_block hon8 rfl) (Row.of_block hl8 rfl) (fun s hs => by have := hLj8 s hs; omega) hpi6).mono ?_; rintro e w10 ⟨rfl, m10, rfl⟩)
          go_roundw
          case rel => exact ⟨j + 1, cnt - 1, by omega, by simp, rfl, _, _, _, _, _, hp8.drewN (m9 + m10), Row.of_block hon8 rfl, Row.of_block hl8 rfl, hpi6, fun s' hs' => Nat.le_succ_of_le (hLj8 s' hs'), by omega⟩
          case measure => simp [intOf]; omega
      · go_wp2_with (go_at_call 27; refine (cok_any bon (bon + 1) _ hN hp hS HRE.out hR hon hl2 (fun s hs => by have := hLj s hs; omega) hpi).mono ?_; rintro e w9 ⟨rfl, m9, rfl⟩)
        go_ret
        exact ⟨rfl, below_drewN hbw _⟩
  · go_enter Yba.func7, Yba.ntmps7
    go_wp2_with fail
    go_ret
    exact ⟨rfl, Below.refl _ _⟩
end Go.Proofs.Ybulkahla

import Derived.Test.YbulkahqyFmtScan
import Derived.Laws.AppendOwnNone
namespace Go.Proofs.YbulkahqyFmt
open Go.RowKit
set_option linter.unusedSimpArgs false
set_option linter.unusedVariables false

theorem nameL_range (n : Nat) : 1 ≤ nameL n ∧ nameL n ≤ 255 := by unfold nameL; split <;> (try split) <;> omega

theorem Leg.below {w w' : World} {t0 t1 t2 : ByteArray} (h : Leg w 2 t0 t1 t2) (hb : Below w.heap.size w w') : Leg w' 2 t0 t1 t2 :=
  ⟨cell_kept hb h.c0, cell_kept hb h.c1, cell_kept hb h.c2, cell_kept hb h.c3, cell_kept hb h.c4, cell_kept hb h.c5, cell_kept hb h.c6, cell_kept hb h.c7, cell_kept hb h.c8, cell_kept hb h.c9, cell_kept hb h.c10, cell_kept hb h.c11, cell_kept hb h.c12, cell_kept hb h.c13, cell_kept hb h.c14⟩
theorem Below.ofG {B b : Nat} {w0 w w' : World} (h : Below B w0 w) (hg : G b w w') (hB : B ≤ w.heap.size) (hb : B ≤ b) : Below B w0 w' :=
  h.grown hg hB (fun k hk => by have : b = k := by simpa using hk
                                omega)
theorem add_plain (b o n : Nat) : (⟨b, o, none⟩ : Addr).add n = ⟨b, o + n, none⟩ := by unfold Addr.add; split <;> simp_all
def zFr : Fr := { off := 0, rc := 0, fed := 0, st := 0, lg := 0, ps := 0, lf := 0, n := 0, en := 0, ho := 0, ex := 0, n1 := 0, n2 := 0 }
theorem blk_new (w : World) (L : Int) : Blk (w.alloc (.cells #[.int .i64 0, .int .i64 0, .int .i64 0, .int .u8 0, .int .i64 0, .int .i64 0, .int .i64 0, .int .i64 0, .int .i64 0, .int .i64 0, .int .i64 0, .int .i64 0, .int .i64 0, .int .i64 0, .int .i64 0] 33)) w.heap.size (fs 0 0 0 L 0 0 0) := by
  unfold Blk
  show (w.heap.push _)[w.heap.size]? = _
  simp [fs, Fr.cells, stepN, lgN, tillN, enN, nmN]
theorem bcs_get {l : List Int} {j : Nat} {x : Int} (h : l[j]? = some x) : (bcs l)[j]? = some (.int .u8 x) := by simp [bcs, h]
theorem bcs_length (l : List Int) : (bcs l).length = l.length := by simp [bcs]

set_option maxHeartbeats 4000000 in
set_option maxRecDepth 100000 in
theorem whole_any (a1 a2 a3 : Option Addr) (n1 n2 n3 k1 k2 k3 : Nat) (l1 l2 l3 : List Int) (cut : Int) (w : World) {t0 t1 t2 : ByteArray} (hl1 : l1.length = n1) (hl2 : l2.length = n2) (hl3 : l3.length = n3) (hc1 : BytesAt w a1 l1) (hc2 : BytesAt w a2 l2) (hc3 : BytesAt w a3 l3) (hcut : 0 ≤ cut) (hcut2 : cut ≤ 65535)
    (hlg : Leg w 2 t0 t1 t2) (hn3 : a3 = none → n3 = 0 ∧ k3 = 0) :
    Calls Ybaf.prog 3 #[.slice a1 n1 k1, .slice a2 n2 k2, .slice a3 n3 k3, .int .u16 cut] w fun e w' => e = .returned (.bool true) ∧ Below w.heap.size w w' := by
  have h2w : 2 < w.heap.size := World.block_lt_of_cell? w _ hlg.c0
  by_cases h1 : n1 ≤ 1024
  · by_cases h2 : n2 ≤ 1024
    · by_cases h3 : n3 ≤ 1024
      · obtain ⟨i0, hi, hz0, hz1, hz2⟩ := info_parts Ybaf.infoB
        have hM := msg_any a1 k1 l1 w (by omega) hc1
        rw [hl1] at hM
        have HL1 : Hid (l1.length = n1) := hl1
        have HL2 : Hid (l2.length = n2) := hl2
        have HL3 : Hid (l3.length = n3) := hl3
        clear hl1 hl2 hl3
        obtain ⟨nr1, nr2⟩ := nameL_range n1
        generalize hL : nameL n1 = L at *
        have HL : Hid (nameL n1 = L) := hL
        clear hL
        have hd1 : decide ((1024 : Int) < (n1 : Int)) = false := by simp; omega
        have hd2 : decide ((1024 : Int) < (n2 : Int)) = false := by simp; omega
        have hd3 : decide ((1024 : Int) < (n3 : Int)) = false := by simp; omega
        go_enter Ybaf.func3, Ybaf.ntmps3
        go_upto_region 4 with (go_at_call 7; refine hM.mono ?_; rintro e w1 ⟨gm, cm, rfl, hB1, hom⟩)
        have hB1s := hB1.size
        have hml := msgB_length l1 L
        have hcm : 56 + L ≤ cm := by
          rcases hom.2 with ⟨h', _⟩ | ⟨g', cap', cur, h', hb, hg, hnc, _⟩
          · cases h'
          · cases h'; exact hnc
        have hF := frame_any a2 gm cm k2 (56 + L) (msgB l1 L) l2 w1 hml (by omega) (by omega) hcm (fun j x hx => by
            have hj : j < 56 + L := by have := (List.getElem?_eq_some_iff.1 hx).1; omega
            rw [hom.cellAt j (by omega)]; exact bcs_get hx) (by have := HL2.out; omega) (hc2.below hB1)
        rw [HL2.out] at hF
        clear hM
        go_upto_region 6 with (go_at_call 8; refine hF.mono ?_; rintro e w2 ⟨gf, cf, T, ns, rfl, hB2, HSZ, hsum', hT', hof⟩; have HT : Hid (T = 56 + L + 5 * ns.length) := hT'; have HSUM : Hid (ns.sum = 56 + L) := hsum'; clear hT' hsum')
        have hB2' : Below w.heap.size w w2 := hB1.trans (hB2.mono hB1s)
        have hB2s := hB2.size
        have hT := HT.out
        have hsum := HSUM.out
        have hsz : SzOk ns := HSZ
        have hnsl : ns.length ≤ 56 + L := by
          have h0 : ∀ (d : List Nat), SzOk d → d.length ≤ d.sum := by
            intro d
            induction d with
            | nil => intro _; simp
            | cons a d ih => intro h; have := ih (fun x hx => h x (by simp [hx])); have := (h a (by simp)).1; simp; omega
          have := h0 ns hsz; omega
        have hTb : T ≤ 2000 := by omega
        have hT1 : 1 ≤ T := by omega
        have hcf : T ≤ cf := by
          rcases hof.2 with ⟨h', _⟩ | ⟨g', cap', cur, h', hb, hg, hnc, _⟩
          · cases h'
          · cases h'; exact hnc
        have hFl : (frameB (msgB l1 L) 0 ns).length = T := by rw [frameB_length _ _ _ (by omega)]; omega
        have HFL : Hid ((frameB (msgB l1 L) 0 ns).length = T) := hFl
        have hgf : gf < w2.heap.size := (hof.lt gf rfl).2
        have HML : Hid ((msgB l1 L).length = 56 + L) := hml
        clear hT hF hom hB1 hFl hsum hsz hml
        obtain ⟨w3, hmk, hown0, hg0⟩ := run_makeSlice_owned (P := Ybaf.prog) w2 w2.heap.size 22 5 i0 _ 1 Ybaf.underlying22 hi hz0 hz1 .i64 .i64 (T + n3) (by omega) (by rw [hz2]; omega) (by unfold maxLen; omega) (Nat.le_refl _)
        have ec : ((T + n3 : Nat) : Int) = (T : Int) + (n3 : Int) := by omega
        rw [ec] at hmk
        have hB3 : Below w2.heap.size w2 w3 := (Below.refl _ _).grown hg0 (Nat.le_refl _) (by intro k hk; cases hk)
        have hB3s := hB3.size
        clear hg0 ec
        go_upto_region 8 with (at_builtin; refine wpList_append_lies _ rfl _ _ 22 rfl w2.heap.size 5 i0 _ 1 1 Ybaf.underlying22 hi hz0 hz1 hz2 rfl (by decide) _ _ _ rfl hown0 ⟨gf, 0, none⟩ T cf (bcs (frameB (msgB l1 L) 0 ns)) rfl ?d0 ?d1 ?d2 (by omega) ?d3 ?d4 ?d5 _ rfl ?_)
        case d0 => rw [bcs_length, HFL.out]; omega
        case d1 =>
          intro j u hj
          have e : (⟨gf, 0, none⟩ : Addr).add j = ⟨gf, j, none⟩ := by rw [add_plain, Nat.zero_add]
          have hjT : j < T := by have := (List.getElem?_eq_some_iff.1 hj).1; rw [bcs_length, HFL.out] at this; exact this
          rw [e, hB3.cell (show gf < w2.heap.size from hgf), hof.cellAt j (by omega)]
          exact hj
        case d2 => exact bcs_one _
        case d3 => unfold maxLen; omega
        case d4 => omega
        case d5 => omega
        intro g4 c4 w4 ho4 hgr4 hat4 hlt4
        have hB4 : Below w2.heap.size w2 w4 := Below.grown hB3 hgr4 (by omega) (fun k hk => (hown0.lt k hk).1)
        have hB4s := hB4.size
        have hof4 := fun j (hj : j < T * 1) => (hB4.cell (p := ⟨gf, j, none⟩) hgf).trans (hof.cellAt j hj)
        clear hgr4 hat4 hlt4 hown0 hmk hB3 hB3s
        have hlg4 := (hlg.below hB2').below hB4
        have hc34 := (hc3.below hB2').below hB4
        have hB4' : Below w.heap.size w w4 := hB2'.trans (hB4.mono (by omega))
        have hgf2 : w.heap.size ≤ gf := by have := (hof.lt gf rfl).1; omega
        clear hB2 hB2' hof hc1 hc2 hlg
        go_upto_region 8 with fail
        go_cut [14] (fun u14 wc => ∃ g c : Nat, u14 = .slice (some ⟨g, 0, none⟩) (T + n3) c ∧ wc.ownsRow w2.heap.size 5 1 (.slice (some ⟨g, 0, none⟩) (T + n3) c) (T + n3) (bcs (frameB (msgB l1 L) 0 ns ++ l3)) ∧ w4.grownBy wc (some g4))
        case first =>
          cases a3 with
          | none =>
            obtain ⟨rfl, rfl⟩ := hn3 rfl
            have hl30 : l3 = [] := List.length_eq_zero_iff.1 HL3.out
            subst hl30
            go_wp2_with (at_builtin; refine wpList_append_own_none rfl _ _ 22 rfl w2.heap.size 5 i0 1 Ybaf.underlying22 hi _ _ _ rfl ho4 rfl ?_)
            go_meet
            case rel => exact ⟨g4, c4, by simp, by simpa using ho4, ⟨rfl, rfl, rfl, Nat.le_refl _, fun _ _ _ => rfl⟩⟩
          | some ad =>
            go_wp2_with (at_builtin; refine wpList_append_own _ rfl _ _ 22 rfl w2.heap.size 5 i0 _ 1 1 Ybaf.underlying22 hi hz0 hz1 hz2 rfl (by decide) _ _ _ rfl ho4 ad n3 k3 (bcs l3) rfl ?e0 ?e1 ?e2 ?e3 ?e4 ?e5 ?_)
            case e0 => rw [bcs_length, HL3.out]; omega
            case e1 =>
              intro j u hj
              simp only [bcs, List.getElem?_map, Option.map_eq_some_iff] at hj
              obtain ⟨x, hx, rfl⟩ := hj
              obtain ⟨bb, bo, he, hcell, _⟩ := hc34 j x hx
              cases he
              rw [add_plain]; exact hcell
            case e2 => exact bcs_one _
            case e3 => unfold maxLen; omega
            case e4 => omega
            case e5 => omega
            intro v5 w5 ho5 hgr5 hnil5
            obtain ⟨g5, c5, rfl, _⟩ := ho5.form (by omega)
            clear hnil5 ho4 hc34
            go_wp2_with fail
            go_meet
            case rel => exact ⟨g5, c5, rfl, by rw [bcs_append]; exact ho5, hgr5⟩
        case rest =>
          obtain ⟨g5, c5, rfl, ho5, hgr5⟩ := hcut
          obtain ⟨w5, rfl⟩ : ∃ w5, w5 = wc := ⟨wc, rfl⟩
          have hg4 := ho4.lt g4 rfl
          have hs5 := hgr5.size
          have hB5 : Below w.heap.size w w5 := hB4'.grown hgr5 (by omega) (fun k hk => by have : g4 = k := by simpa using hk
                                                                                          omega)
          have hlg5 : Leg w5 2 t0 t1 t2 := hlg4.of (b := g4) hgr5 (by omega)
          have hg5 := ho5.lt g5 rfl
          have hc5 : T + n3 ≤ c5 := by
            rcases ho5.2 with ⟨h', _⟩ | ⟨g', cap', cur, h', hb, hg, hnc, _⟩
            · cases h'
            · cases h'; exact hnc
          have hfull : ∀ j x, j < T + n3 → (frameB (msgB l1 L) 0 ns)[j]? = some x → w5.cell? ⟨g5, j, none⟩ = some (.int .u8 x) := fun j x hj hx => by
            have hjT : j < (frameB (msgB l1 L) 0 ns).length := (List.getElem?_eq_some_iff.1 hx).1
            rw [ho5.cellAt j (by omega)]
            exact bcs_get (by rw [List.getElem?_append_left hjT]; exact hx)
          have hpart : ∀ j x, j < T → (frameB (msgB l1 L) 0 ns)[j]? = some x → w5.cell? ⟨gf, j, none⟩ = some (.int .u8 x) := fun j x hj hx => by
            have h0 : w4.cell? ⟨gf, j, none⟩ = some (.int .u8 x) := by rw [hof4 j (by omega)]; exact bcs_get hx
            exact hgr5.cell h0 (by simp; omega)
          have hgf5 : gf < w5.heap.size := by omega
          clear ho4 ho5 hgr5 hof4 hB4 hB4' hlg4 hc34 hc3
          have hmo := msg_ok l1 L nr1 nr2
          have al5 : ∀ o, Below w5.heap.size w5 (w5.alloc o) := fun o => bel_alloc (Below.refl _ _) o
          have hS1 := fun Z (hZ : Blk (w5.alloc Z) w5.heap.size (fs 0 0 0 L 0 0 0)) => scan_ok (w := w5.alloc Z) (b := w5.heap.size) (gi := g5) (N := T + n3) (cap := c5) (L := L) (M := 56 + L) (l := msgB l1 L) (ns := ns) hmo HML.out rfl HSZ HSUM.out hZ (hlg5.below (al5 Z)) (by omega) (by omega) hc5 (by omega)
            (fun j x hj hx => cell_kept (al5 Z) (hfull j x hj hx))
          have hS2 := fun Z (hZ : Blk (w5.alloc Z) w5.heap.size (fs 0 0 0 L 0 0 0)) => (hS1 Z hZ).mono (R' := fun e w' => e = .returned (.tuple #[.bool true, .nilIface]) ∧ G w5.heap.size (w5.alloc Z) w' ∧ ∃ v, Blk w' w5.heap.size (fs T ns.length 0 L 17 (56 + L : Nat) v)) (fun e w' ⟨hg, h⟩ => by
            have hT := HT.out
            rcases h with ⟨_, he, v, hb⟩ | ⟨hlt, _⟩
            · exact ⟨he, hg, v, by rw [hT]; exact hb⟩
            · omega)
          clear hS1
          go_upto_region 11 with (go_at_call 9; refine (hS2 _ (blk_new w5 L)).mono ?_; rintro e w6 ⟨rfl, hG6, v6, hb6⟩)
          obtain ⟨c0, c1, c2, c3, c4', c5', c6, c7, c8, c9, c10, c11, c12, c14⟩ := hb6.cs
          simp only [fs, nmN] at c0 c1 c11 c12
          have hbl6 := hb6.lt
          have hB6 : Below w.heap.size w w6 := Below.ofG (bel_alloc hB5 _) hG6 (by simp; omega) (by have := hB5.size; omega)
          have hs6 := hG6.size
          have hlg6 : Leg w6 2 t0 t1 t2 := (hlg5.below (al5 _)).of hG6 (by omega)
          have hpart6 : ∀ j x, j < T → (frameB (msgB l1 L) 0 ns)[j]? = some x → w6.cell? ⟨gf, j, none⟩ = some (.int .u8 x) := fun j x hj hx => hG6.cell (cell_kept (al5 _) (hpart j x hj hx)) (by show gf ≠ w5.heap.size; omega)
          clear hS2 hG6 hfull hpart hlg5 hB5 hb6 al5
          go_upto_region 17 with fail
          obtain ⟨K, hK⟩ : ∃ K : Nat, cut % (T : Int) = (K : Int) := ⟨(cut % (T : Int)).toNat, by have := Int.emod_nonneg cut (show (T : Int) ≠ 0 by omega); omega⟩
          have hKT : K < T := by have := Int.emod_lt_of_pos cut (show (0 : Int) < (T : Int) by omega); omega
          have hT0 : (T : Int) ≠ 0 := by omega
          have hT0' : (0 : Int) < (T : Int) := by omega
          have htm : cut.tmod (T : Int) = (K : Int) := by rw [Int.tmod_eq_emod_of_nonneg hcut]; exact hK
          have hKc : (K : Int) ≤ (cf : Int) := by omega
          have al6 : ∀ o, Below w6.heap.size w6 (w6.alloc o) := fun o => bel_alloc (Below.refl _ _) o
          have hgf6 : gf < w6.heap.size := by simp at hs6; omega
          have hS3 := fun Z (hZ : Blk (w6.alloc Z) w6.heap.size (fs 0 0 0 L 0 0 0)) => (scan_ok (w := w6.alloc Z) (b := w6.heap.size) (gi := gf) (N := K) (cap := cf) (L := L) (M := 56 + L) (l := msgB l1 L) (ns := ns) hmo HML.out rfl HSZ HSUM.out hZ (hlg6.below (al6 Z)) (by simp at hs6; omega) (by omega) (by omega) (by omega)
            (fun j x hj hx => cell_kept (al6 Z) (hpart6 j x (by omega) hx))).mono (R' := fun e w' => e = .returned (.tuple #[.bool false, .nilIface]) ∧ G w6.heap.size (w6.alloc Z) w') (fun e w' ⟨hg, h⟩ => by
            have hT := HT.out
            rcases h with ⟨hge, _⟩ | ⟨_, he⟩
            · omega
            · exact ⟨he, hg⟩)
          clear hpart6 hlg6 c0 c1 c2 c3 c4' c5' c6 c7 c8 c9 c10 c11 c12 c14
          go_wp2_with (go_at_call 9; refine (hS3 _ (blk_new w6 L)).mono ?_; rintro e w7 ⟨rfl, hG7⟩)
          go_ret
          exact ⟨rfl, Below.ofG (bel_alloc hB6 _) hG7 (by have := hB6.size; simp; omega) hB6.size⟩
      · have hd1 : decide ((1024 : Int) < (n1 : Int)) = false := by simp; omega
        have hd2 : decide ((1024 : Int) < (n2 : Int)) = false := by simp; omega
        have hd3 : (1024 : Int) < (n3 : Int) := by omega
        go_enter Ybaf.func3, Ybaf.ntmps3
        go_wp2_with fail
        go_ret
        exact ⟨rfl, Below.refl _ _⟩
    · have hd1 : decide ((1024 : Int) < (n1 : Int)) = false := by simp; omega
      have hd2 : (1024 : Int) < (n2 : Int) := by omega
      go_enter Ybaf.func3, Ybaf.ntmps3
      go_wp2_with fail
      go_ret
      exact ⟨rfl, Below.refl _ _⟩
  · have hd1 : (1024 : Int) < (n1 : Int) := by omega
    go_enter Ybaf.func3, Ybaf.ntmps3
    go_wp2_with fail
    go_ret
    exact ⟨rfl, Below.refl _ _⟩
end Go.Proofs.YbulkahqyFmt

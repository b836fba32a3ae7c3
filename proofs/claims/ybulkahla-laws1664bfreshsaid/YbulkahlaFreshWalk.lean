import Derived.Test.YbulkahlaFresh1
import Derived.Test.YbulkahlaCachedWalk
namespace Go.Proofs.Ybulkahla
open Go.RowKit
set_option linter.unusedSimpArgs false
attribute [local go_sem] run_store_float call31 call42 call43
attribute [local go_sem ↓] run_fadd run_fsub run_fmul run_fquo run_fmax run_fmin run_fsqrt

theorem wrap_add (a b : Int) : wrap64 (wrap64 a + b) = wrap64 (a + b) := by unfold wrap64; omega
theorem cntS_take {gs : List Lvl} {k : Nat} {y : Lvl} (h : gs[k]? = some y) : cntS (gs.take (k + 1)) = cntS (gs.take k) + y.2.2.2.2 := by rw [take_snoc' h, cntS_snoc]
theorem countP_take {l : List Smp} {k : Nat} {s : Smp} (h : l[k]? = some s) : (l.take (k + 1)).countP ans = (l.take k).countP ans + (if ans s then 1 else 0) := by
  rw [take_snoc' h, List.countP_append]
  simp [List.countP_cons]
theorem nAns_all (l : List Smp) : nAns l (List.range l.length) = l.countP ans := by
  have key : ∀ k, k ≤ l.length → nAns l (List.range k) = (l.take k).countP ans := by
    intro k
    induction k with
    | zero => intro _; simp [nAns]
    | succ k ih =>
      intro hk
      have hs : l[k]? = some (l[k]'(by omega)) := by simp
      rw [countP_take hs, ← ih (by omega), nAns, nAns, List.range_succ, List.countP_append]
      simp [List.countP_cons, hs]
  have := key l.length (Nat.le_refl _)
  rwa [List.take_length] at this

theorem size_alloc1 (w : World) (o : Obj) : (w.alloc o).heap.size = w.heap.size + 1 := by simp
theorem cell_set_same {w : World} {b p : Nat} {u : Value} (h : w.cell? ⟨b, p, none⟩ = some u) (v : Value) : (w.setCell ⟨b, p, none⟩ v).cell? ⟨b, p, none⟩ = some v := World.cell?_setCell_same' w _ v (by rw [h]; rfl)

/-- a cell behind the keeping of the reading in its server -/
theorem cell_past_set {w : World} {bs o b p : Nat} {u v : Value} (h : w.cell? ⟨b, p, none⟩ = some v) (hne : b ≠ bs) : (w.setCell ⟨bs, o, none⟩ u).cell? ⟨b, p, none⟩ = some v := by
  rw [World.cell?_of_block (heap_set_other _ _ _ hne)]; exact h

set_option maxHeartbeats 4000000 in
set_option maxRecDepth 100000 in
theorem fresh_any (a : Option Addr) (len cap : Nat) (l : List Smp) (w : World) (hlen : l.length = len) (hc : SmpsAt w a l) :
    Calls Yba.prog 5 #[.slice a len cap] w fun e w' => e = .returned (.bool true) ∧ Below w.heap.size w w' := by
  by_cases hl : len ≤ 1024
  · have hbsm := bsamples_some a cap l w (by omega) hc
    rw [hlen] at hbsm
    have HLN : Hid (l.length = len) := hlen
    clear hlen
    go_enter Yba.func5, Yba.ntmps5
    go_wp2_with (go_at_call 18; refine hbsm.mono ?_; rintro e w1 ⟨bl, cl, rfl, hB1, hown⟩)
    have hbs : w.heap.size ≤ w1.heap.size := hB1.size
    have hsm1 := smpRow_of_owns hown HLN.out.symm
    refine (read_fresh w1.heap.size bl cl len l _ HLN.out ?k5 ?k6 ?kf ?ksm hl).mono ?_
    case k5 => simp [go_sem]
    case k6 => simp [go_sem]
    case kf => simp [go_sem]
    case ksm => exact hsm1.below (bel_alloc (Below.refl _ _) _)
    rintro e w' ⟨w2, lg, tt, ms, mp, vg, vl, gs, rfl, rfl, hrd, hlg, htt, hog, ⟨p, c, rfl⟩, hcn, hgl⟩
    rw [size_alloc1] at hrd hog ⊢
    obtain ⟨pg, cg, rfl⟩ := own_slice hog
    have hbsz : w1.heap.size < w2.heap.size := by have := hrd.lt; omega
    have hBel : Below w.heap.size w (w2.setCell ⟨w1.heap.size, 6, none⟩ (.pointer (some ⟨w1.heap.size + 1, 0, none⟩))) :=
      ((bel_alloc hB1 _).trans (hrd.bel.mono (by omega))).setCell hbs _
    obtain ⟨c0, c1, c2, c3, c4, c5, c6, cf⟩ := hrd.facts
    have hne1 : w1.heap.size + 1 ≠ w1.heap.size := by omega
    have r0 := cell_past_set (o := 6) (u := .pointer (some ⟨w1.heap.size + 1, 0, none⟩)) c0 hne1
    have r1 := cell_past_set (o := 6) (u := .pointer (some ⟨w1.heap.size + 1, 0, none⟩)) c1 hne1
    have r2 := cell_past_set (o := 6) (u := .pointer (some ⟨w1.heap.size + 1, 0, none⟩)) c2 hne1
    have r5 := cell_past_set (o := 6) (u := .pointer (some ⟨w1.heap.size + 1, 0, none⟩)) c5 hne1
    have r6 := cell_past_set (o := 6) (u := .pointer (some ⟨w1.heap.size + 1, 0, none⟩)) c6 hne1
    have hog3 := own_set (a := ⟨w1.heap.size, 6, none⟩) hog (fun g hg => by have h1 := (hog.lt g hg).1; show g ≠ w1.heap.size; omega) (.pointer (some ⟨w1.heap.size + 1, 0, none⟩))
    have s6 : (w2.setCell ⟨w1.heap.size, 6, none⟩ (.pointer (some ⟨w1.heap.size + 1, 0, none⟩))).cell? ⟨w1.heap.size, 6, none⟩ = some (.pointer (some ⟨w1.heap.size + 1, 0, none⟩)) := by
      have h6 : w2.cell? ⟨w1.heap.size, 6, none⟩ = some (.pointer none) := by
        rw [hrd.bel.cell (show w1.heap.size < w1.heap.size + 1 by omega)]; simp [go_sem]
      exact cell_set_same h6 _
    have HLG : Hid (cn lg = largF l) := hlg
    have HTT : Hid (cn tt = toF l) := htt
    have HCN : Hid (cntS gs = nAns l (List.range len)) := hcn
    have HGL : Hid (gs.length ≤ len) := hgl
    have hc3 := hc.below hBel
    clear hrd hog hlg htt hcn hgl c0 c1 c2 c3 c4 c5 c6 cf hown hsm1 hB1 hbsz hbsm hc
    generalize w2.setCell ⟨w1.heap.size, 6, none⟩ (.pointer (some ⟨w1.heap.size + 1, 0, none⟩)) = w3 at *
    generalize hlr : leastR l = lr at *
    have HLR : Hid (leastR l = lr) := hlr
    clear hlr
    obtain ⟨j36, hj36, _⟩ := Option.map_eq_some_iff.1 Yba.infoOf36
    have hne : ∀ a w, (binOp .neq 38 (.pointer (some a)) (.pointer (some a))).run Yba.prog w = .ok (.bool false) w := fun a w => neq_ptr_same a w Yba.underlying38 hj36
    go_wp2_with (first | (go_at_call 19; refine (read_held w1.heap.size 0 ⟨w1.heap.size + 1, 0, none⟩ _ (by simpa using s6)).mono ?_; rintro e w' ⟨rfl, rfl⟩) | (go_at_call 10; refine (inf_any _).mono ?_; rintro e w' ⟨rfl, rfl⟩))
    obtain ⟨w4, rfl⟩ : ∃ w4, w4 = w' := ⟨w', rfl⟩
    clear s6 hne hj36
    go_loopw [5, 6, 7, 8, 9, 41] (fun u5 u6 u7 u8 u9 i wr => ∃ (k x y z : Nat), k ≤ len ∧ i = .int .i64 k ∧ u5 = .float .f64 x ∧ u6 = .float .f64 y ∧ u7 = .float .f64 z ∧ u8 = .int .i64 ((l.take k).countP ans : Nat) ∧ u9 = .bool (lawL (l.take k)).1 ∧
        cn x = (lawL (l.take k)).2 ∧ cn y = largF (l.take k) ∧ cn z = toF (l.take k) ∧ Below w4.heap.size w4 wr)
      (fun _ _ _ _ _ i _ => len - (intOf i).toNat)
    case atStart => exact ⟨0, 0, 0, infB, Nat.zero_le _, rfl, rfl, rfl, rfl, rfl, rfl, rfl, rfl, rfl, Below.refl _ _⟩
    case round =>
      obtain ⟨k, x, y, z, hk, rfl, rfl, rfl, rfl, rfl, rfl, hx, hy, hz, hnr⟩ := hrel
      have HX : Hid (cn x = (lawL (l.take k)).2) := hx
      have HY : Hid (cn y = largF (l.take k)) := hy
      have HZ : Hid (cn z = toF (l.take k)) := hz
      clear hx hy hz
      have hszr := hnr.size
      by_cases hlt : k < len
      · obtain ⟨s, hs⟩ : ∃ s, l[k]? = some s := ⟨l[k]'(by have := HLN.out; omega), by simp⟩
        obtain ⟨b, off, rfl, hb, h1, h2, h3, h4⟩ := (hc3.below hnr) k s hs
        have HT : Hid (l.take (k + 1) = l.take k ++ [s]) := take_snoc' hs
        have HCT : Hid ((l.take (k + 1)).countP ans = (l.take k).countP ans + (if ans s then 1 else 0)) := countP_take hs
        have hcle : (l.take k).countP ans ≤ 1024 := by
          have h1 := List.countP_le_length (p := ans) (l := l.take k)
          have h2 : (l.take k).length ≤ k := by simp; omega
          omega
        clear hs hc3
        generalize (l.take k).countP ans = cA at *
        cases ha : (FloatKind.f64.format.order s.2.2.1 0 == some .gt) with
        | true =>
          have HA : Hid (ans s = true) := by
            show _ = _
            rw [ans, ← ordF_eq]; exact ha
          have HLS : Hid (lawL (l.take (k + 1)) = (true, if (lawL (l.take k)).1 then minF (lawL (l.take k)).2 (cn s.2.2.1) else cn s.2.2.1)) := by
            show _ = _
            rw [HT.out, lawL_snoc]; simp [lawStep, HA.out]
          have HY2 : Hid (largF (l.take (k + 1)) = maxF (cn y) (cn s.1)) := by
            show _ = _
            rw [HT.out, largF_snoc, HY.out]; simp [rdLarg, HA.out]
          have HZ2 : Hid (cn z = toF (l.take (k + 1))) := by
            show _ = _
            rw [HT.out, toF_snoc, HZ.out]; simp [rdTo, HA.out]
          have HC2 : Hid ((l.take (k + 1)).countP ans = cA + 1) := by
            show _ = _
            rw [HCT.out, HA.out]; simp
          clear HT HCT HY HZ
          cases hsn : (lawL (l.take k)).1 with
          | true =>
            have HL2 : Hid (lawL (l.take (k + 1)) = (true, minF (cn x) (cn s.2.2.1))) := by
              show _ = _
              rw [HLS.out, hsn, HX.out]; simp
            clear HLS HX hsn
            go_wp2_with fail
            go_roundw
            case rel => exact ⟨k + 1, _, _, z, by omega, by go_num, rfl, rfl, rfl, by rw [HC2.out]; go_num, by rw [HL2.out], by rw [HL2.out, cn_fminv], by rw [HY2.out, cn_fmaxv], HZ2.out, by repeat (first | exact hnr | refine below_drewN ?_ _ | refine bel_alloc ?_ _)⟩
            case measure => simp [intOf]; omega
          | false =>
            have HL2 : Hid (lawL (l.take (k + 1)) = (true, cn s.2.2.1)) := by
              show _ = _
              rw [HLS.out, hsn]; simp
            clear HLS HX hsn
            go_wp2_with fail
            go_roundw
            case rel => exact ⟨k + 1, _, _, z, by omega, by go_num, rfl, rfl, rfl, by rw [HC2.out]; go_num, by rw [HL2.out], by rw [HL2.out], by rw [HY2.out, cn_fmaxv], HZ2.out, by repeat (first | exact hnr | refine below_drewN ?_ _ | refine bel_alloc ?_ _)⟩
            case measure => simp [intOf]; omega
        | false =>
          have HA : Hid (ans s = false) := by
            show _ = _
            rw [ans, ← ordF_eq]; exact ha
          have HL2 : Hid (lawL (l.take (k + 1)) = lawL (l.take k)) := by
            show _ = _
            rw [HT.out, lawL_snoc]; simp [lawStep, HA.out]
          have HY2 : Hid (cn y = largF (l.take (k + 1))) := by
            show _ = _
            rw [HT.out, largF_snoc, HY.out]; simp [rdLarg, HA.out]
          have HZ2 : Hid (toF (l.take (k + 1)) = minF (cn z) (cn s.1)) := by
            show _ = _
            rw [HT.out, toF_snoc, HZ.out]; simp [rdTo, HA.out]
          have HC2 : Hid ((l.take (k + 1)).countP ans = cA) := by
            show _ = _
            rw [HCT.out, HA.out]; simp
          clear HT HCT HY HZ
          generalize hsn : (lawL (l.take k)).1 = sn at *
          have HSN : Hid ((lawL (l.take k)).1 = sn) := hsn
          clear hsn
          go_wp2_with fail
          go_roundw
          case rel => exact ⟨k + 1, x, y, _, by omega, by go_num, rfl, rfl, rfl, by rw [HC2.out], by rw [HL2.out, HSN.out], by rw [HL2.out, HX.out], HY2.out, by rw [HZ2.out, cn_fminv], by repeat (first | exact hnr | refine below_drewN ?_ _ | refine bel_alloc ?_ _)⟩
          case measure => simp [intOf]; omega
      · have hkl : k = len := by omega
        have htk : l.take k = l := List.take_of_length_le (by have := HLN.out; omega)
        have b1 : beqF (cn lr) (cn x) = true := by
          have h := tie_beq (tie_all l)
          have e : l.foldl rdLeast' 0 = lr := HLR.out
          rw [e] at h
          have hx := HX.out
          rw [htk] at hx
          rw [hx]; exact h
        have b2 : beqF (cn lg) (cn y) = true := beq_same (by have hy := HY.out; rw [htk] at hy; rw [hy, HLG.out])
        have b3 : beqF (cn tt) (cn z) = true := beq_same (by have hz := HZ.out; rw [htk] at hz; rw [hz, HTT.out])
        have HCE : Hid (cntS gs = ((l.take k).countP ans : Nat)) := by
          show _ = _
          rw [HCN.out, htk, ← nAns_all l, HLN.out]
        have hcle : (l.take k).countP ans ≤ 1024 := by
          have h1 := List.countP_le_length (p := ans) (l := l.take k)
          have h2 : (l.take k).length ≤ k := by simp; omega
          omega
        have q0 := cell_kept hnr r0
        have q1 := cell_kept hnr r1
        have q2 := cell_kept hnr r2
        have q5 := cell_kept hnr r5
        have q6 := cell_kept hnr r6
        have hog4 := owns_of_block hog3 (w' := wr) fun g hg => hnr.block g (hog3.lt g hg).2
        have hBr : Below w.heap.size w wr := hBel.trans (hnr.mono hBel.size)
        clear HX HY HZ HLG HTT HCN HLR htk hnr r0 r1 r2 r5 r6 hog3 hBel hc3 hne1 hbs
        generalize (l.take k).countP ans = cA at *
        generalize (lawL (l.take k)).1 = sn at *
        have HKL : Hid (k = len) := hkl
        clear hkl
        have HM : Hid (gs.length = gs.length) := rfl
        generalize hm : gs.length = m at *
        have HMM : Hid (gs.length = m) := hm
        clear hm HM
        go_upto_region 26 with (go_at_call 20; refine (beq_any (by first | with_reducible exact b1 | with_reducible exact b2 | with_reducible exact b3) _).mono ?_; rintro e w' ⟨rfl, rfl⟩)
        go_quiet (fail)
        have p5 : (w'.drewN nq).cell? ⟨w1.heap.size + 1, 5, none⟩ = some (.slice pg m cg) := q5
        have po : (w'.drewN nq).ownsRow (w1.heap.size + 1) 32 5 (.slice pg m cg) m (lvlsCells gs) := hog4
        have pB : Below w.heap.size w (w'.drewN nq) := below_drewN hBr nq
        clear q0 q1 q2 q5 q6 hog4 hBr b1 b2 b3
        generalize w'.drewN nq = w5 at *
        have hgf : ∀ j y, gs[j]? = some y → ∃ g, pg = some ⟨g, 0, none⟩ ∧ w5.cell? ⟨g, j * 5, none⟩ = some (.float .f64 y.1) ∧ w5.cell? ⟨g, j * 5 + 1, none⟩ = some (.float .f64 y.2.1) ∧ w5.cell? ⟨g, j * 5 + 2, none⟩ = some (.float .f64 y.2.2.1) ∧
            w5.cell? ⟨g, j * 5 + 3, none⟩ = some (.int .i64 y.2.2.2.1) ∧ w5.cell? ⟨g, j * 5 + 4, none⟩ = some (.int .i64 y.2.2.2.2) := by
          intro j y hy
          have hpos : 0 < m := by have := (List.getElem?_eq_some_iff.1 hy).1; have := HMM.out; omega
          obtain ⟨g, c', e, _⟩ := po.form hpos
          simp only [Value.slice.injEq, true_and] at e
          obtain ⟨rfl, rfl⟩ := e
          exact ⟨g, rfl, lvlRow_of_owns po HMM.out.symm j y hy⟩
        have hm1024 : m ≤ 1024 := by have := HGL.out; omega
        clear po
        go_wp2_with fail
        go_loopw [12, 108] (fun u i wr => ∃ (j : Nat), j ≤ m ∧ i = .int .i64 j ∧ u = .int .i64 (wrap64 (cntS (gs.take j))) ∧ Below w5.heap.size w5 wr) (fun _ i _ => m - (intOf i).toNat)
        case atStart => exact ⟨0, Nat.zero_le _, rfl, by simp [cntS, wrap64], Below.refl _ _⟩
        case round =>
          obtain ⟨j, hj, rfl, rfl, hnj⟩ := hrel
          by_cases hjm : j < m
          · obtain ⟨yy, hyy⟩ : ∃ yy, gs[j]? = some yy := ⟨gs[j]'(by have := HMM.out; omega), by simp⟩
            obtain ⟨g, rfl, t0, t1, t2, t3, t4⟩ := hgf j yy hyy
            have u0 := cell_kept hnj t0
            have u1 := cell_kept hnj t1
            have u2 := cell_kept hnj t2
            have u3 := cell_kept hnj t3
            have u4 := cell_kept hnj t4
            have HW : Hid (wrap64 (cntS (gs.take (j + 1))) = wrap64 (wrap64 (cntS (gs.take j)) + yy.2.2.2.2)) := by
              show _ = _
              rw [wrap_add, cntS_take hyy]
            clear hyy hgf t0 t1 t2 t3 t4 p5
            generalize wrap64 (cntS (gs.take j)) = cc at *
            go_wp2_with fail
            go_roundw
            case rel => exact ⟨j + 1, by omega, by go_num, by rw [HW.out], bel_alloc hnj _⟩
            case measure => simp [intOf]; omega
          · have HJ : Hid (wrap64 (cntS (gs.take j)) = (cA : Int)) := by
              show _ = _
              rw [List.take_of_length_le (by have := HMM.out; omega), HCE.out]
              unfold wrap64; omega
            rw [HJ.out]
            go_wp2_with fail
            go_ret
            exact ⟨by simp, pB.trans (hnj.mono pB.size)⟩
  · have hl' : (1024 : Int) < len := by omega
    go_enter Yba.func5, Yba.ntmps5
    go_wp2_with fail
    go_ret
    exact ⟨rfl, Below.refl _ _⟩
end Go.Proofs.Ybulkahla

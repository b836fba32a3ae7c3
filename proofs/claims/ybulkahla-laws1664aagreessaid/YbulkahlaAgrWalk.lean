import Derived.Test.YbulkahlaBuild
namespace Go.Proofs.Ybulkahla
open Go.RowKit
set_option linter.unusedSimpArgs false
attribute [local go_sem] run_store_float call31 call42 call43
attribute [local go_sem ↓] run_fadd run_fsub run_fmul run_fquo run_fmax run_fmin run_fsqrt

theorem order_self {x : Nat} (h : nanB x = false) : (FloatKind.f64.format.order x x == some .eq) = true := by
  unfold Ieee.Format.order
  unfold nanB at h
  cases hr : FloatKind.f64.format.read x with
  | nan s f => rw [hr] at h; simp [Ieee.Datum.isNaN] at h
  | infinity s => cases s <;> rfl
  | number s m i =>
    simp only [Ieee.Datum.order]
    simp [Int.compare_eq_eq]

theorem aeq_any {x y : Nat} (h : cn x = cn y) (w : World) : Calls Yba.prog 15 #[.float .f64 x, .float .f64 y] w fun e w' => e = .returned (.bool true) ∧ w' = w := by
  cases hx : nanB x with
  | false =>
    have hy : y = x := by
      rw [cn_num hx] at h
      cases hy : nanB y with
      | true => rw [cn_nan hy] at h; cases h
      | false => rw [cn_num hy] at h; exact (Option.some.inj h).symm
    subst hy
    have ho := order_self hx
    clear h
    go_enter Yba.func15, Yba.ntmps15
    go_wp2_with fail
    go_ret
    exact ⟨rfl, rfl⟩
  | true =>
    have hy : nanB y = true := by
      rw [cn_nan hx] at h
      cases hy : nanB y with
      | true => rfl
      | false => rw [cn_num hy] at h; cases h
    have o1 : FloatKind.f64.format.order x y = none := order_nan_x hx
    have o2 : FloatKind.f64.format.order x x = none := order_nan_x hx
    have o3 : FloatKind.f64.format.order y y = none := order_nan_x hy
    clear h
    go_enter Yba.func15, Yba.ntmps15
    go_wp2_with fail
    go_ret
    exact ⟨rfl, rfl⟩

theorem apart_is' {fl la : Lvl} {least : Option Nat} {fc fe tc te h : Nat} {w w' : World} {b : Bool} (h1 : cn fc = (lvlCap least fl).1) (h2 : cn fe = (lvlCap least fl).2) (h3 : cn tc = (lvlCap least la).1) (h4 : cn te = (lvlCap least la).2) (hh : cn h = hypF (cn fe) (cn te))
    (hb : (!(FloatKind.f64.format.order (fval .sub tc fc w) (fval .mul 4616189618054758400 h w') == some .gt)) = b) : apartF fl la least = !b :=
  apart_is h1 h2 h3 h4 hh (by rw [← hb, Bool.not_not])
theorem past_no' {fl : Lvl} {least : Option Nat} {rg c0 : Nat} {w w' : World} (hrg : cn rg = growF (cn fl.2.2.1) least)
    (h : (!(FloatKind.f64.format.order (fval .quo (fval .mul rg c0 w) 4652007308841189376 w') 4617315517961601024 == some .gt)) = true ∧ (!(FloatKind.f64.format.order (fval .quo (fval .mul rg c0 w) 4652007308841189376 w') 4617315517961601024 == some .eq)) = true) : pastF fl least (cn c0) = false :=
  past_no hrg ⟨by simpa using h.1, by simpa using h.2⟩
theorem past_yes' {fl : Lvl} {least : Option Nat} {rg c0 : Nat} {w w' : World} (hrg : cn rg = growF (cn fl.2.2.1) least)
    (h : (!(FloatKind.f64.format.order (fval .quo (fval .mul rg c0 w) 4652007308841189376 w') 4617315517961601024 == some .gt)) = false ∨ (!(FloatKind.f64.format.order (fval .quo (fval .mul rg c0 w) 4652007308841189376 w') 4617315517961601024 == some .eq)) = false) : pastF fl least (cn c0) = true :=
  past_yes hrg (h.elim (fun h => .inl (by simpa using h)) (fun h => .inr (by simpa using h)))

set_option maxHeartbeats 4000000 in
set_option maxRecDepth 100000 in
theorem agr_law (a a' : Option Addr) (len len' cap cap' : Nat) (l : List Smp) (gi : List Gin) (least : Nat) (mp : Int) (w : World) (hlen : l.length = len) (hlen' : gi.length = len') (hc : SmpsAt w a l) (hd : GinAt w a' gi) :
    Calls Yba.prog 3 #[.slice a len cap, .slice a' len' cap', .float .f64 least, .int .i64 mp] w fun e w' => e = .returned (.bool true) ∧ Below w.heap.size w w' := by
  subst hlen hlen'
  by_cases hl : l.length ≤ 1024
  · by_cases hg : gi.length ≤ 1024
    · go_enter Yba.func3, Yba.ntmps3
      go_wp2_with fail
      refine (build_any a a' cap cap' l gi least mp _ hl hg hc hd).mono ?_
      rintro e w4 ⟨bs, bl, cl, br, bg, cg, rfl, hb4, hsv⟩
      clear hc hd
      go_wp2_with fail
      refine (bound_any hsv hl (by simpa using hg)).mono ?_
      rintro e w5 ⟨r, rfl, hr, hb5⟩
      have hB5 := hb4.trans (hb5.mono hb4.size)
      have hs5 := hsv.below hb5
      have hgl : (gi.map lvlOf).length ≤ 1024 := by simpa using hg
      clear hsv hb4 hb5 hg
      generalize gi.map lvlOf = gs at *
      have HR : Hid (cn r = boundF l gs (cn least) mp) := hr
      clear hr
      go_upto_if 41 with (go_at_call 10; refine (inf_any _).mono ?_; rintro e w' ⟨rfl, rfl⟩)
      go_cut [11] (fun u11 wc => ∃ q, u11 = .float .f64 q ∧ cn q = boundF l gs (cn least) mp ∧ Below w.heap.size w wc)
      case rest =>
        obtain ⟨q, rfl, hq, hnc⟩ := hcut
        have HQ : Hid (cn r = cn q) := by
          show _ = _
          rw [HR.out, hq]
        clear hq
        go_wp2_with fail
        refine (aeq_any HQ.out _).mono ?_
        rintro e w' ⟨rfl, rfl⟩
        go_wp2_with fail
        go_ret
        exact ⟨rfl, hnc⟩
      case first =>
        by_cases hmp : 0 < mp
        · go_wp2_with fail
          go_meet
          case rel => exact ⟨_, rfl, by rw [boundF, if_pos hmp], hB5⟩
        · have hmp' : mp ≤ 0 := by omega
          go_wp2_with fail
          refine (capacity_any hs5 hl).mono ?_
          rintro e w1 ⟨rc, re, b, rfl, hb1, hw⟩
          have hB1 := hB5.trans (hb1.mono hB5.size)
          have hs1 := hs5.below hb1
          clear hs5 hb1 hB5
          cases hwc : wcap l (cn least) with
          | none =>
            rw [hwc] at hw
            have hb : b = false := hw
            subst hb
            have HF : Hid (boundF l gs (cn least) mp = cn infB) := by
              show _ = _
              rw [boundF, if_neg (by omega), hwc]
            clear hw hwc
            go_wp2_with fail
            go_meet
            case rel => exact ⟨_, rfl, HF.out.symm, hB1⟩
          | some y =>
            rw [hwc] at hw
            obtain ⟨hb, hy1, hy2⟩ := hw
            subst hb
            have hc0 : cn (fval .sub rc (fval .mul 4609434218613702656 re w1) (w1.drewN (fdr .mul 4609434218613702656 re))) = opF .sub y.1 (opF .mul (cn 4609434218613702656) y.2) := by simp only [cn_fval, hy1, hy2]
            have HF : Hid (boundF l gs (cn least) mp = tailF gs (cn least) (opF .sub y.1 (opF .mul (cn 4609434218613702656) y.2))) := by
              show _ = _
              rw [boundF, if_neg (by omega), hwc]
            clear hwc hy1 hy2
            go_upto_region 12 with fail
            generalize fval .sub rc (fval .mul 4609434218613702656 re w1) (w1.drewN (fdr .mul 4609434218613702656 re)) = c0 at *
            rw [← hc0] at HF
            clear hc0
            generalize fdr BinOp.mul 4609434218613702656 re + fdr BinOp.sub rc (fval BinOp.mul 4609434218613702656 re w1) = nd at *
            have hB2 : Below w1.heap.size w1 (((w1.drewN nd).alloc (.cells #[.float .f64 0, .float .f64 0, .float .f64 0, .int .i64 0, .int .i64 0] 32)).alloc (.cells #[.float .f64 0, .float .f64 0, .float .f64 0, .int .i64 0, .int .i64 0] 32)) :=
              bel_alloc (bel_alloc (below_drewN (Below.refl _ _) _) _) _
            have hx0 : LvlBox (((w1.drewN nd).alloc (.cells #[.float .f64 0, .float .f64 0, .float .f64 0, .int .i64 0, .int .i64 0] 32)).alloc (.cells #[.float .f64 0, .float .f64 0, .float .f64 0, .int .i64 0, .int .i64 0] 32)) w1.heap.size zLvl := by
              refine LvlBox.alloc ?_ _
              exact heap_alloc_new (w1.drewN nd) _
            have hx1 : LvlBox (((w1.drewN nd).alloc (.cells #[.float .f64 0, .float .f64 0, .float .f64 0, .int .i64 0, .int .i64 0] 32)).alloc (.cells #[.float .f64 0, .float .f64 0, .float .f64 0, .int .i64 0, .int .i64 0] 32)) (w1.heap.size + 1) zLvl := by
              have := heap_alloc_new ((w1.drewN nd).alloc (.cells #[.float .f64 0, .float .f64 0, .float .f64 0, .int .i64 0, .int .i64 0] 32)) (.cells #[.float .f64 0, .float .f64 0, .float .f64 0, .int .i64 0, .int .i64 0] 32)
              rw [show w1.heap.size + 1 = ((w1.drewN nd).alloc (.cells #[.float .f64 0, .float .f64 0, .float .f64 0, .int .i64 0, .int .i64 0] 32)).heap.size from by simp]
              exact this
            generalize ((w1.drewN nd).alloc (.cells #[.float .f64 0, .float .f64 0, .float .f64 0, .int .i64 0, .int .i64 0] 32)).alloc (.cells #[.float .f64 0, .float .f64 0, .float .f64 0, .int .i64 0, .int .i64 0] 32) = w2 at *
            have hs2 := hs1.below hB2
            have r6 := hs2.reading
            have r5 := hs2.groups
            go_wp2_with fail
            go_loopw [17, 61] (fun u10 i wr => ∃ k : Nat, k ≤ gs.length ∧ i = .int .i64 k ∧ u10 = .bool (decide (okLvls (gs.take k) ≠ [])) ∧ LvlBox wr w1.heap.size (firstL (gs.take k)) ∧ LvlBox wr (w1.heap.size + 1) (lastL (gs.take k)) ∧ Below w1.heap.size w1 wr)
              (fun _ i _ => gs.length - (intOf i).toNat)
            case atStart => exact ⟨0, Nat.zero_le _, rfl, rfl, hx0, hx1, hB2⟩
            case round =>
              obtain ⟨k, hk, rfl, rfl, hf, ht, hnx⟩ := hrel
              clear hx0 hx1 hB2 hs2 r6 r5
              by_cases hlt : k < gs.length
              · obtain ⟨g, hgk⟩ : ∃ g, gs[k]? = some g := ⟨gs[k], by simp [hlt]⟩
                obtain ⟨h0, h1, h2, h3, h4⟩ := (hs1.lvl.below hnx) k g hgk
                have HT : Hid (gs.take (k + 1) = gs.take k ++ [g]) := take_snoc' hgk
                have hlt0 := hf.lt
                have hlt1 := ht.lt
                obtain ⟨f0, f1, f2, f3, f4⟩ := hf.cells
                obtain ⟨t0, t1, t2, t3, t4⟩ := ht.cells
                have fz := hf.frozen
                have tz := ht.frozen
                clear hs1 hgk
                by_cases h100 : 100 ≤ g.2.2.2.1
                · by_cases hok : okLvls (gs.take k) = []
                  · have HOK : Hid (okLvls (gs.take k) = []) := hok
                    have hd : decide (okLvls (gs.take k) ≠ []) = false := by simp [hok]
                    rw [hd]
                    clear hok hd
                    go_wp2_with fail
                    go_roundw
                    case rel =>
                      refine ⟨k + 1, by omega, by go_num, ?_, ?_, ?_, ?_⟩
                      · rw [HT.out, ok_snoc_yes _ _ h100]; simp
                      · rw [HT.out, first_snoc _ _ h100 HOK.out]
                        exact ((hf.stored g).other5 (by omega) _ _ _ _ _).alloc _
                      · rw [HT.out, last_snoc _ _ h100]
                        exact ((ht.other5 (by omega) _ _ _ _ _).stored g).alloc _
                      · exact bel_alloc (below5 (below5 hnx (Nat.le_refl _) _ _ _ _ _) (Nat.le_succ _) _ _ _ _ _) _
                    case measure => simp [intOf]; omega
                  · have HOK : Hid (okLvls (gs.take k) ≠ []) := hok
                    have hd : decide (okLvls (gs.take k) ≠ []) = true := by simp [hok]
                    rw [hd]
                    clear hok hd
                    go_wp2_with fail
                    go_roundw
                    case rel =>
                      refine ⟨k + 1, by omega, by go_num, ?_, ?_, ?_, ?_⟩
                      · rw [HT.out, ok_snoc_yes _ _ h100]; simp
                      · rw [HT.out, first_keep _ _ HOK.out]
                        exact (hf.other5 (by omega) _ _ _ _ _).alloc _
                      · rw [HT.out, last_snoc _ _ h100]
                        exact (ht.stored g).alloc _
                      · exact bel_alloc (below5 hnx (Nat.le_succ _) _ _ _ _ _) _
                    case measure => simp [intOf]; omega
                · have h100' : g.2.2.2.1 < 100 := by omega
                  generalize hd : decide (okLvls (gs.take k) ≠ []) = fnd
                  have HD : Hid (decide (okLvls (gs.take k) ≠ []) = fnd) := hd
                  clear hd
                  go_wp2_with fail
                  go_roundw
                  case rel =>
                    refine ⟨k + 1, by omega, by go_num, ?_, ?_, ?_, ?_⟩
                    · rw [HT.out, ok_snoc_no _ _ h100', HD.out]
                    · rw [HT.out, (keep_no _ _ h100').1]; exact hf.alloc _
                    · rw [HT.out, (keep_no _ _ h100').2]; exact ht.alloc _
                    · exact bel_alloc hnx _
                  case measure => simp [intOf]; omega
              · have hkl : k = gs.length := by omega
                subst hkl
                rw [List.take_length] at hf ht
                rw [List.take_length]
                have hB3 : Below w.heap.size w wr := hB1.trans (hnx.mono hB1.size)
                clear hs1 hnx hB1
                by_cases hok : okLvls gs = []
                · have hd : decide (okLvls gs ≠ []) = false := by simp [hok]
                  rw [hd]
                  have HT : Hid (tailF gs (cn least) (cn c0) = cn infB) := by
                    show _ = _
                    rw [tailF, if_pos hok]
                  clear hd hok
                  go_wp2_with fail
                  go_meet
                  case rel => exact ⟨_, rfl, by rw [HF.out, HT.out], hB3⟩
                · have hd : decide (okLvls gs ≠ []) = true := by simp [hok]
                  rw [hd]
                  have HT : Hid (tailF gs (cn least) (cn c0) = if pastF (firstL gs) (cn least) (cn c0) then cn infB else if apartF (firstL gs) (lastL gs) (cn least) then cn infB else opF .mul (cn 4605087721298914852) (cn c0)) := by
                    show _ = _
                    rw [tailF, if_neg hok]
                  clear hd hok
                  generalize firstL gs = fl at *
                  generalize lastL gs = la at *
                  obtain ⟨f0, f1, f2, f3, f4⟩ := hf.cells
                  obtain ⟨t0, t1, t2, t3, t4⟩ := ht.cells
                  have hltf := hf.lt
                  have hltt := ht.lt
                  go_wp2_with fail
                  refine (growth_any _ _ _ _ _ _ _).mono ?_
                  rintro e w3 ⟨rg, rfl, hrg, hbg⟩
                  have HRG : Hid (cn rg = growF (cn fl.2.2.1) (cn least)) := hrg
                  have hf3 := hf.below hbg hltf
                  have ht3 := ht.below hbg hltt
                  have hB4 := hB3.trans (hbg.mono hB3.size)
                  clear hrg hf ht f0 f1 f2 f3 f4 t0 t1 t2 t3 t4 hltf hltt hbg hB3
                  obtain ⟨f0, f1, f2, f3, f4⟩ := hf3.cells
                  obtain ⟨t0, t1, t2, t3, t4⟩ := ht3.cells
                  have hltt := ht3.lt
                  go_wp2_with fail
                  · have hp := past_no' (c0 := c0) HRG.out ‹_›
                    have HP : Hid (pastF fl (cn least) (cn c0) = false) := hp
                    clear hp
                    refine (capAt_any _ _ _ _ _ _ _).mono ?_
                    rintro e w4 ⟨fc, fe, rfl, hfc, hfe, hb4⟩
                    have HFC : Hid (cn fc = (lvlCap (cn least) fl).1) := hfc
                    have HFE : Hid (cn fe = (lvlCap (cn least) fl).2) := hfe
                    have hb4' : Below w3.heap.size w3 w4 := (below_drewN (Below.refl _ _) _).trans hb4
                    have ht4 := ht3.below hb4' hltt
                    have hB5 := hB4.trans (hb4'.mono hB4.size)
                    clear hfc hfe hf3 ht3 f0 f1 f2 f3 f4 t0 t1 t2 t3 t4 hB4
                    obtain ⟨t0, t1, t2, t3, t4⟩ := ht4.cells
                    go_wp2_with fail
                    refine (capAt_any _ _ _ _ _ _ _).mono ?_
                    rintro e w5 ⟨tc, te, rfl, htc, hte, hb5⟩
                    have HTC : Hid (cn tc = (lvlCap (cn least) la).1) := htc
                    have HTE : Hid (cn te = (lvlCap (cn least) la).2) := hte
                    have hB6 := hB5.trans (hb5.mono hB5.size)
                    clear htc hte t0 t1 t2 t3 t4
                    go_wp2_with fail
                    refine (hypot_any _ _ _).mono ?_
                    rintro e w6 ⟨hy, nh, rfl, hhy, rfl⟩
                    have HHY : Hid (cn hy = hypF (cn fe) (cn te)) := hhy
                    clear hhy
                    go_wp2_with fail
                    · have ha := apart_is' (b := true) HFC.out HFE.out HTC.out HTE.out HHY.out ‹_›
                      go_meet
                      case rel => exact ⟨_, rfl, by rw [HF.out, HT.out, HP.out, ha, cn_fval]; rfl, below_drewN hB6 _⟩
                    · have ha := apart_is' (b := false) HFC.out HFE.out HTC.out HTE.out HHY.out ‹_›
                      go_meet
                      case rel => exact ⟨_, rfl, by rw [HF.out, HT.out, HP.out, ha]; rfl, below_drewN hB6 _⟩
                  · have hp := past_yes' (c0 := c0) HRG.out ‹_›
                    go_meet
                    case rel => exact ⟨_, rfl, by rw [HF.out, HT.out, if_pos hp], below_drewN hB4 _⟩
    · have hg' : (1024 : Int) < gi.length := by omega
      have hl' : decide ((1024 : Int) < l.length) = false := by simp; omega
      go_enter Yba.func3, Yba.ntmps3
      go_wp2_with fail
      go_ret
      exact ⟨rfl, Below.refl _ _⟩
  · have hl' : (1024 : Int) < l.length := by omega
    go_enter Yba.func3, Yba.ntmps3
    go_wp2_with fail
    go_ret
    exact ⟨rfl, Below.refl _ _⟩
end Go.Proofs.Ybulkahla

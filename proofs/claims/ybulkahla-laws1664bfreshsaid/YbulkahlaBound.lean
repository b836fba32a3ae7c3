import Derived.Test.YbulkahlaCap
namespace Go.Proofs.Ybulkahla
open Go.RowKit
set_option linter.unusedSimpArgs false
attribute [local go_sem] run_store_float call31 call42 call43
attribute [local go_sem ↓] run_fadd run_fsub run_fmul run_fquo run_fmax run_fmin run_fsqrt

/-! ### workerBound, as a plain function -/
abbrev lightB (g : Lvl) : Bool := decide (100 ≤ g.2.2.2.1)
def okLvls (gs : List Lvl) : List Lvl := gs.filter lightB
def zLvl : Lvl := (0, 0, 0, 0, 0)
def firstL (gs : List Lvl) : Lvl := (okLvls gs).head?.getD zLvl
def lastL (gs : List Lvl) : Lvl := (okLvls gs).getLast?.getD zLvl

theorem ok_snoc_yes (gs : List Lvl) (g : Lvl) (h : 100 ≤ g.2.2.2.1) : okLvls (gs ++ [g]) = okLvls gs ++ [g] := by simp [okLvls, List.filter_append, h]
theorem ok_snoc_no (gs : List Lvl) (g : Lvl) (h : g.2.2.2.1 < 100) : okLvls (gs ++ [g]) = okLvls gs := by
  have : ¬ (100 ≤ g.2.2.2.1) := by omega
  simp [okLvls, List.filter_append, this]
theorem first_snoc (gs : List Lvl) (g : Lvl) (h : 100 ≤ g.2.2.2.1) (h0 : okLvls gs = []) : firstL (gs ++ [g]) = g := by
  simp [firstL, ok_snoc_yes gs g h, h0]
theorem first_keep (gs : List Lvl) (g : Lvl) (h0 : okLvls gs ≠ []) : firstL (gs ++ [g]) = firstL gs := by
  unfold firstL
  by_cases h : 100 ≤ g.2.2.2.1
  · rw [ok_snoc_yes gs g h]
    cases hl : okLvls gs with
    | nil => exact absurd hl h0
    | cons x xs => rfl
  · rw [ok_snoc_no gs g (by omega)]
theorem last_snoc (gs : List Lvl) (g : Lvl) (h : 100 ≤ g.2.2.2.1) : lastL (gs ++ [g]) = g := by
  simp [lastL, ok_snoc_yes gs g h]
theorem keep_no (gs : List Lvl) (g : Lvl) (h : g.2.2.2.1 < 100) : firstL (gs ++ [g]) = firstL gs ∧ lastL (gs ++ [g]) = lastL gs := by
  simp [firstL, lastL, ok_snoc_no gs g h]

def pastF (floor : Lvl) (least c : Option Nat) : Bool :=
  let x := opF .quo (opF .mul (growF (cn floor.2.2.1) least) c) (cn 4652007308841189376)
  ordF x (cn 4617315517961601024) == some .gt || ordF x (cn 4617315517961601024) == some .eq
def lvlCap (least : Option Nat) (g : Lvl) : Option Nat × Option Nat := capF least (cn g.2.1) (cn g.2.2.1) g.2.2.2.1
def apartF (floor top : Lvl) (least : Option Nat) : Bool :=
  ordF (opF .sub (lvlCap least top).1 (lvlCap least floor).1) (opF .mul (cn 4616189618054758400) (hypF (lvlCap least floor).2 (lvlCap least top).2)) == some .gt
/-- what workerBound comes to behind the capacity -/
def tailF (gs : List Lvl) (least c : Option Nat) : Option Nat :=
  if okLvls gs = [] then cn infB
  else if pastF (firstL gs) least c then cn infB
  else if apartF (firstL gs) (lastL gs) least then cn infB
  else opF .mul (cn 4605087721298914852) c
def boundF (l : List Smp) (gs : List Lvl) (least : Option Nat) (mp : Int) : Option Nat :=
  if 0 < mp then cn infB
  else match wcap l least with
    | none => cn infB
    | some y => tailF gs least (opF .sub y.1 (opF .mul (cn 4609434218613702656) y.2))

/-- A level in a block of its own. -/
def LvlBox (w : World) (b : Nat) (g : Lvl) : Prop := w.heap[b]? = some (.cells #[.float .f64 g.1, .float .f64 g.2.1, .float .f64 g.2.2.1, .int .i64 g.2.2.2.1, .int .i64 g.2.2.2.2] 32)

theorem LvlBox.cells {w : World} {b : Nat} {g : Lvl} (h : LvlBox w b g) : w.cell? ⟨b, 0, none⟩ = some (.float .f64 g.1) ∧ w.cell? ⟨b, 1, none⟩ = some (.float .f64 g.2.1) ∧ w.cell? ⟨b, 2, none⟩ = some (.float .f64 g.2.2.1) ∧
    w.cell? ⟨b, 3, none⟩ = some (.int .i64 g.2.2.2.1) ∧ w.cell? ⟨b, 4, none⟩ = some (.int .i64 g.2.2.2.2) := by
  unfold LvlBox at h
  simp [World.cell?, h]
theorem LvlBox.frozen {w : World} {b : Nat} {g : Lvl} (h : LvlBox w b g) (o : Nat) : w.frozen? ⟨b, o, none⟩ = false := by
  unfold LvlBox at h
  simp [World.frozen?, h]
theorem LvlBox.other {w : World} {b : Nat} {g : Lvl} (h : LvlBox w b g) {a : Addr} (ha : b ≠ a.block) (v : Value) : LvlBox (w.setCell a v) b g := by
  unfold LvlBox at *
  rw [Below.heap_setCell _ _ _ _ ha]; exact h
theorem LvlBox.alloc {w : World} {b : Nat} {g : Lvl} (h : LvlBox w b g) (o : Obj) : LvlBox (w.alloc o) b g := by
  unfold LvlBox at *
  rw [Below.heap_alloc _ _ _ (Array.getElem?_eq_some_iff.1 h).1]; exact h
theorem LvlBox.lt {w : World} {b : Nat} {g : Lvl} (h : LvlBox w b g) : b < w.heap.size := (Array.getElem?_eq_some_iff.1 h).1
theorem LvlBox.below {w w' : World} {b B : Nat} {g : Lvl} (h : LvlBox w b g) (hb : Below B w w') (hB : b < B) : LvlBox w' b g := by
  unfold LvlBox at *
  rw [hb.block b hB]; exact h
theorem heap_setCell_at {w : World} {b o : Nat} {c : Array Value} {t : TypeId} {f : Nat × Nat} (h : w.heap[b]? = some (.cells c t f)) (v : Value) : (w.setCell ⟨b, o, none⟩ v).heap[b]? = some (.cells (c.setIfInBounds o v) t f) := by
  simp only [World.setCell, Array.getElem?_modify, if_true, h, Option.map_some]
  rfl
/-- all five cells stored -/
theorem LvlBox.stored {w : World} {b : Nat} {g : Lvl} (h : LvlBox w b g) (g' : Lvl) :
    LvlBox (((((w.setCell ⟨b, 0, none⟩ (.float .f64 g'.1)).setCell ⟨b, 1, none⟩ (.float .f64 g'.2.1)).setCell ⟨b, 2, none⟩ (.float .f64 g'.2.2.1)).setCell ⟨b, 3, none⟩ (.int .i64 g'.2.2.2.1)).setCell ⟨b, 4, none⟩ (.int .i64 g'.2.2.2.2)) b g' := by
  unfold LvlBox at *
  have h1 := heap_setCell_at (o := 0) h (.float .f64 g'.1)
  have h2 := heap_setCell_at (o := 1) h1 (.float .f64 g'.2.1)
  have h3 := heap_setCell_at (o := 2) h2 (.float .f64 g'.2.2.1)
  have h4 := heap_setCell_at (o := 3) h3 (.int .i64 g'.2.2.2.1)
  have h5 := heap_setCell_at (o := 4) h4 (.int .i64 g'.2.2.2.2)
  rw [h5]
  rfl

/-- five stores elsewhere -/
theorem LvlBox.other5 {w : World} {b c : Nat} {g : Lvl} (h : LvlBox w b g) (hne : b ≠ c) (v0 v1 v2 v3 v4 : Value) :
    LvlBox (((((w.setCell ⟨c, 0, none⟩ v0).setCell ⟨c, 1, none⟩ v1).setCell ⟨c, 2, none⟩ v2).setCell ⟨c, 3, none⟩ v3).setCell ⟨c, 4, none⟩ v4) b g :=
  ((((h.other hne _).other hne _).other hne _).other hne _).other hne _
theorem below5 {B c : Nat} {w wr : World} (h : Below B w wr) (hc : B ≤ c) (v0 v1 v2 v3 v4 : Value) :
    Below B w (((((wr.setCell ⟨c, 0, none⟩ v0).setCell ⟨c, 1, none⟩ v1).setCell ⟨c, 2, none⟩ v2).setCell ⟨c, 3, none⟩ v3).setCell ⟨c, 4, none⟩ v4) :=
  ((((h.setCell hc _).setCell hc _).setCell hc _).setCell hc _).setCell hc _

theorem past_yes {fl : Lvl} {least : Option Nat} {rg c0 : Nat} {w w' : World} (hrg : cn rg = growF (cn fl.2.2.1) least)
    (h : (FloatKind.f64.format.order (fval .quo (fval .mul rg c0 w) 4652007308841189376 w') 4617315517961601024 == some .gt) = true ∨ (FloatKind.f64.format.order (fval .quo (fval .mul rg c0 w) 4652007308841189376 w') 4617315517961601024 == some .eq) = true) : pastF fl least (cn c0) = true := by
  rw [ordF_eq, ordF_eq, cn_fval, cn_fval, hrg] at h
  unfold pastF; simp only; rw [Bool.or_eq_true]; exact h
theorem past_no {fl : Lvl} {least : Option Nat} {rg c0 : Nat} {w w' : World} (hrg : cn rg = growF (cn fl.2.2.1) least)
    (h : (FloatKind.f64.format.order (fval .quo (fval .mul rg c0 w) 4652007308841189376 w') 4617315517961601024 == some .gt) = false ∧ (FloatKind.f64.format.order (fval .quo (fval .mul rg c0 w) 4652007308841189376 w') 4617315517961601024 == some .eq) = false) : pastF fl least (cn c0) = false := by
  rw [ordF_eq, ordF_eq, cn_fval, cn_fval, hrg] at h
  unfold pastF; simp only; rw [Bool.or_eq_false_iff]; exact h
theorem apart_is {fl la : Lvl} {least : Option Nat} {fc fe tc te h : Nat} {w w' : World} {b : Bool} (h1 : cn fc = (lvlCap least fl).1) (h2 : cn fe = (lvlCap least fl).2) (h3 : cn tc = (lvlCap least la).1) (h4 : cn te = (lvlCap least la).2) (hh : cn h = hypF (cn fe) (cn te))
    (hb : (FloatKind.f64.format.order (fval .sub tc fc w) (fval .mul 4616189618054758400 h w') == some .gt) = b) : apartF fl la least = b := by
  rw [ordF_eq, cn_fval, cn_fval, hh, h1, h2, h3, h4] at hb
  exact hb

set_option maxHeartbeats 2000000 in
theorem bound_any {bs bl cl br bg cg : Nat} {l : List Smp} {gs : List Lvl} {least : Nat} {mp : Int} {w : World} (hs : SrvAt w bs bl cl br bg cg l gs least mp) (hl : l.length ≤ 1024) (hg : gs.length ≤ 1024) :
    Calls Yba.prog 9 #[.pointer (some ⟨bs, 0, none⟩)] w fun e w' =>
      ∃ r, e = .returned (.float .f64 r) ∧ cn r = boundF l gs (cn least) mp ∧ Below w.heap.size w w' := by
  by_cases hmp : 0 < mp
  · go_enter Yba.func9, Yba.ntmps9
    go_wp2_with (first
      | (go_at_call 28; refine (light_any hs).mono ?_; rintro e w' ⟨rfl, n, rfl⟩)
      | (go_at_call 10; refine (inf_any _).mono ?_; rintro e w' ⟨rfl, rfl⟩))
    go_ret
    exact ⟨_, rfl, by rw [boundF, if_pos hmp], below_drewN (Below.refl _ _) _⟩
  · have hmp' : mp ≤ 0 := by omega
    go_enter Yba.func9, Yba.ntmps9
    go_wp2_with (go_at_call 28; refine (light_any hs).mono ?_; rintro e w' ⟨rfl, n, rfl⟩)
    have hs0 : SrvAt (w.drewN n) bs bl cl br bg cg l gs least mp := hs.below (below_drewN (Below.refl _ _) _)
    refine (capacity_any hs0 hl).mono ?_
    rintro e w1 ⟨r, r', b, rfl, hb1, hw⟩
    have hB1 : Below w.heap.size w w1 := (below_drewN (Below.refl _ _) n).trans hb1
    have hs1 := hs.below hB1
    cases hwc : wcap l (cn least) with
    | none =>
      rw [hwc] at hw
      have hb : b = false := hw
      subst hb
      have HF : Hid (boundF l gs (cn least) mp = cn infB) := by
        show _ = _
        rw [boundF, if_neg (by omega), hwc]
      clear hw hwc
      go_wp2_with (go_at_call 10; refine (inf_any _).mono ?_; rintro e w' ⟨rfl, rfl⟩)
      go_ret
      exact ⟨_, rfl, HF.out.symm, hB1⟩
    | some y =>
      rw [hwc] at hw
      obtain ⟨hb, hy1, hy2⟩ := hw
      subst hb
      have hc0 : cn (fval .sub r (fval .mul 4609434218613702656 r' w1) (w1.drewN (fdr .mul 4609434218613702656 r'))) = opF .sub y.1 (opF .mul (cn 4609434218613702656) y.2) := by simp only [cn_fval, hy1, hy2]
      have HF : Hid (boundF l gs (cn least) mp = tailF gs (cn least) (opF .sub y.1 (opF .mul (cn 4609434218613702656) y.2))) := by
        show _ = _
        rw [boundF, if_neg (by omega), hwc]
      clear hwc hy1 hy2
      go_wp2_with fail
      generalize fval .sub r (fval .mul 4609434218613702656 r' w1) (w1.drewN (fdr .mul 4609434218613702656 r')) = c0 at *
      rw [← hc0] at HF
      clear hc0
      generalize fdr BinOp.mul 4609434218613702656 r' + fdr BinOp.sub r (fval BinOp.mul 4609434218613702656 r' w1) = nd at *
      have hB2 : Below w1.heap.size w1 (((w1.drewN nd).alloc (.cells #[.float .f64 0, .float .f64 0, .float .f64 0, .int .i64 0, .int .i64 0] 32)).alloc (.cells #[.float .f64 0, .float .f64 0, .float .f64 0, .int .i64 0, .int .i64 0] 32)) :=
        bel_alloc (bel_alloc (below_drewN (Below.refl _ _) _) _) _
      have hx0 : LvlBox (((w1.drewN nd).alloc (.cells #[.float .f64 0, .float .f64 0, .float .f64 0, .int .i64 0, .int .i64 0] 32)).alloc (.cells #[.float .f64 0, .float .f64 0, .float .f64 0, .int .i64 0, .int .i64 0] 32)) w1.heap.size zLvl := by
        refine LvlBox.alloc ?_ _
        exact heap_alloc_new (w1.drewN nd) _
      have hx1 : LvlBox (((w1.drewN nd).alloc (.cells #[.float .f64 0, .float .f64 0, .float .f64 0, .int .i64 0, .int .i64 0] 32)).alloc (.cells #[.float .f64 0, .float .f64 0, .float .f64 0, .int .i64 0, .int .i64 0] 32)) (w1.heap.size + 1) zLvl := by
        have := heap_alloc_new ((w1.drewN nd).alloc (.cells #[.float .f64 0, .float .f64 0, .float .f64 0, .int .i64 0, .int .i64 0] 32)) (.cells #[.float .f64 0, .float .f64 0, .float .f64 0, .int .i64 0, .int .i64 0] 32)
        rw [show w1.heap.size + 1 = ((w1.drewN nd).alloc (.cells #[.float .f64 0, .float .f64 0, .float .f64 0, .int .i64 0, .int .i64 0] 32)).heap.size from by simp]
        exact this
      refine (groups_any (hs1.below hB2)).mono ?_
      rintro e w' ⟨rfl, rfl⟩
      generalize ((w1.drewN nd).alloc (.cells #[.float .f64 0, .float .f64 0, .float .f64 0, .int .i64 0, .int .i64 0] 32)).alloc (.cells #[.float .f64 0, .float .f64 0, .float .f64 0, .int .i64 0, .int .i64 0] 32) = w2 at *
      clear hs hs0 hb1
      go_wp2_with fail
      go_loopw [10, 42] (fun u10 i wr => ∃ k : Nat, k ≤ gs.length ∧ i = .int .i64 k ∧ u10 = .bool (decide (okLvls (gs.take k) ≠ [])) ∧ LvlBox wr w1.heap.size (firstL (gs.take k)) ∧ LvlBox wr (w1.heap.size + 1) (lastL (gs.take k)) ∧ Below w1.heap.size w1 wr)
        (fun _ i _ => gs.length - (intOf i).toNat)
      case atStart => exact ⟨0, Nat.zero_le _, rfl, rfl, hx0, hx1, hB2⟩
      case round =>
        obtain ⟨k, hk, rfl, rfl, hf, ht, hnx⟩ := hrel
        clear hx0 hx1 hB2
        by_cases hlt : k < gs.length
        · obtain ⟨g, hgk⟩ : ∃ g, gs[k]? = some g := ⟨gs[k], by simp [hlt]⟩
          obtain ⟨h0, h1, h2, h3, h4⟩ := (hs1.lvl.below hnx) k g hgk
          have HT : Hid (gs.take (k + 1) = gs.take k ++ [g]) := take_snoc' hgk
          have hlt0 := hf.lt
          have hlt1 := ht.lt
          obtain ⟨f0, f1, f2, f3, f4⟩ := hf.cells
          obtain ⟨t0, t1, t2, t3, t4⟩ := ht.cells
          have fz := hf.frozen
          have tz := ht.frozen
          clear hs1 hgk
          by_cases h100 : 100 ≤ g.2.2.2.1
          · by_cases hok : okLvls (gs.take k) = []
            · have HOK : Hid (okLvls (gs.take k) = []) := hok
              have hd : decide (okLvls (gs.take k) ≠ []) = false := by simp [hok]
              rw [hd]
              clear hok hd
              go_wp2_with fail
              go_roundw
              case rel =>
                refine ⟨k + 1, by omega, by go_num, ?_, ?_, ?_, ?_⟩
                · rw [HT.out, ok_snoc_yes _ _ h100]; simp
                · rw [HT.out, first_snoc _ _ h100 HOK.out]
                  exact ((hf.stored g).other5 (by omega) _ _ _ _ _).alloc _
                · rw [HT.out, last_snoc _ _ h100]
                  exact ((ht.other5 (by omega) _ _ _ _ _).stored g).alloc _
                · exact bel_alloc (below5 (below5 hnx (Nat.le_refl _) _ _ _ _ _) (Nat.le_succ _) _ _ _ _ _) _
              case measure => simp [intOf]; omega
            · have HOK : Hid (okLvls (gs.take k) ≠ []) := hok
              have hd : decide (okLvls (gs.take k) ≠ []) = true := by simp [hok]
              rw [hd]
              clear hok hd
              go_wp2_with fail
              go_roundw
              case rel =>
                refine ⟨k + 1, by omega, by go_num, ?_, ?_, ?_, ?_⟩
                · rw [HT.out, ok_snoc_yes _ _ h100]; simp
                · rw [HT.out, first_keep _ _ HOK.out]
                  exact (hf.other5 (by omega) _ _ _ _ _).alloc _
                · rw [HT.out, last_snoc _ _ h100]
                  exact (ht.stored g).alloc _
                · exact bel_alloc (below5 hnx (Nat.le_succ _) _ _ _ _ _) _
              case measure => simp [intOf]; omega
          · have h100' : g.2.2.2.1 < 100 := by omega
            generalize hd : decide (okLvls (gs.take k) ≠ []) = fnd
            have HD : Hid (decide (okLvls (gs.take k) ≠ []) = fnd) := hd
            clear hd
            go_wp2_with fail
            go_roundw
            case rel =>
              refine ⟨k + 1, by omega, by go_num, ?_, ?_, ?_, ?_⟩
              · rw [HT.out, ok_snoc_no _ _ h100', HD.out]
              · rw [HT.out, (keep_no _ _ h100').1]; exact hf.alloc _
              · rw [HT.out, (keep_no _ _ h100').2]; exact ht.alloc _
              · exact bel_alloc hnx _
            case measure => simp [intOf]; omega
        · have hkl : k = gs.length := by omega
          subst hkl
          rw [List.take_length] at hf ht
          rw [List.take_length]
          have hB3 : Below w.heap.size w wr := hB1.trans (hnx.mono hB1.size)
          have hs2 := hs1.below hnx
          clear hs1 hnx hB1
          by_cases hok : okLvls gs = []
          · have hd : decide (okLvls gs ≠ []) = false := by simp [hok]
            rw [hd]
            have HT : Hid (tailF gs (cn least) (cn c0) = cn infB) := by
              show _ = _
              rw [tailF, if_pos hok]
            clear hd hok
            go_wp2_with (go_at_call 10; refine (inf_any _).mono ?_; rintro e w' ⟨rfl, rfl⟩)
            go_ret
            exact ⟨_, rfl, by rw [HF.out, HT.out], hB3⟩
          · have hd : decide (okLvls gs ≠ []) = true := by simp [hok]
            rw [hd]
            have HT : Hid (tailF gs (cn least) (cn c0) = if pastF (firstL gs) (cn least) (cn c0) then cn infB else if apartF (firstL gs) (lastL gs) (cn least) then cn infB else opF .mul (cn 4605087721298914852) (cn c0)) := by
              show _ = _
              rw [tailF, if_neg hok]
            clear hd hok
            generalize firstL gs = fl at *
            generalize lastL gs = la at *
            obtain ⟨f0, f1, f2, f3, f4⟩ := hf.cells
            obtain ⟨t0, t1, t2, t3, t4⟩ := ht.cells
            have hltf := hf.lt
            have hltt := ht.lt
            go_wp2_with (go_at_call 30; refine (least_any hs2).mono ?_; rintro e w' ⟨rfl, rfl⟩)
            refine (growth_any _ _ _ _ _ _ _).mono ?_
            rintro e w3 ⟨rg, rfl, hrg, hbg⟩
            have HRG : Hid (cn rg = growF (cn fl.2.2.1) (cn least)) := hrg
            have hf3 := hf.below hbg hltf
            have ht3 := ht.below hbg hltt
            have hB4 := hB3.trans (hbg.mono hB3.size)
            clear hrg hf ht f0 f1 f2 f3 f4 t0 t1 t2 t3 t4 hs2 hltf hltt hbg hB3
            obtain ⟨f0, f1, f2, f3, f4⟩ := hf3.cells
            obtain ⟨t0, t1, t2, t3, t4⟩ := ht3.cells
            have hltt := ht3.lt
            go_wp2_with fail
            · have hp := past_yes (c0 := c0) HRG.out ‹_›
              refine (inf_any _).mono ?_
              rintro e w' ⟨rfl, rfl⟩
              go_wp2_with fail
              go_ret
              exact ⟨_, rfl, by rw [HF.out, HT.out, if_pos hp], below_drewN hB4 _⟩
            · have hp := past_no (c0 := c0) HRG.out ‹_›
              have HP : Hid (pastF fl (cn least) (cn c0) = false) := hp
              clear hp
              refine (capAt_any _ _ _ _ _ _ _).mono ?_
              rintro e w4 ⟨fc, fe, rfl, hfc, hfe, hb4⟩
              have HFC : Hid (cn fc = (lvlCap (cn least) fl).1) := hfc
              have HFE : Hid (cn fe = (lvlCap (cn least) fl).2) := hfe
              have hb4' : Below w3.heap.size w3 w4 := (below_drewN (Below.refl _ _) _).trans hb4
              have ht4 := ht3.below hb4' hltt
              have hB5 := hB4.trans (hb4'.mono hB4.size)
              clear hfc hfe hf3 ht3 f0 f1 f2 f3 f4 t0 t1 t2 t3 t4 hB4
              obtain ⟨t0, t1, t2, t3, t4⟩ := ht4.cells
              go_wp2_with fail
              refine (capAt_any _ _ _ _ _ _ _).mono ?_
              rintro e w5 ⟨tc, te, rfl, htc, hte, hb5⟩
              have HTC : Hid (cn tc = (lvlCap (cn least) la).1) := htc
              have HTE : Hid (cn te = (lvlCap (cn least) la).2) := hte
              have hB6 := hB5.trans (hb5.mono hB5.size)
              clear htc hte t0 t1 t2 t3 t4
              go_wp2_with fail
              refine (hypot_any _ _ _).mono ?_
              rintro e w6 ⟨hy, nh, rfl, hhy, rfl⟩
              have HHY : Hid (cn hy = hypF (cn fe) (cn te)) := hhy
              clear hhy
              go_wp2_with fail
              · have ha := apart_is HFC.out HFE.out HTC.out HTE.out HHY.out ‹_›
                refine (inf_any _).mono ?_
                rintro e w' ⟨rfl, rfl⟩
                go_wp2_with fail
                go_ret
                exact ⟨_, rfl, by rw [HF.out, HT.out, HP.out, ha]; rfl, below_drewN hB6 _⟩
              · have ha := apart_is HFC.out HFE.out HTC.out HTE.out HHY.out ‹_›
                go_ret
                exact ⟨_, rfl, by rw [HF.out, HT.out, HP.out, ha, cn_fval]; rfl, below_drewN hB6 _⟩
end Go.Proofs.Ybulkahla

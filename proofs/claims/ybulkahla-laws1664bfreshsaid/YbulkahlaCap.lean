import Derived.Test.YbulkahlaRates
import Derived.Deep.DeepCutAuto
import Derived.Deep.CutBlock
namespace Go.Proofs.Ybulkahla
open Go.RowKit
set_option linter.unusedSimpArgs false
attribute [local go_sem] run_store_float call31 call42 call43
attribute [local go_sem ↓] run_fadd run_fsub run_fmul run_fquo run_fmax run_fmin run_fsqrt

section
variable {bs bl cl br bg cg : Nat} {l : List Smp} {gs : List Lvl} {least : Nat} {mp : Int}

theorem least_any {w : World} (hs : SrvAt w bs bl cl br bg cg l gs least mp) :
    Calls Yba.prog 30 #[.pointer (some ⟨bs, 0, none⟩)] w fun e w' => e = .returned (.float .f64 least) ∧ w' = w := by
  have h0 := hs.leastAt
  have h6 := hs.reading
  go_enter Yba.func30, Yba.ntmps30
  go_wp2_with (go_at_call 19; refine (read_held _ _ ⟨br, 0, none⟩ _ ?_).mono ?_; (simpa using h6); rintro e w' ⟨rfl, rfl⟩)
  go_ret
  exact ⟨rfl, rfl⟩

theorem groups_any {w : World} (hs : SrvAt w bs bl cl br bg cg l gs least mp) :
    Calls Yba.prog 29 #[.pointer (some ⟨bs, 0, none⟩)] w fun e w' => e = .returned (.slice (some ⟨bg, 0, none⟩) gs.length cg) ∧ w' = w := by
  have h0 := hs.groups
  have h6 := hs.reading
  go_enter Yba.func29, Yba.ntmps29
  go_wp2_with (go_at_call 19; refine (read_held _ _ ⟨br, 0, none⟩ _ ?_).mono ?_; (simpa using h6); rintro e w' ⟨rfl, rfl⟩)
  go_ret
  exact ⟨rfl, rfl⟩

theorem light_any {w : World} (hs : SrvAt w bs bl cl br bg cg l gs least mp) :
    Calls Yba.prog 28 #[.pointer (some ⟨bs, 0, none⟩)] w fun e w' => e = .returned (.tuple #[.float .f64 0, .int .i64 mp]) ∧ ∃ n, w' = w.drewN n := by
  have h3 := hs.msAt
  have h4 := hs.mpAt
  have h6 := hs.reading
  go_enter Yba.func28, Yba.ntmps28
  go_wp2_with (go_at_call 19; refine (read_held _ _ ⟨br, 0, none⟩ _ ?_).mono ?_; (simpa using h6); rintro e w' ⟨rfl, rfl⟩)
  go_quiet (fail)
  go_wp2_with fail
  go_ret2
  exact ⟨rfl, _, rfl⟩
end

/-! ### workerCapacity, as a plain function -/
abbrev F3 := Option Nat × Option Nat × Option Nat

def wcStep (least : Option Nat) (a : F3) (s : Smp) : F3 :=
  if ans s then (opF .add a.1 (opF .quo (opF .mul (fInt s.2.2.2) (growF (cn s.2.1) least)) (cn 4652007308841189376)), opF .add a.2.1 (fInt s.2.2.2), maxF a.2.2 (cn s.1)) else a
def wcF (least : Option Nat) (l : List Smp) : F3 := l.foldl (wcStep least) (cn 0, cn 0, cn 0)
theorem wc_snoc (least : Option Nat) (l : List Smp) (s : Smp) : wcF least (l ++ [s]) = wcStep least (wcF least l) s := by simp [wcF]


def nextF (sum info waited c lo up : Option Nat) : Option Nat :=
  if (ordF lo (opF .add c (opF .quo (opF .sub sum waited) info)) == some .lt) && (ordF (opF .add c (opF .quo (opF .sub sum waited) info)) up == some .lt)
    then opF .add c (opF .quo (opF .sub sum waited) info) else opF .quo (opF .add lo up) (cn 4611686018427387904)
def doneF (c next : Option Nat) : Bool :=
  ordF (absF (opF .sub next c)) (opF .mul (cn 4427486594234968593) c) == some .lt || ordF (absF (opF .sub next c)) (opF .mul (cn 4427486594234968593) c) == some .eq
/-- what the search for the capacity comes to, with so many steps left -/
def capLoop (l : List Smp) (waited : Option Nat) : Nat → Option Nat → Option Nat → Option Nat → Option Nat
  | 0, c, _, _ => c
  | n + 1, c, lo, up =>
    if (ordF (ratesF c l).1 waited == some .gt) = true then
      (if doneF c (nextF (ratesF c l).1 (ratesF c l).2 waited c c up) then c else capLoop l waited n (nextF (ratesF c l).1 (ratesF c l).2 waited c c up) c up)
    else
      (if doneF c (nextF (ratesF c l).1 (ratesF c l).2 waited c lo c) then c else capLoop l waited n (nextF (ratesF c l).1 (ratesF c l).2 waited c lo c) lo c)

def capOf (l : List Smp) (a : F3) : Option Nat := capLoop l a.1 100 (opF .add a.2.2 (opF .quo a.2.1 a.1)) a.2.2 (opF .add a.2.2 (opF .quo a.2.1 a.1))
/-- workerCapacity: the capacity and its standard error, none where it reports false -/
def wcap (l : List Smp) (least : Option Nat) : Option (Option Nat × Option Nat) :=
  if (ordF (wcF least l).2.1 (cn 0) == some .eq) = true then none
  else some (capOf l (wcF least l), opF .quo (cn 4607182418800017408) (sqrtF (ratesF (capOf l (wcF least l)) l).2))

def wcSays (x : Option (Option Nat × Option Nat)) (r r' : Nat) (b : Bool) : Prop :=
  match x with
  | none => b = false
  | some y => b = true ∧ cn r = y.1 ∧ cn r' = y.2

theorem ordF_eq (x y : Nat) (o : Ordering) : (FloatKind.f64.format.order x y == some o) = (ordF (cn x) (cn y) == some o) := by rw [order_cn]

theorem capLoop_succ (l : List Smp) (waited c lo up : Option Nat) (n : Nat) : capLoop l waited (n + 1) c lo up =
    if (ordF (ratesF c l).1 waited == some .gt) = true then
      (if doneF c (nextF (ratesF c l).1 (ratesF c l).2 waited c c up) then c else capLoop l waited n (nextF (ratesF c l).1 (ratesF c l).2 waited c c up) c up)
    else
      (if doneF c (nextF (ratesF c l).1 (ratesF c l).2 waited c lo c) then c else capLoop l waited n (nextF (ratesF c l).1 (ratesF c l).2 waited c lo c) lo c) := rfl

theorem cap_gt_done {l : List Smp} {w c lo up CC nx : Option Nat} {n : Nat} (h : capLoop l w (n + 1) c lo up = CC) (hg : (ordF (ratesF c l).1 w == some .gt) = true) (hn : nextF (ratesF c l).1 (ratesF c l).2 w c c up = nx) (hd : doneF c nx = true) : c = CC := by
  rw [capLoop_succ, if_pos hg, hn, if_pos hd] at h; exact h
theorem cap_gt_go {l : List Smp} {w c lo up CC nx : Option Nat} {n : Nat} (h : capLoop l w (n + 1) c lo up = CC) (hg : (ordF (ratesF c l).1 w == some .gt) = true) (hn : nextF (ratesF c l).1 (ratesF c l).2 w c c up = nx) (hd : doneF c nx = false) : capLoop l w n nx c up = CC := by
  rw [capLoop_succ, if_pos hg, hn, if_neg (by rw [hd]; exact Bool.false_ne_true)] at h; exact h
theorem cap_le_done {l : List Smp} {w c lo up CC nx : Option Nat} {n : Nat} (h : capLoop l w (n + 1) c lo up = CC) (hg : (ordF (ratesF c l).1 w == some .gt) = false) (hn : nextF (ratesF c l).1 (ratesF c l).2 w c lo c = nx) (hd : doneF c nx = true) : c = CC := by
  rw [capLoop_succ, if_neg (by rw [hg]; exact Bool.false_ne_true), hn, if_pos hd] at h; exact h
theorem cap_le_go {l : List Smp} {w c lo up CC nx : Option Nat} {n : Nat} (h : capLoop l w (n + 1) c lo up = CC) (hg : (ordF (ratesF c l).1 w == some .gt) = false) (hn : nextF (ratesF c l).1 (ratesF c l).2 w c lo c = nx) (hd : doneF c nx = false) : capLoop l w n nx lo c = CC := by
  rw [capLoop_succ, if_neg (by rw [hg]; exact Bool.false_ne_true), hn, if_neg (by rw [hd]; exact Bool.false_ne_true)] at h; exact h
theorem next_yes {s i w c lo up nx : Option Nat} (hnx : nx = opF .add c (opF .quo (opF .sub s w) i)) (h1 : (ordF lo nx == some .lt) = true) (h2 : (ordF nx up == some .lt) = true) : nextF s i w c lo up = nx := by
  unfold nextF; rw [← hnx, h1, h2]; rfl
theorem next_no2 {s i w c lo up nx : Option Nat} (hnx : nx = opF .add c (opF .quo (opF .sub s w) i)) (h1 : (ordF lo nx == some .lt) = true) (h2 : (ordF nx up == some .lt) = false) : nextF s i w c lo up = opF .quo (opF .add lo up) (cn 4611686018427387904) := by
  unfold nextF; rw [← hnx, h1, h2]; rfl
theorem next_no1 {s i w c lo up nx : Option Nat} (hnx : nx = opF .add c (opF .quo (opF .sub s w) i)) (h1 : (ordF lo nx == some .lt) = false) : nextF s i w c lo up = opF .quo (opF .add lo up) (cn 4611686018427387904) := by
  unfold nextF; rw [← hnx, h1]; rfl
theorem done_yes {x nx : Nat} {w w' : World} (h : (FloatKind.f64.format.order (fabs (fval .sub nx x w)) (fval .mul 4427486594234968593 x w') == some .lt) = true ∨ (FloatKind.f64.format.order (fabs (fval .sub nx x w)) (fval .mul 4427486594234968593 x w') == some .eq) = true) : doneF (cn x) (cn nx) = true := by
  rw [ordF_eq, ordF_eq, cn_fabs, cn_fval, cn_fval] at h
  unfold doneF; rw [Bool.or_eq_true]; exact h
theorem done_no {x nx : Nat} {w w' : World} (h : (FloatKind.f64.format.order (fabs (fval .sub nx x w)) (fval .mul 4427486594234968593 x w') == some .lt) = false ∧ (FloatKind.f64.format.order (fabs (fval .sub nx x w)) (fval .mul 4427486594234968593 x w') == some .eq) = false) : doneF (cn x) (cn nx) = false := by
  rw [ordF_eq, ordF_eq, cn_fabs, cn_fval, cn_fval] at h
  unfold doneF; rw [Bool.or_eq_false_iff]; exact h

set_option maxHeartbeats 2000000 in
theorem capacity_any {bs bl cl br bg cg : Nat} {l : List Smp} {gs : List Lvl} {least : Nat} {mp : Int} {w : World} (hs : SrvAt w bs bl cl br bg cg l gs least mp) (hl : l.length ≤ 1024) :
    Calls Yba.prog 11 #[.pointer (some ⟨bs, 0, none⟩)] w fun e w' =>
      ∃ r r' b, e = .returned (.tuple #[.float .f64 r, .float .f64 r', .bool b]) ∧ Below w.heap.size w w' ∧ wcSays (wcap l (cn least)) r r' b := by
  have hB1 : Below w.heap.size w (w.alloc (.cells #[.pointer (some ⟨bs, 0, none⟩)] 25)) := bel_alloc (Below.refl _ _) _
  have hs1 := hs.below hB1
  have hbx : (w.alloc (.cells #[.pointer (some ⟨bs, 0, none⟩)] 25)).cell? ⟨w.heap.size, 0, none⟩ = some (.pointer (some ⟨bs, 0, none⟩)) := by simp [go_sem]
  have h5 := hs1.samples
  go_enter Yba.func11, Yba.ntmps11
  go_wp2_with (go_at_call 30; refine (least_any hs1).mono ?_; rintro e w' ⟨rfl, rfl⟩)
  generalize hw1 : w.alloc (.cells #[.pointer (some ⟨bs, 0, none⟩)] 25) = w1 at *
  go_loopw [6, 7, 8, 26] (fun u6 u7 u8 i wr => ∃ (k a b c : Nat), k ≤ l.length ∧ i = .int .i64 k ∧ u6 = .float .f64 a ∧ u7 = .float .f64 b ∧ u8 = .float .f64 c ∧
      (cn a, cn b, cn c) = wcF (cn least) (l.take k) ∧ Below w1.heap.size w1 wr)
    (fun _ _ _ i _ => l.length - (intOf i).toNat)
  case atStart => exact ⟨0, 0, 0, 0, Nat.zero_le _, rfl, rfl, rfl, rfl, rfl, Below.refl _ _⟩
  case round =>
    obtain ⟨k, a, b, c, hk, rfl, rfl, rfl, rfl, hr, hnx⟩ := hrel
    have HR : Hid ((cn a, cn b, cn c) = wcF (cn least) (l.take k)) := hr
    have hsz := hnx.size
    clear hr h5 hw1
    by_cases hlt : k < l.length
    · obtain ⟨s, hsk⟩ : ∃ s, l[k]? = some s := ⟨l[k], by simp [hlt]⟩
      obtain ⟨h0, h1, h2, h3, h4, h5, h6, h7, h8⟩ := (hs1.smp.below hnx) k s hsk
      have HT : Hid (wcF (cn least) (l.take (k + 1)) = wcStep (cn least) (cn a, cn b, cn c) s) := by
        show _ = _
        rw [take_snoc' hsk, wc_snoc, HR.out]
      clear hs hs1 hB1 hsk
      cases ha : ans s with
      | true =>
        have HA : Hid (ans s = true) := ha
        go_upto_region 7 with (go_at_call 32; refine (answered_any s _).mono ?_; rintro e w' ⟨rfl, rfl⟩)
        go_cut [6] (fun u6 wc => ∃ r n, u6 = .float .f64 r ∧ cn r = opF .add (cn a) (opF .quo (opF .mul (fInt s.2.2.2) (growF (cn s.2.1) (cn least))) (cn 4652007308841189376)) ∧
          wc = ((wr.alloc (.cells #[.float .f64 s.1, .float .f64 s.2.1, .float .f64 0, .float .f64 s.2.2.1, .int .i64 s.2.2.2, .int .i64 0, .bool false, .float .f64 0, .float .f64 0] 42)).alloc (.cells #[.float .f64 s.1, .float .f64 s.2.1, .float .f64 0, .float .f64 s.2.2.1, .int .i64 s.2.2.2, .int .i64 0, .bool false, .float .f64 0, .float .f64 0] 42)).drewN n)
        case first =>
          go_region_with (go_at_call 33; refine (fixed_any _ _ _).mono ?_; rintro e w' ⟨r, n, rfl, hr, rfl⟩)
          all_goals
            go_wp2_with fail
            go_meet
            case rel => exact ⟨_, _, rfl, by simp only [cn_fval, growF, hr], rfl⟩
        case rest =>
          obtain ⟨r, n, rfl, hr, rfl⟩ := hcut
          go_wp2_with fail
          go_roundw
          case rel => exact ⟨k + 1, _, _, _, by omega, by go_num, rfl, rfl, rfl, by rw [HT.out]; simp only [wcStep, HA.out, if_true, cn_fval, cn_fmaxv, hr], by repeat (first | exact hnx | refine below_drewN ?_ _ | refine bel_alloc ?_ _)⟩
          case measure => simp [intOf]; omega
      | false =>
        have HA : Hid (ans s = false) := ha
        go_wp2_with (go_at_call 32; refine (answered_any s _).mono ?_; rintro e w' ⟨rfl, rfl⟩)
        go_roundw
        case rel => exact ⟨k + 1, _, _, _, by omega, by go_num, rfl, rfl, rfl, by rw [HT.out]; simp only [wcStep, HA.out, Bool.false_eq_true, if_false], by repeat (first | exact hnx | refine below_drewN ?_ _ | refine bel_alloc ?_ _)⟩
        case measure => simp [intOf]; omega
    · obtain ⟨w2, rfl⟩ : ∃ w2, w2 = wr := ⟨wr, rfl⟩
      have hkl : k = l.length := by omega
      subst hkl
      rw [List.take_length] at HR
      have hs2 := hs1.below hnx
      have hbx2 : w2.cell? ⟨w.heap.size, 0, none⟩ = some (.pointer (some ⟨bs, 0, none⟩)) := cell_kept hnx hbx
      have hB2 : Below w.heap.size w w2 := hB1.trans (hnx.mono hB1.size)
      clear hs hs1 hnx hbx hB1
      cases hz : (FloatKind.f64.format.order b 0 == some .eq) with
      | true =>
        have HZ : Hid ((FloatKind.f64.format.order b 0 == some .eq) = true) := hz
        go_wp2_with fail
        go_ret3
        refine ⟨_, _, _, rfl, hB2, ?_⟩
        have hz' := HZ.out
        rw [ordF_eq, show cn b = (wcF (cn least) l).2.1 from by rw [← HR.out]] at hz'
        simp only [wcap, hz', if_true, wcSays]
      | false =>
        have HZ : Hid ((FloatKind.f64.format.order b 0 == some .eq) = false) := hz
        have hc0 : cn (fval BinOp.add c (fval BinOp.quo b a w2) (w2.drewN (fdr BinOp.quo b a))) = opF .add (cn c) (opF .quo (cn b) (cn a)) := by simp only [cn_fval]
        go_upto_block 2 with fail
        generalize fval BinOp.add c (fval BinOp.quo b a w2) (w2.drewN (fdr BinOp.quo b a)) = c0 at *
        generalize fdr BinOp.quo b a + fdr BinOp.add c (fval BinOp.quo b a w2) = nd at *
        have HC0 : Hid (capLoop l (cn a) 100 (cn c0) (cn c) (cn c0) = capOf l (wcF (cn least) l)) := by
          show _ = _
          rw [capOf, ← HR.out, hc0]
        clear hc0
        go_cut [2] (fun u2 wc => ∃ x, u2 = .float .f64 x ∧ cn x = capOf l (wcF (cn least) l) ∧ Below w2.heap.size w2 wc)
        case rest =>
          obtain ⟨x, rfl, hx, hnc⟩ := hcut
          have HX : Hid (cn x = capOf l (wcF (cn least) l)) := hx
          clear hx
          have hB3 : Below w.heap.size w wc := hB2.trans (hnc.mono hB2.size)
          go_wp2_with fail
          refine (rates_any x w.heap.size bs bl cl br bg cg l gs least mp _ ?_ ?_ hl).mono ?_
          · exact cell_kept hnc hbx2
          · exact hs2.below hnc
          rintro e w3 ⟨r, r', rfl, hr, hr', hb3⟩
          have hB4 : Below w.heap.size w w3 := hB3.trans (hb3.mono hB3.size)
          go_wp2_with (go_at_call 36; refine (sqrt_any _ _).mono ?_; rintro e w' ⟨rfl, rfl⟩)
          go_ret3
          refine ⟨_, _, _, rfl, below_drewN hB4 _, ?_⟩
          have hz' := HZ.out
          rw [ordF_eq, show cn b = (wcF (cn least) l).2.1 from by rw [← HR.out]] at hz'
          simp only [wcap, hz', Bool.false_eq_true, if_false, wcSays, cn_fval, cn_fsqrt, hr', HX.out, true_and]
        case first =>
          go_wp2_with fail
          go_loopg [2, 12, 13, 69] 100 (fun n u2 u12 u13 i wq => ∃ (k x lo up : Nat), k + n = 100 ∧ i = .int .i64 k ∧ u2 = .float .f64 x ∧ u12 = .float .f64 lo ∧ u13 = .float .f64 up ∧
            capLoop l (cn a) n (cn x) (cn lo) (cn up) = capOf l (wcF (cn least) l) ∧ Below w2.heap.size w2 wq)
          case atStart => exact ⟨0, _, _, _, rfl, rfl, rfl, rfl, rfl, HC0.out, below_drewN (Below.refl _ _) _⟩
          case round =>
            obtain ⟨k, x, lo, up, hk, rfl, rfl, rfl, rfl, hcl, hnq⟩ := hrel
            cases gk with
            | zero =>
              have HCL : Hid (cn x = capOf l (wcF (cn least) l)) := hcl
              clear hcl
              go_wp2_with fail
              go_meet
              case rel => exact ⟨x, rfl, HCL.out, hnq⟩
            | succ n =>
              have HCL : Hid (capLoop l (cn a) (n + 1) (cn x) (cn lo) (cn up) = capOf l (wcF (cn least) l)) := hcl
              clear hcl
              go_wp2_with fail
              refine (rates_any x w.heap.size bs bl cl br bg cg l gs least mp _ ?_ ?_ hl).mono ?_
              · exact cell_kept hnq hbx2
              · exact hs2.below hnq
              rintro e w3 ⟨r, r', rfl, hr, hr', hb3⟩
              have hnq3 : Below w2.heap.size w2 w3 := hnq.trans (hb3.mono hnq.size)
              have HR1 : Hid (cn r = (ratesF (cn x) l).1) := hr
              have HR2 : Hid (cn r' = (ratesF (cn x) l).2) := hr'
              clear hr hr' hb3 hnq
              cases hg : (FloatKind.f64.format.order r a == some .gt) with
              | true =>
                have HG : Hid ((ordF (ratesF (cn x) l).1 (cn a) == some .gt) = true) := by
                  show _ = _
                  rw [← HR1.out, ← ordF_eq]; exact hg
                go_upto_region 22 with fail
                go_cut [16] (fun u16 wc => ∃ nx n, u16 = .float .f64 nx ∧ cn nx = opF .add (cn x) (opF .quo (opF .sub (cn r) (cn a)) (cn r')) ∧ wc = w3.drewN n)
                case first =>
                  go_wp2_with fail
                  go_meet
                  case rel => exact ⟨_, _, rfl, by simp only [cn_fval], rfl⟩
                case rest =>
                  obtain ⟨nx, n1, rfl, hnx, rfl⟩ := hcut
                  have HN : Hid (cn nx = opF .add (cn x) (opF .quo (opF .sub (ratesF (cn x) l).1 (cn a)) (ratesF (cn x) l).2)) := by
                    show _ = _
                    rw [← HR1.out, ← HR2.out]; exact hnx
                  clear hnx hg
                  cases h1 : (FloatKind.f64.format.order x nx == some .lt) with
                  | true =>
                    have H1 : Hid ((ordF (cn x) (cn nx) == some .lt) = true) := by
                      show _ = _
                      rw [← ordF_eq]; exact h1
                    cases h2 : (FloatKind.f64.format.order nx up == some .lt) with
                    | true =>
                      have H2 : Hid ((ordF (cn nx) (cn up) == some .lt) = true) := by
                        show _ = _
                        rw [← ordF_eq]; exact h2
                      go_wp2_with (go_at_call 35; refine (abs_any _ _).mono ?_; rintro e w' ⟨rfl, rfl⟩)
                      · go_meet
                        case rel => exact ⟨x, rfl, cap_gt_done HCL.out HG.out (next_yes HN.out H1.out H2.out) (done_yes ‹_›), below_drewN hnq3 _⟩
                      · go_roundg n
                        case measure => omega
                        case rel => exact ⟨k + 1, _, _, _, by omega, by go_num, rfl, rfl, rfl, cap_gt_go HCL.out HG.out (next_yes HN.out H1.out H2.out) (done_no ‹_›), below_drewN hnq3 _⟩
                    | false =>
                      have H2 : Hid ((ordF (cn nx) (cn up) == some .lt) = false) := by
                        show _ = _
                        rw [← ordF_eq]; exact h2
                      go_wp2_with (go_at_call 35; refine (abs_any _ _).mono ?_; rintro e w' ⟨rfl, rfl⟩)
                      · go_meet
                        case rel =>
                          have hd := done_yes (x := x) ‹_›
                          exact ⟨x, rfl, cap_gt_done HCL.out HG.out ((next_no2 HN.out H1.out H2.out).trans (by simp only [cn_fval])) hd, below_drewN hnq3 _⟩
                      · go_roundg n
                        case measure => omega
                        case rel => exact ⟨k + 1, _, _, _, by omega, by go_num, rfl, rfl, rfl, cap_gt_go HCL.out HG.out ((next_no2 HN.out H1.out H2.out).trans (by simp only [cn_fval])) (done_no ‹_›), below_drewN hnq3 _⟩
                  | false =>
                    have H1 : Hid ((ordF (cn x) (cn nx) == some .lt) = false) := by
                      show _ = _
                      rw [← ordF_eq]; exact h1
                    go_wp2_with (go_at_call 35; refine (abs_any _ _).mono ?_; rintro e w' ⟨rfl, rfl⟩)
                    · go_meet
                      case rel =>
                        have hd := done_yes (x := x) ‹_›
                        exact ⟨x, rfl, cap_gt_done HCL.out HG.out ((next_no1 HN.out H1.out).trans (by simp only [cn_fval])) hd, below_drewN hnq3 _⟩
                    · go_roundg n
                      case measure => omega
                      case rel => exact ⟨k + 1, _, _, _, by omega, by go_num, rfl, rfl, rfl, cap_gt_go HCL.out HG.out ((next_no1 HN.out H1.out).trans (by simp only [cn_fval])) (done_no ‹_›), below_drewN hnq3 _⟩
              | false =>
                have HG : Hid ((ordF (ratesF (cn x) l).1 (cn a) == some .gt) = false) := by
                  show _ = _
                  rw [← HR1.out, ← ordF_eq]; exact hg
                go_upto_region 22 with fail
                go_cut [16] (fun u16 wc => ∃ nx n, u16 = .float .f64 nx ∧ cn nx = opF .add (cn x) (opF .quo (opF .sub (cn r) (cn a)) (cn r')) ∧ wc = w3.drewN n)
                case first =>
                  go_wp2_with fail
                  go_meet
                  case rel => exact ⟨_, _, rfl, by simp only [cn_fval], rfl⟩
                case rest =>
                  obtain ⟨nx, n1, rfl, hnx, rfl⟩ := hcut
                  have HN : Hid (cn nx = opF .add (cn x) (opF .quo (opF .sub (ratesF (cn x) l).1 (cn a)) (ratesF (cn x) l).2)) := by
                    show _ = _
                    rw [← HR1.out, ← HR2.out]; exact hnx
                  clear hnx hg
                  cases h1 : (FloatKind.f64.format.order lo nx == some .lt) with
                  | true =>
                    have H1 : Hid ((ordF (cn lo) (cn nx) == some .lt) = true) := by
                      show _ = _
                      rw [← ordF_eq]; exact h1
                    cases h2 : (FloatKind.f64.format.order nx x == some .lt) with
                    | true =>
                      have H2 : Hid ((ordF (cn nx) (cn x) == some .lt) = true) := by
                        show _ = _
                        rw [← ordF_eq]; exact h2
                      go_wp2_with (go_at_call 35; refine (abs_any _ _).mono ?_; rintro e w' ⟨rfl, rfl⟩)
                      · go_meet
                        case rel => exact ⟨x, rfl, cap_le_done HCL.out HG.out (next_yes HN.out H1.out H2.out) (done_yes ‹_›), below_drewN hnq3 _⟩
                      · go_roundg n
                        case measure => omega
                        case rel => exact ⟨k + 1, _, _, _, by omega, by go_num, rfl, rfl, rfl, cap_le_go HCL.out HG.out (next_yes HN.out H1.out H2.out) (done_no ‹_›), below_drewN hnq3 _⟩
                    | false =>
                      have H2 : Hid ((ordF (cn nx) (cn x) == some .lt) = false) := by
                        show _ = _
                        rw [← ordF_eq]; exact h2
                      go_wp2_with (go_at_call 35; refine (abs_any _ _).mono ?_; rintro e w' ⟨rfl, rfl⟩)
                      · go_meet
                        case rel =>
                          have hd := done_yes (x := x) ‹_›
                          exact ⟨x, rfl, cap_le_done HCL.out HG.out ((next_no2 HN.out H1.out H2.out).trans (by simp only [cn_fval])) hd, below_drewN hnq3 _⟩
                      · go_roundg n
                        case measure => omega
                        case rel => exact ⟨k + 1, _, _, _, by omega, by go_num, rfl, rfl, rfl, cap_le_go HCL.out HG.out ((next_no2 HN.out H1.out H2.out).trans (by simp only [cn_fval])) (done_no ‹_›), below_drewN hnq3 _⟩
                  | false =>
                    have H1 : Hid ((ordF (cn lo) (cn nx) == some .lt) = false) := by
                      show _ = _
                      rw [← ordF_eq]; exact h1
                    go_wp2_with (go_at_call 35; refine (abs_any _ _).mono ?_; rintro e w' ⟨rfl, rfl⟩)
                    · go_meet
                      case rel =>
                        have hd := done_yes (x := x) ‹_›
                        exact ⟨x, rfl, cap_le_done HCL.out HG.out ((next_no1 HN.out H1.out).trans (by simp only [cn_fval])) hd, below_drewN hnq3 _⟩
                    · go_roundg n
                      case measure => omega
                      case rel => exact ⟨k + 1, _, _, _, by omega, by go_num, rfl, rfl, rfl, cap_le_go HCL.out HG.out ((next_no1 HN.out H1.out).trans (by simp only [cn_fval])) (done_no ‹_›), below_drewN hnq3 _⟩
end Go.Proofs.Ybulkahla

import Derived.Test.YbulkahlaGroups
import Derived.Test.YbulkahlaMean
namespace Go.Proofs.Ybulkahla
open Go.RowKit
set_option linter.unusedSimpArgs false
attribute [local go_sem] run_store_float call31 call42 call43
attribute [local go_sem ↓] run_fadd run_fsub run_fmul run_fquo run_fmax run_fmin run_fsqrt

/-! what a reading holds, as plain functions of the samples -/
def rdLeast (a : Nat) (s : Smp) : Nat := if ans s then (if (FloatKind.f64.format.order a 0 == some .eq) || (FloatKind.f64.format.order s.2.2.1 a == some .lt) then s.2.2.1 else a) else a
def leastR (l : List Smp) : Nat := l.foldl rdLeast 0
def rdLarg (a : Option Nat) (s : Smp) : Option Nat := if ans s then maxF a (cn s.1) else a
def largF (l : List Smp) : Option Nat := l.foldl rdLarg (cn 0)
def rdTo (a : Option Nat) (s : Smp) : Option Nat := if ans s then a else minF a (cn s.1)
def toF (l : List Smp) : Option Nat := l.foldl rdTo (cn infB)
theorem leastR_snoc (l : List Smp) (s : Smp) : leastR (l ++ [s]) = rdLeast (leastR l) s := by simp [leastR]
theorem largF_snoc (l : List Smp) (s : Smp) : largF (l ++ [s]) = rdLarg (largF l) s := by simp [largF]
theorem toF_snoc (l : List Smp) (s : Smp) : toF (l ++ [s]) = rdTo (toF l) s := by simp [toF]

/-- the eight cells of a reading -/
def rdFn (a b c d : Nat) (e : Int) (g v : Value) (j : Nat) : Value := [.float .f64 a, .float .f64 b, .float .f64 c, .float .f64 d, .int .i64 e, g, v, .pointer none].getD j (.pointer none)

theorem rd_set0 {w : World} {br a b c d : Nat} {e : Int} {g v : Value} (h : Row w br 8 36 (rdFn a b c d e g v)) (a' : Nat) : Row (w.setCell ⟨br, 0, none⟩ (.float .f64 a')) br 8 36 (rdFn a' b c d e g v) :=
  (h.set (k := 0) _).congr fun i hi => by match i, hi with | 0, _ | 1, _ | 2, _ | 3, _ | 4, _ | 5, _ | 6, _ | 7, _ => rfl
theorem rd_set1 {w : World} {br a b c d : Nat} {e : Int} {g v : Value} (h : Row w br 8 36 (rdFn a b c d e g v)) (a' : Nat) : Row (w.setCell ⟨br, 1, none⟩ (.float .f64 a')) br 8 36 (rdFn a a' c d e g v) :=
  (h.set (k := 1) _).congr fun i hi => by match i, hi with | 0, _ | 1, _ | 2, _ | 3, _ | 4, _ | 5, _ | 6, _ | 7, _ => rfl
theorem rd_set2 {w : World} {br a b c d : Nat} {e : Int} {g v : Value} (h : Row w br 8 36 (rdFn a b c d e g v)) (a' : Nat) : Row (w.setCell ⟨br, 2, none⟩ (.float .f64 a')) br 8 36 (rdFn a b a' d e g v) :=
  (h.set (k := 2) _).congr fun i hi => by match i, hi with | 0, _ | 1, _ | 2, _ | 3, _ | 4, _ | 5, _ | 6, _ | 7, _ => rfl
theorem rd_set3 {w : World} {br a b c d : Nat} {e : Int} {g v : Value} (h : Row w br 8 36 (rdFn a b c d e g v)) (a' : Nat) : Row (w.setCell ⟨br, 3, none⟩ (.float .f64 a')) br 8 36 (rdFn a b c a' e g v) :=
  (h.set (k := 3) _).congr fun i hi => by match i, hi with | 0, _ | 1, _ | 2, _ | 3, _ | 4, _ | 5, _ | 6, _ | 7, _ => rfl
theorem rd_set4 {w : World} {br a b c d : Nat} {e : Int} {g v : Value} (h : Row w br 8 36 (rdFn a b c d e g v)) (a' : Int) : Row (w.setCell ⟨br, 4, none⟩ (.int .i64 a')) br 8 36 (rdFn a b c d a' g v) :=
  (h.set (k := 4) _).congr fun i hi => by match i, hi with | 0, _ | 1, _ | 2, _ | 3, _ | 4, _ | 5, _ | 6, _ | 7, _ => rfl
theorem rd_set5 {w : World} {br a b c d : Nat} {e : Int} {g v : Value} (h : Row w br 8 36 (rdFn a b c d e g v)) (a' : Value) : Row (w.setCell ⟨br, 5, none⟩ a') br 8 36 (rdFn a b c d e a' v) :=
  (h.set (k := 5) _).congr fun i hi => by match i, hi with | 0, _ | 1, _ | 2, _ | 3, _ | 4, _ | 5, _ | 6, _ | 7, _ => rfl
theorem rd_set6 {w : World} {br a b c d : Nat} {e : Int} {g v : Value} (h : Row w br 8 36 (rdFn a b c d e g v)) (a' : Value) : Row (w.setCell ⟨br, 6, none⟩ a') br 8 36 (rdFn a b c d e g a') :=
  (h.set (k := 6) _).congr fun i hi => by match i, hi with | 0, _ | 1, _ | 2, _ | 3, _ | 4, _ | 5, _ | 6, _ | 7, _ => rfl

/-- a reading under its box: the reading in block B, the box in block B + 1 -/
structure RdAt (w0 w : World) (B : Nat) (a b c d : Nat) (e : Int) (g v : Value) : Prop where
  row : Row w B 8 36 (rdFn a b c d e g v)
  box : w.cell? ⟨B + 1, 0, none⟩ = some (.pointer (some ⟨B, 0, none⟩))
  bel : Below B w0 w

section
variable {w0 w w' : World} {B a b c d : Nat} {e : Int} {g v : Value}
theorem RdAt.lt (h : RdAt w0 w B a b c d e g v) : B + 1 < w.heap.size := World.block_lt_of_cell? w _ h.box
theorem RdAt.kept (h : RdAt w0 w B a b c d e g v) (hb : Below w.heap.size w w') : RdAt w0 w' B a b c d e g v :=
  ⟨h.row.below hb (by have := h.lt; omega), cell_kept hb h.box, h.bel.trans (hb.mono (by have := h.lt; omega))⟩
theorem RdAt.alloc (h : RdAt w0 w B a b c d e g v) (o : Obj) : RdAt w0 (w.alloc o) B a b c d e g v := h.kept (bel_alloc (Below.refl _ _) _)
theorem RdAt.drewN (h : RdAt w0 w B a b c d e g v) (m : Nat) : RdAt w0 (w.drewN m) B a b c d e g v := ⟨h.row, h.box, below_drewN h.bel m⟩
theorem RdAt.box' (h : RdAt w0 w B a b c d e g v) (o : Nat) (u : Value) : (w.setCell ⟨B, o, none⟩ u).cell? ⟨B + 1, 0, none⟩ = some (.pointer (some ⟨B, 0, none⟩)) := by
  rw [World.cell?_of_block (heap_set_other _ _ _ (by simp))]; exact h.box
theorem RdAt.set0 (h : RdAt w0 w B a b c d e g v) (x : Nat) : RdAt w0 (w.setCell ⟨B, 0, none⟩ (.float .f64 x)) B x b c d e g v := ⟨rd_set0 h.row x, h.box' _ _, h.bel.setCell (Nat.le_refl _) _⟩
theorem RdAt.set1 (h : RdAt w0 w B a b c d e g v) (x : Nat) : RdAt w0 (w.setCell ⟨B, 1, none⟩ (.float .f64 x)) B a x c d e g v := ⟨rd_set1 h.row x, h.box' _ _, h.bel.setCell (Nat.le_refl _) _⟩
theorem RdAt.set2 (h : RdAt w0 w B a b c d e g v) (x : Nat) : RdAt w0 (w.setCell ⟨B, 2, none⟩ (.float .f64 x)) B a b x d e g v := ⟨rd_set2 h.row x, h.box' _ _, h.bel.setCell (Nat.le_refl _) _⟩
theorem RdAt.set3 (h : RdAt w0 w B a b c d e g v) (x : Nat) : RdAt w0 (w.setCell ⟨B, 3, none⟩ (.float .f64 x)) B a b c x e g v := ⟨rd_set3 h.row x, h.box' _ _, h.bel.setCell (Nat.le_refl _) _⟩
theorem RdAt.set4 (h : RdAt w0 w B a b c d e g v) (x : Int) : RdAt w0 (w.setCell ⟨B, 4, none⟩ (.int .i64 x)) B a b c d x g v := ⟨rd_set4 h.row x, h.box' _ _, h.bel.setCell (Nat.le_refl _) _⟩
theorem RdAt.set5 (h : RdAt w0 w B a b c d e g v) (x : Value) : RdAt w0 (w.setCell ⟨B, 5, none⟩ x) B a b c d e x v := ⟨rd_set5 h.row x, h.box' _ _, h.bel.setCell (Nat.le_refl _) _⟩
theorem RdAt.set6 (h : RdAt w0 w B a b c d e g v) (x : Value) : RdAt w0 (w.setCell ⟨B, 6, none⟩ x) B a b c d e g x := ⟨rd_set6 h.row x, h.box' _ _, h.bel.setCell (Nat.le_refl _) _⟩
theorem RdAt.facts (h : RdAt w0 w B a b c d e g v) : w.cell? ⟨B, 0, none⟩ = some (.float .f64 a) ∧ w.cell? ⟨B, 1, none⟩ = some (.float .f64 b) ∧ w.cell? ⟨B, 2, none⟩ = some (.float .f64 c) ∧ w.cell? ⟨B, 3, none⟩ = some (.float .f64 d) ∧
    w.cell? ⟨B, 4, none⟩ = some (.int .i64 e) ∧ w.cell? ⟨B, 5, none⟩ = some g ∧ w.cell? ⟨B, 6, none⟩ = some v ∧ (∀ o, w.frozen? ⟨B, o, none⟩ = false) :=
  ⟨h.row.cell (i := 0) (by omega), h.row.cell (i := 1) (by omega), h.row.cell (i := 2) (by omega), h.row.cell (i := 3) (by omega), h.row.cell (i := 4) (by omega), h.row.cell (i := 5) (by omega), h.row.cell (i := 6) (by omega), fun o => h.row.free o⟩
end

theorem rd_new (w : World) (c : Nat) : RdAt w ((w.alloc (.cells #[.float .f64 0, .float .f64 0, .float .f64 c, .float .f64 0, .int .i64 0, .slice none 0 0, .slice none 0 0, .pointer none] 36)).alloc (.cells #[.pointer (some ⟨w.heap.size, 0, none⟩)] 38)) w.heap.size 0 0 c 0 0 (.slice none 0 0) (.slice none 0 0) := by
  refine ⟨Row.alloc ?_ _, by simp [go_sem], bel_alloc (bel_alloc (Below.refl _ _) _) _⟩
  refine ⟨#[.float .f64 0, .float .f64 0, .float .f64 c, .float .f64 0, .int .i64 0, .slice none 0 0, .slice none 0 0, .pointer none], ?_, rfl, ?_⟩
  · show (w.heap.push _)[w.heap.size]? = _
    simp
  · intro j hj
    match j, hj with
    | 0, _ | 1, _ | 2, _ | 3, _ | 4, _ | 5, _ | 6, _ | 7, _ => rfl

theorem own_slice {w : World} {base : Nat} {e : TypeId} {size : Nat} {v : Value} {n : Nat} {xs : List Value} (h : w.ownsRow base e size v n xs) : ∃ p c, v = .slice p n c := by
  rcases h.2 with ⟨rfl, rfl⟩ | ⟨g, cap, _, rfl, _⟩
  · exact ⟨_, _, rfl⟩
  · exact ⟨_, _, rfl⟩
set_option maxRecDepth 100000 in
theorem rising_nil (w : World) : Calls Yba.prog 49 #[.slice none 0 0] w fun e w' => e = .returned (.slice none 0 0) ∧ Below w.heap.size w w' := by
  go_enter Yba.func49, Yba.ntmps49
  go_wp2_with fail
  refine wp_loop_rounds 1 ?_
  rw [rounds_succ]
  go_wp2_with (go_at_call 53; refine (clone_nil _).mono ?_; rintro e w' ⟨rfl, rfl⟩)
  refine wp_loop_rounds 1 ?_
  rw [rounds_succ]
  go_wp2_with fail
  go_ret
  exact ⟨rfl, Below.refl _ _⟩

theorem aft_cells3 (w : World) (s : Smp) : ((w.alloc (.cells #[.float .f64 s.1, .float .f64 s.2.1, .float .f64 0, .float .f64 s.2.2.1, .int .i64 s.2.2.2, .int .i64 0, .bool false, .float .f64 0, .float .f64 0] 42)).alloc (.cells #[.float .f64 s.1, .float .f64 s.2.1, .float .f64 0, .float .f64 s.2.2.1, .int .i64 s.2.2.2, .int .i64 0, .bool false, .float .f64 0, .float .f64 0] 42)).cell? ⟨w.heap.size, 0, none⟩ = some (.float .f64 s.1) ∧ ((w.alloc (.cells #[.float .f64 s.1, .float .f64 s.2.1, .float .f64 0, .float .f64 s.2.2.1, .int .i64 s.2.2.2, .int .i64 0, .bool false, .float .f64 0, .float .f64 0] 42)).alloc (.cells #[.float .f64 s.1, .float .f64 s.2.1, .float .f64 0, .float .f64 s.2.2.1, .int .i64 s.2.2.2, .int .i64 0, .bool false, .float .f64 0, .float .f64 0] 42)).cell? ⟨w.heap.size, 3, none⟩ = some (.float .f64 s.2.2.1) := by
  refine ⟨?_, ?_⟩ <;> simp [go_sem]

set_option maxHeartbeats 4000000 in
set_option maxRecDepth 100000 in
theorem reading_any (bs bl cl n : Nat) (l : List Smp) (w : World) (hn : l.length = n) (hs5 : w.cell? ⟨bs, 5, none⟩ = some (.slice (some ⟨bl, 0, none⟩) n cl)) (hsm : SmpRow w bl l) (hl : n ≤ 1024) :
    Calls Yba.prog 39 #[.pointer (some ⟨bs, 0, none⟩)] w fun e w' => ∃ (lg tt ms : Nat) (mp : Int) (vg vl : Value) (gs : List Lvl), e = .returned (.pointer (some ⟨w.heap.size, 0, none⟩)) ∧ RdAt w w' w.heap.size (leastR l) lg tt ms mp vg vl ∧ cn lg = largF l ∧ cn tt = toF l ∧
      w'.ownsRow w.heap.size 32 5 vg gs.length (lvlsCells gs) ∧ (∃ p c, vl = .slice p gs.length c) ∧ cntS gs = nAns l (List.range n) ∧ gs.length ≤ n := by
  have hbs : bs < w.heap.size := World.block_lt_of_cell? w _ hs5
  have HN : Hid (l.length = n) := hn
  clear hn
  go_enter Yba.func39, Yba.ntmps39
  go_wp2_with (go_at_call 10; refine (inf_any _).mono ?_; rintro e w' ⟨rfl, rfl⟩)
  have hrd := rd_new w' infB
  obtain ⟨w, rfl⟩ : ∃ w, w = w' := ⟨w', rfl⟩
  go_loopw [14] (fun i wr => ∃ (k lg tt : Nat), k ≤ n ∧ i = .int .i64 k ∧ RdAt w wr w.heap.size (leastR (l.take k)) lg tt 0 0 (.slice none 0 0) (.slice none 0 0) ∧ cn lg = largF (l.take k) ∧ cn tt = toF (l.take k))
    (fun i _ => n - (intOf i).toNat)
  case atStart => exact ⟨0, 0, infB, Nat.zero_le _, rfl, hrd, rfl, rfl⟩
  case round =>
    obtain ⟨k, lg, tt, hk, rfl, hr, hlg, hto⟩ := hrel
    have HLG : Hid (cn lg = largF (l.take k)) := hlg
    have HTO : Hid (cn tt = toF (l.take k)) := hto
    clear hlg hto hrd
    by_cases hlt : k < n
    · obtain ⟨s, hs⟩ : ∃ s, l[k]? = some s := ⟨l[k]'(by have := HN.out; omega), by simp⟩
      obtain ⟨h0, h1, h2, h3, h4, h5, h6, h7, h8⟩ := (hsm.below hr.bel) k s hs
      have o5 := cell_kept hr.bel hs5
      have HT : Hid (l.take (k + 1) = l.take k ++ [s]) := take_snoc' hs
      generalize hlk : leastR (l.take k) = a at *
      have HLK : Hid (leastR (l.take k) = a) := hlk
      clear hs hlk
      have hsz := hr.lt
      cases ha : ans s with
      | false =>
        have HA : Hid (ans s = false) := ha
        go_upto_region 6 with (go_at_call 32; refine (answered_any s _).mono ?_; rintro e w' ⟨rfl, rfl⟩)
        have hr1 : RdAt w ((wr.alloc (.cells #[.float .f64 s.1, .float .f64 s.2.1, .float .f64 0, .float .f64 s.2.2.1, .int .i64 s.2.2.2, .int .i64 0, .bool false, .float .f64 0, .float .f64 0] 42)).alloc (.cells #[.float .f64 s.1, .float .f64 s.2.1, .float .f64 0, .float .f64 s.2.2.1, .int .i64 s.2.2.2, .int .i64 0, .bool false, .float .f64 0, .float .f64 0] 42)) w.heap.size a lg tt 0 0 (.slice none 0 0) (.slice none 0 0) := (hr.alloc _).alloc _
        obtain ⟨e0, e3⟩ := aft_cells3 wr s
        have hb5 : wr.heap.size < ((wr.alloc (.cells #[.float .f64 s.1, .float .f64 s.2.1, .float .f64 0, .float .f64 s.2.2.1, .int .i64 s.2.2.2, .int .i64 0, .bool false, .float .f64 0, .float .f64 0] 42)).alloc (.cells #[.float .f64 s.1, .float .f64 s.2.1, .float .f64 0, .float .f64 s.2.2.1, .int .i64 s.2.2.2, .int .i64 0, .bool false, .float .f64 0, .float .f64 0] 42)).heap.size := by simp; omega
        clear hr h0 h1 h2 h3 h4 h5 h6 h7 h8 o5 ha
        generalize (wr.alloc (.cells #[.float .f64 s.1, .float .f64 s.2.1, .float .f64 0, .float .f64 s.2.2.1, .int .i64 s.2.2.2, .int .i64 0, .bool false, .float .f64 0, .float .f64 0] 42)).alloc (.cells #[.float .f64 s.1, .float .f64 s.2.1, .float .f64 0, .float .f64 s.2.2.1, .int .i64 s.2.2.2, .int .i64 0, .bool false, .float .f64 0, .float .f64 0] 42) = wy at *
        have hbx := hr1.box
        have hl1 := hr1.lt
        have hne : w.heap.size ≠ wr.heap.size := by omega
        obtain ⟨c0, c1, c2, c3, c4, c5, c6, cf⟩ := hr1.facts
        have f0 := cf 0
        have f1 := cf 1
        have f2 := cf 2
        have HL : Hid (leastR (l.take (k + 1)) = a) := by
          show _ = _
          rw [HT.out, leastR_snoc, HLK.out]; simp [rdLeast, HA.out]
        go_big_region
        all_goals
          go_wp2_with fail
          go_roundw
          case rel => exact ⟨k + 1, lg, _, by omega, by go_num, by rw [HL.out]; exact (hr1.drewN _).set2 _, by rw [HT.out, largF_snoc, HLG.out]; simp [rdLarg, HA.out], by rw [HT.out, toF_snoc, ← HTO.out, cn_fminv]; simp [rdTo, HA.out]⟩
          case measure => simp [intOf]; omega
      | true =>
        have HA : Hid (ans s = true) := ha
        have HB : Hid (largF (l.take (k + 1)) = maxF (cn lg) (cn s.1)) := by
          show _ = _
          rw [HT.out, largF_snoc, HLG.out]; simp [rdLarg, HA.out]
        have HC : Hid (cn tt = toF (l.take (k + 1))) := by
          show _ = _
          rw [HT.out, toF_snoc, ← HTO.out]; simp [rdTo, HA.out]
        have HL : Hid (leastR (l.take (k + 1)) = if (FloatKind.f64.format.order a 0 == some .eq) || (FloatKind.f64.format.order s.2.2.1 a == some .lt) then s.2.2.1 else a) := by
          show _ = _
          rw [HT.out, leastR_snoc, HLK.out]; simp [rdLeast, HA.out]
        clear HT HLG HTO HLK
        cases g1 : (FloatKind.f64.format.order a 0 == some .eq) with
        | true =>
          have HL2 : Hid (leastR (l.take (k + 1)) = s.2.2.1) := by
            show _ = _
            rw [HL.out, g1]; simp
          clear HL
          go_upto_region 7 with (go_at_call 32; refine (answered_any s _).mono ?_; rintro e w' ⟨rfl, rfl⟩)
          have hr1 : RdAt w ((wr.alloc (.cells #[.float .f64 s.1, .float .f64 s.2.1, .float .f64 0, .float .f64 s.2.2.1, .int .i64 s.2.2.2, .int .i64 0, .bool false, .float .f64 0, .float .f64 0] 42)).alloc (.cells #[.float .f64 s.1, .float .f64 s.2.1, .float .f64 0, .float .f64 s.2.2.1, .int .i64 s.2.2.2, .int .i64 0, .bool false, .float .f64 0, .float .f64 0] 42)) w.heap.size a lg tt 0 0 (.slice none 0 0) (.slice none 0 0) := (hr.alloc _).alloc _
          obtain ⟨e0, e3⟩ := aft_cells3 wr s
          have hb5 : wr.heap.size < ((wr.alloc (.cells #[.float .f64 s.1, .float .f64 s.2.1, .float .f64 0, .float .f64 s.2.2.1, .int .i64 s.2.2.2, .int .i64 0, .bool false, .float .f64 0, .float .f64 0] 42)).alloc (.cells #[.float .f64 s.1, .float .f64 s.2.1, .float .f64 0, .float .f64 s.2.2.1, .int .i64 s.2.2.2, .int .i64 0, .bool false, .float .f64 0, .float .f64 0] 42)).heap.size := by simp; omega
          clear hr h0 h1 h2 h3 h4 h5 h6 h7 h8 o5 ha
          generalize (wr.alloc (.cells #[.float .f64 s.1, .float .f64 s.2.1, .float .f64 0, .float .f64 s.2.2.1, .int .i64 s.2.2.2, .int .i64 0, .bool false, .float .f64 0, .float .f64 0] 42)).alloc (.cells #[.float .f64 s.1, .float .f64 s.2.1, .float .f64 0, .float .f64 s.2.2.1, .int .i64 s.2.2.2, .int .i64 0, .bool false, .float .f64 0, .float .f64 0] 42) = wy at *
          have hbx := hr1.box
          have hl1 := hr1.lt
          have hne : w.heap.size ≠ wr.heap.size := by omega
          obtain ⟨c0, c1, c2, c3, c4, c5, c6, cf⟩ := hr1.facts
          have f0 := cf 0
          have f1 := cf 1
          have f2 := cf 2
          go_quiet (fail)
          have hr2 := hr1.drewN nq
          have d0 : (wy.drewN nq).cell? ⟨wr.heap.size, 0, none⟩ = some (.float .f64 s.1) := e0
          have d3 : (wy.drewN nq).cell? ⟨wr.heap.size, 3, none⟩ = some (.float .f64 s.2.2.1) := e3
          clear hr1 e0 e3 hbx c0 c1 c2 c3 c4 c5 c6 cf f0 f1 f2 hl1 hb5
          generalize wy.drewN nq = wv at *
          have hbx := hr2.box
          have hl1 := hr2.lt
          obtain ⟨c0, c1, c2, c3, c4, c5, c6, cf⟩ := hr2.facts
          have f0 := cf 0
          have f1 := cf 1
          go_upto_region 9 with fail
          have hr3 := hr2.set0 s.2.2.1
          have d0' : (wv.setCell ⟨w.heap.size, 0, none⟩ (.float .f64 s.2.2.1)).cell? ⟨wr.heap.size, 0, none⟩ = some (.float .f64 s.1) := by rw [World.cell?_of_block (heap_set_other _ _ _ hne.symm)]; exact d0
          clear d0
          clear hr2 hbx hl1 c0 c1 c2 c3 c4 c5 c6 cf f0 f1 d3
          generalize wv.setCell ⟨w.heap.size, 0, none⟩ (.float .f64 s.2.2.1) = wu at *
          have hbx := hr3.box
          have hl1 := hr3.lt
          obtain ⟨c0, c1, c2, c3, c4, c5, c6, cf⟩ := hr3.facts
          have f1 := cf 1
          go_big_region
          all_goals
            go_wp2_with fail
            go_roundw
            case rel => exact ⟨k + 1, _, tt, by omega, by go_num, by rw [HL2.out]; exact (hr3.drewN _).set1 _, by rw [HB.out, cn_fmaxv], HC.out⟩
            case measure => simp [intOf]; omega
        | false =>
          cases g2 : (FloatKind.f64.format.order s.2.2.1 a == some .lt) with
          | true =>
            have HL2 : Hid (leastR (l.take (k + 1)) = s.2.2.1) := by
              show _ = _
              rw [HL.out, g1, g2]; simp
            clear HL
            go_upto_region 7 with (go_at_call 32; refine (answered_any s _).mono ?_; rintro e w' ⟨rfl, rfl⟩)
            have hr1 : RdAt w ((wr.alloc (.cells #[.float .f64 s.1, .float .f64 s.2.1, .float .f64 0, .float .f64 s.2.2.1, .int .i64 s.2.2.2, .int .i64 0, .bool false, .float .f64 0, .float .f64 0] 42)).alloc (.cells #[.float .f64 s.1, .float .f64 s.2.1, .float .f64 0, .float .f64 s.2.2.1, .int .i64 s.2.2.2, .int .i64 0, .bool false, .float .f64 0, .float .f64 0] 42)) w.heap.size a lg tt 0 0 (.slice none 0 0) (.slice none 0 0) := (hr.alloc _).alloc _
            obtain ⟨e0, e3⟩ := aft_cells3 wr s
            have hb5 : wr.heap.size < ((wr.alloc (.cells #[.float .f64 s.1, .float .f64 s.2.1, .float .f64 0, .float .f64 s.2.2.1, .int .i64 s.2.2.2, .int .i64 0, .bool false, .float .f64 0, .float .f64 0] 42)).alloc (.cells #[.float .f64 s.1, .float .f64 s.2.1, .float .f64 0, .float .f64 s.2.2.1, .int .i64 s.2.2.2, .int .i64 0, .bool false, .float .f64 0, .float .f64 0] 42)).heap.size := by simp; omega
            clear hr h0 h1 h2 h3 h4 h5 h6 h7 h8 o5 ha
            generalize (wr.alloc (.cells #[.float .f64 s.1, .float .f64 s.2.1, .float .f64 0, .float .f64 s.2.2.1, .int .i64 s.2.2.2, .int .i64 0, .bool false, .float .f64 0, .float .f64 0] 42)).alloc (.cells #[.float .f64 s.1, .float .f64 s.2.1, .float .f64 0, .float .f64 s.2.2.1, .int .i64 s.2.2.2, .int .i64 0, .bool false, .float .f64 0, .float .f64 0] 42) = wy at *
            have hbx := hr1.box
            have hl1 := hr1.lt
            have hne : w.heap.size ≠ wr.heap.size := by omega
            obtain ⟨c0, c1, c2, c3, c4, c5, c6, cf⟩ := hr1.facts
            have f0 := cf 0
            have f1 := cf 1
            have f2 := cf 2
            go_quiet (fail)
            have hr2 := hr1.drewN nq
            have d0 : (wy.drewN nq).cell? ⟨wr.heap.size, 0, none⟩ = some (.float .f64 s.1) := e0
            have d3 : (wy.drewN nq).cell? ⟨wr.heap.size, 3, none⟩ = some (.float .f64 s.2.2.1) := e3
            clear hr1 e0 e3 hbx c0 c1 c2 c3 c4 c5 c6 cf f0 f1 f2 hl1 hb5
            generalize wy.drewN nq = wv at *
            have hbx := hr2.box
            have hl1 := hr2.lt
            obtain ⟨c0, c1, c2, c3, c4, c5, c6, cf⟩ := hr2.facts
            have f0 := cf 0
            have f1 := cf 1
            go_upto_region 9 with fail
            have hr3 := hr2.set0 s.2.2.1
            have d0' : (wv.setCell ⟨w.heap.size, 0, none⟩ (.float .f64 s.2.2.1)).cell? ⟨wr.heap.size, 0, none⟩ = some (.float .f64 s.1) := by rw [World.cell?_of_block (heap_set_other _ _ _ hne.symm)]; exact d0
            clear d0
            clear hr2 hbx hl1 c0 c1 c2 c3 c4 c5 c6 cf f0 f1 d3
            generalize wv.setCell ⟨w.heap.size, 0, none⟩ (.float .f64 s.2.2.1) = wu at *
            have hbx := hr3.box
            have hl1 := hr3.lt
            obtain ⟨c0, c1, c2, c3, c4, c5, c6, cf⟩ := hr3.facts
            have f1 := cf 1
            go_big_region
            all_goals
              go_wp2_with fail
              go_roundw
              case rel => exact ⟨k + 1, _, tt, by omega, by go_num, by rw [HL2.out]; exact (hr3.drewN _).set1 _, by rw [HB.out, cn_fmaxv], HC.out⟩
              case measure => simp [intOf]; omega
          | false =>
            have HL2 : Hid (leastR (l.take (k + 1)) = a) := by
              show _ = _
              rw [HL.out, g1, g2]; simp
            clear HL
            go_upto_region 7 with (go_at_call 32; refine (answered_any s _).mono ?_; rintro e w' ⟨rfl, rfl⟩)
            have hr1 : RdAt w ((wr.alloc (.cells #[.float .f64 s.1, .float .f64 s.2.1, .float .f64 0, .float .f64 s.2.2.1, .int .i64 s.2.2.2, .int .i64 0, .bool false, .float .f64 0, .float .f64 0] 42)).alloc (.cells #[.float .f64 s.1, .float .f64 s.2.1, .float .f64 0, .float .f64 s.2.2.1, .int .i64 s.2.2.2, .int .i64 0, .bool false, .float .f64 0, .float .f64 0] 42)) w.heap.size a lg tt 0 0 (.slice none 0 0) (.slice none 0 0) := (hr.alloc _).alloc _
            obtain ⟨e0, e3⟩ := aft_cells3 wr s
            have hb5 : wr.heap.size < ((wr.alloc (.cells #[.float .f64 s.1, .float .f64 s.2.1, .float .f64 0, .float .f64 s.2.2.1, .int .i64 s.2.2.2, .int .i64 0, .bool false, .float .f64 0, .float .f64 0] 42)).alloc (.cells #[.float .f64 s.1, .float .f64 s.2.1, .float .f64 0, .float .f64 s.2.2.1, .int .i64 s.2.2.2, .int .i64 0, .bool false, .float .f64 0, .float .f64 0] 42)).heap.size := by simp; omega
            clear hr h0 h1 h2 h3 h4 h5 h6 h7 h8 o5 ha
            generalize (wr.alloc (.cells #[.float .f64 s.1, .float .f64 s.2.1, .float .f64 0, .float .f64 s.2.2.1, .int .i64 s.2.2.2, .int .i64 0, .bool false, .float .f64 0, .float .f64 0] 42)).alloc (.cells #[.float .f64 s.1, .float .f64 s.2.1, .float .f64 0, .float .f64 s.2.2.1, .int .i64 s.2.2.2, .int .i64 0, .bool false, .float .f64 0, .float .f64 0] 42) = wy at *
            have hbx := hr1.box
            have hl1 := hr1.lt
            have hne : w.heap.size ≠ wr.heap.size := by omega
            obtain ⟨c0, c1, c2, c3, c4, c5, c6, cf⟩ := hr1.facts
            have f0 := cf 0
            have f1 := cf 1
            have f2 := cf 2
            go_quiet (fail)
            have hr2 := hr1.drewN nq
            have d0 : (wy.drewN nq).cell? ⟨wr.heap.size, 0, none⟩ = some (.float .f64 s.1) := e0
            have d3 : (wy.drewN nq).cell? ⟨wr.heap.size, 3, none⟩ = some (.float .f64 s.2.2.1) := e3
            clear hr1 e0 e3 hbx c0 c1 c2 c3 c4 c5 c6 cf f0 f1 f2 hl1 hb5
            generalize wy.drewN nq = wv at *
            have hbx := hr2.box
            have hl1 := hr2.lt
            obtain ⟨c0, c1, c2, c3, c4, c5, c6, cf⟩ := hr2.facts
            have f0 := cf 0
            have f1 := cf 1
            go_upto_region 9 with fail
            have hr3 := hr2
            have d0' := d0
            clear d0
            clear hr2 hbx hl1 c0 c1 c2 c3 c4 c5 c6 cf f0 f1 d3
            skip
            have hbx := hr3.box
            have hl1 := hr3.lt
            obtain ⟨c0, c1, c2, c3, c4, c5, c6, cf⟩ := hr3.facts
            have f1 := cf 1
            go_big_region
            all_goals
              go_wp2_with fail
              go_roundw
              case rel => exact ⟨k + 1, _, tt, by omega, by go_num, by rw [HL2.out]; exact (hr3.drewN _).set1 _, by rw [HB.out, cn_fmaxv], HC.out⟩
              case measure => simp [intOf]; omega
    · have hkn : k = n := by omega
      subst hkn
      have htk : l.take k = l := List.take_of_length_le (by have := HN.out; omega)
      have HLG2 : Hid (cn lg = largF l) := by have := HLG.out; rw [htk] at this; exact this
      have HTO2 : Hid (cn tt = toF l) := by have := HTO.out; rw [htk] at this; exact this
      rw [htk] at hr
      generalize hlk : leastR l = a at *
      have HLR : Hid (leastR l = a) := hlk
      clear hlk htk HLG HTO
      have o5 : wr.cell? ⟨bs, 5, none⟩ = some (.slice (some ⟨bl, 0, none⟩) k cl) := cell_kept hr.bel hs5
      have osm := hsm.below hr.bel
      have hbx := hr.box
      have hl1 := hr.lt
      obtain ⟨c0, c1, c2, c3, c4, c5, c6, cf⟩ := hr.facts
      go_upto_region 11 with fail
      go_cut [63] (fun _ wc => ∃ (ms : Nat) (mp : Int), RdAt w wc w.heap.size a lg tt ms mp (.slice none 0 0) (.slice none 0 0))
      case first =>
        have hmean := mean_any bs bl cl (w.heap.size + 1) w.heap.size lg l wr.drew (by rw [HN.out]; exact o5) osm (by rw [HN.out]; exact hl) hbx c1
        have f3 := cf 3
        have f4 := cf 4
        have hrd := hr.drewN 1
        clear hs5 hsm o5 osm
        go_region_with (go_at_call 46; refine hmean.mono ?_; rintro e w' ⟨ms, mp, rfl, hb⟩; have hr2 := hrd.kept hb; have hbx2 := hr2.box; have hl2 := hr2.lt; obtain ⟨d0, d1, d2, d3, d4, d5, d6, df⟩ := hr2.facts; have df3 := df 3; have df4 := df 4)
        all_goals
          go_wp2_with fail
          go_meet
          case rel => exact ⟨ms, mp, by first | exact (hr2.set3 _).set4 _ | exact (hr2.set4 _).set3 _⟩
      case rest =>
        obtain ⟨ms, mp, hr1⟩ := hcut
        clear hr o5 osm hbx hl1 c0 c1 c2 c3 c4 c5 c6 cf
        have hbx := hr1.box
        have hl1 := hr1.lt
        obtain ⟨c0, c1, c2, c3, c4, c5, c6, cf⟩ := hr1.facts
        have f3 := cf 3
        have f4 := cf 4
        go_upto_if 79 with fail
        go_cut [80] (fun _ wd => ∃ (ms : Nat) (mp : Int), RdAt w wd w.heap.size a lg tt ms mp (.slice none 0 0) (.slice none 0 0))
        case first =>
          by_cases hmp : mp < 100
          · go_wp2_with fail
            go_big_region
            all_goals
              go_wp2_with fail
              go_meet
              case rel => exact ⟨0, 0, by first | exact ((hr1.set3 0).set4 0).drewN 1 | exact ((hr1.set4 0).set3 0).drewN 1⟩
          · go_wp2_with fail
            go_meet
            case rel => exact ⟨ms, mp, hr1⟩
        case rest =>
          obtain ⟨wd, rfl⟩ : ∃ wd, wd = wc := ⟨wc, rfl⟩
          obtain ⟨ms, mp, hr2⟩ := hcut
          clear hr1 hbx hl1 c0 c1 c2 c3 c4 c5 c6 cf f3 f4
          have hbx := hr2.box
          have hl1 := hr2.lt
          obtain ⟨c0, c1, c2, c3, c4, c5, c6, cf⟩ := hr2.facts
          have f5 := cf 5
          have o5 : wd.cell? ⟨bs, 5, none⟩ = some (.slice (some ⟨bl, 0, none⟩) k cl) := cell_kept hr2.bel hs5
          have osm := hsm.below hr2.bel
          go_upto_region 14 with fail
          go_cut [88] (fun _ we => ∃ (vg : Value) (gs : List Lvl), RdAt w we w.heap.size a lg tt ms mp vg (.slice none 0 0) ∧ we.ownsRow wd.heap.size 32 5 vg gs.length (lvlsCells gs) ∧ (gs = [] → vg = .slice none 0 0) ∧ cntS gs = nAns l (List.range k) ∧ gs.length ≤ k)
          case first =>
            have hgrp := groups_take bs bl cl k l wd.drew HN.out o5 osm hl
            have hrd := hr2.drewN 1
            clear hs5 hsm o5 osm
            go_region_with (go_at_call 48; refine hgrp.mono ?_; rintro e w' ⟨vg, gs, rfl, hog, hnil, hcn, hgl, hb⟩; obtain ⟨pv, cv, rfl⟩ := own_slice hog; have hr3 := hrd.kept hb; have hbx2 := hr3.box; have hl2 := hr3.lt; obtain ⟨d0, d1, d2, d3, d4, d5, d6, df⟩ := hr3.facts; have df5 := df 5)
            all_goals
              go_wp2_with fail
              go_meet
              case rel => exact ⟨_, gs, hr3.set5 _, own_set hog (fun g hg => by have h1 := (hog.lt g hg).1; have h2 : wd.heap.size ≤ g := h1; show g ≠ w.heap.size; omega) _, hnil, hcn, hgl⟩
          case rest =>
            obtain ⟨we, rfl⟩ : ∃ we, we = wc := ⟨wc, rfl⟩
            obtain ⟨vg, gs, hr4, hog, hnil, hcn, hgl⟩ := hcut
            have HCN : Hid (cntS gs = nAns l (List.range k)) := hcn
            clear hr2 hbx c0 c1 c2 c3 c4 c5 c6 cf f5 o5 osm hcn
            have hbx := hr4.box
            have hl4 := hr4.lt
            obtain ⟨c0, c1, c2, c3, c4, c5, c6, cf⟩ := hr4.facts
            have f6 := cf 6
            go_upto_region 15 with fail
            go_cut [96] (fun _ wf => ∃ (vl : Value), RdAt w wf w.heap.size a lg tt ms mp vg vl ∧ wf.ownsRow wd.heap.size 32 5 vg gs.length (lvlsCells gs) ∧ ∃ p c, vl = .slice p gs.length c)
            case first =>
              have hris : Calls Yba.prog 49 #[vg] we.drew fun e w' => ∃ p c, e = .returned (.slice p gs.length c) ∧ Below we.drew.heap.size we.drew w' := by
                by_cases hg0 : gs = []
                · rw [hnil hg0, hg0]
                  refine (rising_nil _).mono ?_
                  rintro e w' ⟨rfl, hb⟩
                  exact ⟨none, 0, rfl, hb⟩
                · have hpos : 0 < gs.length := List.length_pos_iff.2 hg0
                  obtain ⟨g, c, rfl, _⟩ := hog.form hpos
                  exact rising_any (w := we.drew) hog rfl hpos (by omega)
              have hrd := hr4.drewN 1
              generalize hgl' : gs.length = m at *
              have HG : Hid (gs.length = m) := hgl'
              clear hgl' hs5 hsm hnil
              go_region_with (go_at_call 49; refine hris.mono ?_; rintro e w' ⟨p, c, rfl, hb⟩; have hr3 := hrd.kept hb; have hbx2 := hr3.box; have hl2 := hr3.lt; obtain ⟨d0, d1, d2, d3, d4, d5, d6, df⟩ := hr3.facts; have df6 := df 6)
              all_goals
                go_wp2_with fail
                go_meet
                case rel => exact ⟨_, hr3.set6 _, own_set (owns_of_block hog fun g hg => hb.block g (hog.lt g hg).2) (fun g hg => by have h1 := (hog.lt g hg).1; show g ≠ w.heap.size; omega) _, p, c, rfl⟩
            case rest =>
              obtain ⟨vl, hr5, hog5, p, c, rfl⟩ := hcut
              have hbx5 := hr5.box
              have hbw : w.heap.size ≤ wd.heap.size := by omega
              go_wp2_with fail
              go_ret
              exact ⟨lg, tt, ms, mp, vg, _, gs, rfl, by rw [HLR.out]; exact hr5, HLG2.out, HTO2.out, owns_base hog5 hbw, ⟨p, c, rfl⟩, HCN.out, hgl⟩
end Go.Proofs.Ybulkahla

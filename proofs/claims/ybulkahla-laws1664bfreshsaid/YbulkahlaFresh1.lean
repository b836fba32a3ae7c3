import Derived.Test.YbulkahlaReading
import Derived.Test.YbulkahlaBuild
import Derived.Test.YbulkahlaFreshPlain
import Derived.LaidEqlPtr
namespace Go.Proofs.Ybulkahla
open Go.RowKit
set_option linter.unusedSimpArgs false
attribute [local go_sem] run_store_float call31 call42 call43
attribute [local go_sem ↓] run_fadd run_fsub run_fmul run_fquo run_fmax run_fmin run_fsqrt

set_option maxHeartbeats 400000 in
set_option maxRecDepth 100000 in
theorem bsamples_some (a : Option Addr) (cap : Nat) (l : List Smp) (w : World) (hl : l.length ≤ 1024) (hc : SmpsAt w a l) :
    Calls Yba.prog 18 #[.slice a l.length cap] w fun e w' => ∃ bl cl, e = .returned (.slice (some ⟨bl, 0, none⟩) l.length cl) ∧ Below w.heap.size w w' ∧ w'.ownsRow w.heap.size 42 9 (.slice (some ⟨bl, 0, none⟩) l.length cl) l.length (smpsCells l) := by
  obtain ⟨i0, hi, hz0, hz1, hz2⟩ := info_parts Yba.info42
  obtain ⟨w1, hmk, hown0, hg0⟩ := run_makeSlice_owned (P := Yba.prog) w w.heap.size 37 42 i0 _ 9 Yba.underlying37 hi hz0 hz1 .i64 .i64 l.length (by omega) (by rw [hz2]; omega) (by unfold maxLen; omega) (Nat.le_refl _)
  have hB1 : Below w.heap.size w w1 := (Below.refl _ _).grown hg0 (Nat.le_refl _) (by intro k hk; cases hk)
  clear hg0
  go_enter Yba.func18, Yba.ntmps18
  go_wp2
  go_loopw [3, 11] (fun v i wr => ∃ k : Nat, k ≤ l.length ∧ i = .int .i64 k ∧ v ≠ .slice none 0 0 ∧ wr.ownsRow w.heap.size 42 9 v k (smpsCells (l.take k)) ∧ Below w.heap.size w wr)
    (fun _ i _ => l.length - (intOf i).toNat)
  case atStart => exact ⟨0, Nat.zero_le _, rfl, (by intro h; cases h), by simpa [smpsCells] using hown0, hB1⟩
  case round => 
    obtain ⟨k, hk, rfl, hnn, hown, hnx⟩ := hrel
    by_cases hlt : k < l.length
    · obtain ⟨s, hs⟩ : ∃ s, l[k]? = some s := ⟨l[k], by simp [hlt]⟩
      obtain ⟨b, off, rfl, hb, h1, h2, h3, h4⟩ := hc k s hs
      rw [← hnx.cell (p := ⟨b, _, none⟩) hb] at h1 h2 h3 h4
      have hsz := hnx.size
      have htk : smpsCells (l.take (k + 1)) = smpsCells (l.take k) ++ smpCells s := by
        rw [← smpsCells_snoc, List.take_add_one, hs]; rfl
      have HTK : Hid (smpsCells (l.take (k + 1)) = smpsCells (l.take k) ++ smpCells s) := htk
      have HNN : Hid (u3 ≠ .slice none 0 0) := hnn
      clear hmk hc htk hnn
      go_wp2_with (at_builtin; refine wpList_append_own _ rfl _ _ 37 rfl w.heap.size 42 i0 _ 9 72 Yba.underlying37 hi hz0 hz1 hz2 rfl (by decide) _ _ _ rfl ((hown.alloc _).alloc _) ⟨wr.heap.size + 1, 0, none⟩ 1 1 (smpCells s) rfl rfl ?c1 ?c2 ?c3 ?c4 ?c5 ?_)
      case c1 =>
        intro j u hj
        match j, hj with
        | 0, hj | 1, hj | 2, hj | 3, hj | 4, hj | 5, hj | 6, hj | 7, hj | 8, hj => simp [smpCells] at hj; subst hj; simp [Addr.add, go_sem]
      case c2 => intro u hu; simp [smpCells] at hu; rcases hu with rfl | rfl | rfl | rfl | rfl | rfl | rfl | rfl | rfl <;> rfl
      case c3 => unfold maxLen; omega
      case c4 => omega
      case c5 => simp; omega
      · intro v' w2 hown' hgrow hnil
        have HN' : Hid (v' ≠ .slice none 0 0) := by
          intro h; simp [h] at hnil
        have hB2 : Below w.heap.size w w2 := by
          refine Below.grown ((hnx.alloc hsz _).alloc (by simp; omega) _) hgrow (by simp; omega) ?_
          intro j hj; exact (hown.lt j hj).1
        rw [← HTK.out] at hown'
        clear hgrow hown h1 h2 h3 h4 hnil
        go_wp2
        go_roundw
        case rel => exact ⟨k + 1, by omega, by go_num, HN'.out, hown', hB2⟩
        case measure => simp [intOf]; omega
    · have hkl : k = l.length := by omega
      subst hkl
      obtain ⟨bl, cl, rfl, _⟩ := not_nil_form hown hnn
      clear hnn
      go_wp2
      go_ret
      exact ⟨_, _, rfl, hnx, by simpa using hown⟩


set_option maxHeartbeats 1000000 in
theorem beq_any {x y : Nat} (h : beqF (cn x) (cn y) = true) (w : World) : Calls Yba.prog 20 #[.float .f64 x, .float .f64 y] w fun e w' => e = .returned (.bool true) ∧ w' = w := by
  cases ho : (FloatKind.f64.format.order x y == some .eq) with
  | true =>
    go_enter Yba.func20, Yba.ntmps20
    go_wp2_with fail
    go_ret
    exact ⟨rfl, rfl⟩
  | false =>
    have hn : nanB x = true ∧ nanB y = true := by
      unfold beqF at h
      rw [← order_cn, ho, Bool.false_or] at h
      constructor
      · cases hx : nanB x with
        | true => rfl
        | false => rw [cn_num hx] at h; simp at h
      · cases hy : nanB y with
        | true => rfl
        | false => rw [cn_num hy] at h; simp at h
    have hx : (FloatKind.f64.format.order x x != some .eq) = true := by rw [order_nan_x hn.1]; rfl
    have hy : (FloatKind.f64.format.order y y != some .eq) = true := by rw [order_nan_x hn.2]; rfl
    clear h hn
    go_enter Yba.func20, Yba.ntmps20
    go_wp2_with fail
    go_ret
    exact ⟨rfl, rfl⟩

/-- 'read' where no reading is held: one is taken and kept. -/
theorem read_fresh (bs bl cl n : Nat) (l : List Smp) (w : World) (hn : l.length = n) (hs5 : w.cell? ⟨bs, 5, none⟩ = some (.slice (some ⟨bl, 0, none⟩) n cl)) (hs6 : w.cell? ⟨bs, 6, none⟩ = some (.pointer none)) (hf6 : w.frozen? ⟨bs, 6, none⟩ = false) (hsm : SmpRow w bl l) (hl : n ≤ 1024) :
    Calls Yba.prog 19 #[.pointer (some ⟨bs, 0, none⟩)] w fun e w' => ∃ (w2 : World) (lg tt ms : Nat) (mp : Int) (vg vl : Value) (gs : List Lvl), e = .returned (.pointer (some ⟨w.heap.size, 0, none⟩)) ∧ w' = w2.setCell ⟨bs, 6, none⟩ (.pointer (some ⟨w.heap.size, 0, none⟩)) ∧
      RdAt w w2 w.heap.size (leastR l) lg tt ms mp vg vl ∧ cn lg = largF l ∧ cn tt = toF l ∧ w2.ownsRow w.heap.size 32 5 vg gs.length (lvlsCells gs) ∧ (∃ p c, vl = .slice p gs.length c) ∧ cntS gs = nAns l (List.range n) ∧ gs.length ≤ n := by
  have hbs : bs < w.heap.size := World.block_lt_of_cell? w _ hs5
  go_enter Yba.func19, Yba.ntmps19
  go_wp2_with (go_at_call 39; refine (reading_any bs bl cl n l _ hn hs5 hsm hl).mono ?_; rintro e w2 ⟨lg, tt, ms, mp, vg, vl, gs, rfl, hrd, a1, a2, a3, a4, a5, a6⟩; have k6 := cell_kept hrd.bel hs6; have kf := (hrd.bel.frozen (p := ⟨bs, 6, none⟩) hbs).trans hf6)
  go_ret
  exact ⟨w2, lg, tt, ms, mp, vg, vl, gs, rfl, rfl, hrd, a1, a2, a3, a4, a5, a6⟩
end Go.Proofs.Ybulkahla

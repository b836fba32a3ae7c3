import Derived.Test.YbulkahlaRows
import Derived.WalkKit
import Derived.WalkSpells
import Derived.WalkLawsBesides
namespace Go.Proofs.Ybulkahla
open Go.RowKit

/-- One sample as it came in: load, latency, least (bits), probes. -/
abbrev Smp := Nat × Nat × Nat × Int

/-- the cells of one sample -/
def smpCells (s : Smp) : List Value := [.float .f64 s.1, .float .f64 s.2.1, .float .f64 0, .float .f64 s.2.2.1, .int .i64 s.2.2.2, .int .i64 0, .bool false, .float .f64 0, .float .f64 0]

def smpsCells (l : List Smp) : List Value := l.flatMap smpCells

theorem smpsCells_snoc (l : List Smp) (s : Smp) : smpsCells (l ++ [s]) = smpsCells l ++ smpCells s := by simp [smpsCells]

theorem Yba.info42 : (Yba.prog.info? 42).map (fun i => (i.zero, i.size, i.bytes)) = some (some (.agg #[.float .f64 0, .float .f64 0, .float .f64 0, .float .f64 0, .int .i64 0, .int .i64 0, .bool false, .float .f64 0, .float .f64 0]), 9, 72) := by kernel_rfl

theorem run_store_float {P : Program} {w : World} {a : Addr} {m : Mode} (k : FloatKind) (n : Nat) : (store a (.float k n) m).run P w = stored P w a (.float k n) m := run_store P w a _ m rfl
attribute [local go_sem] run_store_float

/-- WHAT THE WALK IS TOLD OF A SLICE OF SAMPLES THAT CAME IN. -/
def SmpsAt (w : World) (a : Option Addr) (l : List Smp) : Prop :=
  ∀ i s, l[i]? = some s → ∃ b off, a = some ⟨b, off, none⟩ ∧ b < w.heap.size ∧
    w.cell? ⟨b, off + i * 4, none⟩ = some (.float .f64 s.1) ∧ w.cell? ⟨b, off + i * 4 + 1, none⟩ = some (.float .f64 s.2.1) ∧
    w.cell? ⟨b, off + i * 4 + 2, none⟩ = some (.float .f64 s.2.2.1) ∧ w.cell? ⟨b, off + i * 4 + 3, none⟩ = some (.int .i64 s.2.2.2)

set_option maxHeartbeats 400000 in
set_option maxRecDepth 100000 in
theorem bsamples_any (a : Option Addr) (cap : Nat) (l : List Smp) (w : World) (hl : l.length ≤ 1024) (hc : SmpsAt w a l) :
    Calls Yba.prog 18 #[.slice a l.length cap] w fun e w' => ∃ v, e = .returned v ∧ Below w.heap.size w w' ∧ w'.ownsRow w.heap.size 42 9 v l.length (smpsCells l) := by
  obtain ⟨i0, hi, hz0, hz1, hz2⟩ := info_parts Yba.info42
  obtain ⟨w1, hmk, hown0, hg0⟩ := run_makeSlice_owned (P := Yba.prog) w w.heap.size 37 42 i0 _ 9 Yba.underlying37 hi hz0 hz1 .i64 .i64 l.length (by omega) (by rw [hz2]; omega) (by unfold maxLen; omega) (Nat.le_refl _)
  have hB1 : Below w.heap.size w w1 := (Below.refl _ _).grown hg0 (Nat.le_refl _) (by intro k hk; cases hk)
  clear hg0
  go_enter Yba.func18, Yba.ntmps18
  go_wp2
  go_loopw [3, 11] (fun v i wr => ∃ k : Nat, k ≤ l.length ∧ i = .int .i64 k ∧ wr.ownsRow w.heap.size 42 9 v k (smpsCells (l.take k)) ∧ Below w.heap.size w wr)
    (fun _ i _ => l.length - (intOf i).toNat)
  case atStart => exact ⟨0, Nat.zero_le _, rfl, by simpa [smpsCells] using hown0, hB1⟩
  case round => 
    obtain ⟨k, hk, rfl, hown, hnx⟩ := hrel
    by_cases hlt : k < l.length
    · obtain ⟨s, hs⟩ : ∃ s, l[k]? = some s := ⟨l[k], by simp [hlt]⟩
      obtain ⟨b, off, rfl, hb, h1, h2, h3, h4⟩ := hc k s hs
      rw [← hnx.cell (p := ⟨b, _, none⟩) hb] at h1 h2 h3 h4
      have hsz := hnx.size
      have htk : smpsCells (l.take (k + 1)) = smpsCells (l.take k) ++ smpCells s := by
        rw [← smpsCells_snoc, List.take_add_one, hs]; rfl
      have HTK : Hid (smpsCells (l.take (k + 1)) = smpsCells (l.take k) ++ smpCells s) := htk
      clear hmk hc htk
      go_wp2_with (at_builtin; refine wpList_append_own _ rfl _ _ 37 rfl w.heap.size 42 i0 _ 9 72 Yba.underlying37 hi hz0 hz1 hz2 rfl (by decide) _ _ _ rfl ((hown.alloc _).alloc _) ⟨wr.heap.size + 1, 0, none⟩ 1 1 (smpCells s) rfl rfl ?c1 ?c2 ?c3 ?c4 ?c5 ?_)
      case c1 =>
        intro j u hj
        match j, hj with
        | 0, hj | 1, hj | 2, hj | 3, hj | 4, hj | 5, hj | 6, hj | 7, hj | 8, hj => simp [smpCells] at hj; subst hj; simp [Addr.add, go_sem]
      case c2 => intro u hu; simp [smpCells] at hu; rcases hu with rfl | rfl | rfl | rfl | rfl | rfl | rfl | rfl | rfl <;> rfl
      case c3 => unfold maxLen; omega
      case c4 => omega
      case c5 => simp; omega
      · intro v' w2 hown' hgrow _
        have hB2 : Below w.heap.size w w2 := by
          refine Below.grown ((hnx.alloc hsz _).alloc (by simp; omega) _) hgrow (by simp; omega) ?_
          intro j hj; exact (hown.lt j hj).1
        rw [← HTK.out] at hown'
        clear hgrow hown h1 h2 h3 h4
        go_wp2
        go_roundw
        case rel => exact ⟨k + 1, by omega, by go_num, hown', hB2⟩
        case measure => simp [intOf]; omega
    · go_wp2
      go_ret
      have : k = l.length := by omega
      subst this
      exact ⟨_, rfl, hnx, by simpa using hown⟩

/-- 'read' where a reading is held: it is handed back; nothing turns. -/
theorem read_held (b off : Nat) (r : Addr) (w : World) (h : w.cell? ⟨b, off + 6, none⟩ = some (.pointer (some r))) :
    Calls Yba.prog 19 #[.pointer (some ⟨b, off, none⟩)] w fun e w' => e = .returned (.pointer (some r)) ∧ w' = w := by
  go_enter Yba.func19, Yba.ntmps19
  go_wp2_with fail
  go_ret
  exact ⟨rfl, rfl⟩
end Go.Proofs.Ybulkahla

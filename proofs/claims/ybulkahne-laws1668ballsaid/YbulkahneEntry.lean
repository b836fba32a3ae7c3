import Derived.Test.YbulkahneBuild
import Derived.BigQuiet
namespace Go.Proofs.Ybulkahne
open Go.RowKit Go.Lib
set_option linter.unusedSimpArgs false

set_option maxHeartbeats 400000 in
theorem raw_any (bf : Nat) (T : ByteArray) (a b : Nat) (w : World) (h3 : w.cell? ⟨bf, 3, none⟩ = some (.string T)) (hab : a ≤ b) (hb : b ≤ T.size) :
    Calls Yba.prog 17 #[.pointer (some ⟨bf, 0, none⟩), .agg #[.int .u32 a, .int .u32 b]] w fun e w' => e = .returned (.string (T.extract a b)) ∧ Below w.heap.size w w' := by
  have hlt := World.block_lt_of_cell? w _ h3
  simp only at hlt
  go_enter Yba.func17, Yba.ntmps17
  go_wp2_with fail
  go_quiet (fail)
  go_wp2_with fail
  go_ret
  exact ⟨rfl, below_drewN (bel_alloc (Below.refl _ _) _) _⟩

set_option maxHeartbeats 400000 in
theorem str_any (bf : Nat) (T : ByteArray) (a b : Nat) (w : World) (h3 : w.cell? ⟨bf, 3, none⟩ = some (.string T)) (h7 : w.cell? ⟨bf, 7, none⟩ = some (.bool false)) (hab : a ≤ b) (hb : b ≤ T.size) :
    Calls Yba.prog 14 #[.pointer (some ⟨bf, 0, none⟩), .agg #[.int .u32 a, .int .u32 b]] w fun e w' => e = .returned (.string (T.extract a b)) ∧ Below w.heap.size w w' := by
  have hlt := World.block_lt_of_cell? w _ h3
  simp only at hlt
  go_enter Yba.func14, Yba.ntmps14
  go_wp2_with fail
  refine (raw_any bf T a b _ ?_ hab hb).mono ?_
  · exact cell_kept (bel_alloc (Below.refl _ _) _) h3
  rintro e w1 ⟨rfl, hb1⟩
  have hB1 : Below w.heap.size w w1 := (bel_alloc (Below.refl _ _) _).trans (hb1.mono (by simp))
  have h7' := cell_kept hB1 h7
  go_wp2_with fail
  go_ret
  exact ⟨rfl, hB1⟩

/-- what a cell holds, behind a name that the walk does not open -/
def slotOf (w : World) (a : Addr) : Value := (w.cell? a).getD undef
theorem slotOf_some {w : World} {a : Addr} {v : Value} (h : w.cell? a = some v) : w.cell? a = some (slotOf w a) := by rw [slotOf, h]; rfl

/-- what stays as it is while an entry is made -/
def EntS (bf : Nat) (T : ByteArray) (n : Int) (a b c : Nat) (w w' : World) : Prop :=
  w'.cell? ⟨w.heap.size, 0, none⟩ = some (.int .i64 n) ∧ w'.cell? ⟨w.heap.size, 3, none⟩ = some (.int .u32 a) ∧ w'.cell? ⟨w.heap.size, 4, none⟩ = some (.int .u32 b) ∧
      w'.cell? ⟨w.heap.size, 5, none⟩ = some (.int .u32 b) ∧ w'.cell? ⟨w.heap.size, 6, none⟩ = some (.int .u32 c) ∧ w'.cell? ⟨bf, 3, none⟩ = some (.string T) ∧ w'.cell? ⟨bf, 7, none⟩ = some (.bool false) ∧
      w'.cell? ⟨w.heap.size + 1, 0, none⟩ = some (slotOf w' ⟨w.heap.size + 1, 0, none⟩) ∧ w'.cell? ⟨w.heap.size + 1, 1, none⟩ = some (slotOf w' ⟨w.heap.size + 1, 1, none⟩) ∧ w'.cell? ⟨w.heap.size + 1, 2, none⟩ = some (slotOf w' ⟨w.heap.size + 1, 2, none⟩) ∧ w'.cell? ⟨w.heap.size + 1, 3, none⟩ = some (slotOf w' ⟨w.heap.size + 1, 3, none⟩) ∧
      (∀ o, w'.frozen? ⟨w.heap.size + 1, o, none⟩ = false) ∧ Below w.heap.size w w'

theorem EntS.below {bf : Nat} {T : ByteArray} {n : Int} {a b c : Nat} {w w' w'' : World} (h : EntS bf T n a b c w w') (hb : Below w'.heap.size w' w'') : EntS bf T n a b c w w'' := by
  obtain ⟨h0, h1, h2, h3, h4, h5, h6, s0, s1, s2, s3, hf, hB⟩ := h
  have hlt := World.block_lt_of_cell? w' _ s0
  exact ⟨cell_kept hb h0, cell_kept hb h1, cell_kept hb h2, cell_kept hb h3, cell_kept hb h4, cell_kept hb h5, cell_kept hb h6, slotOf_some (cell_kept hb s0), slotOf_some (cell_kept hb s1), slotOf_some (cell_kept hb s2), slotOf_some (cell_kept hb s3),
    fun o => by rw [hb.frozen (p := ⟨w.heap.size + 1, o, none⟩) hlt]; exact hf o, hB.trans (hb.mono hB.size)⟩

theorem EntS.store {bf : Nat} {T : ByteArray} {n : Int} {a b c : Nat} {w w' : World} (hlt : bf < w.heap.size) (h : EntS bf T n a b c w w') (o : Nat) (v : Value) : EntS bf T n a b c w (w'.setCell ⟨w.heap.size + 1, o, none⟩ v) := by
  obtain ⟨h0, h1, h2, h3, h4, h5, h6, s0, s1, s2, s3, hf, hB⟩ := h
  have oth : ∀ {p : Addr} {u : Value}, p.block ≠ w.heap.size + 1 → w'.cell? p = some u → (w'.setCell ⟨w.heap.size + 1, o, none⟩ v).cell? p = some u := fun hp hu => by
    rw [World.cell?_of_block (w := w') (Below.heap_setCell _ _ _ _ hp)]; exact hu
  have same : ∀ {k : Nat} {u : Value}, w'.cell? ⟨w.heap.size + 1, k, none⟩ = some u → ∃ u', (w'.setCell ⟨w.heap.size + 1, o, none⟩ v).cell? ⟨w.heap.size + 1, k, none⟩ = some u' := fun hu => cell?_setCell_some hu
  refine ⟨oth (by simp) h0, oth (by simp) h1, oth (by simp) h2, oth (by simp) h3, oth (by simp) h4, oth (by simp; omega) h5, oth (by simp; omega) h6, ?_, ?_, ?_, ?_, ?_, hB.setCell (by simp) _⟩
  · obtain ⟨u, hu⟩ := same s0; exact slotOf_some hu
  · obtain ⟨u, hu⟩ := same s1; exact slotOf_some hu
  · obtain ⟨u, hu⟩ := same s2; exact slotOf_some hu
  · obtain ⟨u, hu⟩ := same s3; exact slotOf_some hu
  · intro k; rw [← hf k]; simp

theorem cell_set_other {w : World} {B o k : Nat} {v : Value} (h : o ≠ k) : (w.setCell ⟨B, o, none⟩ v).cell? ⟨B, k, none⟩ = w.cell? ⟨B, k, none⟩ := by
  simp only [World.cell?, World.setCell, Array.getElem?_modify, if_true]
  cases w.heap[B]? with
  | none => rfl
  | some ob => cases ob <;> simp [h]
theorem cell_set_same {w : World} {B o : Nat} {v u : Value} (h : (w.setCell ⟨B, o, none⟩ v).cell? ⟨B, o, none⟩ = some u) : u = v := by
  simp only [World.cell?, World.setCell, Array.getElem?_modify, if_true] at h
  cases hw : w.heap[B]? with
  | none => rw [hw] at h; simp at h
  | some ob =>
    rw [hw] at h
    cases ob <;> simp at h
    simp only [Array.getElem?_setIfInBounds, if_true] at h
    split at h
    · exact (Option.some.inj h).symm
    · cases h

/-- four cells stored, each of which is there -/
theorem chain4 {w : World} {B : Nat} {v0 v1 v2 v3 : Value} {u0 u1 u2 u3 : Value}
    (h0 : ((((w.setCell ⟨B, 0, none⟩ v0).setCell ⟨B, 1, none⟩ v1).setCell ⟨B, 2, none⟩ v2).setCell ⟨B, 3, none⟩ v3).cell? ⟨B, 0, none⟩ = some u0)
    (h1 : ((((w.setCell ⟨B, 0, none⟩ v0).setCell ⟨B, 1, none⟩ v1).setCell ⟨B, 2, none⟩ v2).setCell ⟨B, 3, none⟩ v3).cell? ⟨B, 1, none⟩ = some u1)
    (h2 : ((((w.setCell ⟨B, 0, none⟩ v0).setCell ⟨B, 1, none⟩ v1).setCell ⟨B, 2, none⟩ v2).setCell ⟨B, 3, none⟩ v3).cell? ⟨B, 2, none⟩ = some u2)
    (h3 : ((((w.setCell ⟨B, 0, none⟩ v0).setCell ⟨B, 1, none⟩ v1).setCell ⟨B, 2, none⟩ v2).setCell ⟨B, 3, none⟩ v3).cell? ⟨B, 3, none⟩ = some u3) :
    u0 = v0 ∧ u1 = v1 ∧ u2 = v2 ∧ u3 = v3 := by
  refine ⟨?_, ?_, ?_, cell_set_same h3⟩
  · rw [cell_set_other (by omega), cell_set_other (by omega), cell_set_other (by omega)] at h0
    exact cell_set_same h0
  · rw [cell_set_other (by omega), cell_set_other (by omega)] at h1
    exact cell_set_same h1
  · rw [cell_set_other (by omega)] at h2
    exact cell_set_same h2

/-- one entry as a value -/
abbrev entVal (n : Int) (sec key val : ByteArray) : Value := .agg #[.int .i64 n, .string sec, .string key, .string val]

set_option maxHeartbeats 1000000 in
theorem entry_any (bf : Nat) (T sec : ByteArray) (n : Int) (a b c : Nat) (w : World) (h3 : w.cell? ⟨bf, 3, none⟩ = some (.string T)) (h7 : w.cell? ⟨bf, 7, none⟩ = some (.bool false)) (hab : a ≤ b) (hbc : b ≤ c) (hc : c ≤ T.size) :
    Calls Yba.prog 12 #[.pointer (some ⟨bf, 0, none⟩), .agg #[.int .i64 n, .int .u32 0, .int .u32 0, .int .u32 a, .int .u32 b, .int .u32 b, .int .u32 c], .string sec] w fun e w' =>
      e = .returned (entVal n sec (T.extract a b) (T.extract b c)) ∧ Below w.heap.size w w' := by
  have hlt := World.block_lt_of_cell? w _ h3
  simp only at hlt
  go_enter Yba.func12, Yba.ntmps12
  go_wp2_with fail
  have hS0 : EntS bf T n a b c w ((w.alloc (.cells #[.int .i64 n, .int .u32 0, .int .u32 0, .int .u32 a, .int .u32 b, .int .u32 b, .int .u32 c] 46)).alloc (.cells #[.int .i64 0, .string ⟨#[]⟩, .string ⟨#[]⟩, .string ⟨#[]⟩] 34)).drew := by
    have hB : Below w.heap.size w ((w.alloc (.cells #[.int .i64 n, .int .u32 0, .int .u32 0, .int .u32 a, .int .u32 b, .int .u32 b, .int .u32 c] 46)).alloc (.cells #[.int .i64 0, .string ⟨#[]⟩, .string ⟨#[]⟩, .string ⟨#[]⟩] 34)).drew := (bel_alloc (bel_alloc (Below.refl _ _) _) _).drew
    exact ⟨by simp [go_sem], by simp [go_sem], by simp [go_sem], by simp [go_sem], by simp [go_sem], cell_kept hB h3, cell_kept hB h7, slotOf_some (v := .int .i64 0) (by simp [go_sem]), slotOf_some (v := .string ⟨#[]⟩) (by simp [go_sem]), slotOf_some (v := .string ⟨#[]⟩) (by simp [go_sem]), slotOf_some (v := .string ⟨#[]⟩) (by simp [go_sem]), fun o => by simp [go_sem], hB⟩
  go_region_held3 (fun w' => w'.cell? ⟨w.heap.size, 0, none⟩ = some (.int .i64 n) ∧ w'.cell? ⟨w.heap.size, 3, none⟩ = some (.int .u32 a) ∧ w'.cell? ⟨w.heap.size, 4, none⟩ = some (.int .u32 b) ∧
      w'.cell? ⟨w.heap.size, 5, none⟩ = some (.int .u32 b) ∧ w'.cell? ⟨w.heap.size, 6, none⟩ = some (.int .u32 c) ∧ w'.cell? ⟨bf, 3, none⟩ = some (.string T) ∧ w'.cell? ⟨bf, 7, none⟩ = some (.bool false) ∧
      w'.cell? ⟨w.heap.size + 1, 0, none⟩ = some (slotOf w' ⟨w.heap.size + 1, 0, none⟩) ∧ w'.cell? ⟨w.heap.size + 1, 1, none⟩ = some (slotOf w' ⟨w.heap.size + 1, 1, none⟩) ∧ w'.cell? ⟨w.heap.size + 1, 2, none⟩ = some (slotOf w' ⟨w.heap.size + 1, 2, none⟩) ∧ w'.cell? ⟨w.heap.size + 1, 3, none⟩ = some (slotOf w' ⟨w.heap.size + 1, 3, none⟩) ∧
      (∀ o, w'.frozen? ⟨w.heap.size + 1, o, none⟩ = false) ∧ Below w.heap.size w w')
    (first | exact hS0 | exact EntS.below (by assumption) ‹_› | exact (((EntS.store hlt (by assumption) _ _).store hlt _ _).store hlt _ _).store hlt _ _)
    (first | (go_at_call 14; refine (str_any bf T _ _ _ ?_ ?_ ?_ ?_).mono ?_; (simp [*, go_sem]); (simp [*, go_sem]); omega; omega; rintro e w1 ⟨rfl, hb1⟩))
  rename_i hH
  obtain ⟨_, _, _, _, _, _, _, s0, s1, s2, s3, _, hBf⟩ := hH
  obtain ⟨e0, e1, e2, e3⟩ := chain4 s0 s1 s2 s3
  rw [e0] at s0
  rw [e1] at s1
  rw [e2] at s2
  rw [e3] at s3
  clear e0 e1 e2 e3 hS0 hb1
  generalize (((w1.setCell ⟨w.heap.size + 1, 0, none⟩ (.int .i64 n)).setCell ⟨w.heap.size + 1, 1, none⟩ (.string sec)).setCell ⟨w.heap.size + 1, 2, none⟩ (.string (T.extract a b))).setCell ⟨w.heap.size + 1, 3, none⟩ (.string (T.extract b c)) = wf at *
  go_wp2_with fail
  exact bodyPost_ret (v := entVal n sec (T.extract a b) (T.extract b c)) (by simp [results, Yba.results12, go_sem, s0, s1, s2, s3]) rfl ⟨rfl, hBf⟩
end Go.Proofs.Ybulkahne

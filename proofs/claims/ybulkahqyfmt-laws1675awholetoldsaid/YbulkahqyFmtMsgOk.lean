import Derived.Test.YbulkahqyFmtFeed
import Derived.Test.YbulkahqyFmtMsg
namespace Go.Proofs.YbulkahqyFmt
open Go.RowKit
set_option linter.unusedSimpArgs false

def mAt (l : List Int) (i : Nat) : Int := l.getD i 0

theorem nameC_range (raw : List Int) (i : Nat) : 33 ≤ nameC raw i ∧ nameC raw i ≤ 126 := by
  unfold nameC
  cases raw[i]? with
  | none => simp
  | some c =>
    simp only [Option.elim]
    have h : (c % 10).toNat < 10 := by omega
    generalize (c % 10).toNat = j at h
    have : j = 0 ∨ j = 1 ∨ j = 2 ∨ j = 3 ∨ j = 4 ∨ j = 5 ∨ j = 6 ∨ j = 7 ∨ j = 8 ∨ j = 9 := by omega
    rcases this with rfl | rfl | rfl | rfl | rfl | rfl | rfl | rfl | rfl | rfl <;> decide

theorem msgB_length (raw : List Int) (L : Nat) : (msgB raw L).length = 56 + L := by
  simp [msgB, headB, randB, extB, nameB]; omega

theorem msgB_bytes (raw : List Int) (L : Nat) (h1 : 1 ≤ L) (h2 : L ≤ 255) : ∀ c ∈ msgB raw L, 0 ≤ c ∧ c ≤ 255 := by
  intro c hc
  simp only [msgB, List.mem_append] at hc
  rcases hc with (((hc | hc) | hc) | hc) | hc
  · simp [headB] at hc; omega
  · simp [randB] at hc; obtain ⟨a, ha, rfl⟩ := hc; omega
  · simp at hc; omega
  · simp [extB] at hc; omega
  · simp [nameB] at hc
    obtain ⟨a, _, rfl⟩ := hc
    have := nameC_range raw a
    omega

theorem msg_ok (raw : List Int) (L : Nat) (h1 : 1 ≤ L) (h2 : L ≤ 255) : MsgOk (mAt (msgB raw L)) L := by
  have hg : ∀ i, mAt (msgB raw L) i = 0 ∨ mAt (msgB raw L) i ∈ msgB raw L := by
    intro i
    unfold mAt
    rw [List.getD_eq_getElem?_getD]
    cases h : (msgB raw L)[i]? with
    | none => left; rfl
    | some c => right; exact List.mem_of_getElem? h
  refine ⟨fun i => ?_, fun i hi1 hi2 => ?_, fun k hk hn => ?_, h1, h2⟩
  · rcases hg i with h | h
    · rw [h]; omega
    · exact msgB_bytes raw L h1 h2 _ h
  · have hl : (headB L ++ randB 34 ++ [0, 0, 2, 19, 1, 1, 0] ++ extB L).length = 56 := by simp [headB, randB, extB]
    have e : mAt (msgB raw L) i = nameC raw (i - 56) := by
      unfold mAt msgB
      rw [List.getD_eq_getElem?_getD, List.getElem?_append_right (by omega), hl]
      unfold nameB
      rw [List.getElem?_map, List.getElem?_range (by omega)]
      rfl
    rw [e]
    exact nameC_range raw _
  · have a0 : mAt (msgB raw L) 0 = 1 := rfl
    have a1 : mAt (msgB raw L) 1 = (52 + (L : Int)) / 65536 := rfl
    have a2 : mAt (msgB raw L) 2 = (52 + (L : Int)) / 256 := rfl
    have a3 : mAt (msgB raw L) 3 = (52 + (L : Int)) % 256 := rfl
    have a38 : mAt (msgB raw L) 38 = 0 := rfl
    have a39 : mAt (msgB raw L) 39 = 0 := rfl
    have a40 : mAt (msgB raw L) 40 = 2 := rfl
    have a43 : mAt (msgB raw L) 43 = 1 := rfl
    have a45 : mAt (msgB raw L) 45 = (9 + (L : Int)) / 256 := rfl
    have a46 : mAt (msgB raw L) 46 = (9 + (L : Int)) % 256 := rfl
    have a47 : mAt (msgB raw L) 47 = 0 := rfl
    have a48 : mAt (msgB raw L) 48 = 0 := rfl
    have a49 : mAt (msgB raw L) 49 = (5 + (L : Int)) / 256 := rfl
    have a50 : mAt (msgB raw L) 50 = (5 + (L : Int)) % 256 := rfl
    have a51 : mAt (msgB raw L) 51 = (3 + (L : Int)) / 256 := rfl
    have a52 : mAt (msgB raw L) 52 = (3 + (L : Int)) % 256 := rfl
    have a53 : mAt (msgB raw L) 53 = 0 := rfl
    have a54 : mAt (msgB raw L) 54 = (L : Int) / 256 := rfl
    have a55 : mAt (msgB raw L) 55 = (L : Int) := rfl
    rcases k17 (show k ≤ 17 by omega) with rfl | rfl | rfl | rfl | rfl | rfl | rfl | rfl | rfl | rfl | rfl | rfl | rfl | rfl | rfl | rfl | rfl | rfl
    all_goals first
      | (simp [isNum] at hn; done)
      | (simp [fromN, tillL, valN, numv, a0, a1, a2, a3, a38, a39, a40, a43, a45, a46, a47, a48, a49, a50, a51, a52, a53, a54, a55]; done)
      | (simp [fromN, tillL, valN, numv, a0, a1, a2, a3, a38, a39, a40, a43, a45, a46, a47, a48, a49, a50, a51, a52, a53, a54, a55]; omega)
      | omega
end Go.Proofs.YbulkahqyFmt

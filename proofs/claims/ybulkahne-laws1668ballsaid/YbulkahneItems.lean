import Derived.Test.YbulkahneRows
import Derived.WalkKit
import Derived.WalkSpells
import Derived.WalkLawsBesides
import Derived.Lib.AppendStr
import Derived.Laws.BytesArg
namespace Go.Proofs.Ybulkahne
open Go.RowKit
set_option linter.unusedSimpArgs false

/-- One item: line, key, value. -/
abbrev Item := Int × ByteArray × ByteArray

/-- WHAT THE WALK IS TOLD OF A SLICE OF ITEMS THAT CAME IN. -/
def ItemsAt (w : World) (a : Option Addr) (l : List Item) : Prop :=
  ∀ i s, l[i]? = some s → ∃ b off, a = some ⟨b, off, none⟩ ∧ b < w.heap.size ∧
    w.cell? ⟨b, off + i * 3, none⟩ = some (.int .i64 s.1) ∧ w.cell? ⟨b, off + i * 3 + 1, none⟩ = some (.string s.2.1) ∧ w.cell? ⟨b, off + i * 3 + 2, none⟩ = some (.string s.2.2)

theorem cell_kept {w w' : World} (h : Below w.heap.size w w') {a : Addr} {v : Value} (hc : w.cell? a = some v) : w'.cell? a = some v := by
  rw [h.cell (World.block_lt_of_cell? w a hc)]; exact hc

theorem ItemsAt.below {w w' : World} {a : Option Addr} {l : List Item} (h : ItemsAt w a l) (hb : Below w.heap.size w w') : ItemsAt w' a l := by
  intro i s hs
  obtain ⟨b, off, rfl, hlt, h1, h2, h3⟩ := h i s hs
  exact ⟨b, off, rfl, Nat.lt_of_lt_of_le hlt hb.size, cell_kept hb h1, cell_kept hb h2, cell_kept hb h3⟩

/-- a new block, over the call's own first world -/
theorem bel_alloc {w wr : World} (h : Below w.heap.size w wr) (o : Obj) : Below w.heap.size w (wr.alloc o) := h.alloc h.size o

theorem take_snoc' {α : Type} {l : List α} {k : Nat} {s : α} (h : l[k]? = some s) : l.take (k + 1) = l.take k ++ [s] := by rw [List.take_add_one, h]; rfl

def smallB (s : Item) : Bool := decide (s.2.1.size ≤ 4096) && decide (s.2.2.size ≤ 4096)
def okB (l : List Item) : Bool := decide (l.length ≤ 256) && l.all smallB

theorem all_take_snoc {α : Type} (p : α → Bool) {l : List α} {k : Nat} {s : α} (h : l[k]? = some s) : (l.take (k + 1)).all p = ((l.take k).all p && p s) := by rw [take_snoc' h]; simp

theorem all_false {l : List Item} {k : Nat} {s : Item} (h : l[k]? = some s) (hs : smallB s = false) : l.all smallB = false := by
  rw [List.all_eq_false]
  exact ⟨s, List.mem_of_getElem? h, by simp [hs]⟩

set_option maxHeartbeats 1000000 in
theorem ok_any (a : Option Addr) (cap : Nat) (l : List Item) (w : World) (hc : ItemsAt w a l) :
    Calls Yba.prog 5 #[.slice a l.length cap] w fun e w' => e = .returned (.bool (okB l)) ∧ Below w.heap.size w w' := by
  by_cases hl : l.length ≤ 256
  · have hlen : okB l = l.all smallB := by simp [okB, hl]
    rw [hlen]
    go_enter Yba.func5, Yba.ntmps5
    go_wp2_with fail
    go_loopw [10] (fun i wr => ∃ k : Nat, k ≤ l.length ∧ i = .int .i64 k ∧ (l.take k).all smallB = true ∧ Below w.heap.size w wr)
      (fun i _ => l.length - (intOf i).toNat)
    case atStart => exact ⟨0, Nat.zero_le _, rfl, rfl, Below.refl _ _⟩
    case round =>
      obtain ⟨k, hk, rfl, hall, hnx⟩ := hrel
      have HALL : Hid ((l.take k).all smallB = true) := hall
      clear hall hlen
      by_cases hlt : k < l.length
      · obtain ⟨s, hs⟩ : ∃ s, l[k]? = some s := ⟨l[k], by simp [hlt]⟩
        obtain ⟨b, off, rfl, hb, h1, h2, h3⟩ := (hc.below hnx) k s hs
        have HS : Hid (l[k]? = some s) := hs
        clear hc hs
        by_cases hk1 : s.2.1.size ≤ 4096
        · have hd1 : decide ((4096 : Int) < s.2.1.size) = false := by simp; omega
          by_cases hk2 : s.2.2.size ≤ 4096
          · go_wp2_with fail
            go_roundw
            case rel => exact ⟨k + 1, by omega, by go_num, by rw [all_take_snoc _ HS.out, HALL.out]; simp [smallB, hk1, hk2], bel_alloc hnx _⟩
            case measure => simp [intOf]; omega
          · have hk2' : (4096 : Int) < s.2.2.size := by omega
            go_wp2_with fail
            go_ret
            exact ⟨by rw [all_false HS.out (by simp [smallB, hk2])]; rfl, bel_alloc hnx _⟩
        · have hk1' : (4096 : Int) < s.2.1.size := by omega
          go_wp2_with fail
          go_ret
          exact ⟨by rw [all_false HS.out (by simp [smallB, hk1])]; rfl, bel_alloc hnx _⟩
      · have hkl : k = l.length := by omega
        subst hkl
        rw [List.take_length] at HALL
        go_wp2_with fail
        go_ret
        exact ⟨by rw [HALL.out]; rfl, hnx⟩
  · have hlen : okB l = false := by simp [okB]; omega
    have hl' : (256 : Int) < l.length := by omega
    rw [hlen]
    go_enter Yba.func5, Yba.ntmps5
    go_wp2_with fail
    go_ret
    exact ⟨rfl, Below.refl _ _⟩
end Go.Proofs.Ybulkahne

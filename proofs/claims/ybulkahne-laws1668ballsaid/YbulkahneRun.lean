import Derived.Test.YbulkahneLoop
namespace Go.Proofs.Ybulkahne
open Go.RowKit Go.Lib
set_option linter.unusedSimpArgs false

abbrev runCells (bf first en : Nat) (sec : ByteArray) : Array Value := #[.pointer (some ⟨bf, 0, none⟩), .int .i64 first, .int .i64 en, .string sec]

theorem entries_any (bf first en : Nat) (sec : ByteArray) (w : World) :
    Calls Yba.prog 8 #[.agg (runCells bf first en sec)] w fun e w' => e = .returned (.func (.func 11) #[] #[.pointer (some ⟨w.heap.size, 0, none⟩)]) ∧ w' = w.alloc (.cells (runCells bf first en sec) 27) := by
  go_enter Yba.func8, Yba.ntmps8
  go_wp2_with fail
  go_ret
  exact ⟨rfl, rfl⟩

theorem len_any (bf first en : Nat) (sec : ByteArray) (w : World) (h1 : first ≤ en) (h2 : en ≤ 256) :
    Calls Yba.prog 7 #[.agg (runCells bf first en sec)] w fun e w' => e = .returned (.int .i64 ((en : Int) - first)) ∧ w' = w.alloc (.cells (runCells bf first en sec) 27) := by
  go_enter Yba.func7, Yba.ntmps7
  go_wp2_with fail
  go_ret
  exact ⟨rfl, rfl⟩

theorem flatMap_getElem? {α β : Type} (f : α → List β) (n : Nat) (hf : ∀ x, (f x).length = n) (l : List α) : ∀ (i j : Nat) (s : α), l[i]? = some s → j < n → (l.flatMap f)[i * n + j]? = (f s)[j]? := by
  induction l with
  | nil => intro i j s h; simp at h
  | cons x l ih =>
    intro i j s h hj
    cases i with
    | zero =>
      simp at h
      subst h
      rw [List.flatMap_cons, List.getElem?_append_left (by rw [hf]; omega)]
      simp
    | succ i =>
      simp at h
      rw [List.flatMap_cons, List.getElem?_append_right (by rw [hf]; rw [Nat.succ_mul]; omega), hf]
      have : (i + 1) * n + j - n = i * n + j := by rw [Nat.succ_mul]; omega
      rw [this]
      exact ih i j s h hj

/-- the gathered entries, where they lie -/
def EntsAt (w : World) (p : Option Addr) (es : List Ent) : Prop := ∀ j e, es[j]? = some e → ∃ g, p = some ⟨g, 0, none⟩ ∧ g < w.heap.size ∧
  w.cell? ⟨g, j * 4, none⟩ = some (.int .i64 e.1) ∧ w.cell? ⟨g, j * 4 + 1, none⟩ = some (.string e.2.1) ∧ w.cell? ⟨g, j * 4 + 2, none⟩ = some (.string e.2.2.1) ∧ w.cell? ⟨g, j * 4 + 3, none⟩ = some (.string e.2.2.2)

theorem EntsAt.below {w w' : World} {p : Option Addr} {es : List Ent} (h : EntsAt w p es) (hb : Below w.heap.size w w') : EntsAt w' p es := by
  intro i s hs
  obtain ⟨g, rfl, hlt, h1, h2, h3, h4⟩ := h i s hs
  exact ⟨g, rfl, Nat.lt_of_lt_of_le hlt hb.size, cell_kept hb h1, cell_kept hb h2, cell_kept hb h3, cell_kept hb h4⟩

theorem Got.at {base d : Nat} {es : List Ent} {w : World} (h : Got base d es w) : ∃ p c, w.cell? ⟨d, 0, none⟩ = some (.slice p es.length c) ∧ EntsAt w p es := by
  obtain ⟨v, hv, ho⟩ := h.row
  obtain ⟨p, c, rfl⟩ := ownsRow_slice ho
  refine ⟨p, c, hv, fun j e he => ?_⟩
  have hj : j < es.length := (List.getElem?_eq_some_iff.1 he).1
  rcases ho.2 with ⟨h0, h1⟩ | ⟨g, cap, cur, hv', hb', hg, r⟩
  · injection h0 with _ h0 _; omega
  · injection hv' with hp _ _
    subst hp
    have key : ∀ i, i < 4 → w.cell? ⟨g, j * 4 + i, none⟩ = (entCells e)[i]? := fun i hi => by
      rw [ho.cellAt (j * 4 + i) (by omega)]
      exact flatMap_getElem? entCells 4 (fun _ => rfl) es j i e he hi
    exact ⟨g, rfl, (Array.getElem?_eq_some_iff.1 hg).1, key 0 (by omega), key 1 (by omega), key 2 (by omega), key 3 (by omega)⟩

theorem ItemsAt.but {B c d : Nat} {w w' w'' : World} {a : Option Addr} {l : List Item} (h : ItemsAt w a l) (hb : Below w.heap.size w w') (hq : But B c d w' w'') (hB : w.heap.size ≤ B) (hc : w.heap.size ≤ c) (hd : w.heap.size ≤ d) : ItemsAt w'' a l :=
  h.below (hb.trans (hq.below hB hc hd))
end Go.Proofs.Ybulkahne

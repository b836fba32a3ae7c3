import Derived.Test.YbulkahlaSteps
import Derived.Deep.AppendLies
import Derived.OneCell
namespace Go.Proofs.Ybulkahla
open Go.RowKit
set_option linter.unusedSimpArgs false

/-- A row of n cells, whole: block b, element type t, cell i holds f i. -/
def Row (w : World) (b n : Nat) (t : TypeId) (f : Nat → Value) : Prop :=
  ∃ arr : Array Value, w.heap[b]? = some (.cells arr t (0, 0)) ∧ arr.size = n ∧ ∀ i, i < n → arr[i]? = some (f i)

def upd {α : Type} (f : Nat → α) (k : Nat) (v : α) : Nat → α := fun i => if i = k then v else f i
theorem upd_same {α : Type} (f : Nat → α) (k : Nat) (v : α) : upd f k v k = v := by simp [upd]
theorem upd_other {α : Type} (f : Nat → α) {k i : Nat} (v : α) (h : i ≠ k) : upd f k v i = f i := by simp [upd, h]

theorem heap_set_other (w : World) (a : Addr) (u : Value) {k : Nat} (h : k ≠ a.block) : (w.setCell a u).heap[k]? = w.heap[k]? := by
  simp [World.setCell, Array.getElem?_modify, Ne.symm h]

section
variable {w w' : World} {b n : Nat} {t : TypeId} {f : Nat → Value}
theorem Row.lt (h : Row w b n t f) : b < w.heap.size := by
  obtain ⟨_, h, _⟩ := h
  exact (Array.getElem?_eq_some_iff.1 h).1
theorem Row.cell (h : Row w b n t f) {i : Nat} (hi : i < n) : w.cell? ⟨b, i, none⟩ = some (f i) := by
  obtain ⟨arr, h1, _, h3⟩ := h
  simp [World.cell?, h1, h3 i hi]
theorem Row.free (h : Row w b n t f) (i : Nat) : w.frozen? ⟨b, i, none⟩ = false := by
  obtain ⟨arr, h1, _⟩ := h
  simp [World.frozen?, h1]
theorem Row.of_block (h : Row w b n t f) (hb : w'.heap[b]? = w.heap[b]?) : Row w' b n t f := by
  obtain ⟨arr, h1, h2⟩ := h
  exact ⟨arr, hb.trans h1, h2⟩
theorem Row.below (h : Row w b n t f) {B : Nat} (hb : Below B w w') (hB : b < B) : Row w' b n t f := h.of_block (hb.block b hB)
theorem Row.alloc (h : Row w b n t f) (o : Obj) : Row (w.alloc o) b n t f := h.of_block (Below.heap_alloc _ _ _ h.lt)
theorem Row.drew (h : Row w b n t f) : Row w.drew b n t f := h
theorem Row.other (h : Row w b n t f) {a : Addr} (ha : b ≠ a.block) (u : Value) : Row (w.setCell a u) b n t f := h.of_block (heap_set_other w a u ha)
theorem Row.set (h : Row w b n t f) {k : Nat} (v : Value) : Row (w.setCell ⟨b, k, none⟩ v) b n t (upd f k v) := by
  obtain ⟨arr, h1, h2, h3⟩ := h
  refine ⟨arr.setIfInBounds k v, by simp [World.setCell, Array.getElem?_modify, h1], by simpa using h2, fun i hi => ?_⟩
  by_cases hik : i = k
  · subst hik; rw [upd_same, Array.getElem?_setIfInBounds_self_of_lt (by omega)]
  · rw [upd_other _ _ hik, Array.getElem?_setIfInBounds_ne (fun e => hik e.symm)]; exact h3 i hi
theorem Row.congr (h : Row w b n t f) {g : Nat → Value} (hg : ∀ i, i < n → f i = g i) : Row w b n t g := by
  obtain ⟨arr, h1, h2, h3⟩ := h
  exact ⟨arr, h1, h2, fun i hi => by rw [h3 i hi, hg i hi]⟩
theorem row_made {z : Value} (h : w.heap[b]? = some (.cells (Array.replicate n z) t (0, 0))) : Row w b n t (fun _ => z) :=
  ⟨_, h, by simp, fun i hi => by simp [hi]⟩
end

/-- A FAMILY OF ROWS, each of the call's own, no two in one block. -/
structure Fam (w : World) (B : Nat) (e : TypeId) (size m : Nat) (cs : Nat → Value) (len : Nat → Nat) (xs : Nat → List Value) : Prop where
  own : ∀ s, s < m → w.ownsRow B e size (cs s) (len s) (xs s)
  apart : ∀ s s', s < m → s' < m → s ≠ s' → ∀ g, (cs s).ownBlock = some g → (cs s').ownBlock ≠ some g

theorem owns_of_block {w w' : World} {B : Nat} {e : TypeId} {size : Nat} {v : Value} {n : Nat} {xs : List Value} (h : w.ownsRow B e size v n xs) (hb : ∀ g, v.ownBlock = some g → w'.heap[g]? = w.heap[g]?) : w'.ownsRow B e size v n xs := by
  refine ⟨h.1, ?_⟩
  rcases h.2 with h0 | ⟨g, cap, cur, hv, hB, hg, r⟩
  · exact .inl h0
  · exact .inr ⟨g, cap, cur, hv, hB, by rw [hb g (by rw [hv]; rfl)]; exact hg, r⟩

section
variable {w w' : World} {B : Nat} {e : TypeId} {size m : Nat} {cs : Nat → Value} {len : Nat → Nat} {xs : Nat → List Value}
theorem Fam.of_block (h : Fam w B e size m cs len xs) (hb : ∀ s g, s < m → (cs s).ownBlock = some g → w'.heap[g]? = w.heap[g]?) : Fam w' B e size m cs len xs :=
  ⟨fun s hs => owns_of_block (h.own s hs) (fun g hg => hb s g hs hg), h.apart⟩
theorem Fam.lt (h : Fam w B e size m cs len xs) {s g : Nat} (hs : s < m) (hg : (cs s).ownBlock = some g) : B ≤ g ∧ g < w.heap.size := (h.own s hs).lt g hg
theorem Fam.alloc (h : Fam w B e size m cs len xs) (o : Obj) : Fam (w.alloc o) B e size m cs len xs := h.of_block fun _ _ hs hg => Below.heap_alloc _ _ _ (h.lt hs hg).2
theorem Fam.drew (h : Fam w B e size m cs len xs) : Fam w.drew B e size m cs len xs := ⟨h.own, h.apart⟩
theorem Fam.set_below (h : Fam w B e size m cs len xs) {a : Addr} (ha : a.block < B) (u : Value) : Fam (w.setCell a u) B e size m cs len xs :=
  h.of_block fun _ g hs hg => heap_set_other w a u (by have := (h.lt hs hg).1; omega)
theorem Fam.kept (h : Fam w B e size m cs len xs) (hb : Below w.heap.size w w') : Fam w' B e size m cs len xs := h.of_block fun _ g hs hg => hb.block g (h.lt hs hg).2
/-- another row has grown, one that shares no block with the family -/
theorem Fam.grown (h : Fam w B e size m cs len xs) {row : Option Nat} (hg : w.grownBy w' row) (hr : ∀ s g, s < m → (cs s).ownBlock = some g → some g ≠ row) : Fam w' B e size m cs len xs :=
  h.of_block fun s g hs hgb => hg.block g (h.lt hs hgb).2 (hr s g hs hgb)
/-- a row of the family has grown -/
theorem Fam.append (h : Fam w B e size m cs len xs) {s : Nat} (hs : s < m) {g cap n' : Nat} {ys : List Value} (ho : w'.ownsRow B e size (.slice (some ⟨g, 0, none⟩) n' cap) n' ys)
    (hg : w.grownBy w' (cs s).ownBlock) (hat : (cs s).ownBlock = some g ∨ g = w.heap.size) : Fam w' B e size m (upd cs s (.slice (some ⟨g, 0, none⟩) n' cap)) (upd len s n') (upd xs s ys) := by
  refine ⟨fun k hk => ?_, fun k k' hk hk' hne g' hg' => ?_⟩
  · by_cases hks : k = s
    · subst hks; simpa [upd_same] using ho
    · simp only [upd_other _ _ hks]
      exact owns_of_block (h.own k hk) fun g' hg' => hg.block g' (h.lt hk hg').2 (fun he => h.apart k s hk hs hks g' hg' he.symm)
  · by_cases hks : k = s
    · subst hks
      have hk'k : k' ≠ k := fun e => hne e.symm
      rw [upd_same] at hg'
      rw [upd_other _ _ hk'k]
      have : g = g' := by simpa [Value.ownBlock] using hg'
      subst this
      intro hc
      rcases hat with h1 | h1
      · exact h.apart k k' hk hk' hne g h1 hc
      · have := (h.lt hk' hc).2; omega
    · rw [upd_other _ _ hks] at hg'
      by_cases hk's : k' = s
      · subst hk's
        rw [upd_same]
        intro hc
        have : g = g' := by simpa [Value.ownBlock] using hc
        subst this
        rcases hat with h1 | h1
        · exact h.apart k k' hk hk' hne g hg' h1
        · have := (h.lt hk hg').2; omega
      · rw [upd_other _ _ hk's]
        exact h.apart k k' hk hk' hne g' hg'
/-- no row yet -/
theorem fam_nil (w : World) (B : Nat) (e : TypeId) (size m : Nat) : Fam w B e size m (fun _ => .slice none 0 0) (fun _ => 0) (fun _ => []) :=
  ⟨fun _ _ => World.ownsRow_nil _ _ _ _, fun _ _ _ _ _ g hg => by simp [Value.ownBlock] at hg⟩
end
end Go.Proofs.Ybulkahla

import Derived.Test.YbulkahlaCmp
import Derived.Test.YbulkahlaSort
namespace Go.Proofs.Ybulkahla
open Go.RowKit Go.Sort Go.Shelf Go.Lib

def encF {n : Nat} (i : Fin n) : Value := .int .i64 (i.val : Int)

theorem sortWorld_block {α : Type} [Inhabited α] (enc : α → Value) (w : World) (blk m : Nat) (dk : Array α) (os : Array Obj) {k : Nat} (hk : k < w.heap.size) (hne : k ≠ blk) : (sortWorld enc w blk 0 m dk os).heap[k]? = w.heap[k]? := by
  have h1 : (putRow enc (Sort.ahead w m) blk 0 dk).heap.size = w.heap.size := by rw [Sort.size_putRow]; rfl
  unfold sortWorld grow
  show (((putRow enc (Sort.ahead w m) blk 0 dk).heap) ++ os)[k]? = _
  rw [Array.getElem?_append_left (by omega)]
  unfold putRow mapBlock
  show ((w.heap).modify blk _)[k]? = _
  rw [Array.getElem?_modify, if_neg (Ne.symm hne)]

theorem sortWorld_grown {α : Type} [Inhabited α] (enc : α → Value) (w : World) (blk m : Nat) (dk : Array α) (os : Array Obj) : w.grownBy (sortWorld enc w blk 0 m dk os) (some blk) := by
  refine ⟨rfl, rfl, rfl, ?_, fun k hk hne => sortWorld_block enc w blk m dk os hk (by simpa using hne)⟩
  have h1 : (putRow enc (Sort.ahead w m) blk 0 dk).heap.size = w.heap.size := by rw [Sort.size_putRow]; rfl
  unfold sortWorld grow
  show _ ≤ ((putRow enc (Sort.ahead w m) blk 0 dk).heap ++ os).size
  rw [Array.size_append]
  omega

theorem sort_any (bx bs bl cl blk n cap : Nat) (l : List Smp) (w : World) (hn : l.length = n) (h1024 : n ≤ 1024) (hx0 : w.cell? ⟨bx, 0, none⟩ = some (.pointer (some ⟨bs, 0, none⟩))) (hs5 : w.cell? ⟨bs, 5, none⟩ = some (.slice (some ⟨bl, 0, none⟩) n cl))
    (hsm : SmpRow w bl l) (hxne : bx ≠ blk) (hsne : bs ≠ blk) (hlne : 0 < n → bl ≠ blk) (hblk : blk < w.heap.size) (hrow : ∀ j, j < n → w.cell? ⟨blk, j, none⟩ = some (.int .i64 j) ∧ w.frozen? ⟨blk, j, none⟩ = false) :
    Calls Yba.prog 50 #[.slice (some ⟨blk, 0, none⟩) n cap, .func (.func 51) #[] #[.pointer (some ⟨bx, 0, none⟩)]] w fun e w' =>
      e = .returned (.tuple #[]) ∧ ∃ ord : List Nat, ord.Perm (List.range n) ∧ (∀ j i : Nat, ord[j]? = some i → w'.cell? ⟨blk, j, none⟩ = some (.int .i64 i)) ∧ w.grownBy w' (some blk) := by
  by_cases h0 : n = 0
  · subst h0
    have L : SlLaysF0.n6 Yba.prog Yba.sortI_ren := { Yba.sortI with }
    refine (AnyF.slices_SortFunc_none (P := Yba.prog) (ρ := Yba.sortI_ren) L (some ⟨blk, 0, none⟩) cap (.func (.func 51) #[] #[.pointer (some ⟨bx, 0, none⟩)]) w).mono ?_
    rintro e w' ⟨rfl, rfl⟩
    exact ⟨rfl, [], by simp, fun j i h => by simp at h, ⟨rfl, rfl, rfl, Nat.le_refl _, fun _ _ _ => rfl⟩⟩
  · have hpos : 0 < n := by omega
    have hin : Inhabited (Fin n) := ⟨⟨0, hpos⟩⟩
    let ld : Fin n → Nat := fun i => (l[i.val]'(by omega)).1
    have hbs : bs < w.heap.size := World.block_lt_of_cell? w _ hs5
    have hbx : bx < w.heap.size := World.block_lt_of_cell? w _ hx0
    have hload : ∀ i : Fin n, w.cell? ⟨bl, i.val * 9, none⟩ = some (.float .f64 (ld i)) := fun i => (hsm i.val (l[i.val]'(by omega)) (by simp)).1
    have hbl : bl < w.heap.size := World.block_lt_of_cell? w _ (hload ⟨0, hpos⟩)
    have hO : SWO (ltOf fun x y : Fin n => cmpB (ld x) (ld y)) := by
      have e : (ltOf fun x y : Fin n => cmpB (ld x) (ld y)) = fun x y => ltD (FloatKind.f64.format.read (ld x)) (FloatKind.f64.format.read (ld y)) := by
        funext x y
        exact cmpB_lt _ _
      rw [e]
      exact ⟨fun x => ltD_swo.irrefl _, fun x y z => ltD_swo.trans _ _ _, fun x y z => ltD_swo.ntrans _ _ _⟩
    have eg : ∀ args w, (callFunc 51 args).run Yba.prog w = .ok (.enter 51 args) w := enters_of Yba.func51 (by kernel_rfl) rfl
    have hcmp : CmpReads Yba.prog 51 #[.pointer (some ⟨bx, 0, none⟩)] (encF (n := n)) (fun x y => cmpB (ld x) (ld y)) blk 0 n w := by
      intro m os dk _ x y
      have c : ∀ k o, k < w.heap.size → k ≠ blk → (sortWorld encF w blk 0 m dk os).cell? ⟨k, o, none⟩ = w.cell? ⟨k, o, none⟩ := fun k o hk hne => World.cell?_of_block (sortWorld_block encF w blk m dk os hk hne)
      exact clos_any (ld x) (ld y) bx bs bl cl n x.val y.val _ (by rw [c bx 0 hbx hxne]; exact hx0) (by rw [c bs 5 hbs hsne]; exact hs5) x.isLt y.isLt (by rw [c bl _ hbl (hlne hpos)]; exact hload x) (by rw [c bl _ hbl (hlne hpos)]; exact hload y)
    have hds : (Array.ofFn (n := n) fun i => i).size = n := by simp
    have hH : Holds encF w blk 0 (Array.ofFn (n := n) fun i => i) := by
      intro j hj
      have hj' : j < n := by simpa using hj
      rw [Nat.zero_add, getElem!_pos _ j hj]
      simpa [encF] using hrow j hj'
    have hcon := Any.slices_SortFunc Yba.sortI (encF (n := n)) (fun _ => rfl) (fun x y => cmpB (ld x) (ld y)) hO 51 #[.pointer (some ⟨bx, 0, none⟩)] blk 0 cap (Array.ofFn (n := n) fun i => i) w eg (by rw [hds]; exact hcmp.lays) hH hblk (by rw [hds]; omega)
    rw [hds] at hcon
    refine hcon.mono ?_
    rintro e w' ⟨rfl, d', m, os, hp, _, rfl⟩
    obtain ⟨hs, _, hperm⟩ := hp
    have hs' : d'.size = n := by rw [hs, hds]
    refine ⟨rfl, d'.toList.map (·.val), ?_, ?_, sortWorld_grown encF w blk m d' os⟩
    · have h1 : (d'.extract 0 n) = d' := by
        have := Array.extract_size (xs := d')
        rw [hs'] at this; exact this
      have h2 : ((Array.ofFn (n := n) fun i => i).extract 0 n) = (Array.ofFn (n := n) fun i => i) := by
        have := Array.extract_size (xs := (Array.ofFn (n := n) fun i => i))
        rw [hds] at this; exact this
      rw [h1, h2] at hperm
      have h3 : ((Array.ofFn (n := n) fun i => i).toList.map (·.val)) = List.range n := by
        apply List.ext_getElem?
        intro j
        by_cases hj : j < n
        · simp [hj]
        · simp [hj]
      rw [← h3]
      exact hperm.map _
    · intro j i hji
      have hj : j < d'.size := by have := (List.getElem?_eq_some_iff.1 hji).1; simpa using this
      have h4 : Holds encF (sortWorld encF w blk 0 m d' os) blk 0 d' := SW.holds (h := ⟨m, os, rfl⟩) hblk hH (by rw [hs', hds])
      have h5 := (h4 j hj).1
      rw [Nat.zero_add, getElem!_pos _ j hj] at h5
      rw [h5]
      simp [hj] at hji
      simp [encF, hji]
end Go.Proofs.Ybulkahla

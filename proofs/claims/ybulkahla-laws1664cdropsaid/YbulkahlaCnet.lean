import Derived.Test.YbulkahlaMakes
import Derived.Test.YbulkahlaBuild
import Derived.Deep.DeepCutAuto
namespace Go.Proofs.Ybulkahla
open Go.RowKit
set_option linter.unusedSimpArgs false
attribute [local go_sem] run_store_float

abbrev nilV : Value := .slice none 0 0
abbrev slv (b n : Nat) : Value := .slice (some ⟨b, 0, none⟩) n n
/-- the cells of a network -/
abbrev netCells (nS nG bd bt : Nat) (vr vm : Value) : Array Value := #[.pointer none, slv bd nS, nilV, nilV, vr, nilV, vm, nilV, slv bt nG, .float .f64 0, nilV]

theorem Yba.infoN24 : (Yba.prog.info? 24).map (fun i => (i.zero, i.size, i.bytes)) = some (some (.float .f64 0), 1, 8) := by kernel_rfl
theorem Yba.infoN98 : (Yba.prog.info? 98).map (fun i => (i.zero, i.size, i.bytes)) = some (some (.slice none 0 0), 1, 24) := by kernel_rfl
theorem Yba.infoN74 : (Yba.prog.info? 74).map (fun i => (i.zero, i.size, i.bytes)) = some (some (.agg #[.int .i64 0, .int .i64 0]), 2, 16) := by kernel_rfl
theorem Yba.infoN100 : (Yba.prog.info? 100).map (fun i => (i.zero, i.size, i.bytes)) = some (some (.agg #[.int .i64 0, .int .i64 0, .float .f64 0]), 3, 24) := by kernel_rfl

theorem heap_alloc_new' {w : World} {o : Obj} {b : Nat} (h : b = w.heap.size) : (w.alloc o).heap[b]? = some o := by subst h; exact heap_alloc_new w o
theorem made_row {w : World} {b n : Nat} {t : TypeId} {z : Value} (h : w.heap[b]? = some (.cells (madeCells #[z] n) t (0, 0))) : Row w b n t (fun _ => z) :=
  ⟨_, h, size_madeCells _ _, fun i hi => by simp [madeCells, hi, Nat.mod_one]⟩
theorem heap_set_same {w : World} {b : Nat} {arr : Array Value} {t : TypeId} {fr : Nat × Nat} (h : w.heap[b]? = some (.cells arr t fr)) (k : Nat) (v : Value) : (w.setCell ⟨b, k, none⟩ v).heap[b]? = some (.cells (arr.setIfInBounds k v) t fr) := by
  simp [World.setCell, Array.getElem?_modify, h]
theorem heap_lt {w : World} {b : Nat} {o : Obj} (h : w.heap[b]? = some o) : b < w.heap.size := (Array.getElem?_eq_some_iff.1 h).1
theorem rows_apart {w : World} {b b' e e' s s' n n' : Nat} {v v' : Value} {x x' : List Value} (h : w.ownsRow b e s v n x) (h' : w.ownsRow b' e' s' v' n' x') (hne : e ≠ e') {g : Nat} (hg : v.ownBlock = some g) : some g ≠ v'.ownBlock := by
  rcases h.2 with ⟨rfl, _⟩ | ⟨g1, cap, cur, rfl, _, hg1, _⟩
  · simp [Value.ownBlock] at hg
  · rcases h'.2 with ⟨rfl, _⟩ | ⟨g2, cap', cur', rfl, _, hg2, _⟩
    · simp [Value.ownBlock]
    · simp only [Value.ownBlock, Option.some.injEq] at hg
      simp only [Value.ownBlock, ne_eq, Option.some.injEq]
      intro e
      subst hg
      rw [e, hg2] at hg1
      simp at hg1
      exact hne hg1.2.symm

theorem slice_of_owns {w : World} {base : Nat} {e : TypeId} {size : Nat} {v : Value} {n : Nat} {xs : List Value} (h : w.ownsRow base e size v n xs) : ∃ p c, v = .slice p n c := by
  rcases h.2 with ⟨rfl, rfl⟩ | ⟨g, cap, _, rfl, _⟩
  · exact ⟨_, _, rfl⟩
  · exact ⟨_, _, rfl⟩
theorem kept_apart {w w2 : World} {b b' e e' s s' n n' : Nat} {v v' : Value} {x x' : List Value} (h : w.ownsRow b e s v n x) (h' : w.ownsRow b' e' s' v' n' x') (hne : e ≠ e') (hg : w.grownBy w2 v'.ownBlock) : w2.ownsRow b e s v n x :=
  owns_of_block h fun g hv => hg.block g (h.lt g hv).2 (rows_apart h h' hne hv)

def rtCells (nG q : Nat) : List Value := [.int .i64 (q / nG : Nat), .int .i64 (q % nG : Nat)]
def rtsCells (nG r : Nat) : List Value := (List.range r).flatMap (rtCells nG)
theorem rtsCells_snoc (nG r : Nat) : rtsCells nG (r + 1) = rtsCells nG r ++ rtCells nG r := by simp [rtsCells, List.range_succ]

/-- An inbound route: route, source, cost (bits). -/
abbrev Inb := Int × Nat × Nat
def inbCells (e : Inb) : List Value := [.int .i64 e.1, .int .i64 e.2.1, .float .f64 e.2.2]
def inbsCells (l : List Inb) : List Value := l.flatMap inbCells
theorem inbsCells_snoc (l : List Inb) (e : Inb) : inbsCells (l ++ [e]) = inbsCells l ++ inbCells e := by simp [inbsCells]

/-- the network while it is built: nr routes and nm costs are laid -/
structure Mid (w0 w : World) (B nS nG bn bd bt nr nm : Nat) (vr vm : Value) (cs : Nat → Value) (es : Nat → List Inb) (ms : List Nat) : Prop where
  net : w.heap[bn]? = some (.cells (netCells nS nG bd bt vr vm) 84 (0, 0))
  rts : w.ownsRow B 74 2 vr nr (rtsCells nG nr)
  mss : w.ownsRow B 24 1 vm nm (ms.map (.float .f64))
  row : Row w bt nG 98 cs
  fam : Fam w B 100 3 nG cs (fun k => (es k).length) (fun k => inbsCells (es k))
  src : ∀ k, k < nG → (es k).length ≤ nr ∧ ∀ e ∈ es k, e.2.1 < nS
  bel : Below w0.heap.size w0 w
  bsz : B ≤ w.heap.size
  lay : w0.heap.size ≤ bn ∧ w0.heap.size ≤ bt ∧ bn < B ∧ bt < B ∧ bn ≠ bt

section
variable {w0 w w2 : World} {B nS nG bn bd bt nr nm : Nat} {vr vm : Value} {cs : Nat → Value} {es : Nat → List Inb} {ms : List Nat}
theorem Mid.drew (h : Mid w0 w B nS nG bn bd bt nr nm vr vm cs es ms) : Mid w0 w.drew B nS nG bn bd bt nr nm vr vm cs es ms :=
  ⟨h.net, h.rts, h.mss, h.row, h.fam.drew, h.src, h.bel.drew, h.bsz, h.lay⟩
theorem Mid.alloc (h : Mid w0 w B nS nG bn bd bt nr nm vr vm cs es ms) (o : Obj) : Mid w0 (w.alloc o) B nS nG bn bd bt nr nm vr vm cs es ms :=
  ⟨by rw [Below.heap_alloc _ _ _ (heap_lt h.net)]; exact h.net, h.rts.alloc o, h.mss.alloc o, h.row.alloc o, h.fam.alloc o, h.src, h.bel.alloc h.bel.size o, by have := h.bsz; simp; omega, h.lay⟩
theorem Mid.cell (h : Mid w0 w B nS nG bn bd bt nr nm vr vm cs es ms) : w.cell? ⟨bn, 4, none⟩ = some vr ∧ w.cell? ⟨bn, 6, none⟩ = some vm ∧ w.cell? ⟨bn, 8, none⟩ = some (slv bt nG) ∧ (∀ k, w.frozen? ⟨bn, k, none⟩ = false) ∧ bn < w.heap.size := by
  have hn := h.net
  refine ⟨?_, ?_, ?_, ?_, heap_lt hn⟩
  · simp [World.cell?, hn]
  · simp [World.cell?, hn]
  · simp [World.cell?, hn]
  · intro k; simp [World.frozen?, hn]
/-- a route was laid -/
theorem Mid.route (h : Mid w0 w B nS nG bn bd bt nr nm vr vm cs es ms) {g cap : Nat} (ho : w2.ownsRow B 74 2 (.slice (some ⟨g, 0, none⟩) (nr + 1) cap) (nr + 1) (rtsCells nG nr ++ rtCells nG nr)) (hg : w.grownBy w2 vr.ownBlock) :
    Mid w0 (w2.setCell ⟨bn, 4, none⟩ (.slice (some ⟨g, 0, none⟩) (nr + 1) cap)) B nS nG bn bd bt (nr + 1) nm (.slice (some ⟨g, 0, none⟩) (nr + 1) cap) vm cs es ms := by
  obtain ⟨l1, l2, l3, l4, l5⟩ := h.lay
  have hB := h.bsz
  have hne : ∀ b, b < B → some b ≠ vr.ownBlock := fun b hb e => by have := (h.rts.lt b e.symm).1; omega
  have hblk : ∀ b, b < B → w2.heap[b]? = w.heap[b]? := fun b hb => hg.block b (by omega) (hne b hb)
  refine ⟨heap_set_same ((hblk bn l3).trans h.net) 4 _, ?_, ?_, ?_, ?_, fun k hk => ?_, ?_, ?_, h.lay⟩
  · rw [rtsCells_snoc]; exact ownsRow_setCell_below ho l3 _
  · exact ownsRow_setCell_below (kept_apart h.mss h.rts (by decide) hg) l3 _
  · exact (h.row.of_block (hblk bt l4)).other (fun e => l5 e.symm) _
  · refine (h.fam.grown hg fun s g' hs hg' => ?_).set_below l3 _
    exact rows_apart (h.fam.own s hs) h.rts (by decide) hg'
  · exact ⟨Nat.le_succ_of_le (h.src k hk).1, (h.src k hk).2⟩
  · exact (h.bel.grown hg h.bel.size (fun k hk => by have := (h.rts.lt k hk).1; omega)).setCell l1 _
  · have := hg.size; simp [World.setCell]; omega
/-- a cost was laid -/
theorem Mid.cost (h : Mid w0 w B nS nG bn bd bt nr nm vr vm cs es ms) {g cap x : Nat} (ho : w2.ownsRow B 24 1 (.slice (some ⟨g, 0, none⟩) (nm + 1) cap) (nm + 1) (ms.map (.float .f64) ++ [.float .f64 x])) (hg : w.grownBy w2 vm.ownBlock) :
    Mid w0 (w2.setCell ⟨bn, 6, none⟩ (.slice (some ⟨g, 0, none⟩) (nm + 1) cap)) B nS nG bn bd bt nr (nm + 1) vr (.slice (some ⟨g, 0, none⟩) (nm + 1) cap) cs es (ms ++ [x]) := by
  obtain ⟨l1, l2, l3, l4, l5⟩ := h.lay
  have hB := h.bsz
  have hne : ∀ b, b < B → some b ≠ vm.ownBlock := fun b hb e => by have := (h.mss.lt b e.symm).1; omega
  have hblk : ∀ b, b < B → w2.heap[b]? = w.heap[b]? := fun b hb => hg.block b (by omega) (hne b hb)
  refine ⟨heap_set_same ((hblk bn l3).trans h.net) 6 _, ?_, ?_, ?_, ?_, h.src, ?_, ?_, h.lay⟩
  · exact ownsRow_setCell_below (kept_apart h.rts h.mss (by decide) hg) l3 _
  · rw [List.map_append]; exact ownsRow_setCell_below ho l3 _
  · exact (h.row.of_block (hblk bt l4)).other (fun e => l5 e.symm) _
  · refine (h.fam.grown hg fun s g' hs hg' => ?_).set_below l3 _
    exact rows_apart (h.fam.own s hs) h.mss (by decide) hg'
  · exact (h.bel.grown hg h.bel.size (fun k hk => by have := (h.mss.lt k hk).1; omega)).setCell l1 _
  · have := hg.size; simp [World.setCell]; omega
/-- an inbound route was laid -/
theorem Mid.inb (h : Mid w0 w B nS nG bn bd bt nr nm vr vm cs es ms) {k : Nat} (hk : k < nG) {e : Inb} (he : e.2.1 < nS) (hlen : (es k).length + 1 ≤ nr) {g cap : Nat}
    (ho : w2.ownsRow B 100 3 (.slice (some ⟨g, 0, none⟩) ((es k).length + 1) cap) ((es k).length + 1) (inbsCells (es k) ++ inbCells e)) (hg : w.grownBy w2 (cs k).ownBlock) (hat : (cs k).ownBlock = some g ∨ g = w.heap.size) :
    Mid w0 (w2.setCell ⟨bt, k, none⟩ (.slice (some ⟨g, 0, none⟩) ((es k).length + 1) cap)) B nS nG bn bd bt nr nm vr vm (upd cs k (.slice (some ⟨g, 0, none⟩) ((es k).length + 1) cap)) (upd es k (es k ++ [e])) ms := by
  obtain ⟨l1, l2, l3, l4, l5⟩ := h.lay
  have hB := h.bsz
  have hne : ∀ b, b < B → some b ≠ (cs k).ownBlock := fun b hb e => by have := (h.fam.lt hk e.symm).1; omega
  have hblk : ∀ b, b < B → w2.heap[b]? = w.heap[b]? := fun b hb => hg.block b (by omega) (hne b hb)
  refine ⟨?_, ?_, ?_, ?_, ?_, fun j hj => ?_, ?_, ?_, h.lay⟩
  · rw [heap_set_other _ _ _ l5]; exact (hblk bn l3).trans h.net
  · exact ownsRow_setCell_below (kept_apart h.rts (h.fam.own k hk) (by decide) hg) l4 _
  · exact ownsRow_setCell_below (kept_apart h.mss (h.fam.own k hk) (by decide) hg) l4 _
  · exact (h.row.of_block (hblk bt l4)).set _
  · have hf := (h.fam.append hk ho hg hat).set_below (a := ⟨bt, k, none⟩) l4 (.slice (some ⟨g, 0, none⟩) ((es k).length + 1) cap)
    have e1 : (upd (fun k => (es k).length) k ((es k).length + 1)) = fun j => (upd es k (es k ++ [e]) j).length := by
      funext j; by_cases hj : j = k
      · subst hj; simp [upd_same]
      · simp [upd_other _ _ hj]
    have e2 : (upd (fun k => inbsCells (es k)) k (inbsCells (es k) ++ inbCells e)) = fun j => inbsCells (upd es k (es k ++ [e]) j) := by
      funext j; by_cases hj : j = k
      · subst hj; simp [upd_same, inbsCells_snoc]
      · simp [upd_other _ _ hj]
    rw [e1, e2] at hf
    exact hf
  · by_cases hjk : j = k
    · subst hjk
      simp only [upd_same, List.length_append, List.length_cons, List.length_nil]
      refine ⟨by omega, fun x hx => ?_⟩
      rcases List.mem_append.1 hx with hx | hx
      · exact (h.src j hj).2 x hx
      · simp at hx; subst hx; exact he
    · simp only [upd_other _ _ hjk]
      exact h.src j hj
  · exact (h.bel.grown hg h.bel.size (fun j hj => by have := (h.fam.lt hk hj).1; omega)).setCell l2 _
  · have := hg.size; simp [World.setCell]; omega
end

theorem rt_news {w : World} {nG q B : Nat} (hb : w.heap[B]? = some (.cells #[.int .i64 (q / nG : Nat), .int .i64 (q % nG : Nat)] 74 (0, 0))) : ∀ j u, (rtCells nG q)[j]? = some u → w.cell? ((⟨B, 0, none⟩ : Addr).add j) = some u :=
  World.news_of_block hb
theorem rt_one (nG q : Nat) : ∀ u ∈ rtCells nG q, u.oneCell' = true := by
  intro u hu; simp [rtCells] at hu; rcases hu with rfl | rfl <;> rfl
theorem inb_one (e : Inb) : ∀ u ∈ inbCells e, u.oneCell' = true := by
  intro u hu; simp [inbCells] at hu; rcases hu with rfl | rfl | rfl <;> rfl

set_option maxHeartbeats 2000000 in
set_option maxRecDepth 100000 in
theorem cnet_any (nS nG : Nat) (w : World) (h1 : 1 ≤ nS) (h2 : nS ≤ 4) (h3 : 1 ≤ nG) (h4 : nG ≤ 3) :
    Calls Yba.prog 22 #[.int .i64 nS, .int .i64 nG] w fun e w' => ∃ B bn bd bt vr vm cs es ms, e = .returned (.pointer (some ⟨bn, 0, none⟩)) ∧ Mid w w' B nS nG bn bd bt (nS * nG) (nS * nG) vr vm cs es ms := by
  obtain ⟨i74, hi74, hz74, hs74, hb74⟩ := info_parts Yba.infoN74
  obtain ⟨i24, hi24, hz24, hs24, hb24⟩ := info_parts Yba.infoN24
  obtain ⟨i100, hi100, hz100, hs100, hb100⟩ := info_parts Yba.infoN100
  have hm1 := run_make_row' (P := Yba.prog) 75 24 _ 8 Yba.underlying75 Yba.infoN24 rfl .i64 .i64 nS (by omega) (by omega)
  have hm2 := run_make_row' (P := Yba.prog) 82 98 _ 24 Yba.underlying82 Yba.infoN98 rfl .i64 .i64 nG (by omega) (by omega)
  go_enter Yba.func22, Yba.ntmps22
  go_upto_region 1 with fail
  go_cut [5] (fun u5 wc => ∃ bd bt, u5 = .pointer (some ⟨w.heap.size + 1 + 1, 0, none⟩) ∧ Mid w wc (w.heap.size + 3) nS nG (w.heap.size + 1 + 1) bd bt 0 0 nilV nilV (fun _ => nilV) (fun _ => []) [])
  case first =>
    go_region
    all_goals go_wp2_with fail
    all_goals go_meet
    · refine ⟨w.heap.size, w.heap.size + 1, rfl, ⟨?_, World.ownsRow_nil _ _ _ _, World.ownsRow_nil _ _ _ _, ?_, fam_nil _ _ _ _ _, fun k hk => ⟨Nat.le_refl _, by simp⟩, ?_, ?_, ?_⟩⟩
      · exact heap_alloc_new' (by simp)
      · refine Row.drew (Row.alloc (made_row ?_) _)
        exact heap_alloc_new' (by simp)
      · exact (((Below.refl _ _).alloc (Nat.le_refl _) _).alloc (by simp) _ |>.alloc (by simp; omega) _).drew
      · simp
      · refine ⟨?_, ?_, ?_, ?_, ?_⟩ <;> omega
    · refine ⟨w.heap.size + 1, w.heap.size, rfl, ⟨?_, World.ownsRow_nil _ _ _ _, World.ownsRow_nil _ _ _ _, ?_, fam_nil _ _ _ _ _, fun k hk => ⟨Nat.le_refl _, by simp⟩, ?_, ?_, ?_⟩⟩
      · exact heap_alloc_new' (by simp)
      · refine Row.drew (Row.alloc (Row.alloc (made_row ?_) _) _)
        exact heap_alloc_new' (by simp)
      · exact (((Below.refl _ _).alloc (Nat.le_refl _) _).alloc (by simp) _ |>.alloc (by simp; omega) _).drew
      · simp
      · refine ⟨?_, ?_, ?_, ?_, ?_⟩ <;> omega
  case rest =>
    obtain ⟨bd, bt, rfl, hmid⟩ := hcut
    clear hm1 hm2
    generalize w.heap.size + 1 + 1 = bn at *
    generalize w.heap.size + 3 = B at *
    go_wp2_with fail
    go_loopw [6] (fun i wr => ∃ s : Nat, s ≤ nS ∧ i = .int .i64 s ∧ ∃ vr vm cs es ms, Mid w wr B nS nG bn bd bt (s * nG) (s * nG) vr vm cs es ms) (fun i _ => nS - (intOf i).toNat)
    case atStart => exact ⟨0, by omega, rfl, _, _, _, _, _, by simpa using hmid⟩
    case round =>
      obtain ⟨s, hs, rfl, vr, vm, cs, es, ms, hm⟩ := hrel
      clear hmid
      by_cases hlt : s < nS
      · go_wp2_with fail
        go_loopw [7] (fun i wr => ∃ g : Nat, g ≤ nG ∧ i = .int .i64 g ∧ ∃ vr vm cs es ms, Mid w wr B nS nG bn bd bt (s * nG + g) (s * nG + g) vr vm cs es ms) (fun i _ => nG - (intOf i).toNat)
        case atStart => exact ⟨0, by omega, rfl, _, _, _, _, _, by simpa using hm⟩
        case round =>
          obtain ⟨g, hg, rfl, vr, vm, cs, es, ms, hm⟩ := hrel
          by_cases hlg : g < nG
          · have hr12 : s * nG + g ≤ 12 := by have := Nat.mul_le_mul (show s ≤ 3 by omega) h4; omega
            have hdiv : (s * nG + g) / nG = s := by rw [Nat.mul_comm, Nat.mul_add_div (by omega), Nat.div_eq_of_lt hlg]; omega
            have hmod : (s * nG + g) % nG = g := by rw [Nat.mul_comm, Nat.mul_add_mod, Nat.mod_eq_of_lt hlg]
            obtain ⟨r, hr⟩ : ∃ r, s * nG + g = r := ⟨_, rfl⟩
            rw [hr] at hr12 hdiv hmod hm
            have hel0 := (hm.src g hlg).1
            obtain ⟨c4, c6, c8, fz, hbn⟩ := hm.cell
            have f4 := fz 4
            obtain ⟨pr, cr, rfl⟩ := slice_of_owns hm.rts
            clear fz
            go_upto_region 10 with (at_builtin; refine wpList_append_lies _ rfl _ _ 81 rfl B 74 i74 _ 2 16 Yba.underlying81 hi74 hz74 hs74 hb74 rfl (by decide) _ _ _ rfl (hm.rts.alloc _) ⟨wr.heap.size, 0, none⟩ 1 1 (rtCells nG r) rfl rfl ?c1 ?c2 (by decide) ?c3 ?c4 ?c5 _ rfl ?_)
            case c1 => exact rt_news (by rw [hdiv, hmod]; exact heap_alloc_new _ _)
            case c2 => exact rt_one _ _
            case c3 => unfold maxLen; omega
            case c4 => omega
            case c5 => have := hm.bsz; simp; omega
            intro g1 cap1 w2 ho2 hg2 hat2 hlt2
            have hm2 := (hm.alloc _).route ho2 hg2
            have hne : some bn ≠ (Value.slice pr r cr).ownBlock := fun e => by have := (hm.rts.lt bn e.symm).1; have := hm.lay.2.2.1; omega
            have x4 := hg2.cell (a := ⟨bn, 4, none⟩) (v := .slice pr r cr) (by go_simp) hne
            have y4 : w2.frozen? ⟨bn, 4, none⟩ = false := by
              rw [hg2.frozen_far ⟨bn, 4, none⟩ (by simp; omega) hne]
              go_simp
            clear hg2 hat2 hlt2 ho2 c4 c6 c8 f4 hm
            go_upto_region 10 with fail
            generalize w2.setCell ⟨bn, 4, none⟩ (.slice (some ⟨g1, 0, none⟩) (r + 1) cap1) = w3 at *
            clear x4 y4 hne hbn
            obtain ⟨c4, c6, c8, fz, hbn⟩ := hm2.cell
            have f6 := fz 6
            obtain ⟨pm, cm, rfl⟩ := slice_of_owns hm2.mss
            clear fz
            go_upto_region 11 with (at_builtin; refine wpList_append_lies _ rfl _ _ 75 rfl B 24 i24 _ 1 8 Yba.underlying75 hi24 hz24 hs24 hb24 rfl (by decide) _ _ _ rfl (hm2.mss.alloc _) ⟨w3.heap.size, 0, none⟩ 1 1 [.float .f64 (floatOfInt .f64 ((r : Int) % 3))] rfl rfl ?c1 ?c2 (by decide) ?c3 ?c4 ?c5 _ rfl ?_)
            case c1 => exact World.news_of_block (heap_alloc_new _ _)
            case c2 => intro u hu; simp at hu; subst hu; rfl
            case c3 => unfold maxLen; omega
            case c4 => omega
            case c5 => have := hm2.bsz; simp; omega
            intro g2 cap2 w4 ho4 hg4 hat4 hlt4
            have hm4 := (hm2.alloc _).cost ho4 hg4
            have hne : some bn ≠ (Value.slice pm r cm).ownBlock := fun e => by have := (hm2.mss.lt bn e.symm).1; have := hm2.lay.2.2.1; omega
            have x6 := hg4.cell (a := ⟨bn, 6, none⟩) (v := .slice pm r cm) (by go_simp) hne
            have y6 : w4.frozen? ⟨bn, 6, none⟩ = false := by
              rw [hg4.frozen_far ⟨bn, 6, none⟩ (by simp; omega) hne]
              go_simp
            clear hg4 hat4 hlt4 ho4 c4 c6 c8 f6 hm2
            go_upto_region 11 with fail
            generalize w4.setCell ⟨bn, 6, none⟩ (.slice (some ⟨g2, 0, none⟩) (r + 1) cap2) = w5 at *
            clear x6 y6 hne hbn
            obtain ⟨c4, c6, c8, fz, hbn⟩ := hm4.cell
            have ct := hm4.row.cell hlg
            have ft := hm4.row.free g
            have hbt := hm4.row.lt
            have hfo := hm4.fam.own g hlg
            obtain ⟨pt, ctt, hcg⟩ := slice_of_owns hfo
            rw [hcg] at ct hfo
            have hel := (hm4.src g hlg).1
            have hne1 : some bn ≠ (cs g).ownBlock := fun e => by have := (hm4.fam.lt hlg e.symm).1; have := hm4.lay.2.2.1; omega
            have hne2 : some bt ≠ (cs g).ownBlock := fun e => by have := (hm4.fam.lt hlg e.symm).1; have := hm4.lay.2.2.2.1; omega
            rw [hcg] at hne1 hne2
            have hBsz := hm4.bsz
            have hbtn : bn ≠ bt := hm4.lay.2.2.2.2
            go_region_law ((
              refine step_append_lies _ rfl (.tmp 65) (.tmp 71) 98 rfl B 100 i100 _ 3 24 Yba.underlying98 hi100 hz100 hs100 hb100 rfl (by decide) (.slice pt (es g).length ctt) (es g).length (inbsCells (es g)) rfl (ownsRow_drew (hfo.alloc _)) ⟨w5.heap.size, 0, none⟩ 1 1 (inbCells ((r : Int), s, floatOfInt .f64 (r : Int))) rfl rfl (World.news_of_block (heap_alloc_new _ _)) (inb_one _) (by decide) (by unfold maxLen; omega) (by omega) (by simp; omega) _ rfl ?_
              intro g3 cap3 w6 ho6 hg6 hat6 hlt6
              have q1 := hg6.cell (a := ⟨bn, 8, none⟩) (v := slv bt nG) (by simp [go_sem, *]) hne1
              have q2 := hg6.cell (a := ⟨bt, g, none⟩) (v := .slice pt (es g).length ctt) (by simp [go_sem, *]) hne2
              have q3 : w6.frozen? ⟨bt, g, none⟩ = false := by
                rw [hg6.frozen_far ⟨bt, g, none⟩ (by simp; omega) hne2]
                simp [go_sem, *]
              have q4 : bt < w6.heap.size := Nat.lt_of_lt_of_le (by simp; omega) hg6.size))
            all_goals
              have hm6 := ((hm4.alloc _).drew).inb hlg (e := ((r : Int), s, floatOfInt .f64 (r : Int))) hlt (by omega) ho6 (by rw [hcg]; exact hg6) (by rw [hcg]; exact hat6)
              clear hg6 ho6 hat6 hlt6 q1 q2 q3 q4 hfo ct ft c4 c6 c8 hm4 hne1 hne2
              go_wp2_with fail
              go_roundw
              case rel => exact ⟨g + 1, by omega, by simp, _, _, _, _, _, by rw [show s * nG + (g + 1) = r + 1 by omega]; exact hm6⟩
              case measure => simp [intOf]; omega
          · have hgn : g = nG := by omega
            subst hgn
            go_wp2_with fail
            go_roundw
            case rel => exact ⟨s + 1, by omega, by simp, _, _, _, _, _, by rw [Nat.succ_mul]; exact hm⟩
            case measure => simp [intOf]; omega
      · have hsn : s = nS := by omega
        subst hsn
        go_wp2_with fail
        go_ret
        exact ⟨B, bn, bd, bt, vr, vm, cs, es, ms, rfl, hm⟩
end Go.Proofs.Ybulkahla

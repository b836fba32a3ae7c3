import Derived.Test.YbulkahlaSortFn
import Derived.Test.YbulkahlaRising
import Derived.BigRegion
import Derived.Deep.DeepCutAuto
import Derived.Deep.CutBlock
import Derived.Deep.LoopGhost
namespace Go.Proofs.Ybulkahla
open Go.RowKit
set_option linter.unusedSimpArgs false
attribute [local go_sem] run_store_float call31 call42 call43
attribute [local go_sem ↓] run_fadd run_fsub run_fmul run_fquo run_fmax run_fmin run_fsqrt

theorem Yba.infoI3 : (Yba.prog.info? 3).map (fun i => (i.zero, i.size, i.bytes)) = some (some (.int .i64 0), 1, 8) := by kernel_rfl

def cntS (gs : List Lvl) : Int := (gs.map (·.2.2.2.2)).sum
def nAns (l : List Smp) (is : List Nat) : Nat := is.countP (fun i => ((l[i]?).map ans).getD false)

theorem SmpRow.of_block {w w' : World} {b : Nat} {l : List Smp} (h : SmpRow w b l) (hb : 0 < l.length → w'.heap[b]? = w.heap[b]?) : SmpRow w' b l := by
  intro i s hs
  have hpos : 0 < l.length := by have := (List.getElem?_eq_some_iff.1 hs).1; omega
  have e : ∀ o, w'.cell? ⟨b, o, none⟩ = w.cell? ⟨b, o, none⟩ := fun o => World.cell?_of_block (hb hpos)
  simp only [e]
  exact h i s hs

theorem SmpRow.lt {w : World} {b : Nat} {l : List Smp} (h : SmpRow w b l) (hl : 0 < l.length) : b < w.heap.size := by
  obtain ⟨s, hs⟩ : ∃ s, l[0]? = some s := ⟨l[0], by simp⟩
  exact World.block_lt_of_cell? w _ (h 0 s hs).1

theorem lvl_set_last (g0 : List Lvl) (y : Lvl) (j : Nat) (u : Value) : (lvlsCells (g0 ++ [y])).set (g0.length * 5 + j) u = lvlsCells g0 ++ (lvlCells y).set j u := by
  rw [lvlsCells_snoc, List.set_append, if_neg (by rw [lvls_length]; omega), lvls_length, Nat.add_sub_cancel_left]

theorem lvl_stored {w : World} {B g m c j : Nat} {g0 : List Lvl} {y y' : Lvl} {u : Value} (h : w.ownsRow B 32 5 (.slice (some ⟨g, 0, none⟩) (m + 1) c) (m + 1) (lvlsCells (g0 ++ [y]))) (hm : g0.length = m) (hy : (lvlCells y).set j u = lvlCells y') :
    (w.setCell ⟨g, m * 5 + j, none⟩ u).ownsRow B 32 5 (.slice (some ⟨g, 0, none⟩) (m + 1) c) (m + 1) (lvlsCells (g0 ++ [y'])) := by
  have := (h.stored (m * 5 + j) u).1
  rw [← hm, lvl_set_last, hy, ← lvlsCells_snoc, hm] at this
  exact this

theorem owns_base {w : World} {B B' : Nat} {e : TypeId} {size : Nat} {v : Value} {n : Nat} {xs : List Value} (h : w.ownsRow B e size v n xs) (hb : B' ≤ B) : w.ownsRow B' e size v n xs := by
  refine ⟨h.1, ?_⟩
  rcases h.2 with h0 | ⟨g, cap, cur, hv, hB, r⟩
  · exact .inl h0
  · exact .inr ⟨g, cap, cur, hv, by omega, r⟩

theorem lvl_news' {w : World} {g : Lvl} : ∀ j u, (lvlCells g)[j]? = some u → (w.alloc (.cells #[.float .f64 g.1, .float .f64 g.2.1, .float .f64 g.2.2.1, .int .i64 g.2.2.2.1, .int .i64 g.2.2.2.2] 32)).cell? ((⟨w.heap.size, 0, none⟩ : Addr).add j) = some u := by
  intro j u hj
  match j, hj with
  | 0, hj | 1, hj | 2, hj | 3, hj | 4, hj => simp [lvlCells] at hj; subst hj; simp [Addr.add, go_sem]
theorem lvl_one2 (g : Lvl) : ∀ u ∈ lvlCells g, u.oneCell' = true := by
  intro u hu
  simp [lvlCells] at hu
  rcases hu with rfl | rfl | rfl | rfl | rfl <;> rfl

abbrev smpO (s : Smp) : Obj := .cells #[.float .f64 s.1, .float .f64 s.2.1, .float .f64 0, .float .f64 s.2.2.1, .int .i64 s.2.2.2, .int .i64 0, .bool false, .float .f64 0, .float .f64 0] 42
abbrev aft (w : World) (s : Smp) (m : Nat) : World := ((w.alloc (smpO s)).alloc (smpO s)).drewN m
theorem aft_size (w : World) (s : Smp) (m : Nat) : w.heap.size < (aft w s m).heap.size := by simp; omega
theorem aft_cells (w : World) (s : Smp) (m : Nat) : (aft w s m).cell? ⟨w.heap.size, 0, none⟩ = some (.float .f64 s.1) ∧ (aft w s m).cell? ⟨w.heap.size, 1, none⟩ = some (.float .f64 s.2.1) ∧ (aft w s m).cell? ⟨w.heap.size, 4, none⟩ = some (.int .i64 s.2.2.2) := by
  refine ⟨?_, ?_, ?_⟩ <;> simp [go_sem]

theorem cntS_nonneg {gs : List Lvl} (h : ∀ g ∈ gs, 0 ≤ g.2.2.2.2) : 0 ≤ cntS gs := by
  induction gs with
  | nil => simp [cntS]
  | cons g gs ih =>
    have h1 := ih fun x hx => h x (by simp [hx])
    have h2 := h g (by simp)
    simp only [cntS, List.map_cons, List.sum_cons] at h1 ⊢
    omega

theorem pos_snoc {gs : List Lvl} (h : ∀ g ∈ gs, 0 ≤ g.2.2.2.2) {y : Lvl} (hy : 0 ≤ y.2.2.2.2) : ∀ g ∈ gs ++ [y], 0 ≤ g.2.2.2.2 := by
  intro g hg
  rw [List.mem_append] at hg
  rcases hg with hg | hg
  · exact h g hg
  · rw [List.mem_singleton] at hg; subst hg; exact hy

theorem cntS_snoc (g0 : List Lvl) (y : Lvl) : cntS (g0 ++ [y]) = cntS g0 + y.2.2.2.2 := by simp [cntS]
theorem nAns_snoc {l : List Smp} {ord : List Nat} {k i : Nat} {s : Smp} (h : ord[k]? = some i) (hs : l[i]? = some s) : nAns l (ord.take (k + 1)) = nAns l (ord.take k) + (if ans s then 1 else 0) := by
  rw [nAns, nAns, take_snoc' h, List.countP_append]
  simp [List.countP_cons, hs]
theorem nAns_le (l : List Smp) (is : List Nat) : nAns l is ≤ is.length := List.countP_le_length

set_option maxHeartbeats 4000000 in
set_option maxRecDepth 100000 in
theorem groups_take (bs bl cl n : Nat) (l : List Smp) (w : World) (hn : l.length = n) (hs5 : w.cell? ⟨bs, 5, none⟩ = some (.slice (some ⟨bl, 0, none⟩) n cl)) (hsm : SmpRow w bl l) (hl : n ≤ 1024) :
    Calls Yba.prog 48 #[.pointer (some ⟨bs, 0, none⟩)] w fun e w' => ∃ v gs, e = .returned v ∧ w'.ownsRow w.heap.size 32 5 v gs.length (lvlsCells gs) ∧ (gs = [] → v = .slice none 0 0) ∧ cntS gs = nAns l (List.range n) ∧ gs.length ≤ n ∧ Below w.heap.size w w' := by
  obtain ⟨i3, hi3, hz3, hs3, hb3⟩ := info_parts Yba.infoI3
  obtain ⟨i1, hi1, hz1, hs1, hb1⟩ := info_parts Yba.infoL32
  have hbs : bs < w.heap.size := World.block_lt_of_cell? w _ hs5
  have hbl : 0 < n → bl < w.heap.size := fun h => hsm.lt (by omega)
  obtain ⟨wA, hwA⟩ : ∃ wA, wA = w.alloc (.cells #[.pointer (some ⟨bs, 0, none⟩)] 25) := ⟨_, rfl⟩
  have hA : Below w.heap.size w wA := by rw [hwA]; exact bel_alloc (Below.refl _ _) _
  have hAs : wA.heap.size = w.heap.size + 1 := by rw [hwA]; simp
  have hA0 : wA.cell? ⟨w.heap.size, 0, none⟩ = some (.pointer (some ⟨bs, 0, none⟩)) := by rw [hwA]; simp [go_sem]
  have hA5 : wA.cell? ⟨bs, 5, none⟩ = some (.slice (some ⟨bl, 0, none⟩) n cl) := cell_kept hA hs5
  have hAm := hsm.below hA
  obtain ⟨w1, hmk, hown0, hg0⟩ := run_makeSlice_full (P := Yba.prog) wA (w.heap.size + 1) 76 3 i3 _ 1 Yba.underlying76 hi3 hz3 hs3 .i64 .i64 n (by omega) (by rw [hb3]; omega) (by unfold maxLen; omega) (by omega)
  have hB1 : Below (w.heap.size + 1) wA w1 := (Below.refl _ _).grown hg0 (by omega) (by intro k hk; cases hk)
  have HN : Hid (l.length = n) := hn
  clear hg0 hsm hn
  rw [hAs] at hmk hown0
  rw [hwA] at hmk
  have HWA : Hid (wA = w.alloc (.cells #[.pointer (some ⟨bs, 0, none⟩)] 25)) := hwA
  clear hwA
  go_enter Yba.func48, Yba.ntmps48
  go_wp2_with fail
  clear hmk HWA hs5
  go_loopw [19] (fun i wr => ∃ (k : Nat) (xs : List Value), k ≤ n ∧ i = .int .i64 k ∧ wr.ownsRow (w.heap.size + 1) 3 1 (.slice (some ⟨w.heap.size + 1, 0, none⟩) n n) n xs ∧ (∀ j, j < k → xs[j]? = some (.int .i64 j)) ∧ Below (w.heap.size + 1) wA wr)
    (fun i _ => n - (intOf i).toNat)
  case atStart => exact ⟨0, _, Nat.zero_le _, rfl, hown0, fun j hj => absurd hj (by omega), hB1⟩
  case round =>
    obtain ⟨k, xs, hk, rfl, hox, hxs, hnx⟩ := hrel
    have hsz := hnx.size
    by_cases hlt : k < n
    · have hxl : xs.length = n * 1 := hox.1
      obtain ⟨u, hu⟩ : ∃ u, wr.cell? ⟨w.heap.size + 1, k, none⟩ = some u := ⟨xs[k]'(by omega), by rw [hox.cellAt _ (by omega)]; simp⟩
      have hf := hox.frozenAt k
      go_wp2_with fail
      go_roundw
      case rel => exact ⟨k + 1, _, by omega, by go_num, (hox.stored k _).1, fun j hj => by
          by_cases hjk : j = k
          · subst hjk; rw [List.getElem?_set_self (by omega)]
          · rw [List.getElem?_set_ne (Ne.symm hjk)]; exact hxs j (by omega), hnx.setCell (by simp) _⟩
      case measure => simp [intOf]; omega
    · have hkn : k = n := by omega
      subst hkn
      obtain ⟨w2, rfl⟩ : ∃ w2, w2 = wr := ⟨wr, rfl⟩
      have c0 : w2.cell? ⟨w.heap.size, 0, none⟩ = some (.pointer (some ⟨bs, 0, none⟩)) := by rw [hnx.cell (by simp)]; exact hA0
      have c5 : w2.cell? ⟨bs, 5, none⟩ = some (.slice (some ⟨bl, 0, none⟩) k cl) := by rw [hnx.cell (show bs < w.heap.size + 1 by omega)]; exact hA5
      have hAl : 0 < l.length → bl < w.heap.size := fun h => hbl (by have := HN.out; omega)
      have hm2 : SmpRow w2 bl l := hAm.of_block fun h => hnx.block bl (by have := hAl h; omega)
      have hblk : w.heap.size + 1 < w2.heap.size := (hox.lt _ rfl).2
      have hrow : ∀ j, j < k → w2.cell? ⟨w.heap.size + 1, j, none⟩ = some (.int .i64 j) ∧ w2.frozen? ⟨w.heap.size + 1, j, none⟩ = false := fun j hj => ⟨by rw [hox.cellAt j (by omega)]; exact hxs j hj, hox.frozenAt j⟩
      go_wp2_with (go_at_call 50; refine (sort_any (w.heap.size) bs bl cl (w.heap.size + 1) k k l _ HN.out hl c0 c5 hm2 (by omega) (by omega) (fun h => by have := hbl h; omega) hblk hrow).mono ?_; rintro e w3 ⟨rfl, ord, hperm, hord, hg3⟩)
      have hordl : ord.length = k := by have := hperm.length_eq; simpa using this
      have hord1 : ∀ q, q < k → ∃ i s, ord[q]? = some i ∧ i < k ∧ l[i]? = some s := fun q hq => by
        have h1 : q < ord.length := by omega
        have h2 : ord[q] < k := by have := hperm.mem_iff.1 (List.getElem_mem h1); simpa using this
        have h3 := HN.out
        exact ⟨ord[q], l[ord[q]]'(by omega), by simp [h1], h2, by simp⟩
      have d0 : w3.cell? ⟨w.heap.size, 0, none⟩ = some (.pointer (some ⟨bs, 0, none⟩)) := by rw [World.cell?_of_block (hg3.block w.heap.size (by omega) (by simp))]; exact c0
      have d5 : w3.cell? ⟨bs, 5, none⟩ = some (.slice (some ⟨bl, 0, none⟩) k cl) := by rw [World.cell?_of_block (hg3.block bs (by omega) (by simp; omega))]; exact c5
      have hm3 : SmpRow w3 bl l := hm2.of_block fun h => hg3.block bl (by have := hAl h; omega) (by have := hAl h; simp; omega)
      have hB3 : Below w.heap.size w w3 := by
        have h1 : Below w.heap.size w w2 := hA.trans (hnx.mono (by omega))
        exact h1.grown hg3 (by omega) (fun j hj => by simp at hj; omega)
      have hblk3 : w.heap.size + 1 < w3.heap.size := by have := hg3.size; omega
      clear hm2 c0 c5 hrow hox hxs hnx hA hA0 hA5 hAm hB1 hown0 hg3 hAl
      go_loopg [5, 32] k (fun nn v i wr => ∃ (q : Nat) (gs : List Lvl), q + nn = k ∧ i = .int .i64 q ∧ wr.ownsRow w3.heap.size 32 5 v gs.length (lvlsCells gs) ∧ (gs = [] → v = .slice none 0 0) ∧ (∀ g ∈ gs, 0 ≤ g.2.2.2.2) ∧ cntS gs = nAns l (ord.take q) ∧ gs.length ≤ q ∧ Below w3.heap.size w3 wr)
      case atStart => exact ⟨0, [], by omega, rfl, World.ownsRow_nil _ _ _ _, fun _ => rfl, (fun g hg => by simp at hg), rfl, Nat.le_refl _, Below.refl _ _⟩
      case round =>
        obtain ⟨q, gs, hq, rfl, hog, hnil, hpos, hcnt, hgq, hnr⟩ := hrel
        have hszr := hnr.size
        cases gk with
        | zero =>
          have hqk : q = k := by omega
          clear hq
          subst hqk
          go_wp2_with fail
          go_ret
          exact ⟨_, gs, rfl, owns_base hog hB3.size, hnil, by rw [hcnt, List.take_of_length_le (by omega)]; unfold nAns; rw [hperm.countP_eq], hgq, hB3.trans (hnr.mono hB3.size)⟩
        | succ nn =>
          have HQ : Hid (q + (nn + 1) = k) := hq
          have hql : q < k := by omega
          clear hq
          obtain ⟨i, s, hoi, hik, hs⟩ := hord1 q hql
          have o0 := cell_kept hnr (hord q i hoi)
          have o1 := cell_kept hnr d0
          have o5 := cell_kept hnr d5
          obtain ⟨h0, h1, h2, h3, h4, h5, h6, h7, h8⟩ := (hm3.below hnr) i s hs
          have HC : Hid (nAns l (ord.take (q + 1)) = nAns l (ord.take q) + (if ans s then 1 else 0)) := nAns_snoc hoi hs
          have HCN : Hid (cntS gs = nAns l (ord.take q)) := hcnt
          have HQL : Hid (nAns l (ord.take q) ≤ q) := by
            have h1 := nAns_le l (ord.take q)
            have h2 : (ord.take q).length ≤ q := by simp; omega
            exact Nat.le_trans h1 h2
          have b1 : (i : Int) < k := by omega
          clear hord hord1 hoi hs d0 d5 hm3 hcnt
          cases ha : ans s with
          | false =>
            go_wp2_with (go_at_call 32; refine (answered_any s _).mono ?_; rintro e w' ⟨rfl, rfl⟩)
            go_roundg nn
            case measure => omega
            case rel => exact ⟨q + 1, gs, by have := HQ.out; omega, by go_num, (hog.alloc _).alloc _, hnil, hpos, by rw [HCN.out, HC.out, ha]; simp, by omega, bel_alloc (bel_alloc hnr _) _⟩
          | true =>
            have HHA : Hid (ans s = true) := ha
            generalize hln : gs.length = ln at *
            have HLN : Hid (gs.length = ln) := hln
            clear hln
            obtain ⟨pu, cu, rfl⟩ : ∃ pu cu, u5 = .slice pu ln cu := by
              rcases hog.2 with ⟨rfl, e⟩ | ⟨g', c', _, rfl, _⟩
              · exact ⟨none, 0, by rw [e]⟩
              · exact ⟨_, _, rfl⟩
            go_upto_region 15 with (go_at_call 32; refine (answered_any s _).mono ?_; rintro e w' ⟨rfl, rfl⟩)
            have z1 : ((wr.alloc (.cells #[.float .f64 s.1, .float .f64 s.2.1, .float .f64 0, .float .f64 s.2.2.1, .int .i64 s.2.2.2, .int .i64 0, .bool false, .float .f64 0, .float .f64 0] 42)).alloc (.cells #[.float .f64 s.1, .float .f64 s.2.1, .float .f64 0, .float .f64 s.2.2.1, .int .i64 s.2.2.2, .int .i64 0, .bool false, .float .f64 0, .float .f64 0] 42)).ownsRow w3.heap.size 32 5 (.slice pu ln cu) ln (lvlsCells gs) := (hog.alloc _).alloc _
            have z3 : Below w3.heap.size w3 ((wr.alloc (.cells #[.float .f64 s.1, .float .f64 s.2.1, .float .f64 0, .float .f64 s.2.2.1, .int .i64 s.2.2.2, .int .i64 0, .bool false, .float .f64 0, .float .f64 0] 42)).alloc (.cells #[.float .f64 s.1, .float .f64 s.2.1, .float .f64 0, .float .f64 s.2.2.1, .int .i64 s.2.2.2, .int .i64 0, .bool false, .float .f64 0, .float .f64 0] 42)) := (Below.alloc (Below.alloc hnr hszr _) (by simp; omega) _)
            obtain ⟨e0, e1, e4⟩ := aft_cells wr s 0
            have hb8 := aft_size wr s 0
            have hgb : ∀ g, (Value.slice pu ln cu).ownBlock = some g → wr.heap.size ≠ g := fun g hg => by have := (hog.lt g hg).2; omega
            dsimp only [aft, smpO] at e0 e1 e4 hb8
            rw [World.drewN_zero] at e0 e1 e4 hb8
            clear hog h0 h1 h2 h3 h4 h5 h6 h7 h8 o0 o1 o5 ha
            generalize (wr.alloc (.cells #[.float .f64 s.1, .float .f64 s.2.1, .float .f64 0, .float .f64 s.2.2.1, .int .i64 s.2.2.2, .int .i64 0, .bool false, .float .f64 0, .float .f64 0] 42)).alloc (.cells #[.float .f64 s.1, .float .f64 s.2.1, .float .f64 0, .float .f64 s.2.2.1, .int .i64 s.2.2.2, .int .i64 0, .bool false, .float .f64 0, .float .f64 0] 42) = wy at *
            go_cut [62] (fun u62 wc => ∃ (b : Bool) (m : Nat), u62 = .bool b ∧ (gs = [] → b = true) ∧ wc = wy.drewN m)
            case first =>
              rcases snoc_form gs with rfl | ⟨g0, y, rfl⟩
              · obtain rfl : ln = 0 := HLN.out.symm
                have hv := hnil rfl
                simp only [Value.slice.injEq, true_and] at hv
                obtain ⟨rfl, rfl⟩ := hv
                clear hnil
                go_quiet (fail)
                go_wp2_with fail
                go_meet
                case rel => exact ⟨true, _, rfl, fun _ => rfl, rfl⟩
              · obtain ⟨m, rfl⟩ : ∃ m, ln = m + 1 := ⟨g0.length, by have := HLN.out; simp at this; omega⟩
                have HM : Hid (g0.length = m) := by have := HLN.out; simp at this; exact this
                obtain ⟨g, rfl⟩ : ∃ g, pu = some ⟨g, 0, none⟩ := (z1.form (by omega)).elim fun g' ⟨c', e, _⟩ => ⟨g', by simp at e; exact e.1⟩
                obtain ⟨y0, y1, y2, y3, y4⟩ := lvlRow_of_owns z1 HLN.out.symm m y (by rw [← HM.out]; simp)
                have bb0 : ((m : Int) + 1 == 0) = false := by simp; omega
                have bb1 : (m : Int) < (m : Int) + 1 := by omega
                have bb2 : (0 : Int) ≤ (m : Int) := by omega
                have hgl : g < wy.heap.size := (z1.lt g rfl).2
                clear y1 y2 y3 y4 z1 e1 e4
                go_big_region
                all_goals
                  go_wp2_with fail
                  go_meet
                  case rel => exact ⟨_, _, rfl, fun h => by simp at h, rfl⟩
            case rest =>
              obtain ⟨b, m, rfl, hbt, rfl⟩ := hcut
              have z1' : (wy.drewN m).ownsRow w3.heap.size 32 5 (.slice pu ln cu) ln (lvlsCells gs) := z1
              have z3' : Below w3.heap.size w3 (wy.drewN m) := below_drewN z3 m
              have e0' : (wy.drewN m).cell? ⟨wr.heap.size, 0, none⟩ = some (.float .f64 s.1) := e0
              have e1' : (wy.drewN m).cell? ⟨wr.heap.size, 1, none⟩ = some (.float .f64 s.2.1) := e1
              have e4' : (wy.drewN m).cell? ⟨wr.heap.size, 4, none⟩ = some (.int .i64 s.2.2.2) := e4
              have hb8' : wr.heap.size < (wy.drewN m).heap.size := hb8
              clear z1 z3 e0 e1 e4 hb8
              generalize wy.drewN m = wx at *
              go_upto_if 62 with fail
              go_cut [5] (fun u5 wc => ∃ (g c mm : Nat) (g0 : List Lvl) (y : Lvl), u5 = .slice (some ⟨g, 0, none⟩) (mm + 1) c ∧ wc.ownsRow w3.heap.size 32 5 (.slice (some ⟨g, 0, none⟩) (mm + 1) c) (mm + 1) (lvlsCells (g0 ++ [y])) ∧ g0.length = mm ∧ mm ≤ q ∧
                  cntS (g0 ++ [y]) = nAns l (ord.take q) ∧ (∀ g ∈ g0 ++ [y], 0 ≤ g.2.2.2.2) ∧ wr.heap.size ≠ g ∧ wr.heap.size < wc.heap.size ∧ Below w3.heap.size w3 wc ∧
                  wc.cell? ⟨wr.heap.size, 0, none⟩ = some (.float .f64 s.1) ∧ wc.cell? ⟨wr.heap.size, 1, none⟩ = some (.float .f64 s.2.1) ∧ wc.cell? ⟨wr.heap.size, 4, none⟩ = some (.int .i64 s.2.2.2))
              case first =>
                cases b with
                | true =>
                  go_wp2_with (at_builtin; refine wpList_append_lies _ rfl _ _ 33 rfl w3.heap.size 32 i1 _ 5 40 Yba.underlying33 hi1 hz1 hs1 hb1 rfl (by decide) _ _ _ rfl (z1'.alloc _) ⟨wx.heap.size, 0, none⟩ 1 1 (lvlCells (s.1, 0, 0, 0, 0)) rfl rfl ?c1 ?c2 (by decide) ?c3 ?c4 ?c5 _ rfl ?_)
                  case c1 => exact fun j u hj => hj
                  case c2 => exact lvl_one2 _
                  case c3 => unfold maxLen; omega
                  case c4 => omega
                  case c5 => omega
                  intro g c wz ho2 hg2 hat2 hlt2
                  have hsw := z3'.size
                  have hw2 : (wx.alloc (.cells #[.float .f64 s.1, .float .f64 0, .float .f64 0, .int .i64 0, .int .i64 0] 32)).heap.size = wx.heap.size + 1 := by simp
                  have hrow : ∀ k, (Value.slice pu ln cu).ownBlock = some k → w3.heap.size ≤ k := fun k hk => (z1'.lt k hk).1
                  have hbe : some wr.heap.size ≠ (Value.slice pu ln cu).ownBlock := fun h => hgb _ h.symm rfl
                  have zz3 : Below w3.heap.size w3 wz := Below.grown (Below.alloc z3' hsw _) hg2 (by simp; omega) hrow
                  have ee0 := hg2.cell (a := ⟨wr.heap.size, 0, none⟩) (v := .float .f64 s.1) (by rw [World.cell?_alloc_past _ _ _ hb8']; exact e0') hbe
                  have ee1 := hg2.cell (a := ⟨wr.heap.size, 1, none⟩) (v := .float .f64 s.2.1) (by rw [World.cell?_alloc_past _ _ _ hb8']; exact e1') hbe
                  have ee4 := hg2.cell (a := ⟨wr.heap.size, 4, none⟩) (v := .int .i64 s.2.2.2) (by rw [World.cell?_alloc_past _ _ _ hb8']; exact e4') hbe
                  have hgne : wr.heap.size ≠ g := by
                    rcases hat2 with h | h
                    · exact hgb g h
                    · omega
                  have hbz : wr.heap.size < wz.heap.size := by have := hg2.size; omega
                  have hoz : wz.ownsRow w3.heap.size 32 5 (.slice (some ⟨g, 0, none⟩) (ln + 1) c) (ln + 1) (lvlsCells (gs ++ [(s.1, 0, 0, 0, 0)])) := by rw [lvlsCells_snoc]; exact ho2
                  clear hg2 hat2 hlt2 ho2 z1' z3' e0' e1' e4' hw2
                  go_wp2_with fail
                  go_meet
                  case rel => exact ⟨g, c, ln, gs, (s.1, 0, 0, 0, 0), rfl, hoz, HLN.out, hgq, by rw [cntS_snoc, HCN.out]; simp, pos_snoc hpos (by simp), hgne, hbz, zz3, ee0, ee1, ee4⟩
                | false =>
                  rcases snoc_form gs with rfl | ⟨g0, y, rfl⟩
                  · exact absurd (hbt rfl) (by decide)
                  · obtain ⟨m, rfl⟩ : ∃ m, ln = m + 1 := ⟨g0.length, by have := HLN.out; simp at this; omega⟩
                    have HM : Hid (g0.length = m) := by have := HLN.out; simp at this; exact this
                    obtain ⟨g, rfl⟩ : ∃ g, pu = some ⟨g, 0, none⟩ := (z1'.form (by omega)).elim fun g' ⟨c', e, _⟩ => ⟨g', by simp at e; exact e.1⟩
                    go_wp2_with fail
                    go_meet
                    case rel => exact ⟨g, cu, m, g0, y, rfl, z1', HM.out, by omega, HCN.out, hpos, hgb g rfl, hb8', z3', e0', e1', e4'⟩
              case rest =>
                obtain ⟨g, c, m, g0, y, rfl, z1, hm, hmq, hct, hps, hgne, hb9, z3, e0, e1, e4⟩ := hcut
                have HM : Hid (g0.length = m) := hm
                have HCT : Hid (cntS (g0 ++ [y]) = nAns l (ord.take q)) := hct
                have HYB : Hid (0 ≤ y.2.2.2.2 ∧ y.2.2.2.2 ≤ 1024) := by
                  have a1 := cntS_nonneg (gs := g0) fun g hg => hps g (by simp [hg])
                  have a2 := hps y (by simp)
                  have a3 := hct
                  rw [cntS_snoc] at a3
                  have a4 := HQL.out
                  exact ⟨a2, by omega⟩
                have HP0 : ∀ g ∈ g0, 0 ≤ g.2.2.2.2 := fun g hg => hps g (by simp [hg])
                have hgB : w3.heap.size ≤ g := (z1.lt g rfl).1
                clear hm hct hps hnil hpos HCN z1' z3' e0' e1' e4' hb8' hgb
                have y1 : wc.cell? ⟨g, m * 5 + 1, none⟩ = some (.float .f64 y.2.1) := (lvlRow_of_owns z1 (by simp [HM.out]) m y (by rw [← HM.out]; simp)).2.1
                have f1 : wc.frozen? ⟨g, m * 5 + 1, none⟩ = false := z1.frozenAt (m * 5 + 1)
                have bb0 : (m : Int) < (m : Int) + 1 := by omega
                have bb1 : (0 : Int) ≤ (m : Int) := by omega
                go_upto_region 19 with fail
                have p1 : (wc.setCell ⟨g, m * 5 + 1, none⟩ (.float .f64 s.1)).ownsRow w3.heap.size 32 5 (.slice (some ⟨g, 0, none⟩) (m + 1) c) (m + 1) (lvlsCells (g0 ++ [(y.1, s.1, y.2.2)])) := lvl_stored (m := m) (j := 1) (y := y) (y' := (y.1, s.1, y.2.2)) (u := .float .f64 s.1) z1 HM.out rfl
                have p3 := z3.setCell (p := ⟨g, m * 5 + 1, none⟩) hgB (.float .f64 s.1)
                have q1 : (wc.setCell ⟨g, m * 5 + 1, none⟩ (.float .f64 s.1)).cell? ⟨wr.heap.size, 1, none⟩ = some (.float .f64 s.2.1) := by rw [World.cell?_of_block (heap_set_other _ _ _ hgne)]; exact e1
                have q4 : (wc.setCell ⟨g, m * 5 + 1, none⟩ (.float .f64 s.1)).cell? ⟨wr.heap.size, 4, none⟩ = some (.int .i64 s.2.2.2) := by rw [World.cell?_of_block (heap_set_other _ _ _ hgne)]; exact e4
                have hb9' : wr.heap.size < (wc.setCell ⟨g, m * 5 + 1, none⟩ (.float .f64 s.1)).heap.size := by simpa using hb9
                clear z1 z3 e0 e1 e4 y1 f1 hb9
                generalize wc.setCell ⟨g, m * 5 + 1, none⟩ (.float .f64 s.1) = wa at *
                have y2 : wa.cell? ⟨g, m * 5 + 2, none⟩ = some (.float .f64 y.2.2.1) := (lvlRow_of_owns p1 (by simp [HM.out]) m (y.1, s.1, y.2.2) (by rw [← HM.out]; simp)).2.2.1
                have y3 : wa.cell? ⟨g, m * 5 + 3, none⟩ = some (.int .i64 y.2.2.2.1) := (lvlRow_of_owns p1 (by simp [HM.out]) m (y.1, s.1, y.2.2) (by rw [← HM.out]; simp)).2.2.2.1
                have f2 : wa.frozen? ⟨g, m * 5 + 2, none⟩ = false := p1.frozenAt (m * 5 + 2)
                go_cut [5] (fun u5 wd => u5 = .slice (some ⟨g, 0, none⟩) (m + 1) c ∧ ∃ (nd v : Nat), wd = (wa.setCell ⟨g, m * 5 + 2, none⟩ (.float .f64 v)).drewN nd)
                case first =>
                  go_big_region
                  all_goals
                    go_wp2_with fail
                    go_meet
                    case rel => exact ⟨rfl, _, _, rfl⟩
                case rest =>
                  obtain ⟨rfl, nd, v, rfl⟩ := hcut
                  have r1 : ((wa.setCell ⟨g, m * 5 + 2, none⟩ (.float .f64 v)).drewN nd).ownsRow w3.heap.size 32 5 (.slice (some ⟨g, 0, none⟩) (m + 1) c) (m + 1) (lvlsCells (g0 ++ [(y.1, s.1, v, y.2.2.2)])) := lvl_stored (m := m) (j := 2) (y := (y.1, s.1, y.2.2)) (y' := (y.1, s.1, v, y.2.2.2)) (u := .float .f64 v) p1 HM.out rfl
                  have r3 : Below w3.heap.size w3 ((wa.setCell ⟨g, m * 5 + 2, none⟩ (.float .f64 v)).drewN nd) := below_drewN (p3.setCell (p := ⟨g, m * 5 + 2, none⟩) hgB (.float .f64 v)) nd
                  have s4 : ((wa.setCell ⟨g, m * 5 + 2, none⟩ (.float .f64 v)).drewN nd).cell? ⟨wr.heap.size, 4, none⟩ = some (.int .i64 s.2.2.2) := by
                    show (wa.setCell ⟨g, m * 5 + 2, none⟩ (.float .f64 v)).cell? _ = _
                    rw [World.cell?_of_block (heap_set_other _ _ _ hgne)]; exact q4
                  clear p1 p3 q1 q4 y2 y3 f2 hb9'
                  generalize (wa.setCell ⟨g, m * 5 + 2, none⟩ (.float .f64 v)).drewN nd = wb at *
                  have y3 : wb.cell? ⟨g, m * 5 + 3, none⟩ = some (.int .i64 y.2.2.2.1) := (lvlRow_of_owns r1 (by simp [HM.out]) m (y.1, s.1, v, y.2.2.2) (by rw [← HM.out]; simp)).2.2.2.1
                  have f3 : wb.frozen? ⟨g, m * 5 + 3, none⟩ = false := r1.frozenAt (m * 5 + 3)
                  go_upto_region 20 with fail
                  go_cut [5] (fun u5 wd => u5 = .slice (some ⟨g, 0, none⟩) (m + 1) c ∧ ∃ (nd : Nat) (v : Int), wd = (wb.setCell ⟨g, m * 5 + 3, none⟩ (.int .i64 v)).drewN nd)
                  case first =>
                    go_big_region
                    all_goals
                      go_wp2_with fail
                      go_meet
                      case rel => exact ⟨rfl, 1, _, rfl⟩
                  case rest =>
                    obtain ⟨rfl, nd, pv, rfl⟩ := hcut
                    have t1 : ((wb.setCell ⟨g, m * 5 + 3, none⟩ (.int .i64 pv)).drewN nd).ownsRow w3.heap.size 32 5 (.slice (some ⟨g, 0, none⟩) (m + 1) c) (m + 1) (lvlsCells (g0 ++ [(y.1, s.1, v, pv, y.2.2.2.2)])) := lvl_stored (m := m) (j := 3) (y := (y.1, s.1, v, y.2.2.2)) (y' := (y.1, s.1, v, pv, y.2.2.2.2)) (u := .int .i64 pv) r1 HM.out rfl
                    have t3 : Below w3.heap.size w3 ((wb.setCell ⟨g, m * 5 + 3, none⟩ (.int .i64 pv)).drewN nd) := below_drewN (r3.setCell (p := ⟨g, m * 5 + 3, none⟩) hgB (.int .i64 pv)) nd
                    clear r1 r3 s4 y3 f3
                    generalize (wb.setCell ⟨g, m * 5 + 3, none⟩ (.int .i64 pv)).drewN nd = we at *
                    have y4 : we.cell? ⟨g, m * 5 + 4, none⟩ = some (.int .i64 y.2.2.2.2) := (lvlRow_of_owns t1 (by simp [HM.out]) m (y.1, s.1, v, pv, y.2.2.2.2) (by rw [← HM.out]; simp)).2.2.2.2
                    have f4 : we.frozen? ⟨g, m * 5 + 4, none⟩ = false := t1.frozenAt (m * 5 + 4)
                    have yb0 := HYB.out.1
                    have yb1 := HYB.out.2
                    go_wp2_with fail
                    go_roundg nn
                    case measure => omega
                    case rel =>
                      refine ⟨q + 1, g0 ++ [(y.1, s.1, v, pv, y.2.2.2.2 + 1)], by have := HQ.out; omega, by go_num, ?_, fun h => by simp at h, ?_, ?_, ?_, ?_⟩
                      · have hlen : (g0 ++ [(y.1, s.1, v, pv, y.2.2.2.2 + 1)]).length = m + 1 := by simp [HM.out]
                        rw [hlen]
                        exact lvl_stored (m := m) (j := 4) (y := (y.1, s.1, v, pv, y.2.2.2.2)) (y' := (y.1, s.1, v, pv, y.2.2.2.2 + 1)) (u := .int .i64 (y.2.2.2.2 + 1)) t1 HM.out rfl
                      · exact pos_snoc HP0 (by show 0 ≤ y.2.2.2.2 + 1; omega)
                      · have a1 := HCT.out
                        rw [cntS_snoc] at a1
                        rw [cntS_snoc, HC.out, HHA.out]
                        simp only [if_true]
                        omega
                      · simp [HM.out]; omega
                      · exact t3.setCell (p := ⟨g, m * 5 + 4, none⟩) hgB _
end Go.Proofs.Ybulkahla

import Derived.Test.YbulkahneItems
import Derived.Deep.DeepCutAuto
import Derived.Deep.CutBlock
import Derived.Deep.RegionHeld3
namespace Go.Proofs.Ybulkahne
open Go.RowKit Go.Lib
set_option linter.unusedSimpArgs false

theorem Yba.info5 : (Yba.prog.info? 5).map (fun i => (i.zero, i.size, i.bytes)) = some (some (.int .u8 0), 1, 1) := by kernel_rfl
theorem Yba.info46 : (Yba.prog.info? 46).map (fun i => (i.zero, i.size, i.bytes)) = some (some (.agg #[.int .i64 0, .int .u32 0, .int .u32 0, .int .u32 0, .int .u32 0, .int .u32 0, .int .u32 0]), 7, 32) := by kernel_rfl

/-- the text: every item's key and value, one behind the other -/
def txt (l : List Item) : List UInt8 := l.flatMap fun s => s.2.1.data.toList ++ s.2.2.data.toList
def txtCells (l : List Item) : List Value := (txt l).map fun b => Value.int .u8 b.toNat
def tsize (l : List Item) : Nat := (txt l).length

theorem txtCells_snoc (l : List Item) (s : Item) : txtCells (l ++ [s]) = txtCells l ++ strCells s.2.1 ++ strCells s.2.2 := by
  simp [txtCells, txt, strCells]
theorem tsize_snoc (l : List Item) (s : Item) : tsize (l ++ [s]) = tsize l + s.2.1.size + s.2.2.size := by
  have h1 : s.2.1.data.toList.length = s.2.1.size := by rw [Array.length_toList]; rfl
  have h2 : s.2.2.data.toList.length = s.2.2.size := by rw [Array.length_toList]; rfl
  simp only [tsize, txt, List.flatMap_append, List.flatMap_cons, List.flatMap_nil, List.append_nil, List.length_append, h1, h2]
  omega
theorem tsize_cons (l : List Item) (s : Item) : tsize (s :: l) = s.2.1.size + s.2.2.size + tsize l := by
  have h1 : s.2.1.data.toList.length = s.2.1.size := by rw [Array.length_toList]; rfl
  have h2 : s.2.2.data.toList.length = s.2.2.size := by rw [Array.length_toList]; rfl
  simp only [tsize, txt, List.flatMap_cons, List.length_append, h1, h2]
theorem tsize_le (l : List Item) (h : l.all smallB = true) : tsize l ≤ l.length * 8192 := by
  induction l with
  | nil => exact Nat.zero_le _
  | cons s l ih =>
    rw [List.all_cons, Bool.and_eq_true] at h
    have := ih h.2
    have h1 := h.1
    simp [smallB] at h1
    rw [tsize_cons, List.length_cons]
    omega

/-- the cells of the reference to item j -/
def refAt (l : List Item) (j : Nat) : List Value :=
  let s := l.getD j (0, ByteArray.empty, ByteArray.empty)
  [.int .i64 s.1, .int .u32 0, .int .u32 0, .int .u32 (tsize (l.take j)), .int .u32 (tsize (l.take j) + s.2.1.size), .int .u32 (tsize (l.take j) + s.2.1.size), .int .u32 (tsize (l.take j) + s.2.1.size + s.2.2.size)]
def refCells (l : List Item) (k : Nat) : List Value := (List.range k).flatMap (refAt l)
theorem refCells_snoc (l : List Item) (k : Nat) : refCells l (k + 1) = refCells l k ++ refAt l k := by simp [refCells, List.range_succ]

/-- two rows of different types of elements lie in different blocks -/
theorem rows_apart {w : World} {b b' e e' s s' n n' : Nat} {v v' : Value} {x x' : List Value} (h : w.ownsRow b e s v n x) (h' : w.ownsRow b' e' s' v' n' x') (hne : e ≠ e') : v.ownBlock = none ∨ v.ownBlock ≠ v'.ownBlock := by
  rcases h.2 with ⟨rfl, _⟩ | ⟨g, cap, cur, rfl, _, hg, _⟩
  · exact .inl rfl
  · right
    rcases h'.2 with ⟨rfl, _⟩ | ⟨g', cap', cur', rfl, _, hg', _⟩
    · simp [Value.ownBlock]
    · simp only [Value.ownBlock, ne_eq, Option.some.injEq]
      intro hgg
      rw [hgg, hg'] at hg
      simp at hg
      exact hne hg.2.symm

theorem ownsRow_slice {w : World} {base : Nat} {e : TypeId} {size : Nat} {v : Value} {n : Nat} {xs : List Value} (h : w.ownsRow base e size v n xs) : ∃ p c, v = .slice p n c := by
  rcases h.2 with ⟨rfl, rfl⟩ | ⟨g, cap, _, rfl, _⟩
  · exact ⟨_, _, rfl⟩
  · exact ⟨_, _, rfl⟩

theorem not_nil_form {w : World} {base : Nat} {e : TypeId} {size : Nat} {v : Value} {n : Nat} {xs : List Value} (h : w.ownsRow base e size v n xs) (hn : v ≠ .slice none 0 0) : ∃ g c, v = .slice (some ⟨g, 0, none⟩) n c ∧ base ≤ g := by
  rcases h.2 with ⟨rfl, rfl⟩ | ⟨g, cap, _, rfl, hb, _⟩
  · exact absurd rfl hn
  · exact ⟨_, _, rfl, hb⟩

theorem strOf_bytes (bs : List UInt8) : strOfNums (bs.map fun b => (b.toNat : Int)) = ⟨bs.toArray⟩ := by
  unfold strOfNums
  congr 2
  rw [List.map_map]
  have : ((fun n : Int => UInt8.ofNat n.toNat) ∘ fun b : UInt8 => (b.toNat : Int)) = id := by
    funext b
    simp
  rw [this, List.map_id]

/-- 'string(text)' of a row of the call's own -/
theorem conv_own {w : World} {base n : Nat} {v : Value} {bs : List UInt8} (h : w.ownsRow base 5 1 v n (bs.map fun b => Value.int .u8 b.toNat)) : (convert 40 9 v).run Yba.prog w = .ok (.string ⟨bs.toArray⟩) w := by
  have hn : bs.length = n := by have := h.1; simpa using this
  rcases h.2 with ⟨rfl, rfl⟩ | ⟨g, cap, cur, rfl, _, hg, _⟩
  · have : bs = [] := List.eq_nil_of_length_eq_zero hn
    subst this
    exact run_convert_bytes_nil (P := Yba.prog) w 40 5 Yba.underlying40 Yba.underlying5 0 0 9 Yba.underlying9
  · have hc := run_convert_bytes_arg (P := Yba.prog) w 40 5 Yba.underlying40 Yba.underlying5 g 0 n cap (bs.map fun b => (b.toNat : Int)) (by simpa using hn) (fun i hi => by
      have := h.cellAt i (by omega)
      rw [Nat.zero_add, this, List.getElem?_map]
      have hi' : i < bs.length := by omega
      simp [List.getD, hi']) 9 Yba.underlying9
    rw [strOf_bytes] at hc
    exact hc

/-- The file that zzs1668bbuild lays. -/
structure FileAt (w : World) (bf bb br cr : Nat) (l : List Item) : Prop where
  text : w.cell? ⟨bf, 3, none⟩ = some (.string ⟨(txt l).toArray⟩)
  ents : w.cell? ⟨bf, 4, none⟩ = some (.slice (some ⟨bb, 0, none⟩) 1 1)
  toks : w.cell? ⟨bf, 6, none⟩ = some (.slice none 0 0)
  lat : w.cell? ⟨bf, 7, none⟩ = some (.bool false)
  blk : w.cell? ⟨bb, 0, none⟩ = some (.slice (some ⟨br, 0, none⟩) l.length cr)
  refs : ∀ j s, l[j]? = some s → w.cell? ⟨br, j * 7, none⟩ = some (.int .i64 s.1) ∧ w.cell? ⟨br, j * 7 + 1, none⟩ = some (.int .u32 0) ∧ w.cell? ⟨br, j * 7 + 2, none⟩ = some (.int .u32 0) ∧
    w.cell? ⟨br, j * 7 + 3, none⟩ = some (.int .u32 (tsize (l.take j))) ∧ w.cell? ⟨br, j * 7 + 4, none⟩ = some (.int .u32 (tsize (l.take j) + s.2.1.size)) ∧
    w.cell? ⟨br, j * 7 + 5, none⟩ = some (.int .u32 (tsize (l.take j) + s.2.1.size)) ∧ w.cell? ⟨br, j * 7 + 6, none⟩ = some (.int .u32 (tsize (l.take j) + s.2.1.size + s.2.2.size))

theorem FileAt.of_kept {w w' : World} {bf bb br cr : Nat} {l : List Item} (h : FileAt w bf bb br cr l) (hk : ∀ a v, w.cell? a = some v → w'.cell? a = some v) : FileAt w' bf bb br cr l :=
  ⟨hk _ _ h.text, hk _ _ h.ents, hk _ _ h.toks, hk _ _ h.lat, hk _ _ h.blk, fun j s hs =>
    let ⟨h0, h1, h2, h3, h4, h5, h6⟩ := h.refs j s hs
    ⟨hk _ _ h0, hk _ _ h1, hk _ _ h2, hk _ _ h3, hk _ _ h4, hk _ _ h5, hk _ _ h6⟩⟩
theorem FileAt.below {w w' : World} {bf bb br cr : Nat} {l : List Item} (h : FileAt w bf bb br cr l) (hb : Below w.heap.size w w') : FileAt w' bf bb br cr l := h.of_kept fun _ _ hc => cell_kept hb hc

theorem range_flat (f : Nat → List Value) (n : Nat) (hf : ∀ x, (f x).length = n) (k : Nat) : ∀ i j, i < k → j < n → ((List.range k).flatMap f)[i * n + j]? = (f i)[j]? := by
  induction k with
  | zero => intro i j h; omega
  | succ k ih =>
    intro i j hi hj
    have hlen : ((List.range k).flatMap f).length = k * n := by
      clear ih hi
      induction k with
      | zero => simp
      | succ k ih => rw [List.range_succ, List.flatMap_append, List.length_append, ih]; simp [hf, Nat.succ_mul]
    rw [List.range_succ, List.flatMap_append]
    rcases Nat.lt_or_ge i k with h | h
    · have : i * n + j < k * n := by
        have : (i + 1) * n ≤ k * n := Nat.mul_le_mul_right n h
        rw [Nat.succ_mul] at this
        omega
      rw [List.getElem?_append_left (by omega)]
      exact ih i j h hj
    · have : i = k := by omega
      subst this
      rw [List.getElem?_append_right (by omega), hlen]
      simp

set_option maxHeartbeats 2000000 in
set_option maxRecDepth 100000 in
theorem build_any (a : Option Addr) (cap : Nat) (l : List Item) (w : World) (hok : okB l = true) (hc : ItemsAt w a l) :
    Calls Yba.prog 6 #[.slice a l.length cap] w fun e w' => ∃ bf bb br cr, e = .returned (.pointer (some ⟨bf, 0, none⟩)) ∧ Below w.heap.size w w' ∧ FileAt w' bf bb br cr l := by
  obtain ⟨hl, hall⟩ : l.length ≤ 256 ∧ l.all smallB = true := by simpa [okB] using hok
  have HALL : Hid (l.all smallB = true) := hall
  clear hok hall
  obtain ⟨i5, hi5, h5z, h5s, h5b⟩ := info_parts Yba.info5
  obtain ⟨i0, hi, hz0, hz1, hz2⟩ := info_parts Yba.info46
  have hB0 : Below w.heap.size w (w.alloc (.cells #[] 5)) := bel_alloc (Below.refl _ _) _
  have hown3 : (w.alloc (.cells #[] 5)).ownsRow w.heap.size 5 1 (.slice (some ⟨w.heap.size, 0, none⟩) 0 0) 0 [] := World.ownsRow_made w #[] 0 (Nat.le_refl _) (by unfold maxLen; omega) rfl
  obtain ⟨w1, hmk, hown4, hg0⟩ := run_makeSlice_owned (P := Yba.prog) (w.alloc (.cells #[] 5)) w.heap.size 41 46 i0 _ 7 Yba.underlying41 hi hz0 hz1 .i64 .i64 l.length (by omega) (by rw [hz2]; omega) (by unfold maxLen; omega) hB0.size
  have hB1 : Below w.heap.size w w1 := hB0.grown hg0 hB0.size (by intro k hk; cases hk)
  have hown3' := hown3.kept hg0 (.inr (by simp [Value.ownBlock]))
  clear hown3 hg0 hB0
  go_enter Yba.func6, Yba.ntmps6
  go_wp2_with fail
  go_loopw [3, 4, 16] (fun v3 v4 i wr => ∃ k : Nat, k ≤ l.length ∧ i = .int .i64 k ∧ wr.ownsRow w.heap.size 5 1 v3 (tsize (l.take k)) (txtCells (l.take k)) ∧ wr.ownsRow w.heap.size 46 7 v4 k (refCells l k) ∧ v4 ≠ .slice none 0 0 ∧ Below w.heap.size w wr)
    (fun _ _ i _ => l.length - (intOf i).toNat)
  case atStart => exact ⟨0, Nat.zero_le _, rfl, by simpa [tsize, txtCells, txt] using hown3', by simpa [refCells] using hown4, (by intro h; cases h), hB1⟩
  case round =>
    obtain ⟨k, hk, rfl, ho3, ho4, hnn, hnx⟩ := hrel
    have hsz := hnx.size
    clear hmk hown3' hown4 hB1
    have hts : tsize (l.take k) ≤ k * 8192 := by
      have h1 := tsize_le (l.take k) (by
        have h := HALL.out
        rw [List.all_eq_true] at h ⊢
        intro x hx
        exact h x (List.mem_of_mem_take hx))
      have h2 : (l.take k).length ≤ k := List.length_take_le _ _
      omega
    by_cases hlt : k < l.length
    · obtain ⟨s, hs⟩ : ∃ s, l[k]? = some s := ⟨l[k], by simp [hlt]⟩
      obtain ⟨b, off, rfl, hb, h1, h2, h3⟩ := (hc.below hnx) k s hs
      have hsm : s.2.1.size ≤ 4096 ∧ s.2.2.size ≤ 4096 := by
        have h := HALL.out
        rw [List.all_eq_true] at h
        have := h s (List.mem_of_getElem? hs)
        simpa [smallB] using this
      obtain ⟨hsk, hsv⟩ := hsm
      have HTX : Hid (txtCells (l.take (k + 1)) = txtCells (l.take k) ++ strCells s.2.1 ++ strCells s.2.2) := by
        show _ = _
        rw [take_snoc' hs, txtCells_snoc]
      have HTS : Hid (tsize (l.take (k + 1)) = tsize (l.take k) + s.2.1.size + s.2.2.size) := by
        show _ = _
        rw [take_snoc' hs, tsize_snoc]
      have HREF : Hid (refAt l k = [.int .i64 s.1, .int .u32 0, .int .u32 0, .int .u32 (tsize (l.take k)), .int .u32 (tsize (l.take k) + s.2.1.size), .int .u32 (tsize (l.take k) + s.2.1.size), .int .u32 (tsize (l.take k) + s.2.1.size + s.2.2.size)]) := by
        show _ = _
        simp only [refAt, List.getD, hs, Option.getD_some]
      have HNN : Hid (u4 ≠ .slice none 0 0) := hnn
      have hne3 : some wr.heap.size ≠ u3.ownBlock := by
        intro h; have := (ho3.lt _ h.symm).2; omega
      have hap := rows_apart ho4 ho3 (by decide)
      clear hc hs hnn
      generalize tsize (l.take k) = T at *
      obtain ⟨p3, c3, rfl⟩ := ownsRow_slice ho3
      go_wp2_with (at_builtin; refine wpList_append_own_string _ rfl _ _ 40 9 rfl w.heap.size 5 i5 Yba.underlying40 Yba.underlying9 hi5 h5z h5s h5b _ _ _ rfl (ho3.alloc _) s.2.1 rfl ?c1 ?c2 ?c3 ?_)
      case c1 => unfold maxLen; omega
      case c2 => omega
      case c3 => simp; omega
      intro v3 w2 ho3' hg3 hn3
      have ho4' := (ho4.alloc _).kept hg3 hap
      have q0 := hg3.cell (a := ⟨wr.heap.size, 0, none⟩) (v := .int .i64 s.1) (by simp [go_sem]) hne3
      have q2 := hg3.cell (a := ⟨wr.heap.size, 2, none⟩) (v := .string s.2.2) (by simp [go_sem]) hne3
      have hB2 : Below w.heap.size w w2 := by
        refine Below.grown (bel_alloc hnx _) hg3 (by simp; omega) ?_
        intro j hj; exact (ho3.lt j hj).1
      have hlt2 : wr.heap.size < w2.heap.size := by have := hg3.size; simp at this; omega
      have hap2 := rows_apart ho4' ho3' (by decide)
      have hne4 : some wr.heap.size ≠ v3.ownBlock := by
        intro h
        rcases ho3'.2 with ⟨hv, _⟩ | ⟨g, cap', cur, hv, _, hgg, _⟩
        · rw [hv] at h; simp [Value.ownBlock] at h
        · rw [hv] at h
          simp only [Value.ownBlock, Option.some.injEq] at h
          subst h
          have := hg3.block wr.heap.size (by simp) hne3
          rw [hgg, heap_alloc_new] at this
          simp at this
      clear hg3 hn3 ho4 ho3 hap hne3 h1 h2 h3 hnx
      obtain ⟨p3', c3', rfl⟩ := ownsRow_slice ho3'
      go_wp2_with (at_builtin; refine wpList_append_own_string _ rfl _ _ 40 9 rfl w.heap.size 5 i5 Yba.underlying40 Yba.underlying9 hi5 h5z h5s h5b _ _ _ rfl ho3' s.2.2 rfl ?c1 ?c2 ?c3 ?_)
      case c1 => unfold maxLen; omega
      case c2 => omega
      case c3 => omega
      intro v5 w3 ho5 hg5 hn5
      have ho6 := ho4'.kept hg5 hap2
      have q0' := hg5.cell q0 hne4
      have hB3 : Below w.heap.size w w3 := by
        refine Below.grown hB2 hg5 hB2.size ?_
        intro j hj; exact (ho3'.lt j hj).1
      have hap3 := rows_apart ho5 ho6 (by decide)
      have hsz3 := hB3.size
      clear hg5 hn5 ho4' ho3' hap2 q0 q2 hB2 hne4
      rw [← List.append_assoc, ← HTX.out] at ho5
      obtain ⟨p5, c5, rfl⟩ := ownsRow_slice ho5
      go_wp2_with (at_builtin; refine wpList_append_own _ rfl _ _ 41 rfl w.heap.size 46 i0 _ 7 32 Yba.underlying41 hi hz0 hz1 hz2 rfl (by decide) _ _ _ rfl (ho6.alloc _) ⟨w3.heap.size, 0, none⟩ 1 1 (refAt l k) rfl rfl ?c1 ?c2 ?c3 ?c4 ?c5 ?_)
      case c1 =>
        intro j u hj
        rw [HREF.out] at hj
        match j, hj with
        | 0, hj | 1, hj | 2, hj | 3, hj | 4, hj | 5, hj | 6, hj => simp at hj; subst hj; simp [Addr.add, go_sem]
      case c2 =>
        intro u hu
        rw [HREF.out] at hu
        simp at hu
        rcases hu with rfl | rfl | rfl | rfl | rfl | rfl | rfl <;> rfl
      case c3 => unfold maxLen; omega
      case c4 => omega
      case c5 => simp; omega
      intro v6 w4 ho7 hg7 hn7
      have ho8 := (ho5.alloc _).kept hg7 hap3
      have hB4 : Below w.heap.size w w4 := by
        refine Below.grown (bel_alloc hB3 _) hg7 (by simp; omega) ?_
        intro j hj; exact (ho6.lt j hj).1
      have HN' : Hid (v6 ≠ .slice none 0 0) := by
        intro h; simp [h] at hn7
      rw [← refCells_snoc] at ho7
      clear hg7 hn7 ho5 ho6 hap3 q0'
      go_wp2_with fail
      go_roundw
      case rel => exact ⟨k + 1, by omega, by go_num, by rw [HTS.out]; exact ho8, ho7, HN'.out, hB4⟩
      case measure => simp [intOf]; omega
    · have hkl : k = l.length := by omega
      subst hkl
      rw [List.take_length] at ho3 hts
      obtain ⟨br, cr, rfl, hbr⟩ := not_nil_form ho4 hnn
      have hcv := conv_own (bs := txt l) ho3
      have hrefs : ∀ j s, l[j]? = some s → wr.cell? ⟨br, j * 7, none⟩ = some (.int .i64 s.1) ∧ wr.cell? ⟨br, j * 7 + 1, none⟩ = some (.int .u32 0) ∧ wr.cell? ⟨br, j * 7 + 2, none⟩ = some (.int .u32 0) ∧
          wr.cell? ⟨br, j * 7 + 3, none⟩ = some (.int .u32 (tsize (l.take j))) ∧ wr.cell? ⟨br, j * 7 + 4, none⟩ = some (.int .u32 (tsize (l.take j) + s.2.1.size)) ∧
          wr.cell? ⟨br, j * 7 + 5, none⟩ = some (.int .u32 (tsize (l.take j) + s.2.1.size)) ∧ wr.cell? ⟨br, j * 7 + 6, none⟩ = some (.int .u32 (tsize (l.take j) + s.2.1.size + s.2.2.size)) := by
        intro j s hs
        have hj : j < l.length := (List.getElem?_eq_some_iff.1 hs).1
        have key : ∀ i, i < 7 → wr.cell? ⟨br, j * 7 + i, none⟩ = (refAt l j)[i]? := fun i hi => by
          rw [ho4.cellAt (j * 7 + i) (by omega)]
          exact range_flat (refAt l) 7 (fun _ => rfl) l.length j i hj hi
        have hr : refAt l j = [.int .i64 s.1, .int .u32 0, .int .u32 0, .int .u32 (tsize (l.take j)), .int .u32 (tsize (l.take j) + s.2.1.size), .int .u32 (tsize (l.take j) + s.2.1.size), .int .u32 (tsize (l.take j) + s.2.1.size + s.2.2.size)] := by
          simp only [refAt, List.getD, hs, Option.getD_some]
        rw [hr] at key
        exact ⟨key 0 (by omega), key 1 (by omega), key 2 (by omega), key 3 (by omega), key 4 (by omega), key 5 (by omega), key 6 (by omega)⟩
      obtain ⟨p3, c3, rfl⟩ := ownsRow_slice ho3
      have HRF : Hid (∀ j s, l[j]? = some s → wr.cell? ⟨br, j * 7, none⟩ = some (.int .i64 s.1) ∧ wr.cell? ⟨br, j * 7 + 1, none⟩ = some (.int .u32 0) ∧ wr.cell? ⟨br, j * 7 + 2, none⟩ = some (.int .u32 0) ∧
          wr.cell? ⟨br, j * 7 + 3, none⟩ = some (.int .u32 (tsize (l.take j))) ∧ wr.cell? ⟨br, j * 7 + 4, none⟩ = some (.int .u32 (tsize (l.take j) + s.2.1.size)) ∧
          wr.cell? ⟨br, j * 7 + 5, none⟩ = some (.int .u32 (tsize (l.take j) + s.2.1.size)) ∧ wr.cell? ⟨br, j * 7 + 6, none⟩ = some (.int .u32 (tsize (l.take j) + s.2.1.size + s.2.2.size))) := hrefs
      clear ho3 ho4 hnn hts hc hrefs
      go_wp2_with fail
      go_ret
      have hb2 : ∀ o o' : Obj, Below wr.heap.size wr ((wr.alloc o).alloc o') := fun o o' => bel_alloc (bel_alloc (Below.refl _ _) _) _
      refine ⟨wr.heap.size + 1, wr.heap.size, br, cr, rfl, bel_alloc (bel_alloc hnx _) _, ⟨?_, ?_, ?_, ?_, ?_, ?_⟩⟩
      · simp [go_sem]
      · simp [go_sem]
      · simp [go_sem]
      · simp [go_sem]
      · simp [go_sem]
      · intro j s hs
        obtain ⟨h0, h1, h2, h3, h4, h5, h6⟩ := HRF.out j s hs
        exact ⟨cell_kept (hb2 _ _) h0, cell_kept (hb2 _ _) h1, cell_kept (hb2 _ _) h2, cell_kept (hb2 _ _) h3, cell_kept (hb2 _ _) h4, cell_kept (hb2 _ _) h5, cell_kept (hb2 _ _) h6⟩
end Go.Proofs.Ybulkahne

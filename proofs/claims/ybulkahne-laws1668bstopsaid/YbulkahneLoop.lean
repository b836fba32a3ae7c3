import Derived.Test.YbulkahneYield
namespace Go.Proofs.Ybulkahne
open Go.RowKit Go.Lib
set_option linter.unusedSimpArgs false

def entOf (sec : ByteArray) (s : Item) : Ent := (s.1, sec, s.2.1, s.2.2)
/-- the first n entries of the run that begins at first -/
def runE (l : List Item) (sec : ByteArray) (first n : Nat) : List Ent := ((l.drop first).take n).map (entOf sec)
theorem runE_len (l : List Item) (sec : ByteArray) (first n : Nat) (h : first + n ≤ l.length) : (runE l sec first n).length = n := by
  simp [runE]; omega
theorem runE_snoc {l : List Item} {sec : ByteArray} {first n : Nat} {s : Item} (h : l[first + n]? = some s) : runE l sec first (n + 1) = runE l sec first n ++ [entOf sec s] := by
  have : (l.drop first)[n]? = some s := by rw [List.getElem?_drop]; exact h
  unfold runE
  rw [take_snoc' this]
  simp
theorem runE_get {l : List Item} {sec : ByteArray} {first n j : Nat} {s : Item} (hj : j < n) (h : l[first + j]? = some s) : (runE l sec first n)[j]? = some (entOf sec s) := by
  unfold runE
  rw [List.getElem?_map, List.getElem?_take_of_lt hj, List.getElem?_drop, h]
  rfl

/-- where a block may lie so that the loop leaves it alone -/
def Safe (base c d b : Nat) : Prop := b < base ∧ b ≠ c ∧ b ≠ d

theorem but_cell {base c d : Nat} {w w' : World} (h : But base c d w w') {a : Addr} {v : Value} (hs : Safe base c d a.block) (hc : w.cell? a = some v) : w'.cell? a = some v := by
  rw [h.cell hs.1 hs.2.1 hs.2.2]; exact hc

theorem FileAt.but {base c d : Nat} {w w' : World} {bf bb br cr : Nat} {l : List Item} (h : FileAt w bf bb br cr l) (hb : But base c d w w') (h1 : Safe base c d bf) (h2 : Safe base c d bb) (h3 : 0 < l.length → Safe base c d br) : FileAt w' bf bb br cr l :=
  ⟨but_cell hb h1 h.text, but_cell hb h1 h.ents, but_cell hb h1 h.toks, but_cell hb h1 h.lat, but_cell hb h2 h.blk, fun j s hs =>
    let ⟨a0, a1, a2, a3, a4, a5, a6⟩ := h.refs j s hs
    have h3 := h3 (Nat.lt_of_le_of_lt (Nat.zero_le _) (List.getElem?_eq_some_iff.1 hs).1)
    ⟨but_cell hb h3 a0, but_cell hb h3 a1, but_cell hb h3 a2, but_cell hb h3 a3, but_cell hb h3 a4, but_cell hb h3 a5, but_cell hb h3 a6⟩⟩

theorem get_some {α : Type} {l : List α} {k : Nat} (h : k < l.length) : ∃ s, l[k]? = some s := ⟨l[k], by simp [h]⟩

/-- the entry that a reference of the file's places -/
theorem entry_ref {bf bb br cr : Nat} {l : List Item} (j : Nat) (s : Item) (sec : ByteArray) (w : World) (hf : FileAt w bf bb br cr l) (hs : l[j]? = some s) :
    Calls Yba.prog 12 #[.pointer (some ⟨bf, 0, none⟩), refVal s (tsize (l.take j)), .string sec] w fun e w' =>
      e = .returned (.agg #[.int .i64 (entOf sec s).1, .string (entOf sec s).2.1, .string (entOf sec s).2.2.1, .string (entOf sec s).2.2.2]) ∧ Below w.heap.size w w' := by
  have h := entry_any bf ⟨(txt l).toArray⟩ sec s.1 (tsize (l.take j)) (tsize (l.take j) + s.2.1.size) (tsize (l.take j) + s.2.1.size + s.2.2.size) w hf.text hf.lat (by omega) (by omega) (end_of hs)
  rw [key_of hs, val_of hs] at h
  simp only [Int.natCast_add] at h
  exact h

/-- what stays as it is while one entry is yielded -/
theorem runS_step {base c d bx bf : Nat} {sec : ByteArray} {wr w' w'' : World} (s4 : Safe base c d bx) (h : w'.cell? ⟨bx, 0, none⟩ = some (.pointer (some ⟨bf, 0, none⟩)) ∧ w'.cell? ⟨bx, 3, none⟩ = some (.string sec) ∧ But base c d wr w') (hb : But base c d w' w'') :
    w''.cell? ⟨bx, 0, none⟩ = some (.pointer (some ⟨bf, 0, none⟩)) ∧ w''.cell? ⟨bx, 3, none⟩ = some (.string sec) ∧ But base c d wr w'' :=
  ⟨but_cell hb s4 h.1, but_cell hb s4 h.2.1, h.2.2.trans hb⟩

set_option maxHeartbeats 2000000 in
theorem loopStop_any (base c d sp bf bb br cr bx first en stop : Nat) (l : List Item) (sec : ByteArray) (w : World)
    (hcd : c ≠ d) (hc : c < base) (hd : d < base) (hsp : Safe base c d sp) (hbs : base ≤ w.heap.size) (hl : l.length ≤ 256) (hfe : first ≤ en) (hel : en ≤ l.length) (hst : 0 < stop) (hst2 : stop ≤ 512)
    (s1 : Safe base c d bf) (s2 : Safe base c d bb) (s3 : 0 < l.length → Safe base c d br) (s4 : Safe base c d bx)
    (x0 : w.cell? ⟨bx, 0, none⟩ = some (.pointer (some ⟨bf, 0, none⟩))) (x1 : w.cell? ⟨bx, 1, none⟩ = some (.int .i64 first)) (x2 : w.cell? ⟨bx, 2, none⟩ = some (.int .i64 en)) (x3 : w.cell? ⟨bx, 3, none⟩ = some (.string sec))
    (hf : FileAt w bf bb br cr l) (hcal : w.cell? ⟨c, 0, none⟩ = some (.int .i64 0)) (hcf : w.frozen? ⟨c, 0, none⟩ = false) (hstop : w.cell? ⟨sp, 0, none⟩ = some (.int .i64 stop)) (hg : Got base d [] w) :
    Calls Yba.prog 11 #[.func (.func 10) #[] #[.pointer (some ⟨c, 0, none⟩), .pointer (some ⟨d, 0, none⟩), .pointer (some ⟨sp, 0, none⟩)], .pointer (some ⟨bx, 0, none⟩)] w fun e w' =>
      e = .returned (.tuple #[]) ∧ w'.cell? ⟨c, 0, none⟩ = some (.int .i64 (min stop (en - first) : Nat)) ∧ Got base d (runE l sec first (min stop (en - first))) w' ∧ But base c d w w' := by
  go_enter Yba.func11, Yba.ntmps11
  go_wp2_with fail
  go_loopw [3] (fun i wr => ∃ k : Nat, first + k ≤ en ∧ k < stop ∧ i = .int .i64 ((first + k : Nat) : Int) ∧ wr.cell? ⟨c, 0, none⟩ = some (.int .i64 k) ∧ wr.frozen? ⟨c, 0, none⟩ = false ∧ Got base d (runE l sec first k) wr ∧ But base c d w wr)
    (fun i _ => en - (intOf i).toNat)
  case atStart => exact ⟨0, by omega, hst, by simp, by simpa using hcal, hcf, by simpa [runE] using hg, But.refl _ _ _ _⟩
  case round =>
    obtain ⟨k, hk, hks, rfl, hcr, hcz, hgr, hnx⟩ := hrel
    have hsz : base ≤ wr.heap.size := Nat.le_trans hbs hnx.size
    have y0 := but_cell hnx s4 x0
    have y2 := but_cell hnx s4 x2
    have y3 := but_cell hnx s4 x3
    have yst := but_cell hnx hsp hstop
    have hfr := hf.but hnx s1 s2 s3
    clear x0 x1 x2 x3 hcal hcf hstop hf hg
    by_cases hlt : first + k < en
    · obtain ⟨s, hs⟩ := get_some (l := l) (k := first + k) (by omega)
      have hlen := runE_len l sec first k (by omega)
      have hB0 : Below wr.heap.size wr wr.drew := (Below.refl _ _).drew
      go_upto_region 3 with fail
      go_region_held3 (fun w' => w'.cell? ⟨bx, 0, none⟩ = some (.pointer (some ⟨bf, 0, none⟩)) ∧ w'.cell? ⟨bx, 3, none⟩ = some (.string sec) ∧ But base c d wr w')
        (first | exact ⟨y0, y3, (But.refl _ _ _ _).drew⟩ | exact runS_step s4 (by assumption) (by assumption))
        (first
          | (go_at_call 13; refine (fileAt_any (first + k) s _ (hfr.below hB0) hs hl).mono ?_; rintro e w1 ⟨rfl, hb1⟩; have hq1 : But base c d wr.drew w1 := But.of_below hb1 hsz)
          | (go_at_call 12; refine (entry_ref (first + k) s sec _ ((hfr.below hB0).below hb1) hs).mono ?_; rintro e w2 ⟨rfl, hb2⟩; have hq2 : But base c d w1 w2 := But.of_below hb2 (Nat.le_trans hsz hb1.size))
          | (go_at_call 10; refine (yieldStop_any base c d sp stop (runE l sec first k) (entOf sec s) _ hcd hc hd hsp.1 hsp.2.1 hsp.2.2 (Nat.le_trans (Nat.le_trans hsz hb1.size) hb2.size) (by omega) ?_ ?_ ?_ ((hgr.drew.below hb1).below hb2)).mono ?_
             (rw [hlen]; exact cell_kept hb2 (cell_kept hb1 hcr))
             (rw [hb2.frozen (p := ⟨c, 0, none⟩) (by have := hb1.size; simp at this ⊢; omega), hb1.frozen (p := ⟨c, 0, none⟩) (by simp; omega)]; exact hcz)
             (exact cell_kept hb2 (cell_kept hb1 yst))
             rintro e w3 ⟨rfl, hc3, hz3, hg3, hq3⟩))
      rename_i hH
      obtain ⟨_, _, hq⟩ := hH
      rw [← runE_snoc hs] at hg3
      rw [← runE_snoc hs, runE_len l sec first (k + 1) (by omega)] at hc3
      by_cases hlast : k + 1 < stop
      · have hb : decide ((k : Int) + 1 < (stop : Int)) = true := by simp; omega
        rw [hb]
        go_wp2_with fail
        go_roundw
        · exact ⟨k + 1, by omega, hlast, by simp; omega, hc3, hz3, hg3, hnx.trans hq⟩
        · simp [intOf]; omega
      · have hb : decide ((k : Int) + 1 < (stop : Int)) = false := by simp; omega
        rw [hb]
        go_wp2_with fail
        (try simp only [Exit.inBlock, Exit.then])
        refine bodyPost_ret (results_none rfl _ _ _) rfl ?_
        have hm : min stop (en - first) = k + 1 := by omega
        rw [hm]
        exact ⟨rfl, hc3, hg3, hnx.trans hq⟩
    · go_wp2_with fail
      go_end0
      have hm : min stop (en - first) = k := by omega
      rw [hm]
      exact ⟨rfl, hcr, hgr, hnx⟩

set_option maxHeartbeats 2000000 in
theorem loopAll_any (base d bf bb br cr bx first en : Nat) (l : List Item) (sec : ByteArray) (w : World)
    (hd : d < base) (hbs : base ≤ w.heap.size) (hl : l.length ≤ 256) (hfe : first ≤ en) (hel : en ≤ l.length)
    (s1 : Safe base d d bf) (s2 : Safe base d d bb) (s3 : 0 < l.length → Safe base d d br) (s4 : Safe base d d bx)
    (x0 : w.cell? ⟨bx, 0, none⟩ = some (.pointer (some ⟨bf, 0, none⟩))) (x1 : w.cell? ⟨bx, 1, none⟩ = some (.int .i64 first)) (x2 : w.cell? ⟨bx, 2, none⟩ = some (.int .i64 en)) (x3 : w.cell? ⟨bx, 3, none⟩ = some (.string sec))
    (hf : FileAt w bf bb br cr l) (hg : Got base d [] w) :
    Calls Yba.prog 11 #[.func (.func 9) #[] #[.pointer (some ⟨d, 0, none⟩)], .pointer (some ⟨bx, 0, none⟩)] w fun e w' =>
      e = .returned (.tuple #[]) ∧ Got base d (runE l sec first (en - first)) w' ∧ But base d d w w' := by
  go_enter Yba.func11, Yba.ntmps11
  go_wp2_with fail
  go_loopw [3] (fun i wr => ∃ k : Nat, first + k ≤ en ∧ i = .int .i64 ((first + k : Nat) : Int) ∧ Got base d (runE l sec first k) wr ∧ But base d d w wr)
    (fun i _ => en - (intOf i).toNat)
  case atStart => exact ⟨0, by omega, by simp, by simpa [runE] using hg, But.refl _ _ _ _⟩
  case round =>
    obtain ⟨k, hk, rfl, hgr, hnx⟩ := hrel
    have hsz : base ≤ wr.heap.size := Nat.le_trans hbs hnx.size
    have y0 := but_cell hnx s4 x0
    have y2 := but_cell hnx s4 x2
    have y3 := but_cell hnx s4 x3
    have hfr := hf.but hnx s1 s2 s3
    clear x0 x1 x2 x3 hf hg
    by_cases hlt : first + k < en
    · obtain ⟨s, hs⟩ := get_some (l := l) (k := first + k) (by omega)
      have hlen := runE_len l sec first k (by omega)
      have hB0 : Below wr.heap.size wr wr.drew := (Below.refl _ _).drew
      go_upto_region 3 with fail
      go_region_held3 (fun w' => w'.cell? ⟨bx, 0, none⟩ = some (.pointer (some ⟨bf, 0, none⟩)) ∧ w'.cell? ⟨bx, 3, none⟩ = some (.string sec) ∧ But base d d wr w')
        (first | exact ⟨y0, y3, (But.refl _ _ _ _).drew⟩ | exact runS_step s4 (by assumption) (by assumption))
        (first
          | (go_at_call 13; refine (fileAt_any (first + k) s _ (hfr.below hB0) hs hl).mono ?_; rintro e w1 ⟨rfl, hb1⟩; have hq1 : But base d d wr.drew w1 := But.of_below hb1 hsz)
          | (go_at_call 12; refine (entry_ref (first + k) s sec _ ((hfr.below hB0).below hb1) hs).mono ?_; rintro e w2 ⟨rfl, hb2⟩; have hq2 : But base d d w1 w2 := But.of_below hb2 (Nat.le_trans hsz hb1.size))
          | (go_at_call 9; refine (yieldAll_any base d (runE l sec first k) (entOf sec s) _ hd (Nat.le_trans (Nat.le_trans hsz hb1.size) hb2.size) (by omega) ((hgr.drew.below hb1).below hb2)).mono ?_
             rintro e w3 ⟨rfl, hg3, hq3⟩))
      rename_i hH
      obtain ⟨_, _, hq⟩ := hH
      rw [← runE_snoc hs] at hg3
      go_wp2_with fail
      go_roundw
      · exact ⟨k + 1, by omega, by simp; omega, hg3, hnx.trans hq⟩
      · simp [intOf]; omega
    · go_wp2_with fail
      go_end0
      have hm : en - first = k := by omega
      rw [hm]
      exact ⟨rfl, hgr, hnx⟩
end Go.Proofs.Ybulkahne

import Derived.Test.YbulkahneRun
namespace Go.Proofs.Ybulkahne
open Go.RowKit Go.Lib
set_option linter.unusedSimpArgs false

set_option maxHeartbeats 2000000 in
theorem all_any (p : Option Addr) (cap : Nat) (l : List Item) (a b : Nat) (sec : ByteArray) (w : World) (ha : a < 256) (hb : b < 256) (hi : ItemsAt w p l) :
    Calls Yba.prog 3 #[.slice p l.length cap, .int .u8 a, .int .u8 b, .string sec] w fun e w' => e = .returned (.bool true) ∧ Below w.heap.size w w' := by
  by_cases hok : okB l = true
  · have h5 := ok_any p cap l w hi
    rw [hok] at h5
    obtain ⟨hl, _⟩ : l.length ≤ 256 ∧ l.all smallB = true := by simpa [okB] using hok
    obtain ⟨first, hfi, hA⟩ : ∃ first : Nat, first ≤ l.length ∧ (a : Int) % ((l.length : Int) + 1) = first :=
      ⟨a % (l.length + 1), by have := Nat.mod_lt a (show 0 < l.length + 1 by omega); omega, by simp⟩
    obtain ⟨en, hfe, hel, hE⟩ : ∃ en : Nat, first ≤ en ∧ en ≤ l.length ∧ (first : Int) + (b : Int) % ((l.length : Int) + 1 - first) = en := by
      have h1 := Int.emod_nonneg (b : Int) (b := (l.length : Int) + 1 - first) (by omega)
      have h2 := Int.emod_lt_of_pos (b : Int) (b := (l.length : Int) + 1 - first) (by omega)
      exact ⟨(first + (b : Int) % ((l.length : Int) + 1 - first)).toNat, by omega, by omega, by omega⟩
    go_enter Yba.func3, Yba.ntmps3
    go_upto_region 6 with (go_at_call 5; refine h5.mono ?_; rintro e w0 ⟨rfl, hb0⟩)
    have hi0 := hi.below hb0
    go_upto_region 11 with
      (first
        | (go_at_call 6; refine (build_any p cap l _ hok hi0).mono ?_; rintro e w1 ⟨bf, bb, br, cr, rfl, hb1, hf1⟩)
        | (go_at_call 7; refine (len_any bf first en sec _ hfe (by omega)).mono ?_; rintro e w9 ⟨rfl, rfl⟩))
    have lf : bf < w1.heap.size := World.block_lt_of_cell? _ _ hf1.text
    have lb : bb < w1.heap.size := World.block_lt_of_cell? _ _ hf1.blk
    have lr : 0 < l.length → br < w1.heap.size := fun h => by
      obtain ⟨s, hs⟩ := get_some (l := l) (k := 0) h
      exact World.block_lt_of_cell? _ _ (hf1.refs 0 s hs).1
    have hi2 := hi0.below hb1
    have hBB := hb0.trans (hb1.mono hb0.size)
    clear hb1 hi0 hb0 h5 hi
    go_upto_region 12 with
      (first
        | (go_at_call 8; refine (entries_any bf first en sec _).mono ?_; rintro e w2 ⟨rfl, rfl⟩)
        | (go_at_call 11; refine (loopAll_any (w1.heap.size + 4) (w1.heap.size + 1 + 1) bf bb br cr (w1.heap.size + 1 + 1 + 1) first en l sec _ ?_ ?_ hl hfe hel ?_ ?_ ?_ ?_ ?_ ?_ ?_ ?_ ?_ ?_).mono ?_))
    · omega
    · simp
    · unfold Safe; omega
    · unfold Safe; omega
    · intro h; have := lr h; unfold Safe; omega
    · unfold Safe; omega
    · simp [go_sem]
    · simp [go_sem]
    · simp [go_sem]
    · simp [go_sem]
    · exact hf1.below (((((Below.refl _ _).alloc (Nat.le_refl _) _).alloc (by simp) _).alloc (by simp; omega) _).alloc (by simp; omega) _)
    · exact ⟨⟨.slice none 0 0, by simp [go_sem], World.ownsRow_nil _ _ _ _⟩, by simp [go_sem]⟩
    rintro e w2 ⟨rfl, hg2, hq2⟩
    have hb4 := (((((Below.refl w1.heap.size w1).alloc (Nat.le_refl _) (.cells (runCells bf first en sec) 27)).alloc (by simp) (.cells (runCells bf first en sec) 27)).alloc (by simp; omega) (.cells #[.slice none 0 0] 29)).alloc (by simp; omega) (.cells (runCells bf first en sec) 27))
    have hb5 : Below w1.heap.size w1 w2 := hb4.trans (hq2.below (by omega) (by omega) (by omega))
    have hi3 := hi2.below hb5
    have hBC := hBB.trans (hb5.mono hBB.size)
    obtain ⟨m, hm⟩ : ∃ m, m = en - first := ⟨_, rfl⟩
    have e1 : (en : Int) - first = m := by omega
    rw [← hm] at hg2
    obtain ⟨pg, cg, hd2, he2⟩ := hg2.at
    rw [runE_len l sec first m (by omega)] at hd2
    have hld := World.block_lt_of_cell? _ _ hd2
    simp only at hld
    clear hb5 hb4 hq2 hg2 hi2 hBB hf1 lf lb lr
    generalize w1.heap.size + 1 + 1 = d at *
    have hml : first + m ≤ l.length := by omega
    have hm1 : m ≤ 257 := by omega
    clear hm hA hE
    go_wp2_with fail
    go_loopw [15] (fun i wr => ∃ k : Nat, k ≤ m ∧ i = .int .i64 k ∧ Below w2.heap.size w2 wr) (fun i _ => m - (intOf i).toNat)
    case atStart => exact ⟨0, by omega, rfl, Below.refl _ _⟩
    case round =>
      obtain ⟨k, hk, rfl, hnx⟩ := hrel
      have yd := cell_kept hnx hd2
      have yl := Nat.lt_of_lt_of_le hld hnx.size
      have hi4 := hi3.below hnx
      have he4 := he2.below hnx
      by_cases hlt : k < m
      · obtain ⟨s, hs⟩ := get_some (l := l) (k := first + k) (by omega)
        obtain ⟨pb, po, rfl, hpl, g1, g2, g3⟩ := hi4 _ s hs
        obtain ⟨g, rfl, hgl, t1, t2, t3, t4⟩ := he4 k _ (runE_get hlt hs)
        simp only [entOf] at t1 t2 t3 t4
        clear hi4 he4 hi3 he2 hd2
        go_wp2_with fail
        exact ⟨⟨k + 1, by omega, by simp, bel_alloc (bel_alloc hnx _) _⟩, by simp [intOf]; omega⟩
      · go_wp2_with fail
        go_ret
        exact ⟨rfl, hBC.trans (hnx.mono hBC.size)⟩
  · have h5 := ok_any p cap l w hi
    rw [show okB l = false by simpa using hok] at h5
    go_enter Yba.func3, Yba.ntmps3
    go_wp2_with (go_at_call 5; refine h5.mono ?_; rintro e w0 ⟨rfl, hb0⟩)
    go_ret
    exact ⟨rfl, hb0⟩
end Go.Proofs.Ybulkahne

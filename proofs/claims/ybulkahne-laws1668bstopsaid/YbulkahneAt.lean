import Derived.Test.YbulkahneEntry
namespace Go.Proofs.Ybulkahne
open Go.RowKit Go.Lib
set_option linter.unusedSimpArgs false

/-- the reference to an item that begins at T in the text, as a value -/
abbrev refVal (s : Item) (T : Nat) : Value := .agg #[.int .i64 s.1, .int .u32 0, .int .u32 0, .int .u32 T, .int .u32 (T + s.2.1.size), .int .u32 (T + s.2.1.size), .int .u32 (T + s.2.1.size + s.2.2.size)]

set_option maxHeartbeats 1000000 in
theorem listAt_any {bf bb br cr : Nat} {l : List Item} (j : Nat) (s : Item) (w : World) (hf : FileAt w bf bb br cr l) (hs : l[j]? = some s) (hl : l.length ≤ 256) :
    Calls Yba.prog 16 #[.pointer (some ⟨bf, 4, none⟩), .int .i64 j] w fun e w' => e = .returned (refVal s (tsize (l.take j))) ∧ Below w.heap.size w w' := by
  have hj : j < l.length := (List.getElem?_eq_some_iff.1 hs).1
  have h4 := hf.ents
  have hb := hf.blk
  obtain ⟨h0, h1, h2, h3, h5, h6, h7⟩ := hf.refs j s hs
  have hltf := World.block_lt_of_cell? w _ h4
  have hltb := World.block_lt_of_cell? w _ hb
  have hltr := World.block_lt_of_cell? w _ h0
  simp only at hltf hltb hltr
  have hdiv : (j : Int) / 1024 = 0 := by omega
  have hmod : (j : Int) % 1024 = j := by omega
  have hdiv' : (j : Int).tdiv 1024 = 0 := by rw [Int.tdiv_eq_ediv_of_nonneg (by omega)]; exact hdiv
  have hmod' : (j : Int).tmod 1024 = j := by rw [Int.tmod_eq_emod_of_nonneg (by omega)]; exact hmod
  clear hf hs
  generalize tsize (l.take j) = T at *
  go_enter Yba.func16, Yba.ntmps16
  go_wp2_with fail
  exact bodyPost_ret (v := refVal s T) (by simp [results, Yba.results16, go_sem]) rfl ⟨rfl, bel_alloc (Below.refl _ _) _⟩

set_option maxHeartbeats 1000000 in
theorem fileAt_any {bf bb br cr : Nat} {l : List Item} (j : Nat) (s : Item) (w : World) (hf : FileAt w bf bb br cr l) (hs : l[j]? = some s) (hl : l.length ≤ 256) :
    Calls Yba.prog 13 #[.pointer (some ⟨bf, 0, none⟩), .int .i64 j] w fun e w' => e = .returned (refVal s (tsize (l.take j))) ∧ Below w.heap.size w w' := by
  have h6 := hf.toks
  have hB1 : Below w.heap.size w (w.alloc (.cells #[.int .i64 0, .int .u32 0, .int .u32 0, .int .u32 0, .int .u32 0, .int .u32 0, .int .u32 0] 46)) := bel_alloc (Below.refl _ _) _
  have hltf := World.block_lt_of_cell? w _ h6
  simp only at hltf
  go_enter Yba.func13, Yba.ntmps13
  go_wp2_with fail
  refine (listAt_any j s _ (hf.below hB1) hs hl).mono ?_
  rintro e w1 ⟨rfl, hb1⟩
  have hB2 : Below w.heap.size w w1 := hB1.trans (hb1.mono (by simp))
  have hblk : w1.heap[w.heap.size]? = some (.cells #[.int .i64 0, .int .u32 0, .int .u32 0, .int .u32 0, .int .u32 0, .int .u32 0, .int .u32 0] 46) := by
    rw [hb1.block w.heap.size (by simp)]
    exact heap_alloc_new w _
  have c0 : w1.cell? ⟨w.heap.size, 0, none⟩ = some (.int .i64 0) := by simp [World.cell?, hblk]
  have c1 : w1.cell? ⟨w.heap.size, 1, none⟩ = some (.int .u32 0) := by simp [World.cell?, hblk]
  have c2 : w1.cell? ⟨w.heap.size, 2, none⟩ = some (.int .u32 0) := by simp [World.cell?, hblk]
  have c3 : w1.cell? ⟨w.heap.size, 3, none⟩ = some (.int .u32 0) := by simp [World.cell?, hblk]
  have c4 : w1.cell? ⟨w.heap.size, 4, none⟩ = some (.int .u32 0) := by simp [World.cell?, hblk]
  have c5 : w1.cell? ⟨w.heap.size, 5, none⟩ = some (.int .u32 0) := by simp [World.cell?, hblk]
  have c6 : w1.cell? ⟨w.heap.size, 6, none⟩ = some (.int .u32 0) := by simp [World.cell?, hblk]
  have cz : ∀ o, w1.frozen? ⟨w.heap.size, o, none⟩ = false := fun o => by simp [World.frozen?, hblk]
  clear hblk hb1 hB1 hf h6 hs
  go_wp2_with fail
  have hB3 : Below w.heap.size w (((((((w1.setCell ⟨w.heap.size, 0, none⟩ (.int .i64 s.1)).setCell ⟨w.heap.size, 1, none⟩ (.int .u32 0)).setCell ⟨w.heap.size, 2, none⟩ (.int .u32 0)).setCell ⟨w.heap.size, 3, none⟩ (.int .u32 (tsize (l.take j)))).setCell ⟨w.heap.size, 4, none⟩ (.int .u32 (tsize (l.take j) + s.2.1.size))).setCell ⟨w.heap.size, 5, none⟩ (.int .u32 (tsize (l.take j) + s.2.1.size))).setCell ⟨w.heap.size, 6, none⟩ (.int .u32 (tsize (l.take j) + s.2.1.size + s.2.2.size))) :=
    ((((((hB2.setCell (Nat.le_refl _) _).setCell (Nat.le_refl _) _).setCell (Nat.le_refl _) _).setCell (Nat.le_refl _) _).setCell (Nat.le_refl _) _).setCell (Nat.le_refl _) _).setCell (Nat.le_refl _) _
  exact bodyPost_ret (v := refVal s (tsize (l.take j))) (by simp [results, Yba.results13, go_sem, c0, c1, c2, c3, c4, c5, c6]) rfl ⟨rfl, hB3⟩

/-! ### what the references place -/
theorem txt_parts {l : List Item} {j : Nat} {s : Item} (hs : l[j]? = some s) : txt l = txt (l.take j) ++ (s.2.1.data.toList ++ (s.2.2.data.toList ++ txt (l.drop (j + 1)))) := by
  have hj : j < l.length := (List.getElem?_eq_some_iff.1 hs).1
  have hd : l = l.take j ++ s :: l.drop (j + 1) := by
    have h1 := List.take_append_drop j l
    rw [List.drop_eq_getElem_cons hj] at h1
    have h2 : l[j] = s := by simpa [hj] using hs
    rw [h2] at h1
    exact h1.symm
  conv => lhs; rw [hd]
  simp [txt]

theorem extract_mid (A B C : List UInt8) : (⟨(A ++ (B ++ C)).toArray⟩ : ByteArray).extract A.length (A.length + B.length) = ⟨B.toArray⟩ := by
  apply ByteArray.ext
  rw [ByteArray.data_extract]
  apply Array.ext'
  simp

theorem bytes_of (s : ByteArray) : (⟨s.data.toList.toArray⟩ : ByteArray) = s := by simp

theorem key_of {l : List Item} {j : Nat} {s : Item} (hs : l[j]? = some s) : (⟨(txt l).toArray⟩ : ByteArray).extract (tsize (l.take j)) (tsize (l.take j) + s.2.1.size) = s.2.1 := by
  have h := extract_mid (txt (l.take j)) s.2.1.data.toList (s.2.2.data.toList ++ txt (l.drop (j + 1)))
  rw [← txt_parts hs, bytes_of] at h
  have hk : s.2.1.data.toList.length = s.2.1.size := by rw [Array.length_toList]; rfl
  rw [hk] at h
  exact h
theorem val_of {l : List Item} {j : Nat} {s : Item} (hs : l[j]? = some s) : (⟨(txt l).toArray⟩ : ByteArray).extract (tsize (l.take j) + s.2.1.size) (tsize (l.take j) + s.2.1.size + s.2.2.size) = s.2.2 := by
  have h := extract_mid (txt (l.take j) ++ s.2.1.data.toList) s.2.2.data.toList (txt (l.drop (j + 1)))
  rw [List.append_assoc, ← txt_parts hs, bytes_of] at h
  have hk : s.2.1.data.toList.length = s.2.1.size := by rw [Array.length_toList]; rfl
  have hv : s.2.2.data.toList.length = s.2.2.size := by rw [Array.length_toList]; rfl
  rw [List.length_append, hk, hv] at h
  exact h
theorem end_of {l : List Item} {j : Nat} {s : Item} (hs : l[j]? = some s) : tsize (l.take j) + s.2.1.size + s.2.2.size ≤ (⟨(txt l).toArray⟩ : ByteArray).size := by
  have h := congrArg List.length (txt_parts hs)
  have hk : s.2.1.data.toList.length = s.2.1.size := by rw [Array.length_toList]; rfl
  have hv : s.2.2.data.toList.length = s.2.2.size := by rw [Array.length_toList]; rfl
  simp only [List.length_append, hk, hv] at h
  show _ ≤ (txt l).toArray.size
  rw [List.size_toArray]
  unfold tsize
  omega
end Go.Proofs.Ybulkahne

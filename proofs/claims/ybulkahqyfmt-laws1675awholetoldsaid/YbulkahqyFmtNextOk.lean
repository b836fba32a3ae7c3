import Derived.Test.YbulkahqyFmtNextB
namespace Go.Proofs.YbulkahqyFmt
open Go.RowKit
set_option linter.unusedSimpArgs false

theorem next_ok {w : World} {b : Nat} {off rc fed L : Int} {t0 t1 t2 : ByteArray} (k : Nat) (hk : k ≤ 16) (h : Blk w b (fs off rc fed L k (tillN L k) (valN L k))) (hl : Leg w 2 t0 t1 t2) (hne : 2 ≠ b) (hL1 : 1 ≤ L) (hL2 : L ≤ 255) :
    Calls Ybaf.prog 22 #[.pointer (some ⟨b, 3, none⟩)] w fun e w' => e = .returned .nilIface ∧ Blk w' b (fs off rc fed L (k + 1) (tillN L k) 0) ∧ G b w w' := by
  have hc : k = 0 ∨ k = 1 ∨ k = 2 ∨ k = 3 ∨ k = 4 ∨ k = 5 ∨ k = 6 ∨ k = 7 ∨ k = 8 ∨ k = 9 ∨ k = 10 ∨ k = 11 ∨ k = 12 ∨ k = 13 ∨ k = 14 ∨ k = 15 ∨ k = 16 := by omega
  rcases hc with rfl | rfl | rfl | rfl | rfl | rfl | rfl | rfl | rfl | rfl | rfl | rfl | rfl | rfl | rfl | rfl | rfl
  · exact (next0 (off := off) (rc := rc) (fed := fed) (L := L) (h.cast (by simp [fs, stepN, tillN, lgN, enN, valN, nmN])) hl hne hL1 hL2).mono fun _ _ ⟨h1, h2, h3⟩ => ⟨h1, h2.cast (by simp [fs, stepN, tillN, lgN, enN, valN, nmN]), h3⟩
  · exact (next1 (off := off) (rc := rc) (fed := fed) (L := L) (h.cast (by simp [fs, stepN, tillN, lgN, enN, valN, nmN])) hl hne hL1 hL2).mono fun _ _ ⟨h1, h2, h3⟩ => ⟨h1, h2.cast (by simp [fs, stepN, tillN, lgN, enN, valN, nmN]), h3⟩
  · exact (next2 (off := off) (rc := rc) (fed := fed) (L := L) (h.cast (by simp [fs, stepN, tillN, lgN, enN, valN, nmN])) hl hne hL1 hL2).mono fun _ _ ⟨h1, h2, h3⟩ => ⟨h1, h2.cast (by simp [fs, stepN, tillN, lgN, enN, valN, nmN]), h3⟩
  · exact (next3 (off := off) (rc := rc) (fed := fed) (L := L) (h.cast (by simp [fs, stepN, tillN, lgN, enN, valN, nmN])) hl hne hL1 hL2).mono fun _ _ ⟨h1, h2, h3⟩ => ⟨h1, h2.cast (by simp [fs, stepN, tillN, lgN, enN, valN, nmN]), h3⟩
  · exact (next4 (off := off) (rc := rc) (fed := fed) (L := L) (h.cast (by simp [fs, stepN, tillN, lgN, enN, valN, nmN])) hl hne hL1 hL2).mono fun _ _ ⟨h1, h2, h3⟩ => ⟨h1, h2.cast (by simp [fs, stepN, tillN, lgN, enN, valN, nmN]), h3⟩
  · exact (next5 (off := off) (rc := rc) (fed := fed) (L := L) (h.cast (by simp [fs, stepN, tillN, lgN, enN, valN, nmN])) hl hne hL1 hL2).mono fun _ _ ⟨h1, h2, h3⟩ => ⟨h1, h2.cast (by simp [fs, stepN, tillN, lgN, enN, valN, nmN]), h3⟩
  · exact (next6 (off := off) (rc := rc) (fed := fed) (L := L) (h.cast (by simp [fs, stepN, tillN, lgN, enN, valN, nmN])) hl hne hL1 hL2).mono fun _ _ ⟨h1, h2, h3⟩ => ⟨h1, h2.cast (by simp [fs, stepN, tillN, lgN, enN, valN, nmN]), h3⟩
  · exact (next7 (off := off) (rc := rc) (fed := fed) (L := L) (h.cast (by simp [fs, stepN, tillN, lgN, enN, valN, nmN])) hl hne hL1 hL2).mono fun _ _ ⟨h1, h2, h3⟩ => ⟨h1, h2.cast (by simp [fs, stepN, tillN, lgN, enN, valN, nmN]), h3⟩
  · exact (next8 (off := off) (rc := rc) (fed := fed) (L := L) (h.cast (by simp [fs, stepN, tillN, lgN, enN, valN, nmN])) hl hne hL1 hL2).mono fun _ _ ⟨h1, h2, h3⟩ => ⟨h1, h2.cast (by simp [fs, stepN, tillN, lgN, enN, valN, nmN]), h3⟩
  · exact (next9 (off := off) (rc := rc) (fed := fed) (L := L) (h.cast (by simp [fs, stepN, tillN, lgN, enN, valN, nmN])) hl hne hL1 hL2).mono fun _ _ ⟨h1, h2, h3⟩ => ⟨h1, h2.cast (by simp [fs, stepN, tillN, lgN, enN, valN, nmN]), h3⟩
  · exact (next10 (off := off) (rc := rc) (fed := fed) (L := L) (h.cast (by simp [fs, stepN, tillN, lgN, enN, valN, nmN])) hl hne hL1 hL2).mono fun _ _ ⟨h1, h2, h3⟩ => ⟨h1, h2.cast (by simp [fs, stepN, tillN, lgN, enN, valN, nmN]), h3⟩
  · exact (next11 (off := off) (rc := rc) (fed := fed) (L := L) (h.cast (by simp [fs, stepN, tillN, lgN, enN, valN, nmN])) hl hne hL1 hL2).mono fun _ _ ⟨h1, h2, h3⟩ => ⟨h1, h2.cast (by simp [fs, stepN, tillN, lgN, enN, valN, nmN]), h3⟩
  · exact (next12 (off := off) (rc := rc) (fed := fed) (L := L) (h.cast (by simp [fs, stepN, tillN, lgN, enN, valN, nmN])) hl hne hL1 hL2).mono fun _ _ ⟨h1, h2, h3⟩ => ⟨h1, h2.cast (by simp [fs, stepN, tillN, lgN, enN, valN, nmN]), h3⟩
  · exact (next13 (off := off) (rc := rc) (fed := fed) (L := L) (h.cast (by simp [fs, stepN, tillN, lgN, enN, valN, nmN])) hl hne hL1 hL2).mono fun _ _ ⟨h1, h2, h3⟩ => ⟨h1, h2.cast (by simp [fs, stepN, tillN, lgN, enN, valN, nmN]), h3⟩
  · exact (next14 (off := off) (rc := rc) (fed := fed) (L := L) (h.cast (by simp [fs, stepN, tillN, lgN, enN, valN, nmN])) hl hne hL1 hL2).mono fun _ _ ⟨h1, h2, h3⟩ => ⟨h1, h2.cast (by simp [fs, stepN, tillN, lgN, enN, valN, nmN]), h3⟩
  · exact (next15 (off := off) (rc := rc) (fed := fed) (L := L) (h.cast (by simp [fs, stepN, tillN, lgN, enN, valN, nmN])) hl hne hL1 hL2).mono fun _ _ ⟨h1, h2, h3⟩ => ⟨h1, h2.cast (by simp [fs, stepN, tillN, lgN, enN, valN, nmN]; omega), h3⟩
  · exact (next16 (off := off) (rc := rc) (fed := fed) (L := L) (h.cast (by simp [fs, stepN, tillN, lgN, enN, valN, nmN])) hl hne hL1 hL2).mono fun _ _ ⟨h1, h2, h3⟩ => ⟨h1, h2.cast (by simp [fs, stepN, tillN, lgN, enN, valN, nmN]), h3⟩
end Go.Proofs.YbulkahqyFmt

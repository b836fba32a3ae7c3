import Derived.Test.YbulkahlaCnet
namespace Go.Proofs.Ybulkahla
open Go.RowKit
set_option linter.unusedSimpArgs false

/-- WHAT IS TOLD OF A NETWORK THAT STANDS: nR routes; route q comes from source q / nG and goes to group q % nG. -/
structure NetAt (w : World) (bn bd bt br cr bm cm nS nG nR : Nat) : Prop where
  dem : w.cell? ⟨bn, 1, none⟩ = some (slv bd nS)
  rts : w.cell? ⟨bn, 4, none⟩ = some (.slice (some ⟨br, 0, none⟩) nR cr)
  rms : w.cell? ⟨bn, 6, none⟩ = some (.slice (some ⟨bm, 0, none⟩) nR cm)
  tog : w.cell? ⟨bn, 8, none⟩ = some (slv bt nG)
  rt : ∀ q, q < nR → w.cell? ⟨br, q * 2, none⟩ = some (.int .i64 (q / nG : Nat)) ∧ w.cell? ⟨br, q * 2 + 1, none⟩ = some (.int .i64 (q % nG : Nat))
  ms : ∀ q, q < nR → ∃ x, w.cell? ⟨bm, q, none⟩ = some (.float .f64 x)
  tg : ∀ g, g < nG → ∃ p len c, w.cell? ⟨bt, g, none⟩ = some (.slice p len c) ∧ len ≤ nR ∧
    ∀ k, k < len → ∃ b, p = some ⟨b, 0, none⟩ ∧ ∃ (q : Int) (s m : Nat), s < nS ∧ w.cell? ⟨b, k * 3, none⟩ = some (.int .i64 q) ∧ w.cell? ⟨b, k * 3 + 1, none⟩ = some (.int .i64 s) ∧ w.cell? ⟨b, k * 3 + 2, none⟩ = some (.float .f64 m)

theorem NetAt.below {w w' : World} {bn bd bt br cr bm cm nS nG nR : Nat} (h : NetAt w bn bd bt br cr bm cm nS nG nR) (hb : Below w.heap.size w w') : NetAt w' bn bd bt br cr bm cm nS nG nR where
  dem := cell_kept hb h.dem
  rts := cell_kept hb h.rts
  rms := cell_kept hb h.rms
  tog := cell_kept hb h.tog
  rt := fun q hq => ⟨cell_kept hb (h.rt q hq).1, cell_kept hb (h.rt q hq).2⟩
  ms := fun q hq => let ⟨x, hx⟩ := h.ms q hq; ⟨x, cell_kept hb hx⟩
  tg := fun g hg => let ⟨p, len, c, h1, h2, h3⟩ := h.tg g hg
    ⟨p, len, c, cell_kept hb h1, h2, fun k hk => let ⟨b, hp, q, s, m, hs, a1, a2, a3⟩ := h3 k hk; ⟨b, hp, q, s, m, hs, cell_kept hb a1, cell_kept hb a2, cell_kept hb a3⟩⟩

theorem Mid.netAt {w0 w : World} {B nS nG bn bd bt nR : Nat} {vr vm : Value} {cs : Nat → Value} {es : Nat → List Inb} {ms : List Nat} (h : Mid w0 w B nS nG bn bd bt nR nR vr vm cs es ms) (hR : 0 < nR) : ∃ br cr bm cm, NetAt w bn bd bt br cr bm cm nS nG nR := by
  have hn := h.net
  obtain ⟨br, cr, rfl, _⟩ := h.rts.form hR
  obtain ⟨bm, cm, rfl, _⟩ := h.mss.form hR
  refine ⟨br, cr, bm, cm, ⟨?_, ?_, ?_, ?_, ?_, ?_, ?_⟩⟩
  · simp [World.cell?, hn]
  · simp [World.cell?, hn]
  · simp [World.cell?, hn]
  · simp [World.cell?, hn]
  · intro q hq
    have key : ∀ j, j < 2 → w.cell? ⟨br, q * 2 + j, none⟩ = (rtCells nG q)[j]? := fun j hj => by
      rw [h.rts.cellAt (q * 2 + j) (by omega)]
      exact flatMap_getElem? (rtCells nG) 2 (fun _ => rfl) (List.range nR) q j q (by simp [hq]) hj
    exact ⟨key 0 (by omega), key 1 (by omega)⟩
  · intro q hq
    have hl : ms.length = nR := by have := h.mss.1; simpa using this
    refine ⟨ms[q]'(by omega), ?_⟩
    rw [h.mss.cellAt q (by omega)]
    simp [show q < ms.length by omega]
  · intro g hg
    have ho := h.fam.own g hg
    obtain ⟨p, c, hc⟩ := slice_of_owns ho
    refine ⟨p, (es g).length, c, by rw [h.row.cell hg, hc], (h.src g hg).1, fun k hk => ?_⟩
    obtain ⟨b, c', hc', _⟩ := ho.form (by omega)
    rw [hc] at hc'
    injection hc' with hp _ _
    rw [hc, hp] at ho
    have hek : (es g)[k]? = some ((es g)[k]'hk) := by simp
    have key : ∀ j, j < 3 → w.cell? ⟨b, k * 3 + j, none⟩ = (inbCells ((es g)[k]'hk))[j]? := fun j hj => by
      rw [ho.cellAt (k * 3 + j) (by omega)]
      exact flatMap_getElem? inbCells 3 (fun _ => rfl) (es g) k j _ hek hj
    exact ⟨b, hp, _, _, _, (h.src g hg).2 _ (List.getElem_mem hk), key 0 (by omega), key 1 (by omega), key 2 (by omega)⟩
end Go.Proofs.Ybulkahla

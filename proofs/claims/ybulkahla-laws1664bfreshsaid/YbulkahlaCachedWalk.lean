import Derived.Test.YbulkahlaSamples
import Derived.LaidEqlPtr
namespace Go.Proofs.Ybulkahla
open Go.RowKit
attribute [local go_sem] run_store_float

theorem Yba.infoOf36 : (Yba.prog.info? 36).map (fun i => i.size) = some 8 := by kernel_rfl

theorem neq_ptr_same {P : Program} {tp te : TypeId} {j : TypeInfo} (a : Addr) (w : World) (hp : P.underlying tp = some (.pointer te)) (hte : P.info? te = some j) :
    (binOp .neq tp (.pointer (some a)) (.pointer (some a))).run P w = .ok (.bool false) w := by
  have h : ∀ d : Nat, (Op.equalIn (d + 1) tp (.pointer (some a)) (.pointer (some a))).run P w = .ok true w := fun d => by
    simp [Op.equalIn, run_underlying hp, sizeOf, typeInfo, hte, run_sameAddr_same]
  simp only [binOp]
  simp [Op.equal, Op.maxDepth, h 9999]

theorem ownsRow_slice {w : World} {base : Nat} {e : TypeId} {size : Nat} {v : Value} {n : Nat} {xs : List Value} (h : w.ownsRow base e size v n xs) : ∃ p c, v = .slice p n c := by
  rcases h.2 with ⟨rfl, rfl⟩ | ⟨g, cap, _, rfl, _⟩
  · exact ⟨_, _, rfl⟩
  · exact ⟨_, _, rfl⟩

set_option maxHeartbeats 400000 in
set_option maxRecDepth 100000 in
theorem cached_any (a : Option Addr) (len cap : Nat) (l : List Smp) (x y z : Nat) (p : Int) (w : World) (hlen : l.length = len) (hc : SmpsAt w a l) :
    Calls Yba.prog 6 #[.slice a len cap, .float .f64 x, .float .f64 y, .float .f64 z, .int .i64 p] w fun e w' => e = .returned (.bool true) ∧ Below w.heap.size w w' := by
  subst hlen
  by_cases hl : l.length ≤ 1024
  · have hc' : SmpsAt (w.alloc (.cells #[.float .f64 x, .float .f64 y, .float .f64 z, .float .f64 0, .int .i64 p, .slice none 0 0, .slice none 0 0, .pointer none] 36)) a l := by
      intro i s hs
      obtain ⟨b, off, rfl, hb, h1, h2, h3, h4⟩ := hc i s hs
      refine ⟨b, off, rfl, by simp; omega, ?_⟩
      simp only [World.cell?_alloc_past _ _ _ hb]
      exact ⟨h1, h2, h3, h4⟩
    go_enter Yba.func6, Yba.ntmps6
    go_wp2_with fail
    refine (bsamples_any a cap l _ hl hc').mono ?_
    rintro e w1 ⟨v, rfl, hB, hown⟩
    obtain ⟨p', c', rfl⟩ := ownsRow_slice hown
    have hB' := (((Below.refl w.heap.size w).alloc (Nat.le_refl _) _).trans (hB.mono (by simp)))
    clear hB hown hc' hc
    obtain ⟨j36, hj36, _⟩ := Option.map_eq_some_iff.1 Yba.infoOf36
    have hne : ∀ a w, (binOp .neq 38 (.pointer (some a)) (.pointer (some a))).run Yba.prog w = .ok (.bool false) w := fun a w => neq_ptr_same a w Yba.underlying38 hj36
    have hee : ∀ a w, (binOp .eql 38 (.pointer (some a)) (.pointer (some a))).run Yba.prog w = .ok (.bool true) w := fun a w => run_eql_ptr_same w a Yba.underlying38 hj36
    go_wp2_with (go_at_call 19; refine (read_held _ _ ⟨w.heap.size, 0, none⟩ _ ?_).mono ?_; simp [go_sem]; rintro e w' ⟨rfl, rfl⟩)
    go_ret
    exact ⟨rfl, hB'.alloc (by have := hB'.size; omega) _⟩
  · go_enter Yba.func6, Yba.ntmps6
    go_wp2_with fail
    go_ret
    exact ⟨rfl, Below.refl _ _⟩
end Go.Proofs.Ybulkahla

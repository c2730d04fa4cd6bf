/-
  SEAT b6609104a: ZZcopies over a new table; zzCopiesModel; zzSameCopies.
-/
import Derived.Test.Qxb6609104aCopies
namespace Go.Proofs.Qxb6609104a
open Go.RowKit
set_option linter.unusedVariables false

theorem CopyOf.below {hs : List Hk} {n f : Nat} {w w' : World} {B C i : Nat} (h : CopyOf hs n f w C i) (hb : Below B w w') (hB : C < B) : CopyOf hs n f w' C i := CopyAt.below h hb hB

set_option maxHeartbeats 400000 in
theorem zcopies_any (T U R M n f cnt : Nat) (L chk : Value) (o : Int) (hs : List Hk) (w : World) (hn : n ≤ 65536) (hcnt : cnt ≤ n) (hf : f < n ∨ n = 0) (ho0 : 0 ≤ o) (ho1 : o < 18446744073709551616)
    (hT : TabAt w T 0 L chk U R M n f cnt o) (hR : RingRow w R n) (hH : ∀ i, i < n → HeldAt w R (i * 5) (at_ hs i)) :
    Calls Try.prog 13 #[.pointer (some ⟨T, 0, none⟩)] w (Copied hs n f cnt o w) := by
  have c := fun ob => copies_any T U R M n f cnt L chk o hs (w.alloc ob) hn hcnt hf ho0 ho1 (hT.keep (heap_alloc_old w ob hT.lt)) (hR.keep (heap_alloc_old w ob hR.lt)) (fun i hi => (hH i hi).grown (heap_alloc_old w ob hR.lt))
  have Cc := hideIt c
  clear c hT hR hH
  go_enter Try.func13, Try.ntmps13
  go_wp2_with fail
  refine (Cc.out _).mono ?_
  rintro e w1 ⟨C, rfl, hC1, hC2, hc, hb⟩
  rw [World.size_alloc] at hC1 hb
  have hX : w1.heap[w.heap.size]? = some (.cells #[.int .u64 0, .slice none 0 0] 36 (0, 0)) := (hb.block _ (by omega)).trans (heap_alloc_new w _)
  have y0 : w1.cell? ⟨w.heap.size, 0, none⟩ = some (.int .u64 0) := by simp [World.cell?, hX]
  have y1 : w1.cell? ⟨w.heap.size, 1, none⟩ = some (.slice none 0 0) := by simp [World.cell?, hX]
  have z0 : w1.frozen? ⟨w.heap.size, 0, none⟩ = false := by simp [World.frozen?, hX]
  have z1 : w1.frozen? ⟨w.heap.size, 1, none⟩ = false := by simp [World.frozen?, hX]
  have HB := hideIt hb
  have HC := hideIt hc
  clear hX hb hc Cc
  go_wp2
  refine bodyPost_ret (v := .agg #[.int .u64 o, .slice (some ⟨C, 0, none⟩) cnt cnt]) (by simp [results, Try.results13, go_sem, y0, y1]) rfl ?_
  have hb0 : Below w.heap.size w w1 := ((Below.refl _ _).alloc (Nat.le_refl _) _).trans (HB.out.mono (by omega))
  refine ⟨C, rfl, by omega, by simpa using hC2, fun i hi => ?_, (hb0.setCell (Nat.le_refl _) _).setCell (Nat.le_refl _) _⟩
  exact CopyAt.keep (HC.out i hi) (by rw [heap_setCell_other _ _ _ _ (by simp; omega), heap_setCell_other _ _ _ _ (by simp; omega)]) (by simp)

end Go.Proofs.Qxb6609104a

/-
  SEAT b6609104a: a []string argument, opened.
-/
import Derived.Test.Qxb6609104aOpen
import Derived.Test.Qxb6609104aMoreProof
import Derived.Test.Qxb6609104aStrs
namespace Go.Proofs.Qxb6609104a
open Go.ChangeShapes Go.WideShapes Go.ChangeAt Go.RowKit
open Go.ChangeMaps (open_string shut_string)

theorem Try.cells9 : Try.prog.cellsOf 9 = 1 := by kernel_rfl

set_option maxRecDepth 100000 in
/-- A []string argument, opened. -/
theorem open_inStrs {H : Type} {enc : TypeId × Value → H} {W : World} {v : Value} {d : DataW H} {p : List MemPlace} {base : Nat} (hv : Value.okWide Try.prog W .any base 24 v) (h : DataW.Trod enc Try.prog W 0 (fun _ => true) true 24 v d p) :
    ∃ (ao : Option Addr) (cap : Nat) (ss : List ByteArray), v = .slice ao ss.length cap ∧ InStrs W ao ss ∧ ss.length ≤ 9223372036854775807 ∧ (∀ x ∈ ss, x.size ≤ 9223372036854775807) := by
  obtain ⟨a0, len, cap, rfl⟩ := okWide_slice Try.underlying24 hv
  obtain ⟨fuel, hf⟩ := h
  rcases open_strings Try.underlying24 Try.underlying9 Try.cells9 hf with ⟨hcs, hx⟩ | ⟨a, len', cap', ss, hcs, _, hl, hm, hz, hx, hcell, hws⟩
  · simp [Value.cells] at hcs
    obtain ⟨rfl, rfl, rfl⟩ := hcs
    exact ⟨none, 0, [], rfl, .inl rfl, by simp, by simp⟩
  · simp [Value.cells] at hcs
    obtain ⟨rfl, rfl, rfl⟩ := hcs
    simp at hz
    have hlen : (ss.take len).length = len := by simp; omega
    unfold maxLen at hm hws
    refine ⟨some a, cap, ss.take len, by rw [hlen], ?_, by omega, fun x hx => hws x (List.mem_of_mem_take hx)⟩
    by_cases h0 : len = 0
    · subst h0; exact .inl (by simp)
    · have h1 := hcell 0 (by omega)
      have e0 : a.add 0 = a := rfl
      rw [e0] at h1
      obtain ⟨b, off, rfl, hb⟩ := cell_plain h1
      refine .inr ⟨b, off, rfl, hb, fun i hi => ?_⟩
      rw [hlen] at hi
      have h2 := hcell i (by omega)
      have e : (⟨b, off, none⟩ : Addr).add i = ⟨b, off + i, none⟩ := by simp [Addr.add]
      rw [e] at h2
      rw [h2, List.getD_eq_getElem?_getD, List.getD_eq_getElem?_getD, List.getElem?_take_of_lt hi]

end Go.Proofs.Qxb6609104a

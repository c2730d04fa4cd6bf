/-
  SEAT b6608975a: FnGivenReplaceSetsOneBitSaid, PROVED.
-/
import Derived.Test.Qxb6608975aRep
import Derived.Test.Qxb6608975aCarry
import Derived.ProofKit
namespace Go.Proofs.Qxb6608975a
open Go.ChangeShapes Go.WideShapes Go.ChangeAt Go.RowKit
open Go.ChangeMaps (open_string shut_string)

namespace Giv
theorem own : ownKnob Try.prog.godebug = none := by kernel_rfl
theorem laidOut : laidOutB Try.prog = true := by kernel_rfl
theorem cells9 : Try.prog.cellsOf 9 = 1 := by kernel_rfl
end Giv

theorem cell_plain {w : World} {a : Addr} {v : Value} (h : w.cell? a = some v) : ∃ b off, a = ⟨b, off, none⟩ ∧ b < w.heap.size := by
  obtain ⟨b, off, sp⟩ := a
  have hb : b < w.heap.size := by
    rcases Nat.lt_or_ge b w.heap.size with h' | h'
    · exact h'
    · simp [World.cell?, Array.getElem?_eq_none h'] at h
  have hs : sp = none := by simpa using World.cell?_spot h
  subst hs
  exact ⟨b, off, rfl, hb⟩

/-- A []string argument, opened. -/
theorem open_inStrs {H : Type} {enc : TypeId × Value → H} {W : World} {v : Value} {d : DataW H} {p : List MemPlace} {base : Nat} (hv : Value.okWide Try.prog W .any base 22 v) (h : DataW.Trod enc Try.prog W 0 (fun _ => true) true 22 v d p) :
    ∃ (ao : Option Addr) (cap : Nat) (ss : List ByteArray), v = .slice ao ss.length cap ∧ InStrs W ao ss ∧ ss.length ≤ 9223372036854775807 ∧ (∀ x ∈ ss, x.size ≤ 9223372036854775807) := by
  obtain ⟨a0, len, cap, rfl⟩ := okWide_slice Try.underlying22 hv
  obtain ⟨fuel, hf⟩ := h
  rcases open_strings Try.underlying22 Try.underlying9 Giv.cells9 hf with ⟨hcs, hx⟩ | ⟨a, len', cap', ss, hcs, _, hl, hm, hz, hx, hcell, hws⟩
  · simp [Value.cells] at hcs
    obtain ⟨rfl, rfl, rfl⟩ := hcs
    exact ⟨none, 0, [], rfl, .inl rfl, by simp, by simp⟩
  · simp [Value.cells] at hcs
    obtain ⟨rfl, rfl, rfl⟩ := hcs
    simp at hz
    have hlen : (ss.take len).length = len := by simp; omega
    unfold maxLen at hm hws
    refine ⟨some a, cap, ss.take len, by rw [hlen], ?_, by omega, fun x hx => hws x (List.mem_of_mem_take hx)⟩
    by_cases h0 : len = 0
    · subst h0; exact .inl (by simp)
    · have h1 := hcell 0 (by omega)
      have e0 : a.add 0 = a := rfl
      rw [e0] at h1
      obtain ⟨b, off, rfl, hb⟩ := cell_plain h1
      refine .inr ⟨b, off, rfl, hb, fun i hi => ?_⟩
      rw [hlen] at hi
      have h2 := hcell i (by omega)
      have e : (⟨b, off, none⟩ : Addr).add i = ⟨b, off + i, none⟩ := by simp [Addr.add]
      rw [e] at h2
      rw [h2, List.getD_eq_getElem?_getD, List.getD_eq_getElem?_getD, List.getElem?_take_of_lt hi]

set_option maxRecDepth 100000 in
theorem rep_lifted (os : Os) (started : os.Started) (H : Type) (enc : TypeId × Value → H) :
    ReturnsInHanded {} Try.checked os 4 .any (Rows.fnGivenReplaceSetsOneBitSpec.pre6 enc Try.prog Try.f4 Rows.fnGivenReplaceSetsOneBitRow.domain false) (Rows.fnGivenReplaceSetsOneBitSpec.post enc Try.prog Try.f4 false true false false) := by
  refine returnsInHanded_of_change (C := Try.checked) Giv.own started (by kernel_rfl) Try.func4
    (ChangeSpec.witness6 (enc := enc) (C := Try.checked) false ⟨#[], #[.slice none 0 0, .int .i64 0, .string ByteArray.empty], []⟩ 8 (by kernel_rfl) (by kernel_rfl) (by kernel_rfl) (by kernel_rfl)) ?_
  intro W base args ds gs before hval0 hW _ _
  have hval : ∀ (j : Nat) t v, Try.f4.params[j]? = some t → args[j]? = some v → Value.okWide Try.prog W .any base t v := hval0
  have hW' := hW
  obtain ⟨p, q, hA0, hV, rfl, _, _⟩ := hW
  have hA : DataW.TrodAll enc Try.prog W 0 (fun _ => true) true Try.f4.params.toList args.toList ds p := hA0
  rw [Try.params4] at hA hval
  obtain ⟨v0, v1, v2, d0, d1, d2, p0, p1, p2, rfl, rfl, rfl, h0, h1, h2⟩ := trodAll_three hA
  obtain ⟨rfl, rfl⟩ := trodVars_none hV
  clear hA0 hval0
  simp only [List.append_nil] at hW'
  obtain ⟨i, rfl, rfl, rfl, wi⟩ := open_int Try.underlying3 (hval 1 3 v1 rfl rfl) h1
  obtain ⟨s, rfl, rfl, rfl, hs⟩ := open_string Try.underlying9 (hval 2 9 v2 rfl rfl) h2
  obtain ⟨ao, cap, ss, rfl, hin, hlen, hss⟩ := open_inStrs (hval 0 22 v0 rfl rfl) h0
  refine (rep_walk ao cap i s ss W hlen hs hss hin).mono fun e W' ⟨he, hnx⟩ => ?_
  subst he
  have hlt : ∀ x ∈ p0 ++ ([] ++ []), x.block < W.heap.size := fun x hx => by simpa using hW'.lt x (by simpa using hx)
  have hargs := below_trodAll Giv.laidOut hnx (by kernel_rfl) hA (by simpa using hlt)
  simp only [List.append_nil] at hargs
  exact ⟨_, rfl, _, _, _, [], p0, [], hW', trodAll_mk1 (shut_bool Try.underlying4 true), hargs, rfl, hnx.frame _, fun h => by cases h⟩

theorem fnGivenReplaceSetsOneBit_holds : Rows.FnGivenReplaceSetsOneBitSaid :=
  OpenClaim.holds_of_wide 4 Try.f4 rfl rfl rfl rfl rfl rfl rfl ⟨rfl, rfl, rfl, rfl, rfl⟩ rfl rfl rfl rfl rfl (by kernel_rfl) Try.func4 (by kernel_rfl)
    (of_decide_eq_true (by kernel_rfl)) (by unfold Func.isWrapper; first | (rw [if_pos (by decide +kernel)]; kernel_rfl) | (rw [if_neg (by decide +kernel)]; exact ⟨rfl, rfl⟩))
    (fun os started H enc _ => rep_lifted os started H enc)

end Go.Proofs.Qxb6608975a

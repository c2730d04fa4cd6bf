/-
  SEAT b6609104a: FnCopiesOneKeyMoreSaid, PROVED.
-/
import Derived.Test.Qxb6609104aMore
import Derived.Test.Qxb6609104aOpen
namespace Go.Proofs.Qxb6609104a
open Go.ChangeShapes Go.WideShapes Go.ChangeAt Go.RowKit

theorem u64_of_wf {o : Int} (h : (Lit.int .u64 o).wf = true) : 0 ≤ o ∧ o < 18446744073709551616 := by
  simp [Lit.wf, IntKind.min, IntKind.max, IntKind.signed, IntKind.bits] at h
  omega

set_option maxRecDepth 100000 in
theorem more_lifted (os : Os) (started : os.Started) (H : Type) (enc : TypeId × Value → H) :
    ReturnsInHanded {} Try.checked os 6 .any (Rows.fnCopiesOneKeyMoreSpec.pre6 enc Try.prog Try.f6 Rows.fnCopiesOneKeyMoreRow.domain false) (Rows.fnCopiesOneKeyMoreSpec.post enc Try.prog Try.f6 false true false false) := by
  refine returnsInHanded_of_change (C := Try.checked) Try.own started (by kernel_rfl) Try.func6
    (ChangeSpec.witness6 (enc := enc) (C := Try.checked) false ⟨#[], #[.slice none 0 0, .int .i64 0, .int .i64 0, .int .u64 0], []⟩ 8 (by kernel_rfl) (by kernel_rfl) (by kernel_rfl) (by kernel_rfl)) ?_
  intro W base args ds gs before hval0 hW _ _
  have hval : ∀ (j : Nat) t v, Try.f6.params[j]? = some t → args[j]? = some v → Value.okWide Try.prog W .any base t v := hval0
  have hW' := hW
  obtain ⟨p, q, hA0, hV, rfl, _, _⟩ := hW
  have hA : DataW.TrodAll enc Try.prog W 0 (fun _ => true) true Try.f6.params.toList args.toList ds p := hA0
  rw [Try.params6] at hA hval
  obtain ⟨v0, v1, v2, v3, d0, d1, d2, d3, p0, p1, p2, p3, rfl, rfl, rfl, h0, h1, h2, h3⟩ := trodAll_four hA
  obtain ⟨rfl, rfl⟩ := trodVars_none hV
  clear hA0 hval0
  simp only [List.append_nil] at hW'
  obtain ⟨f, rfl, rfl, rfl, wf⟩ := open_int Try.underlying3 (hval 1 3 v1 rfl rfl) h1
  obtain ⟨c, rfl, rfl, rfl, wc⟩ := open_int Try.underlying3 (hval 2 3 v2 rfl rfl) h2
  obtain ⟨o, rfl, rfl, rfl, wo⟩ := open_int Try.underlying23 (hval 3 23 v3 rfl rfl) h3
  obtain ⟨ao, cap, hs, rfl, hin, hlen⟩ := open_ring (hval 0 22 v0 rfl rfl) h0
  refine (more_walk ao cap f c o hs W hlen (u64_of_wf wo).1 (u64_of_wf wo).2 hin).mono fun e W' ⟨he, hnx⟩ => ?_
  subst he
  have hlt : ∀ x ∈ p0, x.block < W.heap.size := fun x hx => by simpa using hW'.lt x (by simpa using hx)
  have hargs := below_trodAll Try.laidOut hnx (by kernel_rfl) hA (by simpa using hlt)
  simp only [List.append_nil] at hargs
  exact ⟨_, rfl, _, _, _, [], p0, [], hW', trodAll_mk1 (shut_bool Try.underlying4 true), hargs, rfl, hnx.frame _, fun h => by cases h⟩

theorem fnCopiesOneKeyMore_holds : Rows.FnCopiesOneKeyMoreSaid :=
  OpenClaim.holds_of_wide 6 Try.f6 rfl rfl rfl rfl rfl rfl rfl ⟨rfl, rfl, rfl, rfl, rfl⟩ rfl rfl rfl rfl rfl (by kernel_rfl) Try.func6 (by kernel_rfl)
    (of_decide_eq_true (by kernel_rfl)) (by unfold Func.isWrapper; first | (rw [if_pos (by decide +kernel)]; kernel_rfl) | (rw [if_neg (by decide +kernel)]; exact ⟨rfl, rfl⟩))
    (fun os started H enc _ => more_lifted os started H enc)

end Go.Proofs.Qxb6609104a

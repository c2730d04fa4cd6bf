/-
  SEAT b6608975a: FnMeetSingleValueBothWaysSaid, PROVED.
-/
import Derived.Test.Qxb6608975aSymProof
import Derived.Test.Qxb6608975aOne
import Derived.Test.Qxb6608975aCarry
namespace Go.Proofs.Qxb6608975a
open Go.ChangeShapes Go.WideShapes Go.ChangeAt Go.RowKit Go.Maps Go.WideMaps Go.WideElems
open Go.ChangeMaps (open_string shut_string)

set_option maxRecDepth 100000 in
theorem one_lifted (os : Os) (started : os.Started) (H : Type) (enc : TypeId × Value → H) :
    ReturnsInHanded {} Try.checked os 5 .any (Rows.fnMeetSingleValueBothWaysSpec.pre6 enc Try.prog Try.f5 Rows.fnMeetSingleValueBothWaysRow.domain false) (Rows.fnMeetSingleValueBothWaysSpec.post enc Try.prog Try.f5 false true false false) := by
  refine returnsInHanded_of_change (C := Try.checked) Try.own started (by kernel_rfl) Try.func5
    (ChangeSpec.witness6 (enc := enc) (C := Try.checked) false ⟨#[], #[.string ByteArray.empty, .map none, .string ByteArray.empty, .string ByteArray.empty, .string ByteArray.empty], []⟩ 8 (by kernel_rfl) (by kernel_rfl) (by kernel_rfl) (by kernel_rfl)) ?_
  intro W base args ds gs before hval0 hW _ _
  have hval : ∀ (j : Nat) t v, Try.f5.params[j]? = some t → args[j]? = some v → Value.okWide Try.prog W .any base t v := hval0
  have hW' := hW
  obtain ⟨p, q, hA0, hV, rfl, _, _⟩ := hW
  have hA : DataW.TrodAll enc Try.prog W 0 (fun _ => true) true Try.f5.params.toList args.toList ds p := hA0
  rw [Try.params5] at hA hval
  obtain ⟨v0, vs0, d0, ds0, p0, q0, hargs, rfl, rfl, h0, r0⟩ := trodAll_cons hA
  obtain ⟨v1, vs1, d1, ds1, p1, q1, rfl, rfl, rfl, h1, r1⟩ := trodAll_cons r0
  obtain ⟨v2, vs2, d2, ds2, p2, q2, rfl, rfl, rfl, h2, r2⟩ := trodAll_cons r1
  obtain ⟨v3, vs3, d3, ds3, p3, q3, rfl, rfl, rfl, h3, r3⟩ := trodAll_cons r2
  obtain ⟨v4, vs4, d4, ds4, p4, q4, rfl, rfl, rfl, h4, r4⟩ := trodAll_cons r3
  obtain ⟨rfl, rfl, rfl⟩ := trodAll_nil r4
  obtain rfl : args = #[v0, v1, v2, v3, v4] := by cases args; simp_all
  obtain ⟨rfl, rfl⟩ := trodVars_none hV
  obtain ⟨ta, rfl, rfl, rfl, hta⟩ := open_string Try.underlying9 (hval 0 9 v0 rfl rfl) h0
  obtain ⟨tb, rfl, rfl, rfl, htb⟩ := open_string Try.underlying9 (hval 2 9 v2 rfl rfl) h2
  obtain ⟨k, rfl, rfl, rfl, hk⟩ := open_string Try.underlying9 (hval 3 9 v3 rfl rfl) h3
  obtain ⟨v, rfl, rfl, rfl, hv⟩ := open_string Try.underlying9 (hval 4 9 v4 rfl rfl) h4
  obtain ⟨oa, A, rfl, hMa⟩ := open_mapIs (hval 1 28 v1 rfl rfl) h1
  clear hA0 hval0
  simp only [List.append_nil] at hW'
  refine (one_walk ta tb k v oa A W hMa hta htb hk hv).mono fun e W' ⟨he, hnx⟩ => ?_
  subst he
  have hlt : ∀ x ∈ ([] ++ (p1 ++ ([] ++ ([] ++ ([] ++ []))))), x.block < W.heap.size := fun x hx => by simpa using hW'.lt x (by simpa using hx)
  have hargs := below_trodAll Try.laidOut hnx (by kernel_rfl) hA hlt
  simp only [List.append_nil, List.nil_append] at hargs
  exact ⟨_, rfl, _, _, _, [], p1, [], hW', trodAll_mk1 (shut_bool Try.underlying4 true), hargs, rfl, hnx.frame _, fun h => by cases h⟩

theorem fnMeetSingleValueBothWays_holds : Rows.FnMeetSingleValueBothWaysSaid :=
  OpenClaim.holds_of_wide 5 Try.f5 rfl rfl rfl rfl rfl rfl rfl ⟨rfl, rfl, rfl, rfl, rfl⟩ rfl rfl rfl rfl rfl (by kernel_rfl) Try.func5 (by kernel_rfl)
    (of_decide_eq_true (by kernel_rfl)) (by unfold Func.isWrapper; first | (rw [if_pos (by decide +kernel)]; kernel_rfl) | (rw [if_neg (by decide +kernel)]; exact ⟨rfl, rfl⟩))
    (fun os started H enc _ => one_lifted os started H enc)

end Go.Proofs.Qxb6608975a

/-
  SEAT b6609104a: FnSettleEndsThePostAndLeavesCopiesSaid, PROVED.
-/
import Derived.Test.Qxb6609104aEnds
import Derived.Test.Qxb6609104aOpenStrs
namespace Go.Proofs.Qxb6609104a
open Go.ChangeShapes Go.WideShapes Go.ChangeAt Go.RowKit
open Go.ChangeMaps (open_string shut_string)

set_option maxRecDepth 100000 in
theorem ends_lifted (os : Os) (started : os.Started) (H : Type) (enc : TypeId × Value → H) :
    ReturnsInHanded {} Try.checked os 3 .any (Rows.fnSettleEndsThePostAndLeavesCopiesSpec.pre6 enc Try.prog Try.f3 Rows.fnSettleEndsThePostAndLeavesCopiesRow.domain false) (Rows.fnSettleEndsThePostAndLeavesCopiesSpec.post enc Try.prog Try.f3 false true false false) := by
  refine returnsInHanded_of_change (C := Try.checked) Try.own started (by kernel_rfl) Try.func3
    (ChangeSpec.witness6 (enc := enc) (C := Try.checked) false ⟨#[], #[.slice none 0 0, .int .i64 0, .int .i64 0, .int .u64 0, .slice none 0 0, .string ByteArray.empty, .int .u64 0, .bool false], []⟩ 8 (by kernel_rfl) (by kernel_rfl) (by kernel_rfl) (by kernel_rfl)) ?_
  intro W base args ds gs before hval0 hW _ _
  have hval : ∀ (j : Nat) t v, Try.f3.params[j]? = some t → args[j]? = some v → Value.okWide Try.prog W .any base t v := hval0
  have hW' := hW
  obtain ⟨p, q, hA0, hV, rfl, _, _⟩ := hW
  have hA : DataW.TrodAll enc Try.prog W 0 (fun _ => true) true Try.f3.params.toList args.toList ds p := hA0
  rw [Try.params3] at hA hval
  obtain ⟨v0, vs0, d0, ds0, p0, q0, hargs, rfl, rfl, h0, r0⟩ := trodAll_cons hA
  obtain ⟨v1, vs1, d1, ds1, p1, q1, rfl, rfl, rfl, h1, r1⟩ := trodAll_cons r0
  obtain ⟨v2, vs2, d2, ds2, p2, q2, rfl, rfl, rfl, h2, r2⟩ := trodAll_cons r1
  obtain ⟨v3, vs3, d3, ds3, p3, q3, rfl, rfl, rfl, h3, r3⟩ := trodAll_cons r2
  obtain ⟨v4, vs4, d4, ds4, p4, q4, rfl, rfl, rfl, h4, r4⟩ := trodAll_cons r3
  obtain ⟨v5, vs5, d5, ds5, p5, q5, rfl, rfl, rfl, h5, r5⟩ := trodAll_cons r4
  obtain ⟨v6, vs6, d6, ds6, p6, q6, rfl, rfl, rfl, h6, r6⟩ := trodAll_cons r5
  obtain ⟨v7, vs7, d7, ds7, p7, q7, rfl, rfl, rfl, h7, r7⟩ := trodAll_cons r6
  obtain ⟨rfl, rfl, rfl⟩ := trodAll_nil r7
  obtain rfl : args = #[v0, v1, v2, v3, v4, v5, v6, v7] := by cases args; simp_all
  obtain ⟨rfl, rfl⟩ := trodVars_none hV
  clear hA0 hval0
  simp only [List.append_nil] at hW'
  obtain ⟨f, rfl, rfl, rfl, wf⟩ := open_int Try.underlying3 (hval 1 3 v1 rfl rfl) h1
  obtain ⟨c, rfl, rfl, rfl, wc⟩ := open_int Try.underlying3 (hval 2 3 v2 rfl rfl) h2
  obtain ⟨o, rfl, rfl, rfl, wo⟩ := open_int Try.underlying23 (hval 3 23 v3 rfl rfl) h3
  obtain ⟨k1, rfl, rfl, rfl, wk1⟩ := open_string Try.underlying9 (hval 5 9 v5 rfl rfl) h5
  obtain ⟨n1, rfl, rfl, rfl, wn1⟩ := open_int Try.underlying23 (hval 6 23 v6 rfl rfl) h6
  obtain ⟨a1, rfl, rfl, rfl⟩ := open_bool Try.underlying4 (hval 7 4 v7 rfl rfl) h7
  obtain ⟨ao, cap, hs, rfl, hin, hlen⟩ := open_ring (hval 0 22 v0 rfl rfl) h0
  obtain ⟨az, caps, ss, rfl, hstr, hslen, hss⟩ := open_inStrs (hval 4 24 v4 rfl rfl) h4
  refine (ends_walk ao cap f c o hs az caps ss k1 n1 a1 W hlen hslen hss wk1 (u64_of_wf wo).1 (u64_of_wf wo).2 (u64_of_wf wn1).1 (u64_of_wf wn1).2 hin hstr).mono fun e W' ⟨he, hnx⟩ => ?_
  subst he
  have hlt : ∀ x ∈ (p0 ++ ([] ++ ([] ++ ([] ++ (p4 ++ ([] ++ ([] ++ ([] ++ [])))))))), x.block < W.heap.size := fun x hx => by simpa using hW'.lt x (by simpa using hx)
  have hargs := below_trodAll Try.laidOut hnx (by kernel_rfl) hA hlt
  simp only [List.append_nil, List.nil_append] at hargs hW'
  exact ⟨_, rfl, _, _, _, [], p0 ++ p4, [], hW', trodAll_mk1 (shut_bool Try.underlying4 true), hargs, rfl, hnx.frame _, fun h => by cases h⟩

theorem fnSettleEndsThePostAndLeavesCopies_holds : Rows.FnSettleEndsThePostAndLeavesCopiesSaid :=
  OpenClaim.holds_of_wide 3 Try.f3 rfl rfl rfl rfl rfl rfl rfl ⟨rfl, rfl, rfl, rfl, rfl⟩ rfl rfl rfl rfl rfl (by kernel_rfl) Try.func3 (by kernel_rfl)
    (of_decide_eq_true (by kernel_rfl)) (by unfold Func.isWrapper; first | (rw [if_pos (by decide +kernel)]; kernel_rfl) | (rw [if_neg (by decide +kernel)]; exact ⟨rfl, rfl⟩))
    (fun os started H enc _ => ends_lifted os started H enc)

end Go.Proofs.Qxb6609104a

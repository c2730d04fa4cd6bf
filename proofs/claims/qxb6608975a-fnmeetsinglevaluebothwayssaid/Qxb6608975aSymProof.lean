/-
  SEAT b6608975a: FnMeetReflexiveSymmetricSaid, PROVED.
-/
import Derived.Test.Qxb6608975aSym
import Derived.ProofKit
namespace Go.Proofs.Qxb6608975a
open Go.ChangeShapes Go.WideShapes Go.ChangeAt Go.RowKit Go.Maps Go.WideMaps Go.WideElems
open Go.ChangeMaps (open_string shut_string)

theorem Try.own : ownKnob Try.prog.godebug = none := by kernel_rfl
theorem Try.laidOut : laidOutB Try.prog = true := by kernel_rfl

/-- A map argument, opened. -/
theorem open_mapIs {H : Type} {enc : TypeId × Value → H} {W : World} {v : Value} {d : DataW H} {p : List MemPlace} {base : Nat} (hv : Value.okWide Try.prog W .any base 28 v) (h : DataW.Trod enc Try.prog W 0 (fun _ => true) true 28 v d p) :
    ∃ (oa : Option Nat) (A : DataW H), v = .map oa ∧ MapIs W (.map oa) A := by
  obtain ⟨a0, rfl⟩ := okWide_map Try.underlying28 hv
  obtain ⟨fuel, hf⟩ := h
  rcases open_map Try.underlying28 hf with ⟨hcs, hx⟩ | ⟨bm, es, clock, m, rfl, hcs, hb, _, F, hx⟩
  · simp [Value.cells] at hcs
    subst hcs
    exact ⟨none, .map [], rfl, .inl ⟨rfl, rfl⟩⟩
  · simp [Value.cells] at hcs
    subst hcs
    have hown := World.ownsMap_of_fit (R := plainElem Try.prog 9) hb F (fun x _ z hz => elemAt_plainElem_string Try.underlying9 hz)
    exact ⟨some bm, _, rfl, .inr ⟨bm, _, rfl, hown⟩⟩

set_option maxRecDepth 100000 in
theorem sym_lifted (os : Os) (started : os.Started) (H : Type) (enc : TypeId × Value → H) :
    ReturnsInHanded {} Try.checked os 6 .any (Rows.fnMeetReflexiveSymmetricSpec.pre6 enc Try.prog Try.f6 Rows.fnMeetReflexiveSymmetricRow.domain false) (Rows.fnMeetReflexiveSymmetricSpec.post enc Try.prog Try.f6 false true false false) := by
  refine returnsInHanded_of_change (C := Try.checked) Try.own started (by kernel_rfl) Try.func6
    (ChangeSpec.witness6 (enc := enc) (C := Try.checked) false ⟨#[], #[.string ByteArray.empty, .map none, .string ByteArray.empty, .map none], []⟩ 8 (by kernel_rfl) (by kernel_rfl) (by kernel_rfl) (by kernel_rfl)) ?_
  intro W base args ds gs before hval0 hW _ _
  have hval : ∀ (j : Nat) t v, Try.f6.params[j]? = some t → args[j]? = some v → Value.okWide Try.prog W .any base t v := hval0
  have hW' := hW
  obtain ⟨p, q, hA0, hV, rfl, _, _⟩ := hW
  have hA : DataW.TrodAll enc Try.prog W 0 (fun _ => true) true Try.f6.params.toList args.toList ds p := hA0
  rw [Try.params6] at hA hval
  obtain ⟨v0, v1, v2, v3, d0, d1, d2, d3, p0, p1, p2, p3, rfl, rfl, rfl, h0, h1, h2, h3⟩ := trodAll_four hA
  obtain ⟨rfl, rfl⟩ := trodVars_none hV
  clear hA0 hval0
  simp only [List.append_nil] at hW'
  obtain ⟨ta, rfl, rfl, rfl, hta⟩ := open_string Try.underlying9 (hval 0 9 v0 rfl rfl) h0
  obtain ⟨tb, rfl, rfl, rfl, htb⟩ := open_string Try.underlying9 (hval 2 9 v2 rfl rfl) h2
  obtain ⟨oa, A, rfl, hMa⟩ := open_mapIs (hval 1 28 v1 rfl rfl) h1
  obtain ⟨ob, B, rfl, hMb⟩ := open_mapIs (hval 3 28 v3 rfl rfl) h3
  have hlt1 : ∀ x ∈ p1, x.block < W.heap.size := fun x hx => by simpa using hW'.lt x (by simp [hx])
  have hlt3 : ∀ x ∈ p3, x.block < W.heap.size := fun x hx => by simpa using hW'.lt x (by simp [hx])
  refine (sym_walk ta tb oa ob A B W hMa hMb hta htb).mono fun e W' ⟨he, hnx⟩ => ?_
  subst he
  exact ⟨_, rfl, _, _, _, [], _, [], hW', trodAll_mk1 (shut_bool Try.underlying4 true),
    trodAll_mk4 (shut_string Try.underlying9 hta) (Below.trod Try.laidOut (by kernel_rfl) (of_decide_eq_true (by kernel_rfl)) h1 hnx hlt1) (shut_string Try.underlying9 htb) (Below.trod Try.laidOut (by kernel_rfl) (of_decide_eq_true (by kernel_rfl)) h3 hnx hlt3),
    rfl, hnx.frame _, fun h => by cases h⟩

theorem fnMeetReflexiveSymmetric_holds : Rows.FnMeetReflexiveSymmetricSaid :=
  OpenClaim.holds_of_wide 6 Try.f6 rfl rfl rfl rfl rfl rfl rfl ⟨rfl, rfl, rfl, rfl, rfl⟩ rfl rfl rfl rfl rfl (by kernel_rfl) Try.func6 (by kernel_rfl)
    (of_decide_eq_true (by kernel_rfl)) (by unfold Func.isWrapper; first | (rw [if_pos (by decide +kernel)]; kernel_rfl) | (rw [if_neg (by decide +kernel)]; exact ⟨rfl, rfl⟩))
    (fun os started H enc _ => sym_lifted os started H enc)

end Go.Proofs.Qxb6608975a

/-
  SEAT b6608975a: the walk of FnMeetReflexiveSymmetric.
-/
import Derived.Test.Qxb6608975aMeetWalk
namespace Go.Proofs.Qxb6608975a
open Go.RowKit Go.Maps Go.WideMaps
variable {H : Type}

theorem meet_any (ta tb : ByteArray) (va vb : Value) (A B : DataW H) (bo : Bool) (w : World) (hA : MapIs w va A) (hB : MapIs w vb B) (hbo : bo = true ↔ (ta.toList == tb.toList) = true ∧ MeetP A B) :
    Calls Try.prog 13 #[.agg #[.string ta, va], .agg #[.string tb, vb]] w fun e w' => e = .returned (.bool bo) ∧ Below w.heap.size w w' := by
  cases he : (ta.toList == tb.toList)
  · have : bo = false := by
      cases bo
      · rfl
      · have := (hbo.1 rfl).1; rw [he] at this; cases this
    subst this
    exact meet_other ta tb va vb w he
  · rcases hA with ⟨rfl, rfl⟩ | ⟨b, n, rfl, ho⟩
    · have : bo = true := hbo.2 ⟨he, (MeetP.nil B).symm⟩
      subst this
      exact meet_nil ta tb vb w he
    · refine (meet_some ta tb b n vb A B w he ho hB).mono ?_
      rintro e w' ⟨⟨b2, rfl, h2⟩, hb⟩
      have : b2 = bo := by
        rw [Bool.eq_iff_iff, h2, hbo, he]; simp
      subst this
      exact ⟨rfl, hb⟩

set_option maxHeartbeats 400000 in
theorem zzmeet_any (ta tb : ByteArray) (oa ob : Option Nat) (A B : DataW H) (bo : Bool) (w : World) (hA : MapIs w (.map oa) A) (hB : MapIs w (.map ob) B) (hbo : bo = true ↔ (ta.toList == tb.toList) = true ∧ MeetP A B) :
    Calls Try.prog 11 #[.string ta, .map oa, .string tb, .map ob] w fun e w' => e = .returned (.bool bo) ∧ Below w.heap.size w w' := by
  have c := meet_any ta tb (.map oa) (.map ob) A B bo w hA hB hbo
  have C : Hid (Calls Try.prog 13 #[.agg #[.string ta, .map oa], .agg #[.string tb, .map ob]] w fun e w' => e = .returned (.bool bo) ∧ Below w.heap.size w w') := c
  clear c hA hB hbo
  go_enter Try.func11, Try.ntmps11
  go_wp2_with (go_at_call 13; refine C.out.mono ?_; rintro e w' ⟨rfl, hb⟩)
  go_ret
  exact ⟨rfl, hb⟩

theorem len_any {w : World} {v : Value} {D : DataW H} (h : MapIs w v D) (ty : TypeId) : (Builtin.len_ #[28] ty #[v]).run Try.prog w = .ok (.int .i64 (Maps.size D)) w := by
  rcases h with ⟨rfl, rfl⟩ | ⟨b, n, rfl, ho⟩
  · exact Maps.len_nil Try.underlying28 ty
  · exact ho.len Try.underlying28 ty

theorem refl_iff (t : ByteArray) (A : DataW H) : true = true ↔ (t.toList == t.toList) = true ∧ MeetP A A := by simp [MeetP.refl]

set_option maxHeartbeats 1000000 in
theorem sym_walk (ta tb : ByteArray) (oa ob : Option Nat) (A B : DataW H) (w : World) (hA : MapIs w (.map oa) A) (hB : MapIs w (.map ob) B) (hta : ta.size ≤ maxLen) (htb : tb.size ≤ maxLen) :
    Calls Try.prog 6 #[.string ta, .map oa, .string tb, .map ob] w fun e w' => e = .returned (.bool true) ∧ Below w.heap.size w w' := by
  obtain ⟨bo, h1⟩ : ∃ bo : Bool, bo = true ↔ (ta.toList == tb.toList) = true ∧ MeetP A B := by
    classical exact ⟨decide ((ta.toList == tb.toList) = true ∧ MeetP A B), by simp⟩
  have h2 : bo = true ↔ (tb.toList == ta.toList) = true ∧ MeetP B A := by
    rw [h1, beq_iff_eq, beq_iff_eq]
    exact ⟨fun h => ⟨h.1.symm, h.2.symm⟩, fun h => ⟨h.1.symm, h.2.symm⟩⟩
  have h5 : (ta.toList == tb.toList) = true ↔ (ta.toList == tb.toList) = true ∧ MeetP A (.map []) := by simp [MeetP.nil]
  have H1 : Hid (bo = true ↔ (ta.toList == tb.toList) = true ∧ MeetP A B) := h1
  have H2 : Hid (bo = true ↔ (tb.toList == ta.toList) = true ∧ MeetP B A) := h2
  have H5 : Hid ((ta.toList == tb.toList) = true ↔ (ta.toList == tb.toList) = true ∧ MeetP A (.map [])) := h5
  clear h1 h2 h5
  have hla := fun ty => len_any hA ty
  have hlb := fun ty => len_any hB ty
  unfold maxLen at hta htb
  go_enter Try.func6, Try.ntmps6
  go_wp2_with fail
  all_goals first
    | (go_ret; exact ⟨rfl, Below.refl _ _⟩)
    | skip
  clear hla hlb
  refine (zzmeet_any ta tb oa ob A B bo _ hA hB H1.out).mono ?_
  rintro e w1 ⟨rfl, hb1⟩
  go_wp2_with fail
  refine (zzmeet_any tb ta ob oa B A bo _ (hB.below hb1) (hA.below hb1) H2.out).mono ?_
  rintro e w2 ⟨rfl, hb2⟩
  have hb12 : Below w.heap.size w w2 := hb1.trans (hb2.mono hb1.size)
  clear hb1 hb2
  go_wp2_with fail
  refine (zzmeet_any ta ta oa oa A A true _ (hA.below hb12) (hA.below hb12) (refl_iff ta A)).mono ?_
  rintro e w3 ⟨rfl, hb3⟩
  have hb13 : Below w.heap.size w w3 := hb12.trans (hb3.mono hb12.size)
  clear hb12 hb3
  go_wp2_with fail
  refine (zzmeet_any tb tb ob ob B B true _ (hB.below hb13) (hB.below hb13) (refl_iff tb B)).mono ?_
  rintro e w4 ⟨rfl, hb4⟩
  have hb14 : Below w.heap.size w w4 := hb13.trans (hb4.mono hb13.size)
  clear hb13 hb4
  go_wp2_with fail
  refine (zzmeet_any ta tb oa none A (.map []) (ta.toList == tb.toList) _ (hA.below hb14) (.inl ⟨rfl, rfl⟩) H5.out).mono ?_
  rintro e w5 ⟨rfl, hb5⟩
  have hb15 : Below w.heap.size w w5 := hb14.trans (hb5.mono hb14.size)
  clear hb14 hb5
  go_wp2
  go_ret
  exact ⟨by simp, hb15⟩

end Go.Proofs.Qxb6608975a

/-
  SEAT b6608975a: the walk of FnMeetSingleValueBothWays.
-/
import Derived.Test.Qxb6608975aSym
namespace Go.Proofs.Qxb6608975a
open Go.RowKit Go.Maps Go.WideMaps
variable {H : Type}

/-- The composite literal's store: as 'm[k] = v'. -/
theorem wpList_insert_own {w : World} {ops : Array Oper} {rest : List Oper} {o : Oper} {a : Act} {Q : Exit → Act → World → Prop}
    (hg : o.guard = none) (m x v : Operand) (hop : o.op = Op.insert 28 m x v) (b n : Nat) (D : DataW H)
    (hm : a.eval m = .map (some b)) (hown : w.ownsMap Try.prog 9 (plainElem Try.prog 9) b n D) (hn : n < maxLen) (ks vs : ByteArray) (hx : a.eval x = .string ks) (hv : a.eval v = .string vs) (hks : ks.size ≤ maxLen) (hvs : vs.size ≤ maxLen)
    (hK : ∀ w', w'.ownsMap Try.prog 9 (plainElem Try.prog 9) b (n + 1) (D.put (.string ks.data.toList) (.lit (.string vs.data.toList))) → w.grownBy w' (some b) → wpList Try.prog ops Q rest (a.put o.dst undef) w') :
    wpList Try.prog ops Q (o :: rest) a w := by
  refine wpList_plain hg fun K' hK' => ?_
  obtain ⟨w', hrun, r1, r2⟩ := hown.update mlaw Try.underlying28 hn (keyOf_string_mk Try.underlying9 hks) (plainElem_string Try.underlying9 hvs)
  unfold Oper.wp
  simp [execOp, hop, hm, hx, hv, hrun, Result.andThen]
  exact hK' _ _ (hK w' r1 r2)

def single (k v : ByteArray) : DataW H := (DataW.map []).put (.string k.data.toList) (.lit (.string v.data.toList))

theorem meet_single (A : DataW H) (k v c : ByteArray) (hat : A.atKey (.string k.data.toList) zd = .lit (.string c.data.toList)) :
    MeetP A (single k v) ↔ (Maps.has A (.string k.data.toList) = true → (c.toList == v.toList) = true) := by
  have hS : (single k v : DataW H).atKey (.string k.data.toList) zd = .lit (.string v.data.toList) := atKey_put_same (k := .string k.data.toList) isMap_empty trivial _ _
  have hH : Maps.has (single k v : DataW H) (.string k.data.toList) = true := has_put_same (k := .string k.data.toList) isMap_empty trivial _
  rw [Lib.toList_data, Lib.toList_data, beq_iff_eq]
  constructor
  · intro h h1
    have := h _ h1 hH
    rw [hat, hS] at this
    injection this with this
    injection this with this
  · intro h kl h1 h2
    by_cases hk : kl = .string k.data.toList
    · subst hk
      rw [hat, hS, h h1]
    · have : Maps.has (single k v : DataW H) kl = Maps.has (DataW.map [] : DataW H) kl := has_put_other hk _
      rw [this] at h2
      simp [Maps.has] at h2

/-- What meet answers, kept from the walk's rewriting. -/
def MeetsAs (bo : Bool) (ta tb : ByteArray) (A B : DataW H) : Prop := bo = true ↔ (ta.toList == tb.toList) = true ∧ MeetP A B

set_option maxHeartbeats 1000000 in
theorem one_walk (ta tb k v : ByteArray) (oa : Option Nat) (A : DataW H) (w : World) (hA : MapIs w (.map oa) A) (hta : ta.size ≤ maxLen) (htb : tb.size ≤ maxLen) (hk : k.size ≤ maxLen) (hv : v.size ≤ maxLen) :
    Calls Try.prog 5 #[.string ta, .map oa, .string tb, .string k, .string v] w fun e w' => e = .returned (.bool true) ∧ Below w.heap.size w w' := by
  have hla := fun ty => len_any hA ty
  have hmm := @run_makeMap Try.prog
  have hk' := hk
  have hv' := hv
  unfold maxLen at hta htb hk' hv'
  go_enter Try.func5, Try.ntmps5
  go_wp2_with (refine wpList_insert_own (H := H) rfl _ _ _ rfl w.heap.size 0 _ rfl (World.ownsMap_made _ _ _ _) (by unfold maxLen; omega) _ _ rfl rfl hk hv ?_)
  all_goals first
    | (go_ret; exact ⟨rfl, Below.refl _ _⟩)
    | skip
  intro w1 hown1 hg1
  have hS1 : MapIs w1 (.map (some w.heap.size)) (single k v : DataW H) := .inr ⟨_, _, rfl, hown1⟩
  have hA1 : MapIs w1 (.map oa) A := (hA.alloc _).grown hg1 (fun b hb e => by
    rcases hA with ⟨h, _⟩ | ⟨b2, n2, h, ho⟩
    · rw [h] at hb; cases hb
    · rw [h] at hb; cases hb; have := ho.lt; have := Option.some.inj e; omega)
  have hb1 : Below w.heap.size w w1 := ((Below.refl _ _).alloc (Nat.le_refl _) _).grown hg1 (by simp) (fun j hj => by cases hj; omega)
  clear hown1 hg1 hla hmm hA hta htb hk' hv'
  go_wp2_with (first
    | (at_lookup; refine wpList_look_any rfl _ _ rfl _ A rfl hA1 _ rfl hk ?_)
    | fail)
  intro c hc hat
  have hms := meet_single A k v c hat
  have HMS : Hid (MeetP A (single k v) ↔ (Maps.has A (.string k.data.toList) = true → (c.toList == v.toList) = true)) := hms
  clear hms hat
  generalize hbo : ((ta.toList == tb.toList) && (!(Maps.has A (.string k.data.toList)) || (c.toList == v.toList))) = bo
  have h1 : bo = true ↔ (ta.toList == tb.toList) = true ∧ MeetP A (single k v) := by
    rw [← hbo, HMS.out]
    cases Maps.has A (.string k.data.toList) <;> cases (c.toList == v.toList) <;> cases (ta.toList == tb.toList) <;> simp
  have h2 : bo = true ↔ (tb.toList == ta.toList) = true ∧ MeetP (single k v) A := by
    rw [h1, beq_iff_eq, beq_iff_eq]
    exact ⟨fun h => ⟨h.1.symm, h.2.symm⟩, fun h => ⟨h.1.symm, h.2.symm⟩⟩
  have H1 : MeetsAs bo ta tb A (single k v) := h1
  have H2 : MeetsAs bo tb ta (single k v) A := h2
  have HBO : Hid (((ta.toList == tb.toList) && (!(Maps.has A (.string k.data.toList)) || (c.toList == v.toList))) = bo) := hbo
  clear h1 h2 hbo
  cases hte : (ta.toList == tb.toList) <;> cases hok : Maps.has A (.string k.data.toList) <;> cases hcv : (c.toList == v.toList)
  all_goals
    have hbo := HBO.out
    clear HBO
    rw [hte, hok, hcv] at hbo
    cases bo
    all_goals first
      | (simp at hbo; done)
      | skip
    clear hbo
    go_wp2_with fail
    refine (zzmeet_any ta tb oa (some w.heap.size) A (single k v) _ _ hA1 hS1 H1).mono ?_
    rintro e w2 ⟨rfl, hb2⟩
    go_wp2_with fail
    refine (zzmeet_any tb ta (some w.heap.size) oa (single k v) A _ _ (hS1.below hb2) (hA1.below hb2) H2).mono ?_
    rintro e w3 ⟨rfl, hb3⟩
    have hb12 : Below w.heap.size w w2 := hb1.trans (hb2.mono hb1.size)
    have hb13 : Below w.heap.size w w3 := hb12.trans (hb3.mono hb12.size)
    clear hb1 hb2 hb3 hb12
    go_wp2
    go_ret
    exact ⟨rfl, hb13⟩

end Go.Proofs.Qxb6608975a

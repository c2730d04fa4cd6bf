/-
  SEAT b6608975a: the walk of rows.meet.
-/
import Derived.Test.Qxb6608975aMeet
import Derived.Lib.Strings
namespace Go.Proofs.Qxb6608975a
open Go.RowKit Go.Maps Go.WideMaps
variable {H : Type}

set_option maxHeartbeats 400000 in
theorem meet_other (ta tb : ByteArray) (va vb : Value) (w : World) (hne : (ta.toList == tb.toList) = false) :
    Calls Try.prog 13 #[.agg #[.string ta, va], .agg #[.string tb, vb]] w fun e w' => e = .returned (.bool false) ∧ Below w.heap.size w w' := by
  go_enter Try.func13, Try.ntmps13
  go_wp2
  go_ret
  exact ⟨rfl, ((Below.refl _ _).alloc (Nat.le_refl _) _).alloc (by simp) _⟩

set_option maxHeartbeats 400000 in
theorem meet_nil (ta tb : ByteArray) (vb : Value) (w : World) (he : (ta.toList == tb.toList) = true) :
    Calls Try.prog 13 #[.agg #[.string ta, .map none], .agg #[.string tb, vb]] w fun e w' => e = .returned (.bool true) ∧ Below w.heap.size w w' := by
  have e1 : ∀ o1 o2 : Obj, ((w.alloc o1).alloc o2).heap.size = w.heap.size + 1 + 1 := fun o1 o2 => by simp
  have hrg := fun o1 o2 => run_range_nilMap (P := Try.prog) ((w.alloc o1).alloc o2) 28 9 9 Try.underlying28
  have hnx : ∀ (o1 o2 : Obj) ty, (Instr.next (.pointer (some ⟨((w.alloc o1).alloc o2).heap.size, 0, none⟩)) false ty).run Try.prog (((w.alloc o1).alloc o2).alloc (.mapIter none 0 #[] 0)) = _ := fun o1 o2 ty => run_next_nilMap _ ty 0 0 #[]
  simp only [e1] at hrg hnx
  go_enter Try.func13, Try.ntmps13
  go_wp2
  refine wp_loop_rounds 1 ?_
  rw [rounds_succ]
  go_wp2
  go_ret
  exact ⟨rfl, (((Below.refl _ _).alloc (Nat.le_refl _) _).alloc (by simp) _).alloc (by simp; omega) _⟩

/-- What the loop has seen so far agrees. -/
def SoFar (A B : DataW H) (left : Lit → Bool) : Prop := ∀ kl, Maps.has A kl = true → left kl = false → Maps.has B kl = true → A.atKey kl zd = B.atKey kl zd

theorem sofar_step {A B : DataW H} {left : Lit → Bool} {k : Lit} (h : SoFar A B left) (hk : Maps.has B k = true → A.atKey k zd = B.atKey k zd) : SoFar A B (fun z => left z && !z.sameKey k) := by
  intro kl h1 h2 h3
  simp only [Bool.and_eq_false_iff, Bool.not_eq_false'] at h2
  rcases h2 with h2 | h2
  · exact h kl h1 h2 h3
  · have e := WideAt.sameKey_eq h2
    subst e
    exact hk h3
theorem sofar_miss {A B : DataW H} {left : Lit → Bool} {k : Lit} (h : SoFar A B left) (hk : Maps.has B k = false) : SoFar A B (fun z => left z && !z.sameKey k) :=
  sofar_step h (fun h3 => by rw [hk] at h3; cases h3)
theorem sofar_hit {A B : DataW H} {left : Lit → Bool} {k : Lit} {c c2 : ByteArray} (h : SoFar A B left) (h1 : A.atKey k zd = .lit (.string c.data.toList)) (h2 : B.atKey k zd = .lit (.string c2.data.toList)) (hcc : (c2.toList == c.toList) = true) : SoFar A B (fun z => left z && !z.sameKey k) :=
  sofar_step h (fun _ => by
    rw [Lib.toList_data, Lib.toList_data, beq_iff_eq] at hcc
    rw [h1, h2, hcc])
theorem not_meet {A B : DataW H} {k : Lit} {c c2 : ByteArray} (hA : Maps.has A k = true) (hB : Maps.has B k = true) (h1 : A.atKey k zd = .lit (.string c.data.toList)) (h2 : B.atKey k zd = .lit (.string c2.data.toList)) (hcc : (c2.toList == c.toList) = false) : ¬ MeetP A B := by
  intro h
  have := h k hA hB
  rw [h1, h2] at this
  injection this with this
  injection this with this
  rw [Lib.toList_data, Lib.toList_data, this] at hcc
  simp at hcc

set_option maxHeartbeats 400000 in
theorem meet_some (ta tb : ByteArray) (b n : Nat) (vb : Value) (A B : DataW H) (w : World) (he : (ta.toList == tb.toList) = true)
    (hA : w.ownsMap Try.prog 9 (plainElem Try.prog 9) b n A) (hB : MapIs w vb B) :
    Calls Try.prog 13 #[.agg #[.string ta, .map (some b)], .agg #[.string tb, vb]] w fun e w' => (∃ bo : Bool, e = .returned (.bool bo) ∧ (bo = true ↔ MeetP A B)) ∧ Below w.heap.size w w' := by
  have hbl := hA.lt
  have hBl : ∀ b', vb = .map (some b') → b' < w.heap.size := by
    intro b' hv
    rcases hB with ⟨h, _⟩ | ⟨b2, n2, h, ho⟩
    · rw [h] at hv; cases hv
    · rw [h] at hv; cases hv; exact ho.lt
  have HBl : Hid (∀ b', vb = .map (some b') → b' < w.heap.size) := hBl
  clear hBl
  have e1 : ∀ o1 o2 : Obj, ((w.alloc o1).alloc o2).heap.size = w.heap.size + 1 + 1 := fun o1 o2 => by simp
  go_enter Try.func13, Try.ntmps13
  go_wp2_with (first
    | (at_range; refine wpList_range_own _ rfl _ 28 rfl 9 9 mlaw Try.underlying28 _ b n _ rfl ((hA.alloc _).alloc _) ?_; intro w0 hrg0 hg0 hs0)
    | go_in)
  go_frame
  rw [e1] at hrg0 hs0 ⊢
  have hB0 : MapIs w0 vb B := ((hB.alloc _).alloc _).grown hg0 (by simp)
  have hc0 : w0.cell? ⟨w.heap.size + 1, 1, none⟩ = some vb := hg0.cell (by simp) (by simp)
  have hb0 : Below w.heap.size w w0 := (((Below.refl _ _).alloc (Nat.le_refl _) _).alloc (by simp) _).grown hg0 (by simp; omega) (fun j hj => by cases hj)
  clear hg0 hs0
  go_loopw [5] (fun _ wr => ∃ (left : Lit → Bool) (cnt : Nat), wr.ranges Try.prog 9 (plainElem Try.prog 9) b (w.heap.size + 1 + 1) n A left cnt ∧ MapIs wr vb B ∧
      wr.cell? ⟨w.heap.size + 1, 1, none⟩ = some vb ∧ SoFar A B left ∧ Below w.heap.size w wr)
    (fun _ wr => wr.rangeLeft b (w.heap.size + 1 + 1))
  case atStart =>
    exact ⟨_, _, hrg0, hB0, hc0, (fun kl h1 h2 => absurd (h1.symm.trans h2) (by simp)), hb0⟩
  case round =>
    clear hB0 hc0 hb0 hrg0
    obtain ⟨left, cnt, hrg, hBr, hcr, hso, hnx⟩ := hrel
    go_wp2_with (first
      | (at_next; refine wpList_next_ss rfl _ rfl b (w.heap.size + 1 + 1) n _ _ _ rfl hrg ?_ ?_)
      | go_in)
    · intro hc0 hl0
      go_wp2
      go_ret
      exact ⟨⟨true, rfl, by simp; exact fun kl h1 h2 => hso kl h1 (hl0 kl) h2⟩, hnx⟩
    · intro x c w1 cnt1 hwx hwc hlx hat hrg1 hlt hg1 hs1 hen
      have hB1 : MapIs w1 vb B := hBr.grown hg1 (fun b' hv e => by have := HBl.out b' hv; have := Option.some.inj e; omega)
      have hc1 : w1.cell? ⟨w.heap.size + 1, 1, none⟩ = some vb := hg1.cell hcr (by simp)
      have hb1 : Below w.heap.size w w1 := hnx.grown hg1 hnx.size (fun j hj => by cases hj; omega)
      have HA : Hid (Maps.has A (.string x.data.toList) = true) := has_true_of_atKey hat
      have HAT : Hid (∀ zd, A.atKey (.string x.data.toList) zd = .lit (.string c.data.toList)) := hat
      clear hat hBr hcr hnx hg1
      cases hhas : Maps.has B (.string x.data.toList)
      · go_wp2_with (first
          | (at_lookup; refine wpList_look_any rfl _ _ rfl _ B rfl hB1 _ rfl hwx ?_)
          | go_in)
        intro c2 hc2 hat2
        have HB2 : Hid (B.atKey (.string x.data.toList) zd = .lit (.string c2.data.toList)) := hat2
        clear hat2
        go_wp2
        go_roundw
        case rel => exact ⟨_, cnt1, hrg1, hB1, hc1, sofar_miss hso hhas, hb1⟩
        case measure => rw [hrg1.left_eq, hrg.left_eq]; exact hlt
      · go_wp2_with (first
          | (at_lookup; refine wpList_look_any rfl _ _ rfl _ B rfl hB1 _ rfl hwx ?_)
          | go_in)
        intro c2 hc2 hat2
        have HB2 : Hid (B.atKey (.string x.data.toList) zd = .lit (.string c2.data.toList)) := hat2
        clear hat2
        cases hcc : (c2.toList == c.toList)
        · go_wp2
          go_ret
          exact ⟨⟨false, rfl, by simp; exact not_meet HA.out hhas (HAT.out zd) HB2.out hcc⟩, hb1⟩
        · go_wp2
          go_roundw
          case rel => exact ⟨_, cnt1, hrg1, hB1, hc1, sofar_hit hso (HAT.out zd) HB2.out hcc, hb1⟩
          case measure => rw [hrg1.left_eq, hrg.left_eq]; exact hlt

end Go.Proofs.Qxb6608975a

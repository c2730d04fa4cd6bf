/-
  SEAT b6609104a: zzNewTable.
-/
import Derived.Test.Qxb6609104aTable
namespace Go.Proofs.Qxb6609104a
open Go.RowKit
set_option linter.unusedVariables false

def hk0 : Hk := ⟨0, 0, 0, 0, false⟩
/-- Element i of a ring, as a list holds it. -/
def at_ (hs : List Hk) (i : Nat) : Hk := hs.getD i hk0

/-- The slice of places that lies at ao (of whatever address where it is empty) holds hs. -/
def RingIn (w : World) (ao : Option Addr) (hs : List Hk) : Prop :=
  hs = [] ∨ ∃ b off, ao = some ⟨b, off, none⟩ ∧ b < w.heap.size ∧ ∀ i, i < hs.length → HeldAt w b (off + i * 5) (at_ hs i)
theorem RingIn.below {w w' : World} {B : Nat} {ao : Option Addr} {hs : List Hk} (h : RingIn w ao hs) (hb : Below B w w') (hB : w.heap.size ≤ B) : RingIn w' ao hs := by
  rcases h with h | ⟨b, off, h1, h2, h3⟩
  · exact .inl h
  · exact .inr ⟨b, off, h1, Nat.lt_of_lt_of_le h2 hb.size, fun i hi => (h3 i hi).grown (hb.block b (Nat.lt_of_lt_of_le h2 hB))⟩

theorem TabAt.keep {w w' : World} {T : Nat} {st : Int} {L chk : Value} {U R M n : Nat} {f c o : Int} (h : TabAt w T st L chk U R M n f c o) (hT : w'.heap[T]? = w.heap[T]?) : TabAt w' T st L chk U R M n f c o := by
  unfold TabAt at *; rw [hT]; exact h
theorem TabAt.lt {w : World} {T : Nat} {st : Int} {L chk : Value} {U R M n : Nat} {f c o : Int} (h : TabAt w T st L chk U R M n f c o) : T < w.heap.size := (Array.getElem?_eq_some_iff.1 h).1
theorem RingRow.lt {w : World} {R n : Nat} (h : RingRow w R n) : R < w.heap.size := by
  obtain ⟨cur, h1, h2⟩ := h
  exact (Array.getElem?_eq_some_iff.1 h1).1
theorem RingRow.keep {w w' : World} {R n : Nat} (h : RingRow w R n) (hR : w'.heap[R]? = w.heap[R]?) : RingRow w' R n := by
  unfold RingRow at *; rw [hR]; exact h
theorem TabAt.ne {w : World} {T : Nat} {st : Int} {L chk : Value} {U R M n : Nat} {f c o : Int} {R' n' : Nat} (h : TabAt w T st L chk U R M n f c o) (hR : RingRow w R' n') : T ≠ R' := by
  intro e
  obtain ⟨cur, h1, _⟩ := hR
  unfold TabAt at h
  rw [e, h1] at h
  simp at h

theorem set5_keeps {w : World} {R q q' : Nat} {x y : Hk} (h : HeldAt w R q' y) (hd : q' + 5 ≤ q ∨ q + 5 ≤ q') : HeldAt (set5 w R q x) R q' y := by
  obtain ⟨d0, d1, d2, d3, d4⟩ := h
  exact ⟨(set5_other _ _ _ _ _ _ (by omega)).trans d0, (set5_other _ _ _ _ _ _ (by omega)).trans d1, (set5_other _ _ _ _ _ _ (by omega)).trans d2, (set5_other _ _ _ _ _ _ (by omega)).trans d3, (set5_other _ _ _ _ _ _ (by omega)).trans d4⟩

/-- A table built of the places hs. -/
def Built (hs : List Hk) (f c o : Int) (w : World) (e : Ending) (w' : World) : Prop :=
  ∃ T U R M L, e = .returned (.pointer (some ⟨T, 0, none⟩)) ∧ TabAt w' T 0 L (.int .u64 0) U R M hs.length f c o ∧ RingRow w' R hs.length ∧ (∀ i, i < hs.length → HeldAt w' R (i * 5) (at_ hs i)) ∧
    w'.heap[U]? = some (.map #[] 0) ∧ (w.heap.size ≤ T ∧ w.heap.size ≤ U ∧ w.heap.size ≤ R) ∧ Below w.heap.size w w'

set_option maxHeartbeats 400000 in
theorem newTable_nil (ao : Option Addr) (cap : Nat) (f c o : Int) (w : World) :
    Calls Try.prog 11 #[.slice ao 0 cap, .int .i64 f, .int .i64 c, .int .u64 o] w (Built [] f c o w) := by
  go_enter Try.func11, Try.ntmps11
  go_wp2_with fail
  refine (newKey_any 0 f c o w (by omega)).mono ?_
  rintro e w1 ⟨T, U, R, M, L, rfl, hT, hR, hU, hge, hb⟩
  have H : Hid (Built [] f c o w (.returned (.pointer (some ⟨T, 0, none⟩))) w1) := ⟨T, U, R, M, L, rfl, hT, hR, fun i hi => by simp at hi, hU, hge, hb⟩
  clear hT hR hU hge hb
  go_wp2
  refine wp_loop_rounds 1 ?_
  rw [rounds_succ]
  go_wp2
  go_ret
  exact H.out

set_option maxHeartbeats 400000 in
theorem newTable_some (b off cap : Nat) (hs : List Hk) (f c o : Int) (w : World) (hn : hs.length ≤ 65536) (hbw : b < w.heap.size) (hin : ∀ i, i < hs.length → HeldAt w b (off + i * 5) (at_ hs i)) :
    Calls Try.prog 11 #[.slice (some ⟨b, off, none⟩) hs.length cap, .int .i64 f, .int .i64 c, .int .u64 o] w (Built hs f c o w) := by
  have HIN : Hid (∀ i, i < hs.length → HeldAt w b (off + i * 5) (at_ hs i)) := hin
  clear hin
  go_enter Try.func11, Try.ntmps11
  go_wp2_with fail
  refine (newKey_any hs.length f c o w hn).mono ?_
  rintro e w1 ⟨T, U, R, M, L, rfl, hT, hR, hU, ⟨hge1, hge2, hge3⟩, hb⟩
  have HU : Hid (w1.heap[U]? = some (.map #[] 0)) := hU
  have hUl : U < w1.heap.size := (Array.getElem?_eq_some_iff.1 hU).1
  have hTR : T ≠ R := hT.ne hR
  have hUR : U ≠ R := by
    intro e
    obtain ⟨cur, h1, _⟩ := hR
    rw [e, h1] at hU
    simp at hU
  have hTl := hT.lt
  have hRl := hR.lt
  clear hU
  go_wp2
  go_loopw [10] (fun i wr => ∃ k : Nat, k ≤ hs.length ∧ i = .int .i64 k ∧ RingRow wr R hs.length ∧ (∀ i, i < k → HeldAt wr R (i * 5) (at_ hs i)) ∧ w1.grownBy wr (some R))
    (fun i _ => hs.length - (intOf i).toNat)
  case atStart => exact ⟨0, Nat.zero_le _, rfl, hR, fun i hi => absurd hi (by omega), World.grownBy.refl _ _⟩
  case round =>
    obtain ⟨k, hk, rfl, hRk, hheld, hg⟩ := hrel
    have hTk : TabAt wr T 0 L (.int .u64 0) U R M hs.length f c o := hT.keep (hg.block T hTl (by simpa using hTR))
    have hz := hg.size
    by_cases hlt : k < hs.length
    · have hx : HeldAt wr b (off + k * 5) (at_ hs k) := (HIN.out k hlt).grown (by rw [hg.block b (by have := hb.size; omega) (by simp; omega), hb.block b hbw])
      obtain ⟨x, hxe⟩ : ∃ x, x = at_ hs k := ⟨_, rfl⟩
      rw [← hxe] at hx
      obtain ⟨c0, c1, c2, c3, c4⟩ := hx
      have HX : Hid (x = at_ hs k) := hxe
      have HH : Hid (∀ i, i < k → HeldAt wr R (i * 5) (at_ hs i)) := hheld
      clear hxe hheld hT hR
      go_wp2_with fail
      have hg2 : ∀ o : Obj, wr.grownBy (wr.alloc o) (some R) := fun o => World.grownBy_alloc wr o _
      refine (setHeld_any T R hs.length k x _ hn hlt ((hTk.keep (heap_alloc_old wr _ (by omega))).ring) (hRk.keep (heap_alloc_old wr _ (by omega)))).mono ?_
      rintro e w2 ⟨rfl, hw2⟩
      subst w2
      go_wp2
      go_roundw
      case rel => 
        refine ⟨k + 1, by omega, by go_num, set5_row (hRk.keep (heap_alloc_old wr _ (by omega))) _ _, fun i hi => ?_, (hg.trans (hg2 _)).trans (set5_grown _ _ _ _)⟩
        by_cases hik : i = k
        · subst hik
          rw [← HX.out]
          exact set5_held (hRk.keep (heap_alloc_old wr _ (by omega))) _ _ (by omega)
        · exact set5_keeps ((HH.out i (by omega)).grown (heap_alloc_old wr _ (by omega))) (by omega)
      case measure => simp [intOf]; omega
    · obtain rfl : k = hs.length := by omega
      have H : Hid (Built hs f c o w (.returned (.pointer (some ⟨T, 0, none⟩))) wr) := ⟨T, U, R, M, L, rfl, hTk, hRk, hheld, by rw [hg.block U hUl (by simpa using hUR)]; exact HU.out, ⟨hge1, hge2, hge3⟩, hb.grown hg hb.size (fun j hj => by cases hj; exact hge3)⟩
      clear hTk hRk hheld hg hT hR hb
      go_wp2
      go_ret
      exact H.out

theorem newTable_any (ao : Option Addr) (cap : Nat) (hs : List Hk) (f c o : Int) (w : World) (hn : hs.length ≤ 65536) (hin : RingIn w ao hs) :
    Calls Try.prog 11 #[.slice ao hs.length cap, .int .i64 f, .int .i64 c, .int .u64 o] w (Built hs f c o w) := by
  rcases hin with rfl | ⟨b, off, rfl, h2, h3⟩
  · exact newTable_nil ao cap f c o w
  · exact newTable_some b off cap hs f c o w hn h2 h3

end Go.Proofs.Qxb6609104a

/-
  SEAT b6608975a: rows of strings that the call itself makes.
-/
import Derived.Test.Qxb6608975aBytes
import Derived.Laws.CopyOwn
namespace Go.Proofs.Qxb6608975a
open Go.RowKit

theorem Try.info9 : (Try.prog.info? 9).map (fun i => (i.zero, i.size, i.bytes)) = some (some (.string ByteArray.empty), 1, 16) := by kernel_rfl
theorem Try.size9 : (Try.prog.info? 9).map (·.size) = some 1 := by kernel_rfl

/-- Block g (from base on) is a row of room cap whose first cells are the strings ss. -/
def Owns (w : World) (base g cap : Nat) (ss : List ByteArray) : Prop := w.ownsRow base 9 1 (.slice (some ⟨g, 0, none⟩) ss.length cap) ss.length (ss.map Value.string)

theorem Owns.of {w : World} {base g cap n : Nat} {xs : List Value} {ss : List ByteArray} (h : w.ownsRow base 9 1 (.slice (some ⟨g, 0, none⟩) n cap) n xs) (hn : n = ss.length) (hx : xs = ss.map Value.string) : Owns w base g cap ss := by
  subst hn; subst hx; exact h

theorem Owns.lt {w : World} {base g cap : Nat} {ss : List ByteArray} (h : Owns w base g cap ss) : base ≤ g ∧ g < w.heap.size := World.ownsRow.lt h g rfl
theorem Owns.kept {w w' : World} {base g cap : Nat} {ss : List ByteArray} {row : Option Nat} (h : Owns w base g cap ss) (hg : w.grownBy w' row) (hne : row ≠ some g) : Owns w' base g cap ss :=
  World.ownsRow.kept h hg (.inr (Ne.symm hne))
theorem Owns.below {w w' : World} {B base g cap : Nat} {ss : List ByteArray} (h : Owns w base g cap ss) (hb : Below B w w') (hB : g < B) : Owns w' base g cap ss := by
  unfold Owns at h ⊢
  rcases h with ⟨h1, h2 | ⟨g', cap', cur, e, h3, h4, h5⟩⟩
  · exact ⟨h1, .inl h2⟩
  · have e' := e
    simp only [Value.slice.injEq, Option.some.injEq, Addr.mk.injEq, and_true, true_and] at e'
    obtain ⟨rfl, rfl⟩ := e'
    exact ⟨h1, .inr ⟨g, cap, cur, rfl, h3, (hb.block g hB).trans h4, h5⟩⟩
theorem Owns.cell {w : World} {base g cap : Nat} {ss : List ByteArray} (h : Owns w base g cap ss) (i : Nat) (hi : i < ss.length) : w.cell? ⟨g, i, none⟩ = some (.string (ss.getD i ByteArray.empty)) := by
  rw [World.ownsRow.cellAt h i (by omega), List.getElem?_map, List.getD_eq_getElem?_getD, List.getElem?_eq_getElem hi]
  rfl
theorem Owns.frozen {w : World} {base g cap : Nat} {ss : List ByteArray} (h : Owns w base g cap ss) (i : Nat) : w.frozen? ⟨g, i, none⟩ = false := World.ownsRow.frozenAt h i
theorem Owns.stored {w : World} {base g cap : Nat} {ss : List ByteArray} (h : Owns w base g cap ss) (j : Nat) (s : ByteArray) : Owns (w.setCell ⟨g, j, none⟩ (.string s)) base g cap (ss.set j s) :=
  Owns.of (World.ownsRow.stored h j (.string s)).1 (by simp) (by simp [List.map_set])
theorem Owns.cap {w : World} {base g cap : Nat} {ss : List ByteArray} (h : Owns w base g cap ss) : ss.length ≤ cap ∧ cap ≤ maxLen := by
  rcases h with ⟨h1, h2 | ⟨g', cap', cur, e, h3, h4, h5⟩⟩
  · simp at h2
  · simp only [Value.slice.injEq, Option.some.injEq, Addr.mk.injEq, and_true, true_and] at e
    obtain ⟨rfl, rfl⟩ := e
    exact ⟨h5.1, h5.2.1⟩
theorem Owns.row {w : World} {base g cap : Nat} {ss : List ByteArray} (h : Owns w base g cap ss) : StrRow w (.slice (some ⟨g, 0, none⟩) ss.length cap) ss :=
  .inr ⟨g, cap, rfl, h.cap.1, Nat.le_trans h.cap.1 h.cap.2, fun i hi => h.cell i hi, fun _ => h.lt.2⟩

/-- What make lays. -/
theorem made_zero (n : Nat) : (madeCells #[.string ByteArray.empty] n).toList = (List.replicate n ByteArray.empty).map Value.string := by
  rw [toList_madeCells_one]; simp

theorem Owns.made {w : World} {base g n : Nat} (h : w.ownsRow base 9 1 (.slice (some ⟨g, 0, none⟩) n n) n (madeCells #[.string ByteArray.empty] n).toList) : Owns w base g n (List.replicate n ByteArray.empty) :=
  Owns.of h (by simp) (made_zero n)

/-- A row that is full: its block. -/
theorem Owns.block {w : World} {base g cap : Nat} {ss : List ByteArray} (h : Owns w base g cap ss) (hcap : cap = ss.length) : w.heap[g]? = some (.cells (ss.map Value.string).toArray 9 (0, 0)) := by
  subst hcap
  rcases h with ⟨h1, h2 | ⟨g', cap', cur, e, h3, h4, h5, h6, h7, h8⟩⟩
  · simp at h2
  · simp only [Value.slice.injEq, Option.some.injEq, Addr.mk.injEq, and_true, true_and] at e
    obtain ⟨rfl, rfl⟩ := e
    rw [h4, ← h8, List.take_of_length_le (by simp; omega)]
theorem Owns.of_block {w : World} {base g : Nat} {ss : List ByteArray} (hb : base ≤ g) (hm : ss.length ≤ maxLen) (h : w.heap[g]? = some (.cells (ss.map Value.string).toArray 9 (0, 0))) : Owns w base g ss.length ss :=
  ⟨by simp, .inr ⟨g, ss.length, (ss.map Value.string).toArray, rfl, hb, h, Nat.le_refl _, hm, by simp, List.take_of_length_le (by simp)⟩⟩

theorem splice_all (n : Nat) (ss : List ByteArray) (hn : n = ss.length) : splice (List.replicate n (Value.string ByteArray.empty)) 0 (ss.map Value.string) = ss.map Value.string := by
  subst hn; simp [splice]

/-- The first k of ss, the rest still empty. -/
def filled (ss : List ByteArray) (k : Nat) : List ByteArray := ss.take k ++ List.replicate (ss.length - k) ByteArray.empty
theorem filled_length (ss : List ByteArray) (k : Nat) (h : k ≤ ss.length) : (filled ss k).length = ss.length := by simp [filled]; omega
theorem filled_zero (ss : List ByteArray) : filled ss 0 = List.replicate ss.length ByteArray.empty := by simp [filled]
theorem filled_all (ss : List ByteArray) : filled ss ss.length = ss := by simp [filled]
theorem filled_step (ss : List ByteArray) (k : Nat) (h : k < ss.length) : (filled ss k).set k (ss.getD k ByteArray.empty) = filled ss (k + 1) := by
  apply List.ext_getElem?
  intro i
  rw [List.getElem?_set]
  unfold filled
  by_cases h1 : k = i
  · subst h1
    rw [if_pos rfl, if_pos (by simp; omega), List.getElem?_append_left (by simp; omega), List.getElem?_take_of_lt (by omega), List.getD_eq_getElem?_getD, List.getElem?_eq_getElem h]
    rfl
  · rw [if_neg h1]
    by_cases h2 : i < k
    · rw [List.getElem?_append_left (by simp; omega), List.getElem?_append_left (by simp; omega), List.getElem?_take_of_lt h2, List.getElem?_take_of_lt (by omega)]
    · rw [List.getElem?_append_right (by simp; omega), List.getElem?_append_right (by simp; omega)]
      simp only [List.getElem?_replicate, List.length_take]
      by_cases h3 : i < ss.length
      · rw [if_pos (by omega), if_pos (by omega)]
      · rw [if_neg (by omega), if_neg (by omega)]

/-- What copy reads: the slice that came in. -/
theorem InStrs.src {w w' : World} {ao : Option Addr} {ss : List ByteArray} (h : InStrs w ao ss) (hb : Below w.heap.size w w') (hp : 0 < (ss.map Value.string).length) :
    ∃ ad, ao = some ad ∧ ∀ j v, (ss.map Value.string)[j]? = some v → w'.cell? (ad.add j) = some v := by
  rcases h with rfl | ⟨b, off, rfl, hlt, hc⟩
  · simp at hp
  · refine ⟨_, rfl, fun j v hj => ?_⟩
    have hj' : j < ss.length := by have := (List.getElem?_eq_some_iff.1 hj).1; simpa using this
    rw [List.getElem?_map, List.getElem?_eq_getElem hj'] at hj
    have h1 := hc j hj'
    rw [List.getD_eq_getElem?_getD, List.getElem?_eq_getElem hj'] at h1
    have h2 : w'.cell? ⟨b, off + j, none⟩ = w.cell? ⟨b, off + j, none⟩ := hb.cell hlt
    have e : (⟨b, off, none⟩ : Addr).add j = ⟨b, off + j, none⟩ := by simp [Addr.add]
    rw [e, h2, h1]
    exact hj

end Go.Proofs.Qxb6608975a

/-
  SEAT b6608975a: the plain law of the given set: no Go in sight.
-/
import Derived.Lib.Strings
namespace Go.Proofs.Qxb6608975a

/-- Is the value at place j given? -/
def giv (ss : List ByteArray) (j : Nat) : Bool := !(ss.getD j ByteArray.empty).toList.isEmpty

/-- The given set of the first k values. -/
def gvTo (ss : List ByteArray) : Nat → Nat
  | 0 => 0
  | k + 1 => if giv ss k then gvTo ss k ||| 2 ^ k else gvTo ss k

def gv (ss : List ByteArray) : Nat := gvTo ss (min ss.length 64)

theorem gvTo_bit (ss : List ByteArray) : ∀ k j, (gvTo ss k).testBit j = (decide (j < k) && giv ss j)
  | 0, j => by simp [gvTo]
  | k + 1, j => by
    unfold gvTo
    by_cases hj : j = k
    · subst hj
      by_cases h : giv ss j = true
      · simp [h, Nat.testBit_or, gvTo_bit ss j, Nat.testBit_two_pow_self]
      · simp [h, gvTo_bit ss j]
    · by_cases h : giv ss k = true
      · rw [if_pos h, Nat.testBit_or, gvTo_bit ss k j, Nat.testBit_two_pow_of_ne (Ne.symm hj), Bool.or_false]
        congr 1
        simp only [decide_eq_decide]
        omega
      · rw [if_neg h, gvTo_bit ss k j]
        congr 1
        simp only [decide_eq_decide]
        omega

theorem gvTo_lt (ss : List ByteArray) (k : Nat) : gvTo ss k < 2 ^ k := by
  apply Nat.lt_pow_two_of_testBit
  intro i hi
  rw [gvTo_bit]
  simp
  omega

theorem giv_past (ss : List ByteArray) (j : Nat) (h : ss.length ≤ j) : giv ss j = false := by
  unfold giv
  rw [List.getD_eq_getElem?_getD, List.getElem?_eq_none h, Lib.toList_data]
  rfl

theorem gv_bit (ss : List ByteArray) (j : Nat) : (gv ss).testBit j = (decide (j < 64) && giv ss j) := by
  unfold gv
  rw [gvTo_bit]
  by_cases h : j < ss.length
  · congr 1
    simp only [decide_eq_decide]
    omega
  · rw [giv_past ss j (by omega)]; simp

theorem gv_lt (ss : List ByteArray) : gv ss < 18446744073709551616 := by
  have := gvTo_lt ss (min ss.length 64)
  have h2 : 2 ^ min ss.length 64 ≤ 2 ^ 64 := Nat.pow_le_pow_right (by omega) (by omega)
  unfold gv
  omega

/-- s put in at place i. -/
def ins (ss : List ByteArray) (i : Nat) (s : ByteArray) : List ByteArray := ss.take i ++ s :: ss.drop i

theorem ins_length (ss : List ByteArray) (i : Nat) (s : ByteArray) (h : i ≤ ss.length) : (ins ss i s).length = ss.length + 1 := by
  simp [ins]; omega

theorem ins_giv (ss : List ByteArray) (i : Nat) (s : ByteArray) (h : i ≤ ss.length) (j : Nat) :
    giv (ins ss i s) j = if j < i then giv ss j else if j = i then !s.toList.isEmpty else giv ss (j - 1) := by
  unfold giv ins
  simp only [List.getD_eq_getElem?_getD]
  by_cases h1 : j < i
  · rw [if_pos h1, List.getElem?_append_left (by simp; omega), List.getElem?_take_of_lt h1]
  · rw [if_neg h1, List.getElem?_append_right (by simp; omega)]
    simp only [List.length_take, Nat.min_eq_left h]
    by_cases h2 : j = i
    · subst h2; simp
    · rw [if_neg h2, show j - i = (j - 1 - i) + 1 by omega, List.getElem?_cons_succ, List.getElem?_drop, show i + (j - 1 - i) = j - 1 by omega]

/-- Insertion past bit 63 turns nothing. -/
theorem gv_ins_past (ss : List ByteArray) (i : Nat) (s : ByteArray) (h : i ≤ ss.length) (h64 : 64 ≤ i) : gv (ins ss i s) = gv ss := by
  apply Nat.eq_of_testBit_eq
  intro j
  rw [gv_bit, gv_bit, ins_giv ss i s h]
  by_cases hj : j < 64
  · rw [if_pos (by omega)]
  · simp [hj]

theorem gv_ins (ss : List ByteArray) (i : Nat) (s : ByteArray) (h : i ≤ ss.length) (h64 : i < 64) :
    gv (ins ss i s) = ((gv ss &&& (2 ^ i - 1)) ||| (if s.toList.isEmpty then 0 else 2 ^ i)) ||| ((gv ss / 2 ^ i * 2 ^ (i + 1)) % 2 ^ 64) := by
  apply Nat.eq_of_testBit_eq
  intro j
  rw [gv_bit, ins_giv ss i s h, Nat.testBit_or, Nat.testBit_or, Nat.testBit_and, Nat.testBit_mod_two_pow, gv_bit, Nat.testBit_two_pow_sub_one]
  rw [show gv ss / 2 ^ i * 2 ^ (i + 1) = (gv ss >>> i) <<< (i + 1) by rw [Nat.shiftRight_eq_div_pow, Nat.shiftLeft_eq]]
  rw [Nat.testBit_shiftLeft, Nat.testBit_shiftRight, gv_bit]
  by_cases hj : j < 64
  · by_cases h1 : j < i
    · have e1 : (if s.toList.isEmpty = true then 0 else 2 ^ i).testBit j = false := by
        split
        · simp
        · exact Nat.testBit_two_pow_of_ne (by omega)
      rw [if_pos h1, e1]
      simp [hj, h1]
      omega
    · by_cases h2 : j = i
      · subst h2
        rw [if_neg h1, if_pos rfl]
        cases hs : s.toList.isEmpty
        · simp [hj]
        · simp
          omega
      · have e1 : (if s.toList.isEmpty = true then 0 else 2 ^ i).testBit j = false := by
          split
          · simp
          · exact Nat.testBit_two_pow_of_ne (by omega)
        rw [if_neg h1, if_neg h2, e1, show i + (j - (i + 1)) = j - 1 by omega]
        have h3 : i + 1 ≤ j := by omega
        have h4 : j - 1 < 64 := by omega
        simp [hj, h1, h3, h4]
  · have e1 : (if s.toList.isEmpty = true then 0 else 2 ^ i).testBit j = false := by
      split
      · simp
      · exact Nat.testBit_two_pow_of_ne (by omega)
    have h1 : ¬ j < i := by omega
    rw [e1]
    simp [hj]

theorem set_giv (ss : List ByteArray) (i : Nat) (s : ByteArray) (h : i < ss.length) (j : Nat) :
    giv (ss.set i s) j = if j = i then !s.toList.isEmpty else giv ss j := by
  unfold giv
  simp only [List.getD_eq_getElem?_getD, List.getElem?_set]
  by_cases h2 : j = i
  · subst h2; simp [h]
  · rw [if_neg h2, if_neg (Ne.symm h2)]

theorem gv_set_past (ss : List ByteArray) (i : Nat) (s : ByteArray) (h : i < ss.length) (h64 : 64 ≤ i) : gv (ss.set i s) = gv ss := by
  apply Nat.eq_of_testBit_eq
  intro j
  rw [gv_bit, gv_bit, set_giv ss i s h]
  by_cases hj : j < 64
  · rw [if_neg (by omega)]
  · simp [hj]

theorem andNot_bit (a i j : Nat) (hi : i < 64) (hj : j < 64) : (a &&& (18446744073709551615 - 2 ^ i)).testBit j = (a.testBit j && !decide (j = i)) := by
  have e : (18446744073709551615 - 2 ^ i : Nat) = 2 ^ 64 - (2 ^ i + 1) := by omega
  rw [Nat.testBit_and, e, Nat.testBit_two_pow_sub_succ (Nat.pow_lt_pow_right (by omega) hi)]
  by_cases h : j = i
  · subst h; simp
  · rw [Nat.testBit_two_pow_of_ne (Ne.symm h)]; simp [h, hj]

theorem andNot_lt (a b : Nat) : a &&& (18446744073709551615 - b) < 2 ^ 64 := Nat.lt_of_le_of_lt Nat.and_le_right (by omega)

theorem gv_set (ss : List ByteArray) (i : Nat) (s : ByteArray) (h : i < ss.length) (h64 : i < 64) :
    gv (ss.set i s) = (gv ss &&& (18446744073709551615 - 2 ^ i)) ||| (if s.toList.isEmpty then 0 else 2 ^ i) := by
  apply Nat.eq_of_testBit_eq
  intro j
  rw [gv_bit, set_giv ss i s h, Nat.testBit_or]
  by_cases hj : j < 64
  · rw [andNot_bit _ _ _ h64 hj, gv_bit]
    by_cases h2 : j = i
    · subst h2
      cases hs : s.toList.isEmpty <;> simp [hj]
    · have e1 : (if s.toList.isEmpty = true then 0 else 2 ^ i).testBit j = false := by
        split
        · simp
        · exact Nat.testBit_two_pow_of_ne (by omega)
      rw [if_neg h2, e1]
      simp [h2, hj]
  · have e1 : (if s.toList.isEmpty = true then 0 else 2 ^ i).testBit j = false := by
      split
      · simp
      · exact Nat.testBit_two_pow_of_ne (by omega)
    rw [e1, Nat.testBit_lt_two_pow (Nat.lt_of_lt_of_le (andNot_lt _ _) (Nat.pow_le_pow_right (by omega) (by omega)))]
    simp [hj]

end Go.Proofs.Qxb6608975a

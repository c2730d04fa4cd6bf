/-
  SEAT b6609104a: names put, ended, kept: plain laws; ZZputUnderWay over a table; the in-window test.
-/
import Derived.Test.Qxb6609104aRingIs
import Derived.Test.Qxb6609104aStrs
import Derived.Test.Qxb6609104aSame
import Derived.Lib.Strings
namespace Go.Proofs.Qxb6609104a
open Go.RowKit Go.Maps
set_option linter.unusedVariables false

theorem kl_eq {s t : ByteArray} (h : (s.toList == t.toList) = true) : kl s = kl t := by
  rw [Lib.toList_data, Lib.toList_data, beq_iff_eq] at h
  unfold kl; rw [h]
theorem kl_ne {s t : ByteArray} (h : (s.toList == t.toList) = false) : kl s ≠ kl t := by
  intro e
  unfold kl at e
  injection e with e
  rw [Lib.toList_data, Lib.toList_data, e] at h
  simp at h

/-- The names of ss, the first k put. -/
def nmD (ss : List ByteArray) (k : Nat) : DataW Unit := (List.range k).foldl (fun D i => D.put (kl (ss.getD i ByteArray.empty)) tt) (.map [])
theorem nmD_zero (ss : List ByteArray) : nmD ss 0 = .map [] := rfl
theorem nmD_succ (ss : List ByteArray) (k : Nat) : nmD ss (k + 1) = (nmD ss k).put (kl (ss.getD k ByteArray.empty)) tt := by
  unfold nmD; rw [List.range_succ, List.foldl_append]; rfl
theorem nmD_isMap (ss : List ByteArray) : ∀ k, IsMap (nmD ss k)
  | 0 => isMap_empty
  | k + 1 => by rw [nmD_succ]; exact (nmD_isMap ss k).put _ _
theorem nmD_has (ss : List ByteArray) : ∀ k i, i < k → has (nmD ss k) (kl (ss.getD i ByteArray.empty)) = true
  | 0, i, h => by omega
  | k + 1, i, h => by
    rw [nmD_succ]
    by_cases e : kl (ss.getD i ByteArray.empty) = kl (ss.getD k ByteArray.empty)
    · rw [e]; exact has_put_same (nmD_isMap ss k) (by simp [WideAt.IsKeyLit, kl]) _
    · rw [has_put_other e]
      have hik : i ≠ k := fun q => e (by rw [q])
      exact nmD_has ss k i (by omega)

theorem del_comm (D : DataW Unit) (a b : Lit) : (D.del a).del b = (D.del b).del a := by
  cases D <;> try rfl
  rename_i es
  rw [DataW.del_eq, DataW.del_eq, DataW.del_eq, DataW.del_eq]
  unfold ChangeMaps.delKey
  rw [List.filter_filter, List.filter_filter]
  congr 2
  funext p
  exact Bool.and_comm _ _

/-- The two posts put, and both ended. -/
def fin2 (D : DataW Unit) (k1 k2 : ByteArray) : DataW Unit := (((D.put (kl k1) tt).put (kl k2) tt).del (kl k1)).del (kl k2)
theorem fin2_comm (D : DataW Unit) (k1 k2 : ByteArray) : (((D.put (kl k1) tt).put (kl k2) tt).del (kl k2)).del (kl k1) = fin2 D k1 k2 := del_comm _ _ _
theorem fin2_second (D : DataW Unit) (k1 k2 : ByteArray) : has (fin2 D k1 k2) (kl k2) = false := has_del_same
theorem fin2_first (D : DataW Unit) (k1 k2 : ByteArray) : has (fin2 D k1 k2) (kl k1) = false := by
  rw [← fin2_comm]; exact has_del_same
theorem fin2_other (D : DataW Unit) (k1 k2 s : ByteArray) (h1 : kl s ≠ kl k1) (h2 : kl s ≠ kl k2) : has (fin2 D k1 k2) (kl s) = has D (kl s) := by
  unfold fin2
  rw [has_del_other h2, has_del_other h1, has_put_other h2, has_put_other h1]
/-- One post put, and ended. -/
def fin1 (D : DataW Unit) (k1 : ByteArray) : DataW Unit := (D.put (kl k1) tt).del (kl k1)
theorem fin1_same (D : DataW Unit) (k1 : ByteArray) : has (fin1 D k1) (kl k1) = false := has_del_same
theorem fin1_other (D : DataW Unit) (k1 s : ByteArray) (h1 : kl s ≠ kl k1) : has (fin1 D k1) (kl s) = has D (kl s) := by
  unfold fin1
  rw [has_del_other h1, has_put_other h1]

theorem off_off (x : Hk) : offOf (offOf x) = offOf x := rfl
theorem clrB_at (hs : List Hk) (b : Bool) (p i : Nat) (hi : i < hs.length) : at_ (clrB hs b p) i = if b = true ∧ i = p then offOf (at_ hs i) else at_ hs i := by
  unfold clrB
  cases b
  · simp
  · simp [clr_at hs p i hi]
theorem clr2_at (hs : List Hk) (b1 b2 : Bool) (p1 p2 i : Nat) (hi : i < hs.length) :
    at_ (clrB (clrB hs b1 p1) b2 p2) i = if (b1 = true ∧ i = p1) ∨ (b2 = true ∧ i = p2) then offOf (at_ hs i) else at_ hs i := by
  rw [clrB_at _ b2 p2 i (by rw [clrB_length]; exact hi), clrB_at hs b1 p1 i hi]
  by_cases h1 : b1 = true ∧ i = p1
  · rw [if_pos h1, if_pos (Or.inl h1 : (b1 = true ∧ i = p1) ∨ (b2 = true ∧ i = p2))]
    by_cases h2 : b2 = true ∧ i = p2
    · rw [if_pos h2, off_off]
    · rw [if_neg h2]
  · rw [if_neg h1]
    by_cases h2 : b2 = true ∧ i = p2
    · rw [if_pos h2, if_pos (Or.inr h2 : (b1 = true ∧ i = p1) ∨ (b2 = true ∧ i = p2))]
    · rw [if_neg h2, if_neg (fun h => h.elim h1 h2)]

/-- The places that zzRingIs is told. -/
def cOf (g : Bool) (p : Nat) : Int := if g then (p : Int) else -1
theorem cOf_at (g : Bool) (p i : Nat) : ((i : Int) = cOf g p) ↔ (g = true ∧ i = p) := by
  unfold cOf
  cases g <;> simp <;> omega
theorem ring2 (hs : List Hk) (b1 b2 : Bool) (p1 p2 i : Nat) (hi : i < hs.length) :
    at_ (clrB (clrB hs b1 p1) b2 p2) i = if (i : Int) = cOf b1 p1 ∨ (i : Int) = cOf b2 p2 then offOf (at_ hs i) else at_ hs i := by
  rw [clr2_at hs b1 b2 p1 p2 i hi]
  simp only [cOf_at]
theorem ring2' (hs : List Hk) (b1 b2 : Bool) (p1 p2 i : Nat) (hi : i < hs.length) :
    at_ (clrB (clrB hs b2 p2) b1 p1) i = if (i : Int) = cOf b1 p1 ∨ (i : Int) = cOf b2 p2 then offOf (at_ hs i) else at_ hs i := by
  rw [clr2_at hs b2 b1 p2 p1 i hi]
  simp only [cOf_at, Or.comm]
theorem ring1 (hs : List Hk) (b1 : Bool) (p1 i : Nat) (hi : i < hs.length) :
    at_ (clrB hs b1 p1) i = if (i : Int) = cOf b1 p1 ∨ (i : Int) = -1 then offOf (at_ hs i) else at_ hs i := by
  rw [clrB_at hs b1 p1 i hi]
  simp only [cOf_at, show ((i : Int) = -1) = False from by simp <;> omega, or_false]

theorem place_mod (n f d : Nat) (hf : f < n) (hd : d < n) : placeI (n : Int) (f : Int) (d : Int) = ((f + d) % n : Nat) := by
  unfold placeI
  by_cases h : n ≤ f + d
  · rw [if_pos (by omega), Nat.mod_eq_sub_mod h, Nat.mod_eq_of_lt (by omega)]; omega
  · rw [if_neg (by omega), Nat.mod_eq_of_lt (by omega)]; omega

theorem Tbl.only {w w' : World} {T U R T' U' R' : Nat} {hs : List Hk} {f c o : Int} {m : Nat} {D : DataW Unit} (h : Tbl w T U R hs f c o m D) (ho : Only T' U' R' w w')
    (hT : T ≠ T' ∧ T ≠ U' ∧ T ≠ R') (hU : U ≠ T' ∧ U ≠ U' ∧ U ≠ R') (hR : R ≠ T' ∧ R ≠ U' ∧ R ≠ R') : Tbl w' T U R hs f c o m D := by
  obtain ⟨l1, l2, l3⟩ := h.lt
  exact h.keep (ho.block T l1 hT.1 hT.2.1 hT.2.2) (ho.block U l2 hU.1 hU.2.1 hU.2.2) (ho.block R l3 hR.1 hR.2.1 hR.2.2)
theorem KeyAt.only {w w' : World} {K T' U' R' : Nat} {key : ByteArray} {num : Int} (h : KeyAt w K key num) (ho : Only T' U' R' w w') (hK : K ≠ T' ∧ K ≠ U' ∧ K ≠ R') : KeyAt w' K key num :=
  h.keep (ho.block K h.1 hK.1 hK.2.1 hK.2.2) ho.size
theorem KeyAt.below {w w' : World} {K B : Nat} {key : ByteArray} {num : Int} (h : KeyAt w K key num) (hb : Below B w w') (hB : w.heap.size ≤ B) : KeyAt w' K key num :=
  h.keep (hb.block K (Nat.lt_of_lt_of_le h.1 hB)) hb.size

/-- A post put under way. -/
def Putted (T U R : Nat) (hs : List Hk) (f c o : Int) (m : Nat) (D : DataW Unit) (key : ByteArray) (num : Int) (w : World) (e : Ending) (w' : World) : Prop :=
  ∃ K, e = .returned (.pointer (some ⟨K, 0, none⟩)) ∧ w.heap.size ≤ K ∧ Tbl w' T U R hs f c o (m + 1) (D.put (kl key) tt) ∧ KeyAt w' K key num ∧ Only T U R w w'
theorem zput_any (T U R : Nat) (hs : List Hk) (f c o : Int) (m : Nat) (D : DataW Unit) (key : ByteArray) (num : Int) (w : World) (hm : m < 1000000) (hsz : key.size ≤ 9223372036854775807) (hT : Tbl w T U R hs f c o m D) :
    Calls Try.prog 12 #[.pointer (some ⟨T, 0, none⟩), .string key, .int .u64 num] w (Putted T U R hs f c o m D key num w) := by
  obtain ⟨a1, a2, a3⟩ := hT.apart
  obtain ⟨L, chk, M, b1, b2, b3, b4, b5⟩ := hT
  refine (put_any T U m key num D w hm hsz b1.names b1.lt b5).mono ?_
  rintro e w' ⟨rfl, h1, h2, h3⟩
  refine ⟨w.heap.size, rfl, Nat.le_refl _, ⟨L, chk, M, b1.keep (h3.block T b1.lt (by simp; omega)), b2, b3.keep (h3.block R b3.lt (by simp; omega)), fun i hi => (b4 i hi).grown (h3.block R b3.lt (by simp; omega)), h1⟩, h2, Only.of h3 (fun b e => by simp at e; omega)⟩

theorem Tbl.of_built {hs : List Hk} {f c o : Int} {w w' : World} {e : Ending} (h : Built hs f c o w e w') : ∃ T U R, e = .returned (.pointer (some ⟨T, 0, none⟩)) ∧ Tbl w' T U R hs f c o 0 (.map []) ∧ (w.heap.size ≤ T ∧ w.heap.size ≤ U ∧ w.heap.size ≤ R) ∧ Below w.heap.size w w' := by
  obtain ⟨T, U, R, M, L, rfl, hT, hR, hH, hU, hge, hb⟩ := h
  exact ⟨T, U, R, rfl, ⟨L, _, M, hT, .inl rfl, hR, hH, Names.new hU⟩, hge, hb⟩

end Go.Proofs.Qxb6609104a

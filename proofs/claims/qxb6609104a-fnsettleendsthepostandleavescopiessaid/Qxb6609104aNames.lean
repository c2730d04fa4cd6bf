/-
  SEAT b6609104a: the names' map: ZZputUnderWay, ZZunderWay, ZZunderWayLen.
-/
import Derived.Test.Qxb6609104aCopies
import Derived.Maps.OwnSet
import Derived.Maps.OwnOps
namespace Go.Proofs.Qxb6609104a
open Go.RowKit Go.Maps Go.WideMaps
set_option linter.unusedVariables false

theorem mlaw : Keyed Try.prog 9 := string_keyed Try.underlying9
/-- How a name's post reads: some pointer. -/
def pk : Value → Option (DataW Unit × List MemPlace)
  | .pointer _ => some (.lit (.bool true), [])
  | _ => none
theorem pk_inv {v : Value} {z : DataW Unit × List MemPlace} (h : pk v = some z) : ∃ a, v = .pointer a := by
  cases v <;> simp [pk] at h
  exact ⟨_, rfl⟩
/-- Block U is the names' map, of at most m names; it reads as D. -/
def Names (w : World) (U m : Nat) (D : DataW Unit) : Prop := w.ownsMap Try.prog 9 pk U m D
def kl (s : ByteArray) : Lit := .string s.data.toList
def tt : DataW Unit := .lit (.bool true)
theorem kl_key (s : ByteArray) (hs : s.size ≤ 9223372036854775807) : keyOf Try.prog 9 (.string s) = some (kl s) := keyOf_string_mk Try.underlying9 hs
theorem zero32 (w : World) : (zeroValue 32).run Try.prog w = .ok (.pointer none) w := by kernel_rfl
theorem Names.lt {w : World} {U m : Nat} {D : DataW Unit} (h : Names w U m D) : U < w.heap.size := by
  obtain ⟨es, clock, hb, _⟩ := h
  exact (Array.getElem?_eq_some_iff.1 hb).1
theorem Names.keep {w w' : World} {U m : Nat} {D : DataW Unit} (h : Names w U m D) (hU : w'.heap[U]? = w.heap[U]?) : Names w' U m D := by
  obtain ⟨es, clock, hb, r⟩ := h
  exact ⟨es, clock, hU.trans hb, r⟩
theorem Names.ne {w : World} {U m : Nat} {D : DataW Unit} (h : Names w U m D) {a : Addr} {v : Value} (hc : w.cell? a = some v) : a.block ≠ U := by
  obtain ⟨es, clock, hb, r⟩ := h
  intro e
  obtain ⟨b, off, sp⟩ := a
  simp only at e
  subst e
  simp [World.cell?, hb] at hc
theorem Names.new {w : World} {U : Nat} (h : w.heap[U]? = some (.map #[] 0)) : Names w U 0 (.map []) :=
  ⟨#[], 0, h, ⟨by simp, by constructor <;> simp, by simp⟩, by simp, rfl⟩

/-- Block K is a post's: its key, its number. -/
def KeyAt (w : World) (K : Nat) (key : ByteArray) (num : Int) : Prop := K < w.heap.size ∧ w.cell? ⟨K, 0, none⟩ = some (.string key) ∧ w.cell? ⟨K, 38, none⟩ = some (.int .u64 num)
theorem KeyAt.keep {w w' : World} {K : Nat} {key : ByteArray} {num : Int} (h : KeyAt w K key num) (hK : w'.heap[K]? = w.heap[K]?) (hz : w.heap.size ≤ w'.heap.size) : KeyAt w' K key num := by
  obtain ⟨h1, h2, h3⟩ := h
  refine ⟨by omega, ?_⟩
  unfold World.cell? at *
  simp only [hK]
  exact ⟨h2, h3⟩

set_option maxHeartbeats 400000 in
theorem put_any (T U m : Nat) (key : ByteArray) (num : Int) (D : DataW Unit) (w : World) (hm : m < 1000000) (hs : key.size ≤ 9223372036854775807) (hT : w.cell? ⟨T, 11, none⟩ = some (.map (some U))) (hTl : T < w.heap.size) (hU : Names w U m D) :
    Calls Try.prog 12 #[.pointer (some ⟨T, 0, none⟩), .string key, .int .u64 num] w fun e w' => e = .returned (.pointer (some ⟨w.heap.size, 0, none⟩)) ∧ Names w' U (m + 1) (D.put (kl key) tt) ∧ KeyAt w' w.heap.size key num ∧ w.grownBy w' (some U) := by
  have hUl := hU.lt
  have HU := hideIt hU
  clear hU
  go_enter Try.func12, Try.ntmps12
  go_wp2_with (first
    | (at_mapUpdate; refine wpList_mapUpdate_own _ rfl _ _ _ 83 rfl 9 32 mlaw Try.underlying83 pk U m D rfl (HU.out.keep (heap_alloc_old w _ hUl)) (by unfold maxLen; omega) _ _ (kl key) rfl rfl (kl_key key hs) tt [] rfl ?_))
  intro w1 hown hg
  have HO := hideIt hown
  have HG := hideIt hg
  have c0 := hg.cell (a := ⟨w.heap.size, 0, none⟩) (v := .string key) (by simp) (by simp <;> omega)
  have c1 := hg.cell (a := ⟨w.heap.size, 38, none⟩) (v := .int .u64 num) (by simp) (by simp <;> omega)
  have hz := hg.size
  rw [World.size_alloc] at hz
  clear hown hg
  go_wp2
  go_ret
  exact ⟨rfl, HO.out, ⟨by omega, c0, c1⟩, (World.grownBy_alloc _ _ _).trans HG.out⟩

set_option maxHeartbeats 400000 in
theorem underWay_any (T U m : Nat) (key : ByteArray) (D : DataW Unit) (w : World) (hs : key.size ≤ 9223372036854775807) (hT : w.cell? ⟨T, 11, none⟩ = some (.map (some U))) (hU : Names w U m D) :
    Calls Try.prog 17 #[.pointer (some ⟨T, 0, none⟩), .string key] w fun e w' => e = .returned (.bool (Maps.has D (kl key))) ∧ w' = w := by
  have HU := hideIt hU
  clear hU
  go_enter Try.func17, Try.ntmps17
  go_wp2_with (first
    | (at_lookup; refine wpList_lookup_own_ok _ rfl _ _ 83 rfl 9 32 mlaw Try.underlying83 pk (zero32 _) tt [] rfl U m D rfl HU.out _ _ rfl (kl_key key hs) ?_))
  intro v ps hv
  obtain ⟨a, rfl⟩ := pk_inv hv
  clear hv
  obtain ⟨bo, hbo⟩ : ∃ bo, bo = Maps.has D (kl key) := ⟨_, rfl⟩
  have HBO := hideIt hbo
  rw [← hbo]
  clear hbo
  go_wp2
  go_ret
  exact ⟨ret_bool HBO.out, rfl⟩

set_option maxHeartbeats 400000 in
theorem underWayLen_any (T U m : Nat) (D : DataW Unit) (w : World) (hT : w.cell? ⟨T, 11, none⟩ = some (.map (some U))) (hU : Names w U m D) :
    Calls Try.prog 21 #[.pointer (some ⟨T, 0, none⟩)] w fun e w' => e = .returned (.int .i64 (Maps.size D)) ∧ w' = w := by
  have HU := hideIt hU
  clear hU
  go_enter Try.func21, Try.ntmps21
  go_wp2_with (first
    | (at_len; refine wpList_len_own _ rfl _ 83 rfl 9 32 Try.underlying83 pk U m D rfl HU.out ?_))
  go_wp2
  go_ret
  exact ⟨rfl, rfl⟩

end Go.Proofs.Qxb6609104a

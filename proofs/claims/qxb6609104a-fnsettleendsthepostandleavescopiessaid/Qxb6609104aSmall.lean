/-
  SEAT b6609104a: the small functions' contracts.
-/
import Derived.Test.Qxb6609104aRows
import Derived.WalkKit
import Derived.WalkSpells
import Derived.WalkLawsBesides
import Derived.Deep.QuietTactic
import Derived.BigQuiet
namespace Go.Proofs.Qxb6609104a
open Go.RowKit
set_option linter.unusedVariables false

set_option maxHeartbeats 400000 in
/-- ZZcopiesFirst. -/
theorem first_any (f : Int) (ao : Option Addr) (n c : Nat) (w : World) :
    Calls Try.prog 24 #[.agg #[.int .u64 f, .slice ao n c]] w fun e w' => e = .returned (.int .u64 f) ∧ Below w.heap.size w w' := by
  go_enter Try.func24, Try.ntmps24
  go_wp2
  go_ret
  exact ⟨rfl, (Below.refl _ _).alloc (Nat.le_refl _) _⟩

set_option maxHeartbeats 400000 in
/-- ZZcopiesLen. -/
theorem len_any (f : Int) (ao : Option Addr) (n c : Nat) (w : World) :
    Calls Try.prog 25 #[.agg #[.int .u64 f, .slice ao n c]] w fun e w' => e = .returned (.int .i64 n) ∧ Below w.heap.size w w' := by
  go_enter Try.func25, Try.ntmps25
  go_wp2
  go_ret
  exact ⟨rfl, (Below.refl _ _).alloc (Nat.le_refl _) _⟩

/-- Copy k of the row in block C. -/
def CopyAt (w : World) (C k : Nat) (x0 x1 x2 x3 : Int) : Prop :=
  C < w.heap.size ∧ w.cell? ⟨C, k * 4, none⟩ = some (.int .i64 x0) ∧ w.cell? ⟨C, k * 4 + 1, none⟩ = some (.int .i64 x1) ∧ w.cell? ⟨C, k * 4 + 2, none⟩ = some (.int .u32 x2) ∧ w.cell? ⟨C, k * 4 + 3, none⟩ = some (.int .u32 x3)
theorem CopyAt.below {w w' : World} {B C k : Nat} {x0 x1 x2 x3 : Int} (h : CopyAt w C k x0 x1 x2 x3) (hb : Below B w w') (hB : C < B) : CopyAt w' C k x0 x1 x2 x3 := by
  obtain ⟨h0, h1, h2, h3, h4⟩ := h
  exact ⟨Nat.lt_of_lt_of_le h0 hb.size, (hb.cell (p := ⟨C, k * 4, none⟩) hB).trans h1, (hb.cell (p := ⟨C, k * 4 + 1, none⟩) hB).trans h2, (hb.cell (p := ⟨C, k * 4 + 2, none⟩) hB).trans h3, (hb.cell (p := ⟨C, k * 4 + 3, none⟩) hB).trans h4⟩

set_option maxHeartbeats 400000 in
/-- ZZcopyAt. -/
theorem copyAt_any (f : Int) (C n c k : Nat) (x0 x1 x2 x3 : Int) (w : World) (hk : k < n) (hn : n ≤ 65536) (hc : CopyAt w C k x0 x1 x2 x3) :
    Calls Try.prog 26 #[.agg #[.int .u64 f, .slice (some ⟨C, 0, none⟩) n c], .int .i64 k] w fun e w' => e = .returned (.tuple #[.int .i64 x0, .int .i64 x1, .int .u32 x2, .int .u32 x3]) ∧ Below w.heap.size w w' := by
  obtain ⟨hC, c0, c1, c2, c3⟩ := hc
  go_enter Try.func26, Try.ntmps26
  go_wp2
  go_quiet (fail)
  go_wp2
  refine bodyPost_ret (v := .tuple #[.int .i64 x0, .int .i64 x1, .int .u32 x2, .int .u32 x3]) (by simp [results, Try.results26, go_sem]) rfl ⟨rfl, ?_⟩
  exact below_drewN (((Below.refl _ _).alloc (Nat.le_refl _) _).alloc (by simp) _) _

theorem ret_bool {a b : Bool} (h : a = b) : Ending.returned (.bool a) = .returned (.bool b) := by rw [h]
theorem ret_int {k : IntKind} {a b : Int} (h : a = b) : Ending.returned (.int k a) = .returned (.int k b) := by rw [h]

/-- A ring of n places holds count keys from first on. -/
def Shape (n first count : Int) : Prop := (n = 0 ∧ first = 0 ∧ count = 0) ∨ (n ≠ 0 ∧ 0 ≤ first ∧ first < n ∧ 0 ≤ count ∧ count ≤ n)

set_option maxHeartbeats 400000 in
theorem shape_yes (n first count : Int) (w : World) (h : Shape n first count) :
    Calls Try.prog 10 #[.int .i64 n, .int .i64 first, .int .i64 count] w fun e w' => e = .returned (.bool true) ∧ w' = w := by
  rcases h with ⟨rfl, rfl, rfl⟩ | ⟨h0, h1, h2, h3, h4⟩
  · go_enter Try.func10, Try.ntmps10
    go_wp2
    go_ret
    exact ⟨rfl, rfl⟩
  · have hn : (n == 0) = false := beq_eq_false_iff_ne.2 h0
    have d1 : decide (0 ≤ first) = true := by simpa using h1
    have d2 : decide (first < n) = true := by simpa using h2
    have d3 : decide (0 ≤ count) = true := by simpa using h3
    have d4 : decide (count ≤ n) = true := by simpa using h4
    go_enter Try.func10, Try.ntmps10
    go_wp2
    go_ret
    exact ⟨rfl, rfl⟩

theorem sh1 {n count : Int} (h1 : (n == 0) = true) (h : ¬ Shape n 0 count) : (count == 0) = false := by
  have : n = 0 := by simpa using h1
  rw [beq_eq_false_iff_ne]
  intro hc
  exact h (.inl ⟨this, rfl, hc⟩)
theorem sh3 {n first count : Int} (h1 : (n == 0) = false) (h2 : 0 ≤ first) (h3 : first < n) (h4 : 0 ≤ count) (h : ¬ Shape n first count) : decide (count ≤ n) = false := by
  have : n ≠ 0 := by simpa using h1
  rw [decide_eq_false_iff_not]
  intro hc
  exact h (.inr ⟨this, h2, h3, h4, hc⟩)

set_option maxHeartbeats 400000 in
theorem shape_no (n first count : Int) (w : World) (h : ¬ Shape n first count) :
    Calls Try.prog 10 #[.int .i64 n, .int .i64 first, .int .i64 count] w fun e w' => e = .returned (.bool false) ∧ w' = w := by
  have H : Hid (¬ Shape n first count) := h
  clear h
  go_enter Try.func10, Try.ntmps10
  go_wp2
  all_goals go_ret
  all_goals first
    | exact ⟨rfl, rfl⟩
    | (refine ⟨ret_bool ?_, rfl⟩; have h1 : (n == 0) = true := by assumption
       have hf : first = 0 := by assumption
       subst hf; exact sh1 h1 H.out)
    | (refine ⟨ret_bool ?_, rfl⟩; exact sh3 (by assumption) (by assumption) (by assumption) (by assumption) H.out)

/-- The place i steps on from first. -/
def placeI (n first i : Int) : Int := if n ≤ first + i then first + i - n else first + i

set_option maxHeartbeats 400000 in
theorem place_any (n first i : Int) (w : World) (h0 : 0 ≤ first) (h1 : first < n) (h2 : 0 ≤ i) (h3 : i ≤ n) (hn : n ≤ 65536) :
    Calls Try.prog 15 #[.int .i64 n, .int .i64 first, .int .i64 i] w fun e w' => e = .returned (.int .i64 (placeI n first i)) ∧ w' = w := by
  by_cases h : n ≤ first + i
  · have H : Hid (placeI n first i = first + i - n) := if_pos h
    go_enter Try.func15, Try.ntmps15
    go_wp2
    go_ret
    exact ⟨ret_int H.out.symm, rfl⟩
  · have H : Hid (placeI n first i = first + i) := if_neg h
    go_enter Try.func15, Try.ntmps15
    go_wp2
    go_ret
    exact ⟨ret_int H.out.symm, rfl⟩

/-- Some bool comes back. -/
def SomeBool (e : Ending) : Prop := ∃ bo : Bool, e = .returned (.bool bo)
theorem SomeBool.mk (bo : Bool) : SomeBool (.returned (.bool bo)) := ⟨bo, rfl⟩

set_option maxHeartbeats 400000 in
theorem bytes22_any (ao : Option Addr) (n c : Nat) (f k o t : Int) (w : World) (hn : n ≤ 9223372036854775807) :
    Calls Try.prog 22 #[.slice ao n c, .int .i64 f, .int .i64 k, .int .u64 o, .int .i64 t] w fun e w' => SomeBool e ∧ w' = w := by
  by_cases h : (1048576 : Int) < (n : Int)
  · go_enter Try.func22, Try.ntmps22
    go_wp2
    go_ret
    exact ⟨.mk _, rfl⟩
  · go_enter Try.func22, Try.ntmps22
    go_wp2
    go_ret
    exact ⟨.mk _, rfl⟩

set_option maxHeartbeats 400000 in
theorem bytes23_any (ao : Option Addr) (n c : Nat) (f k o : Int) (w : World) (hn : n ≤ 9223372036854775807) :
    Calls Try.prog 23 #[.slice ao n c, .int .i64 f, .int .i64 k, .int .u64 o] w fun e w' => SomeBool e ∧ w' = w := by
  by_cases h : (1048576 : Int) < (n : Int)
  · go_enter Try.func23, Try.ntmps23
    go_wp2
    go_ret
    exact ⟨.mk _, rfl⟩
  · go_enter Try.func23, Try.ntmps23
    go_wp2
    go_ret
    exact ⟨.mk _, rfl⟩

set_option maxHeartbeats 400000 in
/-- zzCopyIs, where the copy is the key's. -/
theorem copyIs_yes (f : Int) (C n c k : Nat) (h o a s : Int) (p : Bool) (w : World) (hk : k < n) (hn : n ≤ 65536) (hc : CopyAt w C k o 0 s 0) :
    Calls Try.prog 27 #[.agg #[.int .u64 f, .slice (some ⟨C, 0, none⟩) n c], .int .i64 k, .agg #[.int .u64 h, .int .i64 o, .int .i64 a, .int .u32 s, .bool p]] w fun e w' => e = .returned (.bool true) ∧ Below w.heap.size w w' := by
  go_enter Try.func27, Try.ntmps27
  go_wp2_with fail
  have hb0 : ∀ o1 o2 : Obj, Below w.heap.size w ((w.alloc o1).alloc o2) := fun o1 o2 => ((Below.refl _ _).alloc (Nat.le_refl _) _).alloc (by simp) _
  refine (copyAt_any f C n c k o 0 s 0 _ hk hn (hc.below (hb0 _ _) hc.1)).mono ?_
  rintro e w1 ⟨rfl, hb⟩
  have q1 : w1.cell? ⟨w.heap.size + 1, 1, none⟩ = some (.int .i64 o) := (hb.cell (p := ⟨w.heap.size + 1, 1, none⟩) (by simp)).trans (by simp)
  have q2 : w1.cell? ⟨w.heap.size + 1, 3, none⟩ = some (.int .u32 s) := (hb.cell (p := ⟨w.heap.size + 1, 3, none⟩) (by simp)).trans (by simp)
  have hb1 : Below w.heap.size w w1 := (hb0 _ _).trans (hb.mono (hb0 _ _).size)
  clear hb hb0 hc
  go_wp2
  go_ret
  exact ⟨rfl, hb1⟩

end Go.Proofs.Qxb6609104a

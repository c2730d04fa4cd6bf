/-
  SEAT b6609104a: the key table in memory; ZZnewKeyTable, ZZsetHeld, zzNewTable.
-/
import Derived.Test.Qxb6609104aSmall
namespace Go.Proofs.Qxb6609104a
open Go.RowKit
set_option linter.unusedVariables false

theorem Try.info99 : (Try.prog.info? 99).map (fun i => (i.zero, i.size, i.bytes)) = some (some (.agg #[.int .u64 0, .int .i64 0, .int .i64 0, .int .u32 0, .bool false]), 5, 40) := by kernel_rfl

/-- One place of a ring. -/
structure Hk where
  h : Int
  o : Int
  a : Int
  s : Int
  p : Bool

/-- Place i of the row in block R, from offset q on, holds x. -/
def HeldAt (w : World) (R q : Nat) (x : Hk) : Prop :=
  w.cell? ⟨R, q, none⟩ = some (.int .u64 x.h) ∧ w.cell? ⟨R, q + 1, none⟩ = some (.int .i64 x.o) ∧ w.cell? ⟨R, q + 2, none⟩ = some (.int .i64 x.a) ∧ w.cell? ⟨R, q + 3, none⟩ = some (.int .u32 x.s) ∧ w.cell? ⟨R, q + 4, none⟩ = some (.bool x.p)

/-- Block R is a row of n places. -/
def RingRow (w : World) (R n : Nat) : Prop := ∃ cur : Array Value, w.heap[R]? = some (.cells cur 99 (0, 0)) ∧ cur.size = n * 5

/-- The cells of a table: its mutex's state st, its condition's lock L and checker chk, the names' map U, the ring's row R, the hashes' map M. -/
def tab (n : Nat) (st : Int) (L chk : Value) (U R M : Nat) (first count oldest : Int) : Array Value :=
  #[.int .i64 n, .int .u64 0, .int .i32 st, .int .u32 0, L, .int .u32 0, .int .u32 0, .int .u64 0, .pointer none, .pointer none, chk, .map (some U), .slice (some ⟨R, 0, none⟩) n n, .int .i64 first, .int .i64 count, .int .u64 oldest, .map (some M)]

def TabAt (w : World) (T : Nat) (st : Int) (L chk : Value) (U R M n : Nat) (f c o : Int) : Prop := w.heap[T]? = some (.cells (tab n st L chk U R M f c o) 87 (0, 0))

theorem row_of_owns {w : World} {base e size g n : Nat} {xs : List Value} (h : w.ownsRow base e size (.slice (some ⟨g, 0, none⟩) n n) n xs) : ∃ cur : Array Value, w.heap[g]? = some (.cells cur e (0, 0)) ∧ cur.size = n * size ∧ base ≤ g ∧ g < w.heap.size := by
  have hl := World.ownsRow.lt h g rfl
  rcases h with ⟨h1, h2 | ⟨g', cap', cur, e, h3, h4, h5, h6, h7, h8⟩⟩
  · simp at h2
  · simp only [Value.slice.injEq, Option.some.injEq, Addr.mk.injEq, and_true, true_and] at e
    obtain ⟨rfl, rfl⟩ := e
    exact ⟨cur, h4, h7, hl.1, hl.2⟩

/-- A new table: where it lies, what it holds. -/
def NewTab (n : Nat) (f c o : Int) (w : World) (e : Ending) (w' : World) : Prop :=
  ∃ T U R M L, e = .returned (.pointer (some ⟨T, 0, none⟩)) ∧ TabAt w' T 0 L (.int .u64 0) U R M n f c o ∧ RingRow w' R n ∧ w'.heap[U]? = some (.map #[] 0) ∧ (w.heap.size ≤ T ∧ w.heap.size ≤ U ∧ w.heap.size ≤ R) ∧ Below w.heap.size w w'

set_option maxHeartbeats 400000 in
theorem newKey_any (n : Nat) (first count oldest : Int) (w : World) (hn : n ≤ 65536) :
    Calls Try.prog 28 #[.int .i64 n, .int .i64 first, .int .i64 count, .int .u64 oldest] w (NewTab n first count oldest w) := by
  obtain ⟨i0, hi, hz0, hz1, hz2⟩ := info_parts Try.info99
  have hmm := @run_makeMap Try.prog
  go_enter Try.func28, Try.ntmps28
  go_wp2_with (first
    | (at_make; refine wpList_make_full _ rfl _ _ 84 rfl w.heap.size 99 i0 _ 5 Try.underlying84 hi hz0 hz1 .i64 .i64 _ _ n rfl rfl rfl rfl (by rw [hz2]; omega) (by unfold maxLen; omega) (by simp) ?_))
  intro w1 hown1 hg1
  obtain ⟨cur, hcur, hsz, _, hlt⟩ := row_of_owns hown1
  have hU : w1.heap[w.heap.size]? = some (.map #[] 0) := by
    rw [hg1.block w.heap.size (by simp) (by simp)]; exact heap_alloc_new w _
  have hb1 : Below w.heap.size w w1 := ((Below.refl _ _).alloc (Nat.le_refl _) _).grown hg1 (by simp) (fun j hj => by cases hj)
  have HC : Hid (w1.heap[w.heap.size + 1]? = some (.cells cur 99 (0, 0))) := hcur
  have HU : Hid (w1.heap[w.heap.size]? = some (.map #[] 0)) := hU
  clear hown1 hg1 hcur hU
  go_wp2
  go_ret
  refine ⟨w1.heap.size + 1, w.heap.size, w.heap.size + 1, w1.heap.size, .iface 95 (.pointer (some ⟨w1.heap.size + 1, 2, none⟩)), rfl, ?_, ⟨cur, ?_, hsz⟩, ?_, ⟨by omega, by omega, by omega⟩, ?_⟩
  · have := heap_alloc_new (w1.alloc (.map #[] 0)) (.cells (tab n 0 (.iface 95 (.pointer (some ⟨w1.heap.size + 1, 2, none⟩))) (.int .u64 0) w.heap.size (w.heap.size + 1) w1.heap.size first count oldest) 87)
    rw [World.size_alloc] at this
    exact this
  · rw [heap_alloc_old _ _ (by simp; omega), heap_alloc_old _ _ hlt]; exact HC.out
  · rw [heap_alloc_old _ _ (by simp; omega), heap_alloc_old _ _ (by omega)]; exact HU.out
  · exact (hb1.alloc (by omega) _).alloc (by simp; omega) _

/-- Cells of a table, read. -/
theorem TabAt.ring {w : World} {T : Nat} {st : Int} {L chk : Value} {U R M n : Nat} {f c o : Int} (h : TabAt w T st L chk U R M n f c o) : w.cell? ⟨T, 12, none⟩ = some (.slice (some ⟨R, 0, none⟩) n n) := by simp [World.cell?, show w.heap[T]? = _ from h, tab]

theorem HeldAt.grown {w w' : World} {R q : Nat} {x : Hk} (h : HeldAt w R q x) (hR : w'.heap[R]? = w.heap[R]?) : HeldAt w' R q x := by
  unfold HeldAt World.cell? at *
  simpa only [hR] using h

theorem RingRow.cell {w : World} {R n : Nat} (h : RingRow w R n) (q : Nat) (hq : q < n * 5) : ∃ v, w.cell? ⟨R, q, none⟩ = some v := by
  obtain ⟨cur, h1, h2⟩ := h
  exact ⟨cur[q]'(by omega), by simp [World.cell?, h1, h2, hq]⟩
theorem RingRow.free {w : World} {R n : Nat} (h : RingRow w R n) (q : Nat) : w.frozen? ⟨R, q, none⟩ = false := by
  obtain ⟨cur, h1, h2⟩ := h
  simp [World.frozen?, h1]
theorem RingRow.set {w : World} {R n : Nat} (h : RingRow w R n) (q : Nat) (v : Value) : RingRow (w.setCell ⟨R, q, none⟩ v) R n := by
  obtain ⟨cur, h1, h2⟩ := h
  exact ⟨_, heap_setCell_same w R q cur 99 v h1, by simpa using h2⟩

/-- A place stored. -/
def set5 (w : World) (R q : Nat) (x : Hk) : World :=
  ((((w.setCell ⟨R, q, none⟩ (.int .u64 x.h)).setCell ⟨R, q + 1, none⟩ (.int .i64 x.o)).setCell ⟨R, q + 2, none⟩ (.int .i64 x.a)).setCell ⟨R, q + 3, none⟩ (.int .u32 x.s)).setCell ⟨R, q + 4, none⟩ (.bool x.p)
theorem set5_other (w : World) (R q : Nat) (x : Hk) (b p : Nat) (h : b ≠ R ∨ p < q ∨ q + 5 ≤ p) : (set5 w R q x).cell? ⟨b, p, none⟩ = w.cell? ⟨b, p, none⟩ := by
  unfold set5
  rw [World.cell?_setCell_other _ _ _ _ (by simp; omega), World.cell?_setCell_other _ _ _ _ (by simp; omega), World.cell?_setCell_other _ _ _ _ (by simp; omega), World.cell?_setCell_other _ _ _ _ (by simp; omega), World.cell?_setCell_other _ _ _ _ (by simp; omega)]
theorem set5_block (w : World) (R q : Nat) (x : Hk) (b : Nat) (h : b ≠ R) : (set5 w R q x).heap[b]? = w.heap[b]? := by
  unfold set5
  rw [heap_setCell_other _ _ _ _ h, heap_setCell_other _ _ _ _ h, heap_setCell_other _ _ _ _ h, heap_setCell_other _ _ _ _ h, heap_setCell_other _ _ _ _ h]
theorem set5_row {w : World} {R n : Nat} (h : RingRow w R n) (q : Nat) (x : Hk) : RingRow (set5 w R q x) R n := ((((h.set _ _).set _ _).set _ _).set _ _).set _ _
theorem set5_held {w : World} {R n : Nat} (h : RingRow w R n) (q : Nat) (x : Hk) (hq : q + 5 ≤ n * 5) : HeldAt (set5 w R q x) R q x := by
  unfold set5
  refine ⟨?_, ?_, ?_, ?_, ?_⟩
  · obtain ⟨v, hv⟩ := h.cell q (by omega)
    rw [World.cell?_setCell_other _ _ _ _ (by simp), World.cell?_setCell_other _ _ _ _ (by simp), World.cell?_setCell_other _ _ _ _ (by simp), World.cell?_setCell_other _ _ _ _ (by simp)]
    exact World.cell?_setCell_same _ _ _ hv
  · obtain ⟨v, hv⟩ := (h.set q (.int .u64 x.h)).cell (q + 1) (by omega)
    rw [World.cell?_setCell_other _ _ _ _ (by simp), World.cell?_setCell_other _ _ _ _ (by simp), World.cell?_setCell_other _ _ _ _ (by simp)]
    exact World.cell?_setCell_same _ _ _ hv
  · obtain ⟨v, hv⟩ := ((h.set q (.int .u64 x.h)).set (q + 1) (.int .i64 x.o)).cell (q + 2) (by omega)
    rw [World.cell?_setCell_other _ _ _ _ (by simp), World.cell?_setCell_other _ _ _ _ (by simp)]
    exact World.cell?_setCell_same _ _ _ hv
  · obtain ⟨v, hv⟩ := (((h.set q (.int .u64 x.h)).set (q + 1) (.int .i64 x.o)).set (q + 2) (.int .i64 x.a)).cell (q + 3) (by omega)
    rw [World.cell?_setCell_other _ _ _ _ (by simp)]
    exact World.cell?_setCell_same _ _ _ hv
  · obtain ⟨v, hv⟩ := ((((h.set q (.int .u64 x.h)).set (q + 1) (.int .i64 x.o)).set (q + 2) (.int .i64 x.a)).set (q + 3) (.int .u32 x.s)).cell (q + 4) (by omega)
    exact World.cell?_setCell_same _ _ _ hv
theorem grown_setCell (w : World) (R q : Nat) (v : Value) : w.grownBy (w.setCell ⟨R, q, none⟩ v) (some R) :=
  ⟨rfl, rfl, rfl, by simp, fun i hi hne => heap_setCell_other w _ i v (fun e => hne (by rw [e]))⟩
theorem set5_grown (w : World) (R q : Nat) (x : Hk) : w.grownBy (set5 w R q x) (some R) :=
  ((((grown_setCell _ _ _ _).trans (grown_setCell _ _ _ _)).trans (grown_setCell _ _ _ _)).trans (grown_setCell _ _ _ _)).trans (grown_setCell _ _ _ _)
theorem set5_size (w : World) (R q : Nat) (x : Hk) : (set5 w R q x).heap.size = w.heap.size := by simp [set5]

set_option maxHeartbeats 400000 in
theorem setHeld_any (T R n i : Nat) (x : Hk) (w : World) (hn : n ≤ 65536) (hi : i < n) (hT : w.cell? ⟨T, 12, none⟩ = some (.slice (some ⟨R, 0, none⟩) n n)) (hR : RingRow w R n) :
    Calls Try.prog 29 #[.pointer (some ⟨T, 0, none⟩), .int .i64 i, .int .u64 x.h, .int .i64 x.o, .int .i64 x.a, .int .u32 x.s, .bool x.p] w fun e w' => e = .returned (.tuple #[]) ∧ w' = set5 w R (i * 5) x := by
  obtain ⟨v0, c0⟩ := hR.cell (i * 5) (by omega)
  obtain ⟨v1, c1⟩ := hR.cell (i * 5 + 1) (by omega)
  obtain ⟨v2, c2⟩ := hR.cell (i * 5 + 2) (by omega)
  obtain ⟨v3, c3⟩ := hR.cell (i * 5 + 3) (by omega)
  obtain ⟨v4, c4⟩ := hR.cell (i * 5 + 4) (by omega)
  have f0 := hR.free (i * 5)
  have f1 := hR.free (i * 5 + 1)
  have f2 := hR.free (i * 5 + 2)
  have f3 := hR.free (i * 5 + 3)
  have f4 := hR.free (i * 5 + 4)
  go_enter Try.func29, Try.ntmps29
  go_wp2
  go_end0
  exact ⟨rfl, rfl⟩

end Go.Proofs.Qxb6609104a

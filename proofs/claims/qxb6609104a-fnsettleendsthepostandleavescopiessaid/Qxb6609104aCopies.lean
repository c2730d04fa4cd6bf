/-
  SEAT b6609104a: keyTable.copies and ZZcopies.
-/
import Derived.Test.Qxb6609104aNumbered
import Derived.Test.Qxb6609104aLocks
import Derived.Conc.MuLone
import Derived.Deep.RegionHeld3
import Derived.Deep.CutRange
namespace Go.Proofs.Qxb6609104a
open Go.RowKit Go.MuLone
set_option linter.unusedVariables false

theorem Try.info94 : (Try.prog.info? 94).map (fun i => (i.zero, i.size, i.bytes)) = some (some (.agg #[.int .i64 0, .int .i64 0, .int .u32 0, .int .u32 0]), 4, 24) := by kernel_rfl

/-- What make lays for n copies. -/
def made4 (n : Nat) : Array Value := madeCells #[.int .i64 0, .int .i64 0, .int .u32 0, .int .u32 0] (n * 4)
theorem made4_size (n : Nat) : (made4 n).size = n * 4 := size_madeCells _ _
theorem make4 (n : Nat) (hn : n ≤ 65536) (W : World) : (Instr.makeSlice 34 (.int .i64 n) (.int .i64 n)).run Try.prog W = .ok (.slice (some ⟨W.heap.size, 0, none⟩) n n) (W.alloc (.cells (made4 n) 94)) := by
  obtain ⟨i0, hi, hz0, hz1, hz2⟩ := info_parts Try.info94
  have h := run_make (P := Try.prog) W 34 94 i0 _ Try.underlying34 hi hz0 .i64 .i64 n n (by omega) (Int.le_refl _) (by rw [hz2]; omega) (by omega)
  rw [hz1, Int.toNat_natCast] at h
  exact h

theorem TabAt.lock {w : World} {T : Nat} {st st' : Int} {L chk : Value} {U R M n : Nat} {f c o : Int} (h : TabAt w T st L chk U R M n f c o) : TabAt (w.setCell ⟨T, 2, none⟩ (.int .i32 st')) T st' L chk U R M n f c o := by
  have := heap_setCell_same w T 2 _ 87 (.int .i32 st') h
  exact this
theorem TabAt.grown {w w' : World} {T : Nat} {st : Int} {L chk : Value} {U R M n : Nat} {f c o : Int} {row : Option Nat} (h : TabAt w T st L chk U R M n f c o) (hg : w.grownBy w' row) (hne : row ≠ some T) : TabAt w' T st L chk U R M n f c o :=
  h.keep (hg.block T h.lt (Ne.symm hne))
theorem RingRow.grown {w w' : World} {R n : Nat} {row : Option Nat} (h : RingRow w R n) (hg : w.grownBy w' row) (hne : row ≠ some R) : RingRow w' R n := h.keep (hg.block R h.lt (Ne.symm hne))

/-- Row C of copies: room for n. -/
def CopyRow (w : World) (C n : Nat) : Prop := ∃ cur : Array Value, w.heap[C]? = some (.cells cur 94 (0, 0)) ∧ cur.size = n * 4
theorem CopyRow.lt {w : World} {C n : Nat} (h : CopyRow w C n) : C < w.heap.size := by
  obtain ⟨cur, h1, h2⟩ := h
  exact (Array.getElem?_eq_some_iff.1 h1).1
theorem CopyRow.cell {w : World} {R n : Nat} (h : CopyRow w R n) (q : Nat) (hq : q < n * 4) : ∃ v, w.cell? ⟨R, q, none⟩ = some v := by
  obtain ⟨cur, h1, h2⟩ := h
  exact ⟨cur[q]'(by omega), by simp [World.cell?, h1, h2, hq]⟩
theorem CopyRow.free {w : World} {R n : Nat} (h : CopyRow w R n) (q : Nat) : w.frozen? ⟨R, q, none⟩ = false := by
  obtain ⟨cur, h1, h2⟩ := h
  simp [World.frozen?, h1]
theorem CopyRow.keep {w w' : World} {R n : Nat} (h : CopyRow w R n) (hR : w'.heap[R]? = w.heap[R]?) : CopyRow w' R n := by
  unfold CopyRow at *; rw [hR]; exact h
theorem CopyRow.set {w : World} {R n : Nat} (h : CopyRow w R n) (q : Nat) (v : Value) : CopyRow (w.setCell ⟨R, q, none⟩ v) R n := by
  obtain ⟨cur, h1, h2⟩ := h
  exact ⟨_, heap_setCell_same w R q cur 94 v h1, by simpa using h2⟩

theorem grown_drew (w : World) (row : Option Nat) : w.grownBy w.drew row := ⟨rfl, rfl, rfl, Nat.le_refl _, fun _ _ _ => rfl⟩
theorem grown_drewN (w : World) (n : Nat) (row : Option Nat) : w.grownBy (w.drewN n) row := ⟨rfl, rfl, rfl, Nat.le_refl _, fun _ _ _ => rfl⟩
theorem grown_but {a c : World} (h : a.grownBy c none) (row : Option Nat) : a.grownBy c row := ⟨h.os, h.tape, h.output, h.size, fun i hi _ => h.block i hi (by simp)⟩

theorem alloc2_new (w : World) (a b : Obj) : ((w.alloc a).alloc b).heap[w.heap.size + 1]? = some b := by
  have := heap_alloc_new (w.alloc a) b
  rwa [World.size_alloc] at this
theorem hideIt {p : Prop} (h : p) : Hid p := h

/-- A copy stored. -/
def set4 (w : World) (R q : Nat) (x0 x1 x2 x3 : Int) : World :=
  (((w.setCell ⟨R, q, none⟩ (.int .i64 x0)).setCell ⟨R, q + 1, none⟩ (.int .i64 x1)).setCell ⟨R, q + 2, none⟩ (.int .u32 x2)).setCell ⟨R, q + 3, none⟩ (.int .u32 x3)
theorem set4_other (w : World) (R q : Nat) (x0 x1 x2 x3 : Int) (b p : Nat) (h : b ≠ R ∨ p < q ∨ q + 4 ≤ p) : (set4 w R q x0 x1 x2 x3).cell? ⟨b, p, none⟩ = w.cell? ⟨b, p, none⟩ := by
  unfold set4
  rw [World.cell?_setCell_other _ _ _ _ (by simp; omega), World.cell?_setCell_other _ _ _ _ (by simp; omega), World.cell?_setCell_other _ _ _ _ (by simp; omega), World.cell?_setCell_other _ _ _ _ (by simp; omega)]
theorem set4_block (w : World) (R q : Nat) (x0 x1 x2 x3 : Int) (b : Nat) (h : b ≠ R) : (set4 w R q x0 x1 x2 x3).heap[b]? = w.heap[b]? := by
  unfold set4
  rw [heap_setCell_other _ _ _ _ h, heap_setCell_other _ _ _ _ h, heap_setCell_other _ _ _ _ h, heap_setCell_other _ _ _ _ h]
theorem set4_row {w : World} {R n : Nat} (h : CopyRow w R n) (q : Nat) (x0 x1 x2 x3 : Int) : CopyRow (set4 w R q x0 x1 x2 x3) R n := (((h.set _ _).set _ _).set _ _).set _ _
theorem set4_size (w : World) (R q : Nat) (x0 x1 x2 x3 : Int) : (set4 w R q x0 x1 x2 x3).heap.size = w.heap.size := by simp [set4]
theorem set4_grown (w : World) (R q : Nat) (x0 x1 x2 x3 : Int) : w.grownBy (set4 w R q x0 x1 x2 x3) (some R) :=
  (((grown_setCell _ _ _ _).trans (grown_setCell _ _ _ _)).trans (grown_setCell _ _ _ _)).trans (grown_setCell _ _ _ _)
theorem set4_at {w : World} {R n : Nat} (h : CopyRow w R n) (k : Nat) (x0 x1 x2 x3 : Int) (hk : k < n) : CopyAt (set4 w R (k * 4) x0 x1 x2 x3) R k x0 x1 x2 x3 := by
  refine ⟨by rw [set4_size]; exact h.lt, ?_, ?_, ?_, ?_⟩ <;> unfold set4
  · obtain ⟨v, hv⟩ := h.cell (k * 4) (by omega)
    rw [World.cell?_setCell_other _ _ _ _ (by simp), World.cell?_setCell_other _ _ _ _ (by simp), World.cell?_setCell_other _ _ _ _ (by simp)]
    exact World.cell?_setCell_same _ _ _ hv
  · obtain ⟨v, hv⟩ := (h.set (k * 4) (.int .i64 x0)).cell (k * 4 + 1) (by omega)
    rw [World.cell?_setCell_other _ _ _ _ (by simp), World.cell?_setCell_other _ _ _ _ (by simp)]
    exact World.cell?_setCell_same _ _ _ hv
  · obtain ⟨v, hv⟩ := ((h.set (k * 4) (.int .i64 x0)).set (k * 4 + 1) (.int .i64 x1)).cell (k * 4 + 2) (by omega)
    rw [World.cell?_setCell_other _ _ _ _ (by simp)]
    exact World.cell?_setCell_same _ _ _ hv
  · obtain ⟨v, hv⟩ := (((h.set (k * 4) (.int .i64 x0)).set (k * 4 + 1) (.int .i64 x1)).set (k * 4 + 2) (.int .u32 x2)).cell (k * 4 + 3) (by omega)
    exact World.cell?_setCell_same _ _ _ hv
theorem set4_keeps {w : World} {R k k' : Nat} {x0 x1 x2 x3 y0 y1 y2 y3 : Int} (h : CopyAt w R k' y0 y1 y2 y3) (hd : k' ≠ k) : CopyAt (set4 w R (k * 4) x0 x1 x2 x3) R k' y0 y1 y2 y3 := by
  obtain ⟨d, d0, d1, d2, d3⟩ := h
  exact ⟨by rw [set4_size]; exact d, (set4_other _ _ _ _ _ _ _ _ _ (by omega)).trans d0, (set4_other _ _ _ _ _ _ _ _ _ (by omega)).trans d1, (set4_other _ _ _ _ _ _ _ _ _ (by omega)).trans d2, (set4_other _ _ _ _ _ _ _ _ _ (by omega)).trans d3⟩
theorem CopyAt.keep {w w' : World} {R k : Nat} {y0 y1 y2 y3 : Int} (h : CopyAt w R k y0 y1 y2 y3) (hR : w'.heap[R]? = w.heap[R]?) (hz : w.heap.size ≤ w'.heap.size) : CopyAt w' R k y0 y1 y2 y3 := by
  obtain ⟨d, d0, d1, d2, d3⟩ := h
  refine ⟨by omega, ?_⟩
  unfold World.cell? at *
  simp only [hR]
  exact ⟨d0, d1, d2, d3⟩

/-- Copy i of the keys held from place f on. -/
def CopyOf (hs : List Hk) (n f : Nat) (w : World) (C i : Nat) : Prop := CopyAt w C i (at_ hs ((f + i) % n)).o 0 (at_ hs ((f + i) % n)).s 0

/-- What copies hands back. -/
def Copied (hs : List Hk) (n f cnt : Nat) (o : Int) (w : World) (e : Ending) (w' : World) : Prop :=
  ∃ C, e = .returned (.agg #[.int .u64 o, .slice (some ⟨C, 0, none⟩) cnt cnt]) ∧ w.heap.size ≤ C ∧ C < w'.heap.size ∧ (∀ i, i < cnt → CopyOf hs n f w' C i) ∧ Below w.heap.size w w'

theorem step_copy {hs : List Hk} {n f cnt k C : Nat} {W w : World} {x : Hk} {ob : Obj} (hC : CopyRow w C cnt) (hk : k < cnt) (hc : ∀ i, i < k → CopyOf hs n f w C i) (hx : x = at_ hs ((f + k) % n)) (hg : W.grownBy w (some C)) :
    CopyRow ((set4 w C (k * 4) x.o 0 x.s 0).alloc ob) C cnt ∧ (∀ i, i < k + 1 → CopyOf hs n f ((set4 w C (k * 4) x.o 0 x.s 0).alloc ob) C i) ∧ W.grownBy ((set4 w C (k * 4) x.o 0 x.s 0).alloc ob) (some C) := by
  have hb : ((set4 w C (k * 4) x.o 0 x.s 0).alloc ob).heap[C]? = (set4 w C (k * 4) x.o 0 x.s 0).heap[C]? := heap_alloc_old _ _ (by rw [set4_size]; exact hC.lt)
  refine ⟨(set4_row hC _ _ _ _ _).keep hb, fun i hi => ?_, (hg.trans (set4_grown _ _ _ _ _ _ _)).trans (World.grownBy_alloc _ _ _)⟩
  by_cases hik : i = k
  · subst hik
    unfold CopyOf
    rw [← hx]
    exact (set4_at hC i _ _ _ _ hk).keep hb (by simp)
  · exact (set4_keeps (hc i (by omega)) hik).keep hb (by simp)

theorem fin_copy {hs : List Hk} {n f cnt C T : Nat} {L chk : Value} {U R M : Nat} {o fI cI : Int} {w w1 wr : World} (hT0 : TabAt w T 0 L chk U R M n fI cI o) (hTr : TabAt wr T 1 L chk U R M n fI cI o) (hg1 : w.grownBy w1 (some T)) (hgr : w1.grownBy wr (some C))
    (hlt : w.heap.size < w1.heap.size) (hC : w1.heap.size ≤ C) (hCl : C < wr.heap.size) (hc : ∀ i, i < cnt → CopyOf hs n f wr C i) :
    Copied hs n f cnt o w (.returned (.agg #[.int .u64 o, .slice (some ⟨C, 0, none⟩) cnt cnt])) (((wr.setCell ⟨w.heap.size, 0, none⟩ (.int .u64 o)).setCell ⟨w.heap.size, 1, none⟩ (.slice (some ⟨C, 0, none⟩) cnt cnt)).setCell ⟨T, 2, none⟩ (.int .i32 0)) := by
  have hTl := hT0.lt
  have hblk : ∀ b, b ≠ T → b ≠ w.heap.size → (((wr.setCell ⟨w.heap.size, 0, none⟩ (.int .u64 o)).setCell ⟨w.heap.size, 1, none⟩ (.slice (some ⟨C, 0, none⟩) cnt cnt)).setCell ⟨T, 2, none⟩ (.int .i32 0)).heap[b]? = wr.heap[b]? := by
    intro b h1 h2
    rw [heap_setCell_other _ _ _ _ h1, heap_setCell_other _ _ _ _ h2, heap_setCell_other _ _ _ _ h2]
  have hTt : TabAt ((wr.setCell ⟨w.heap.size, 0, none⟩ (.int .u64 o)).setCell ⟨w.heap.size, 1, none⟩ (.slice (some ⟨C, 0, none⟩) cnt cnt)) T 1 L chk U R M n fI cI o :=
    hTr.keep (by rw [heap_setCell_other _ _ _ _ (by simp; omega), heap_setCell_other _ _ _ _ (by simp; omega)])
  have hTf := hTt.lock (st' := 0)
  refine ⟨C, rfl, by omega, by simpa using hCl, fun i hi => CopyAt.keep (hc i hi) (hblk C (by omega) (by omega)) (by simp), ?_⟩
  refine ⟨hgr.os.trans hg1.os, hgr.tape.trans hg1.tape, hgr.output.trans hg1.output, ?_, fun b hb => ?_⟩
  · have := hg1.size; have := hgr.size; simp; omega
  · by_cases e : b = T
    · subst e
      exact hTf.trans hT0.symm
    · rw [hblk b e (by omega), hgr.block b (by omega) (by simp; omega), hg1.block b hb (by simpa using e)]

theorem wrap_back (o : Int) (k : Nat) (hk : k ≤ 65536) (h0 : 0 ≤ o) (h1 : o < 18446744073709551616) : IntKind.u64.wrap (IntKind.u64.wrap (o + (k : Int)) - o) = (k : Int) := by
  rw [IntKind.wrap_u64, IntKind.wrap_u64]; omega

set_option maxHeartbeats 2000000 in
theorem copies_any (T U R M n f cnt : Nat) (L chk : Value) (o : Int) (hs : List Hk) (w : World) (hn : n ≤ 65536) (hcnt : cnt ≤ n) (hf : f < n ∨ n = 0) (ho0 : 0 ≤ o) (ho1 : o < 18446744073709551616)
    (hT : TabAt w T 0 L chk U R M n f cnt o) (hR : RingRow w R n) (hH : ∀ i, i < n → HeldAt w R (i * 5) (at_ hs i)) :
    Calls Try.prog 30 #[.pointer (some ⟨T, 0, none⟩)] w (Copied hs n f cnt o w) := by
  have hmk := make4 cnt (by omega)
  have hTl := hT.lt
  have hRl := hR.lt
  have hTR := hT.ne hR
  have s0 : ∀ ob, (w.alloc ob).cell? ⟨T, 2, none⟩ = some (.int .i32 0) := fun ob => by rw [World.cell?_alloc_past _ _ _ (by simpa using hTl)]; exact hT.state
  have f0 : ∀ ob, (w.alloc ob).frozen? ⟨T, 2, none⟩ = false := fun ob => (hT.keep (heap_alloc_old w ob hTl)).free 2
  have HH : Hid (∀ i, i < n → HeldAt w R (i * 5) (at_ hs i)) := hH
  have HT0 : Hid (TabAt w T 0 L chk U R M n f cnt o) := hT
  clear hH
  go_enter_defers Try.func30, Try.ntmps30
  go_wp2_with fail
  refine (lock_free muLib ⟨T, 2, none⟩ _ (s0 _) (f0 _)).mono ?_
  rintro e w1 ⟨rfl, hw1⟩
  have hz1 : w1.heap.size = w.heap.size + 1 := by rw [hw1]; simp
  have hT1 : TabAt w1 T 1 L chk U R M n f cnt o := by rw [hw1]; exact (hT.keep (heap_alloc_old w _ hTl)).lock
  have hg1 : w.grownBy w1 (some T) := by rw [hw1]; exact (World.grownBy_alloc w _ _).trans (grown_setCell _ _ _ _)
  have hX1 : w1.heap[w.heap.size]? = some (.cells #[.int .u64 0, .slice none 0 0] 36 (0, 0)) := by
    rw [hw1, heap_setCell_other _ _ _ _ (by simp; omega)]; exact heap_alloc_new w _
  clear hw1 s0 f0 hT
  have c14 := hT1.count
  have c15 := hT1.oldest
  have hTl1 := hT1.lt
  have HZ1 : Hid (w1.heap.size = w.heap.size + 1) := hz1
  have HX1 : Hid (w1.heap[w.heap.size]? = some (.cells #[.int .u64 0, .slice none 0 0] 36 (0, 0))) := hX1
  have hlt1 : w.heap.size < w1.heap.size := by omega
  clear hz1 hX1
  go_wp2
  go_region_held3 (fun w' => w'.cell? ⟨T, 14, none⟩ = some (.int .i64 cnt) ∧ w'.cell? ⟨T, 15, none⟩ = some (.int .u64 o)) (go_keep) (fail)
  all_goals go_wp2
  all_goals clear hmk c14 c15
  · have hgW : w1.grownBy ((w1.alloc (.cells (made4 cnt) 94)).alloc (.cells #[.int .u64 o, .slice (some ⟨w1.heap.size, 0, none⟩) cnt cnt] 36)).drew none := ((World.grownBy_alloc _ _ _).trans (World.grownBy_alloc _ _ _)).trans (grown_drew _ _)
    have hXW : ((w1.alloc (.cells (made4 cnt) 94)).alloc (.cells #[.int .u64 o, .slice (some ⟨w1.heap.size, 0, none⟩) cnt cnt] 36)).drew.heap[w1.heap.size + 1]? = some (.cells #[.int .u64 o, .slice (some ⟨w1.heap.size, 0, none⟩) cnt cnt] 36 (0, 0)) := alloc2_new _ _ _
    have hCW : CopyRow ((w1.alloc (.cells (made4 cnt) 94)).alloc (.cells #[.int .u64 o, .slice (some ⟨w1.heap.size, 0, none⟩) cnt cnt] 36)).drew (w1.heap.size) cnt := ⟨made4 cnt, (heap_alloc_old _ _ (by simp)).trans (heap_alloc_new _ _), made4_size cnt⟩
    have hXl : w1.heap.size ≤ w1.heap.size + 1 := by omega
    have hCl : w1.heap.size ≤ w1.heap.size := by omega
    have hXC : w1.heap.size + 1 ≠ w1.heap.size := by omega
    have hXu : w1.heap.size + 1 ≤ w1.heap.size + 1 := by omega
    have hCu : w1.heap.size ≤ w1.heap.size + 1 := by omega
    have HXW : Hid (((w1.alloc (.cells (made4 cnt) 94)).alloc (.cells #[.int .u64 o, .slice (some ⟨w1.heap.size, 0, none⟩) cnt cnt] 36)).drew.heap[w1.heap.size + 1]? = some (.cells #[.int .u64 o, .slice (some ⟨w1.heap.size, 0, none⟩) cnt cnt] 36 (0, 0))) := hXW
    clear hXW
    go_loopw [26] (fun i wr => ∃ k : Nat, k ≤ cnt ∧ i = .int .i64 k ∧ CopyRow wr (w1.heap.size) cnt ∧ (∀ i, i < k → CopyOf hs n f wr (w1.heap.size) i) ∧ ((w1.alloc (.cells (made4 cnt) 94)).alloc (.cells #[.int .u64 o, .slice (some ⟨w1.heap.size, 0, none⟩) cnt cnt] 36)).drew.grownBy wr (some (w1.heap.size)))
      (fun i _ => cnt - (intOf i).toNat)
    case atStart => exact ⟨0, Nat.zero_le _, rfl, hCW, fun i hi => absurd hi (by omega), World.grownBy.refl _ _⟩
    case round =>
      obtain ⟨k, hk, rfl, hCk, hcop, hgk⟩ := hrel
      have hgr : w1.grownBy wr (some (w1.heap.size)) := (grown_but hgW _).trans hgk
      have hzr := hgk.size
      rw [show ((w1.alloc (.cells (made4 cnt) 94)).alloc (.cells #[.int .u64 o, .slice (some ⟨w1.heap.size, 0, none⟩) cnt cnt] 36)).drew.heap.size = w1.heap.size + 1 + 1 from by simp] at hzr
      have hTr : TabAt wr T 1 L chk U R M n f cnt o := hT1.grown hgr (by simp <;> omega)
      have hXr : wr.heap[w1.heap.size + 1]? = some (.cells #[.int .u64 o, .slice (some ⟨w1.heap.size, 0, none⟩) cnt cnt] 36 (0, 0)) := (hgk.block _ (by simp <;> omega) (by simp <;> omega)).trans HXW.out
      have x0 : wr.cell? ⟨w1.heap.size + 1, 0, none⟩ = some (.int .u64 o) := by simp [World.cell?, hXr]
      have x1 : wr.cell? ⟨w1.heap.size + 1, 1, none⟩ = some (.slice (some ⟨w1.heap.size, 0, none⟩) cnt cnt) := by simp [World.cell?, hXr]
      have hRr : wr.heap[R]? = w.heap[R]? := by rw [hgr.block R (by omega) (by simp <;> omega), hg1.block R hRl (by simp <;> omega)]
      have HRr : Hid (wr.heap[R]? = w.heap[R]?) := hRr
      have HCOP : Hid (∀ i, i < k → CopyOf hs n f wr (w1.heap.size) i) := hcop
      clear hXr hRr hcop
      by_cases hlt : k < cnt
      · have hfn : f < n := by omega
        have hr0 : (f + k) % n < n := Nat.mod_lt _ (by omega)
        have hx := (HH.out ((f + k) % n) hr0).grown HRr.out
        obtain ⟨x, hxe⟩ : ∃ x, x = at_ hs ((f + k) % n) := ⟨_, rfl⟩
        rw [← hxe] at hx
        obtain ⟨r, hre⟩ : ∃ r, r = (f + k) % n := ⟨_, rfl⟩
        rw [← hre] at hx hr0
        have cn := numbered_any T R n k f (IntKind.u64.wrap (o + (k : Int))) o wr hn hfn (by omega) (wrap_back o k (by omega) ho0 ho1) hTr.ring hTr.first hTr.oldest
        rw [← hre] at cn
        have CN := hideIt cn
        have HX : Hid (x = at_ hs ((f + k) % n)) := hxe
        have HRE : Hid (r = (f + k) % n) := hre
        have HHX := hideIt hx
        clear hxe hre cn hx
        have t15 := hTr.oldest
        go_wp2_with fail
        refine CN.out.mono ?_
        rintro e w2 ⟨rfl, q, hw2⟩
        have hg2 : wr.grownBy w2 none := by rw [hw2]; exact grown_drewN _ _ _
        have hz2 : wr.heap.size ≤ w2.heap.size := hg2.size
        have hCk2 : CopyRow w2 (w1.heap.size) cnt := hCk.keep (hg2.block _ (by omega) (by simp))
        obtain ⟨d0, d1, d2, d3, d4⟩ : HeldAt w2 R (r * 5) x := HHX.out.grown (hg2.block _ (by omega) (by simp))
        have x1' : w2.cell? ⟨w1.heap.size + 1, 1, none⟩ = some (.slice (some ⟨w1.heap.size, 0, none⟩) cnt cnt) := hg2.cell x1 (by simp)
        have HCOP2 : Hid (∀ i, i < k → CopyOf hs n f w2 (w1.heap.size) i) := fun i hi => CopyAt.keep (HCOP.out i hi) (hg2.block _ (by omega) (by simp)) hz2
        have HG2 := hideIt hg2
        clear hw2 CN hg2 HHX HCOP x0 x1 t15
        have hRw : R < w2.heap.size := by omega
        have hCw : w1.heap.size < w2.heap.size := by omega
        have hXw : w1.heap.size + 1 < w2.heap.size := by omega
        obtain ⟨v0, e0⟩ := hCk2.cell (k * 4) (by omega)
        obtain ⟨v1, e1⟩ := hCk2.cell (k * 4 + 1) (by omega)
        obtain ⟨v2, e2⟩ := hCk2.cell (k * 4 + 2) (by omega)
        obtain ⟨v3, e3⟩ := hCk2.cell (k * 4 + 3) (by omega)
        have g0 := hCk2.free (k * 4)
        have g1 := hCk2.free (k * 4 + 1)
        have g2 := hCk2.free (k * 4 + 2)
        have g3 := hCk2.free (k * 4 + 3)
        go_wp2
        go_roundw
        case rel =>
          have R := fun ob => step_copy (ob := ob) hCk2 hlt HCOP2.out HX.out (hgk.trans (grown_but HG2.out _))
          exact ⟨k + 1, by omega, by go_num, (R _).1, (R _).2.1, (R _).2.2⟩
        case measure => simp [intOf]; omega
      · obtain rfl : k = cnt := by omega
        have hY : wr.heap[w.heap.size]? = some (.cells #[.int .u64 0, .slice none 0 0] 36 (0, 0)) := (hgr.block _ hlt1 (by simp <;> omega)).trans HX1.out
        have y0 : wr.cell? ⟨w.heap.size, 0, none⟩ = some (.int .u64 0) := by simp [World.cell?, hY]
        have y1 : wr.cell? ⟨w.heap.size, 1, none⟩ = some (.slice none 0 0) := by simp [World.cell?, hY]
        have z0 : wr.frozen? ⟨w.heap.size, 0, none⟩ = false := by simp [World.frozen?, hY]
        have z1 : wr.frozen? ⟨w.heap.size, 1, none⟩ = false := by simp [World.frozen?, hY]
        clear hY
        go_wp2
        refine leaves_cons (f := 34) (args := #[.pointer (some ⟨T, 2, none⟩)]) (by simp) (by simp [go_sem]) ?_
        refine (unlock_deferred muLib ⟨T, 2, none⟩ .returning _ ?_ ?_).mono ?_
        · rw [World.cell?_setCell_other _ _ _ _ (by simp <;> omega), World.cell?_setCell_other _ _ _ _ (by simp <;> omega)]; exact hTr.state
        · simp [hTr.free 2]
        rintro e u' w'' ⟨rfl, rfl, rfl⟩
        refine ⟨.agg #[.int .u64 o, .slice (some ⟨w1.heap.size, 0, none⟩) k k], ?_, fin_copy HT0.out hTr hg1 hgr hlt1 hCl (by omega) HCOP.out⟩
        have r0 : (((wr.setCell ⟨w.heap.size, 0, none⟩ (.int .u64 o)).setCell ⟨w.heap.size, 1, none⟩ (.slice (some ⟨w1.heap.size, 0, none⟩) k k)).setCell ⟨T, 2, none⟩ (.int .i32 0)).cell? ⟨w.heap.size, 0, none⟩ = some (.int .u64 o) := by
          rw [World.cell?_setCell_other _ _ _ _ (by simp <;> omega), World.cell?_setCell_other _ _ _ _ (by simp)]; exact World.cell?_setCell_same _ _ _ y0
        have r1 : (((wr.setCell ⟨w.heap.size, 0, none⟩ (.int .u64 o)).setCell ⟨w.heap.size, 1, none⟩ (.slice (some ⟨w1.heap.size, 0, none⟩) k k)).setCell ⟨T, 2, none⟩ (.int .i32 0)).cell? ⟨w.heap.size, 1, none⟩ = some (.slice (some ⟨w1.heap.size, 0, none⟩) k k) := by
          rw [World.cell?_setCell_other _ _ _ _ (by simp <;> omega)]
          exact World.cell?_setCell_same _ _ _ (show (wr.setCell ⟨w.heap.size, 0, none⟩ (.int .u64 o)).cell? ⟨w.heap.size, 1, none⟩ = some (.slice none 0 0) from by rw [World.cell?_setCell_other _ _ _ _ (by simp)]; exact y1)
        simp [results, Try.results30, go_sem, r0, r1]
  · have hgW : w1.grownBy ((w1.alloc (.cells #[.int .u64 o, .slice (some ⟨w1.heap.size + 1, 0, none⟩) cnt cnt] 36)).alloc (.cells (made4 cnt) 94)).drew none := ((World.grownBy_alloc _ _ _).trans (World.grownBy_alloc _ _ _)).trans (grown_drew _ _)
    have hXW : ((w1.alloc (.cells #[.int .u64 o, .slice (some ⟨w1.heap.size + 1, 0, none⟩) cnt cnt] 36)).alloc (.cells (made4 cnt) 94)).drew.heap[w1.heap.size]? = some (.cells #[.int .u64 o, .slice (some ⟨w1.heap.size + 1, 0, none⟩) cnt cnt] 36 (0, 0)) := (heap_alloc_old _ _ (by simp)).trans (heap_alloc_new _ _)
    have hCW : CopyRow ((w1.alloc (.cells #[.int .u64 o, .slice (some ⟨w1.heap.size + 1, 0, none⟩) cnt cnt] 36)).alloc (.cells (made4 cnt) 94)).drew (w1.heap.size + 1) cnt := ⟨made4 cnt, alloc2_new _ _ _, made4_size cnt⟩
    have hXl : w1.heap.size ≤ w1.heap.size := by omega
    have hCl : w1.heap.size ≤ w1.heap.size + 1 := by omega
    have hXC : w1.heap.size ≠ w1.heap.size + 1 := by omega
    have hXu : w1.heap.size ≤ w1.heap.size + 1 := by omega
    have hCu : w1.heap.size + 1 ≤ w1.heap.size + 1 := by omega
    have HXW : Hid (((w1.alloc (.cells #[.int .u64 o, .slice (some ⟨w1.heap.size + 1, 0, none⟩) cnt cnt] 36)).alloc (.cells (made4 cnt) 94)).drew.heap[w1.heap.size]? = some (.cells #[.int .u64 o, .slice (some ⟨w1.heap.size + 1, 0, none⟩) cnt cnt] 36 (0, 0))) := hXW
    clear hXW
    go_loopw [26] (fun i wr => ∃ k : Nat, k ≤ cnt ∧ i = .int .i64 k ∧ CopyRow wr (w1.heap.size + 1) cnt ∧ (∀ i, i < k → CopyOf hs n f wr (w1.heap.size + 1) i) ∧ ((w1.alloc (.cells #[.int .u64 o, .slice (some ⟨w1.heap.size + 1, 0, none⟩) cnt cnt] 36)).alloc (.cells (made4 cnt) 94)).drew.grownBy wr (some (w1.heap.size + 1)))
      (fun i _ => cnt - (intOf i).toNat)
    case atStart => exact ⟨0, Nat.zero_le _, rfl, hCW, fun i hi => absurd hi (by omega), World.grownBy.refl _ _⟩
    case round =>
      obtain ⟨k, hk, rfl, hCk, hcop, hgk⟩ := hrel
      have hgr : w1.grownBy wr (some (w1.heap.size + 1)) := (grown_but hgW _).trans hgk
      have hzr := hgk.size
      rw [show ((w1.alloc (.cells #[.int .u64 o, .slice (some ⟨w1.heap.size + 1, 0, none⟩) cnt cnt] 36)).alloc (.cells (made4 cnt) 94)).drew.heap.size = w1.heap.size + 1 + 1 from by simp] at hzr
      have hTr : TabAt wr T 1 L chk U R M n f cnt o := hT1.grown hgr (by simp <;> omega)
      have hXr : wr.heap[w1.heap.size]? = some (.cells #[.int .u64 o, .slice (some ⟨w1.heap.size + 1, 0, none⟩) cnt cnt] 36 (0, 0)) := (hgk.block _ (by simp <;> omega) (by simp <;> omega)).trans HXW.out
      have x0 : wr.cell? ⟨w1.heap.size, 0, none⟩ = some (.int .u64 o) := by simp [World.cell?, hXr]
      have x1 : wr.cell? ⟨w1.heap.size, 1, none⟩ = some (.slice (some ⟨w1.heap.size + 1, 0, none⟩) cnt cnt) := by simp [World.cell?, hXr]
      have hRr : wr.heap[R]? = w.heap[R]? := by rw [hgr.block R (by omega) (by simp <;> omega), hg1.block R hRl (by simp <;> omega)]
      have HRr : Hid (wr.heap[R]? = w.heap[R]?) := hRr
      have HCOP : Hid (∀ i, i < k → CopyOf hs n f wr (w1.heap.size + 1) i) := hcop
      clear hXr hRr hcop
      by_cases hlt : k < cnt
      · have hfn : f < n := by omega
        have hr0 : (f + k) % n < n := Nat.mod_lt _ (by omega)
        have hx := (HH.out ((f + k) % n) hr0).grown HRr.out
        obtain ⟨x, hxe⟩ : ∃ x, x = at_ hs ((f + k) % n) := ⟨_, rfl⟩
        rw [← hxe] at hx
        obtain ⟨r, hre⟩ : ∃ r, r = (f + k) % n := ⟨_, rfl⟩
        rw [← hre] at hx hr0
        have cn := numbered_any T R n k f (IntKind.u64.wrap (o + (k : Int))) o wr hn hfn (by omega) (wrap_back o k (by omega) ho0 ho1) hTr.ring hTr.first hTr.oldest
        rw [← hre] at cn
        have CN := hideIt cn
        have HX : Hid (x = at_ hs ((f + k) % n)) := hxe
        have HRE : Hid (r = (f + k) % n) := hre
        have HHX := hideIt hx
        clear hxe hre cn hx
        have t15 := hTr.oldest
        go_wp2_with fail
        refine CN.out.mono ?_
        rintro e w2 ⟨rfl, q, hw2⟩
        have hg2 : wr.grownBy w2 none := by rw [hw2]; exact grown_drewN _ _ _
        have hz2 : wr.heap.size ≤ w2.heap.size := hg2.size
        have hCk2 : CopyRow w2 (w1.heap.size + 1) cnt := hCk.keep (hg2.block _ (by omega) (by simp))
        obtain ⟨d0, d1, d2, d3, d4⟩ : HeldAt w2 R (r * 5) x := HHX.out.grown (hg2.block _ (by omega) (by simp))
        have x1' : w2.cell? ⟨w1.heap.size, 1, none⟩ = some (.slice (some ⟨w1.heap.size + 1, 0, none⟩) cnt cnt) := hg2.cell x1 (by simp)
        have HCOP2 : Hid (∀ i, i < k → CopyOf hs n f w2 (w1.heap.size + 1) i) := fun i hi => CopyAt.keep (HCOP.out i hi) (hg2.block _ (by omega) (by simp)) hz2
        have HG2 := hideIt hg2
        clear hw2 CN hg2 HHX HCOP x0 x1 t15
        have hRw : R < w2.heap.size := by omega
        have hCw : w1.heap.size + 1 < w2.heap.size := by omega
        have hXw : w1.heap.size < w2.heap.size := by omega
        obtain ⟨v0, e0⟩ := hCk2.cell (k * 4) (by omega)
        obtain ⟨v1, e1⟩ := hCk2.cell (k * 4 + 1) (by omega)
        obtain ⟨v2, e2⟩ := hCk2.cell (k * 4 + 2) (by omega)
        obtain ⟨v3, e3⟩ := hCk2.cell (k * 4 + 3) (by omega)
        have g0 := hCk2.free (k * 4)
        have g1 := hCk2.free (k * 4 + 1)
        have g2 := hCk2.free (k * 4 + 2)
        have g3 := hCk2.free (k * 4 + 3)
        go_wp2
        go_roundw
        case rel =>
          have R := fun ob => step_copy (ob := ob) hCk2 hlt HCOP2.out HX.out (hgk.trans (grown_but HG2.out _))
          exact ⟨k + 1, by omega, by go_num, (R _).1, (R _).2.1, (R _).2.2⟩
        case measure => simp [intOf]; omega
      · obtain rfl : k = cnt := by omega
        have hY : wr.heap[w.heap.size]? = some (.cells #[.int .u64 0, .slice none 0 0] 36 (0, 0)) := (hgr.block _ hlt1 (by simp <;> omega)).trans HX1.out
        have y0 : wr.cell? ⟨w.heap.size, 0, none⟩ = some (.int .u64 0) := by simp [World.cell?, hY]
        have y1 : wr.cell? ⟨w.heap.size, 1, none⟩ = some (.slice none 0 0) := by simp [World.cell?, hY]
        have z0 : wr.frozen? ⟨w.heap.size, 0, none⟩ = false := by simp [World.frozen?, hY]
        have z1 : wr.frozen? ⟨w.heap.size, 1, none⟩ = false := by simp [World.frozen?, hY]
        clear hY
        go_wp2
        refine leaves_cons (f := 34) (args := #[.pointer (some ⟨T, 2, none⟩)]) (by simp) (by simp [go_sem]) ?_
        refine (unlock_deferred muLib ⟨T, 2, none⟩ .returning _ ?_ ?_).mono ?_
        · rw [World.cell?_setCell_other _ _ _ _ (by simp <;> omega), World.cell?_setCell_other _ _ _ _ (by simp <;> omega)]; exact hTr.state
        · simp [hTr.free 2]
        rintro e u' w'' ⟨rfl, rfl, rfl⟩
        refine ⟨.agg #[.int .u64 o, .slice (some ⟨w1.heap.size + 1, 0, none⟩) k k], ?_, fin_copy HT0.out hTr hg1 hgr hlt1 hCl (by omega) HCOP.out⟩
        have r0 : (((wr.setCell ⟨w.heap.size, 0, none⟩ (.int .u64 o)).setCell ⟨w.heap.size, 1, none⟩ (.slice (some ⟨w1.heap.size + 1, 0, none⟩) k k)).setCell ⟨T, 2, none⟩ (.int .i32 0)).cell? ⟨w.heap.size, 0, none⟩ = some (.int .u64 o) := by
          rw [World.cell?_setCell_other _ _ _ _ (by simp <;> omega), World.cell?_setCell_other _ _ _ _ (by simp)]; exact World.cell?_setCell_same _ _ _ y0
        have r1 : (((wr.setCell ⟨w.heap.size, 0, none⟩ (.int .u64 o)).setCell ⟨w.heap.size, 1, none⟩ (.slice (some ⟨w1.heap.size + 1, 0, none⟩) k k)).setCell ⟨T, 2, none⟩ (.int .i32 0)).cell? ⟨w.heap.size, 1, none⟩ = some (.slice (some ⟨w1.heap.size + 1, 0, none⟩) k k) := by
          rw [World.cell?_setCell_other _ _ _ _ (by simp <;> omega)]
          exact World.cell?_setCell_same _ _ _ (show (wr.setCell ⟨w.heap.size, 0, none⟩ (.int .u64 o)).cell? ⟨w.heap.size, 1, none⟩ = some (.slice none 0 0) from by rw [World.cell?_setCell_other _ _ _ _ (by simp)]; exact y1)
        simp [results, Try.results30, go_sem, r0, r1]

end Go.Proofs.Qxb6609104a

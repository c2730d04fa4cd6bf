/-
  SEAT b6609104a: keyTable.settle and ZZsettle.
-/
import Derived.Test.Qxb6609104aCond
import Derived.Test.Qxb6609104aNames
namespace Go.Proofs.Qxb6609104a
open Go.RowKit Go.MuLone Go.Maps
set_option linter.unusedVariables false

/-- From w to w' the blocks that stood keep what they held, but T, U, R. -/
structure Only (T U R : Nat) (w w' : World) : Prop where
  os : w'.os = w.os
  tape : w'.tape = w.tape
  output : w'.output = w.output
  size : w.heap.size ≤ w'.heap.size
  block : ∀ b, b < w.heap.size → b ≠ T → b ≠ U → b ≠ R → w'.heap[b]? = w.heap[b]?
theorem Only.of {T U R : Nat} {w w' : World} {row : Option Nat} (h : w.grownBy w' row) (hr : ∀ b, row = some b → b = T ∨ b = U ∨ b = R) : Only T U R w w' :=
  ⟨h.os, h.tape, h.output, h.size, fun b hb h1 h2 h3 => h.block b hb (fun e => by have := hr b e.symm; omega)⟩
theorem Only.trans {T U R : Nat} {w w' w'' : World} (h : Only T U R w w') (h' : Only T U R w' w'') : Only T U R w w'' :=
  ⟨h'.os.trans h.os, h'.tape.trans h.tape, h'.output.trans h.output, Nat.le_trans h.size h'.size, fun b hb h1 h2 h3 => (h'.block b (Nat.lt_of_lt_of_le hb h.size) h1 h2 h3).trans (h.block b hb h1 h2 h3)⟩
theorem Only.below {T U R B : Nat} {w w' : World} (h : Only T U R w w') (hB : B ≤ w.heap.size) (h1 : B ≤ T) (h2 : B ≤ U) (h3 : B ≤ R) : Below B w w' :=
  ⟨h.os, h.tape, h.output, by have := h.size; omega, fun b hb => h.block b (by omega) (by omega) (by omega) (by omega)⟩

set_option maxHeartbeats 1000000 in
theorem settle_miss (T U R M K m n : Nat) (L chk : Value) (f c o : Int) (key : ByteArray) (num : Int) (D : DataW Unit) (acc : Bool) (w : World) (hT : TabAt w T 0 L chk U R M n f c o) (hk : ChkOk T chk) (hRl : R < w.heap.size) (hTR : T ≠ R) (hUR : U ≠ R) (hU : Names w U m D) (hK : KeyAt w K key num) (hKT : K ≠ T) (hs : key.size ≤ 9223372036854775807)
    (hmiss : (acc && decide (o ≤ num)) = false) :
    Calls Try.prog 31 #[.pointer (some ⟨T, 0, none⟩), .pointer (some ⟨K, 0, none⟩), .bool acc] w fun e w' => e = .returned (.tuple #[]) ∧ TabAt w' T 0 L (.pointer (some ⟨T, 10, none⟩)) U R M n f c o ∧ w'.heap[R]? = w.heap[R]? ∧ Names w' U m (D.del (kl key)) ∧ Only T U R w w' := by
  have s0 := hT.state
  have f0 := hT.free 2
  have hTl := hT.lt
  have hUl := hU.lt
  have hTU : T ≠ U := hU.ne hT.state
  have hKU : K ≠ U := hU.ne hK.2.1
  have hKl := hK.1
  have HT := hideIt hT
  have HU := hideIt hU
  have HK := hideIt hK
  have HC := hideIt hk
  clear hT hU hK hk
  go_enter_defers Try.func31, Try.ntmps31
  go_wp2_with fail
  refine (lock_free muLib ⟨T, 2, none⟩ _ s0 f0).mono ?_
  rintro e w1 ⟨rfl, hw1⟩
  have hT1 : TabAt w1 T 1 L chk U R M n f c o := by rw [hw1]; exact HT.out.lock
  have hg1 : w.grownBy w1 (some T) := by rw [hw1]; exact grown_setCell _ _ _ _
  have hU1 : Names w1.drew U m D := HU.out.keep (hg1.block U hUl (by simp <;> omega))
  have hK1 : KeyAt w1 K key num := HK.out.keep (hg1.block K hKl (by simp <;> omega)) hg1.size
  clear hw1 s0 f0
  obtain ⟨w2, hrun, hown2, hturn⟩ := World.ownsMap.drop hU1 mlaw Try.underlying83 (kl_key key hs) 0
  have hg2 : w1.grownBy w2 (some U) := (grown_drew _ _).trans hturn.grown
  have hT2 : TabAt w2 T 1 L chk U R M n f c o := hT1.grown hg2 (by simp <;> omega)
  have k38 := hg2.cell hK1.2.2 (by simp <;> omega)
  have t15 := hT2.oldest
  have t11 := hT1.names
  have k0 := hK1.2.1
  have t11' := hT2.names
  have k0' := hg2.cell k0 (by simp <;> omega)
  have HT2 := hideIt hT2
  have HG1 := hideIt hg1
  have HG2 := hideIt hg2
  have HO2 : Hid (Names w2 U m (D.del (kl key))) := hown2
  clear hT1 hU1 hK1 hown2 hturn hg1 hg2 hT2
  go_wp2
  go_region_held3 (fun w' => w'.cell? ⟨T, 11, none⟩ = some (.map (some U)) ∧ w'.cell? ⟨K, 0, none⟩ = some (.string key)) (go_keep) (fail)
  have HT2d : ∀ q, TabAt (w2.drewN q) T 1 L chk U R M n f c o := fun q => HT2.out.keep rfl
  have HT3 := hideIt HT2d
  clear HT2d hrun
  have hfin : Hid (∀ q w3, TabAt w3 T 1 L (.pointer (some ⟨T, 10, none⟩)) U R M n f c o → (w2.drewN q).grownBy w3 (some T) →
      TabAt (w3.setCell ⟨T, 2, none⟩ (.int .i32 0)) T 0 L (.pointer (some ⟨T, 10, none⟩)) U R M n f c o ∧ (w3.setCell ⟨T, 2, none⟩ (.int .i32 0)).heap[R]? = w.heap[R]? ∧ Names (w3.setCell ⟨T, 2, none⟩ (.int .i32 0)) U m (D.del (kl key)) ∧ Only T U R w (w3.setCell ⟨T, 2, none⟩ (.int .i32 0))) := by
    intro q w3 h3 g3
    have gz : w2.heap.size ≤ w3.heap.size := g3.size
    have z1 := HG1.out.size
    have z2 := HG2.out.size
    refine ⟨h3.lock, ?_, ?_, ?_⟩
    · rw [heap_setCell_other _ _ _ _ (by simp <;> omega), g3.block R (by show R < w2.heap.size; omega) (by simp <;> omega)]
      exact (HG2.out.block R (by omega) (by simp <;> omega)).trans (HG1.out.block R hRl (by simp <;> omega))
    · refine HO2.out.keep ?_
      rw [heap_setCell_other _ _ _ _ (by simp <;> omega), g3.block U (by show U < w2.heap.size; omega) (by simp <;> omega)]
      rfl
    · have a1 : Only T U R w w1 := Only.of HG1.out (fun b e => by simp at e; omega)
      have a2 : Only T U R w1 w2 := Only.of HG2.out (fun b e => by simp at e; omega)
      have a3 : Only T U R w2 w3 := Only.of ((grown_drewN _ _ _).trans g3) (fun b e => by simp at e; omega)
      have a4 : Only T U R w3 (w3.setCell ⟨T, 2, none⟩ (.int .i32 0)) := Only.of (grown_setCell _ _ _ _) (fun b e => by simp at e; omega)
      exact ((a1.trans a2).trans a3).trans a4
  clear HT HU HK HT2 HG1 HG2 HO2
  go_wp2
  cases acc
  · go_quiet (fail)
    go_wp2_with fail
    refine (broadcast_any T 1 L chk U R M n f c o _ HC.out (HT3.out _)).mono ?_
    rintro e w3 ⟨rfl, hT3, hg3⟩
    have st := hT3.state
    have fr := hT3.free 2
    have HF := hideIt (hfin.out _ w3 hT3 hg3)
    clear hT3 hg3 hfin HT3
    go_wp2
    refine leaves_cons (f := 34) (args := #[.pointer (some ⟨T, 2, none⟩)]) (by simp) (by simp [go_sem]) ?_
    refine (unlock_deferred muLib ⟨T, 2, none⟩ .returning _ st fr).mono ?_
    rintro e u' w'' ⟨rfl, rfl, rfl⟩
    exact ⟨.tuple #[], by simp [results, Try.results31], rfl, HF.out⟩
  · have hd : decide (o ≤ num) = false := by simpa using hmiss
    go_quiet (fail)
    go_wp2_with fail
    refine (broadcast_any T 1 L chk U R M n f c o _ HC.out (HT3.out _)).mono ?_
    rintro e w3 ⟨rfl, hT3, hg3⟩
    have st := hT3.state
    have fr := hT3.free 2
    have HF := hideIt (hfin.out _ w3 hT3 hg3)
    clear hT3 hg3 hfin HT3
    go_wp2
    refine leaves_cons (f := 34) (args := #[.pointer (some ⟨T, 2, none⟩)]) (by simp) (by simp [go_sem]) ?_
    refine (unlock_deferred muLib ⟨T, 2, none⟩ .returning _ st fr).mono ?_
    rintro e u' w'' ⟨rfl, rfl, rfl⟩
    exact ⟨.tuple #[], by simp [results, Try.results31], rfl, HF.out⟩

/-- A place whose post is no longer pending. -/
def offOf (x : Hk) : Hk := ⟨x.h, x.o, x.a, x.s, false⟩
def clr (hs : List Hk) (p : Nat) : List Hk := hs.set p (offOf (at_ hs p))
theorem clr_length (hs : List Hk) (p : Nat) : (clr hs p).length = hs.length := by simp [clr]
theorem clr_at (hs : List Hk) (p i : Nat) (hi : i < hs.length) : at_ (clr hs p) i = if i = p then offOf (at_ hs i) else at_ hs i := by
  unfold at_ clr
  rw [List.getD_eq_getElem?_getD, List.getD_eq_getElem?_getD, List.getElem?_set]
  by_cases h : p = i
  · subst h
    simp [hi, at_]
  · rw [if_neg h, if_neg (fun e => h e.symm)]
theorem held_clr {w : World} {R : Nat} {hs : List Hk} {p : Nat} (hR : RingRow w R hs.length) (hH : ∀ i, i < hs.length → HeldAt w R (i * 5) (at_ hs i)) (hp : p < hs.length) :
    ∀ i, i < hs.length → HeldAt (w.setCell ⟨R, p * 5 + 4, none⟩ (.bool false)) R (i * 5) (at_ (clr hs p) i) := by
  intro i hi
  rw [clr_at hs p i hi]
  obtain ⟨d0, d1, d2, d3, d4⟩ := hH i hi
  by_cases h : i = p
  · subst h
    rw [if_pos rfl]
    refine ⟨?_, ?_, ?_, ?_, ?_⟩
    · rw [World.cell?_setCell_other _ _ _ _ (by simp)]; exact d0
    · rw [World.cell?_setCell_other _ _ _ _ (by simp)]; exact d1
    · rw [World.cell?_setCell_other _ _ _ _ (by simp)]; exact d2
    · rw [World.cell?_setCell_other _ _ _ _ (by simp)]; exact d3
    · exact World.cell?_setCell_same _ _ _ d4
  · rw [if_neg h]
    refine ⟨?_, ?_, ?_, ?_, ?_⟩
    · rw [World.cell?_setCell_other _ _ _ _ (by simp <;> omega)]; exact d0
    · rw [World.cell?_setCell_other _ _ _ _ (by simp <;> omega)]; exact d1
    · rw [World.cell?_setCell_other _ _ _ _ (by simp <;> omega)]; exact d2
    · rw [World.cell?_setCell_other _ _ _ _ (by simp <;> omega)]; exact d3
    · rw [World.cell?_setCell_other _ _ _ _ (by simp <;> omega)]; exact d4

set_option maxHeartbeats 1000000 in
theorem settle_hit (T U R M K m d f : Nat) (L chk : Value) (hs : List Hk) (c o : Int) (key : ByteArray) (num : Int) (D : DataW Unit) (w : World) (hn : hs.length ≤ 65536) (hf : f < hs.length) (hd : d < hs.length) (hw : IntKind.u64.wrap (num - o) = (d : Int))
    (hT : TabAt w T 0 L chk U R M hs.length f c o) (hk : ChkOk T chk) (hR : RingRow w R hs.length) (hH : ∀ i, i < hs.length → HeldAt w R (i * 5) (at_ hs i)) (hU : Names w U m D) (hK : KeyAt w K key num) (hKT : K ≠ T) (hsz : key.size ≤ 9223372036854775807) (hge : o ≤ num) :
    Calls Try.prog 31 #[.pointer (some ⟨T, 0, none⟩), .pointer (some ⟨K, 0, none⟩), .bool true] w fun e w' => e = .returned (.tuple #[]) ∧ TabAt w' T 0 L (.pointer (some ⟨T, 10, none⟩)) U R M hs.length f c o ∧ RingRow w' R hs.length ∧ (∀ i, i < hs.length → HeldAt w' R (i * 5) (at_ (clr hs ((f + d) % hs.length)) i)) ∧ Names w' U m (D.del (kl key)) ∧ Only T U R w w' := by
  have s0 := hT.state
  have f0 := hT.free 2
  have hTl := hT.lt
  have hUl := hU.lt
  have hRl := hR.lt
  have hTR := hT.ne hR
  have hTU : T ≠ U := hU.ne hT.state
  have hKU : K ≠ U := hU.ne hK.2.1
  have hRU : R ≠ U := hU.ne (hH 0 (by omega)).1
  have hKl := hK.1
  obtain ⟨r, hr⟩ : ∃ r, r = (f + d) % hs.length := ⟨_, rfl⟩
  have hrn : r < hs.length := by rw [hr]; exact Nat.mod_lt _ (by omega)
  have HT := hideIt hT
  have HU := hideIt hU
  have HK := hideIt hK
  have HC := hideIt hk
  have HR := hideIt hR
  have HH := hideIt hH
  have HRE := hideIt hr
  have HW := hideIt hw
  rw [← hr]
  clear hT hU hK hk hR hH hr hw
  go_enter_defers Try.func31, Try.ntmps31
  go_wp2_with fail
  refine (lock_free muLib ⟨T, 2, none⟩ _ s0 f0).mono ?_
  rintro e w1 ⟨rfl, hw1⟩
  have hT1 : TabAt w1 T 1 L chk U R M hs.length f c o := by rw [hw1]; exact HT.out.lock
  have hg1 : w.grownBy w1 (some T) := by rw [hw1]; exact grown_setCell _ _ _ _
  have hU1 : Names w1.drew U m D := HU.out.keep (hg1.block U hUl (by simp <;> omega))
  have hK1 : KeyAt w1 K key num := HK.out.keep (hg1.block K hKl (by simp <;> omega)) hg1.size
  clear hw1 s0 f0
  obtain ⟨w2, hrun, hown2, hturn⟩ := World.ownsMap.drop hU1 mlaw Try.underlying83 (kl_key key hsz) 0
  have hg2 : w1.grownBy w2 (some U) := (grown_drew _ _).trans hturn.grown
  have hT2 : TabAt w2 T 1 L chk U R M hs.length f c o := hT1.grown hg2 (by simp <;> omega)
  have k38 := hg2.cell hK1.2.2 (by simp <;> omega)
  have t15 := hT2.oldest
  have t11 := hT1.names
  have k0 := hK1.2.1
  have t11' := hT2.names
  have k0' := hg2.cell k0 (by simp <;> omega)
  have HT2 := hideIt hT2
  have HG1 := hideIt hg1
  have HG2 := hideIt hg2
  have HO2 : Hid (Names w2 U m (D.del (kl key))) := hown2
  clear hT1 hU1 hK1 hown2 hturn hg1 hg2 hT2
  go_wp2
  go_region_held3 (fun w' => w'.cell? ⟨T, 11, none⟩ = some (.map (some U)) ∧ w'.cell? ⟨K, 0, none⟩ = some (.string key)) (go_keep) (fail)
  have HRb : Hid (w2.heap[R]? = w.heap[R]?) := (HG2.out.block R (by have := HG1.out.size; omega) (by simp <;> omega)).trans (HG1.out.block R hRl (by simp <;> omega))
  have hfin : Hid (∀ w4 w3, w2.grownBy w4 none → TabAt w3 T 1 L (.pointer (some ⟨T, 10, none⟩)) U R M hs.length f c o → (w4.setCell ⟨R, r * 5 + 4, none⟩ (.bool false)).grownBy w3 (some T) →
      TabAt (w3.setCell ⟨T, 2, none⟩ (.int .i32 0)) T 0 L (.pointer (some ⟨T, 10, none⟩)) U R M hs.length f c o ∧ RingRow (w3.setCell ⟨T, 2, none⟩ (.int .i32 0)) R hs.length ∧ (∀ i, i < hs.length → HeldAt (w3.setCell ⟨T, 2, none⟩ (.int .i32 0)) R (i * 5) (at_ (clr hs r) i)) ∧ Names (w3.setCell ⟨T, 2, none⟩ (.int .i32 0)) U m (D.del (kl key)) ∧ Only T U R w (w3.setCell ⟨T, 2, none⟩ (.int .i32 0))) := by
    intro w4 w3 g4 h3 g3
    have gz : w4.heap.size ≤ w3.heap.size := by have := g3.size; simpa using this
    have z1 := HG1.out.size
    have z2 := HG2.out.size
    have z4 := g4.size
    have hR4 : RingRow w4 R hs.length := HR.out.keep ((g4.block R (by omega) (by simp)).trans HRb.out)
    have hH4 : ∀ i, i < hs.length → HeldAt w4 R (i * 5) (at_ hs i) := fun i hi => (HH.out i hi).grown ((g4.block R (by omega) (by simp)).trans HRb.out)
    have eR : (w3.setCell ⟨T, 2, none⟩ (.int .i32 0)).heap[R]? = (w4.setCell ⟨R, r * 5 + 4, none⟩ (.bool false)).heap[R]? := by
      rw [heap_setCell_other _ _ _ _ (by simp <;> omega)]
      exact g3.block R (by simp; omega) (by simp <;> omega)
    refine ⟨h3.lock, (hR4.set _ _).keep eR, fun i hi => (held_clr hR4 hH4 hrn i hi).grown eR, ?_, ?_⟩
    · refine HO2.out.keep ?_
      rw [heap_setCell_other _ _ _ _ (by simp <;> omega), g3.block U (by simp; omega) (by simp <;> omega), heap_setCell_other _ _ _ _ (by simp <;> omega)]
      exact g4.block U (by omega) (by simp)
    · have a1 : Only T U R w w1 := Only.of HG1.out (fun b e => by simp at e; omega)
      have a2 : Only T U R w1 w2 := Only.of HG2.out (fun b e => by simp at e; omega)
      have a3 : Only T U R w2 w4 := Only.of g4 (fun b e => by simp at e)
      have a5 : Only T U R w4 (w4.setCell ⟨R, r * 5 + 4, none⟩ (.bool false)) := Only.of (grown_setCell _ _ _ _) (fun b e => by simp at e; omega)
      have a6 : Only T U R (w4.setCell ⟨R, r * 5 + 4, none⟩ (.bool false)) w3 := Only.of g3 (fun b e => by simp at e; omega)
      have a4 : Only T U R w3 (w3.setCell ⟨T, 2, none⟩ (.int .i32 0)) := Only.of (grown_setCell _ _ _ _) (fun b e => by simp at e; omega)
      exact (((((a1.trans a2).trans a3).trans a5).trans a6)).trans a4
  have hR2 : ∀ w4, w2.grownBy w4 none → RingRow w4 R hs.length := fun w4 g4 => HR.out.keep ((g4.block R (by have := HG1.out.size; have := HG2.out.size; omega) (by simp)).trans HRb.out)
  have HR2 := hideIt hR2
  have HT2d : Hid (∀ q, TabAt (w2.drewN q) T 1 L chk U R M hs.length f c o) := fun q => HT2.out.keep rfl
  have HCN : Hid (∀ q, Calls Try.prog 35 #[.pointer (some ⟨T, 0, none⟩), .int .u64 num] (w2.drewN q) fun e w' => e = .returned (.pointer (some ⟨R, r * 5, none⟩)) ∧ ∃ q', w' = (w2.drewN q).drewN q') := by
    intro q
    have := numbered_any T R hs.length d f num o (w2.drewN q) hn hf hd HW.out (HT2d.out q).ring (HT2d.out q).first (HT2d.out q).oldest
    rw [← HRE.out] at this
    exact this
  clear hR2 hrun HT HU HK HG1 HG2 HO2 HR HH HRE HW HRb
  have hd' : decide (o ≤ num) = true := by simpa using hge
  go_wp2
  go_quiet (fail)
  go_wp2_with fail
  refine (HCN.out _).mono ?_
  rintro e w4 ⟨rfl, q, hw4⟩
  have hg4 : w2.grownBy w4 none := by rw [hw4]; exact (grown_drewN _ _ _).trans (grown_drewN _ _ _)
  clear hw4 HCN HT2d
  have hRw := HR2.out w4 hg4
  obtain ⟨v0, c0⟩ := hRw.cell (r * 5 + 4) (by omega)
  have z0 := hRw.free (r * 5 + 4)
  have HT4 : Hid (TabAt (w4.setCell ⟨R, r * 5 + 4, none⟩ (.bool false)) T 1 L chk U R M hs.length f c o) := HT2.out.grown ((grown_but hg4 (some R)).trans (grown_setCell _ _ _ _)) (by simp <;> omega)
  have HG4 := hideIt hg4
  clear hg4 hRw HR2
  go_wp2_with fail
  refine (broadcast_any T 1 L chk U R M hs.length f c o _ HC.out HT4.out).mono ?_
  rintro e w3 ⟨rfl, hT3, hg3⟩
  have st := hT3.state
  have fr := hT3.free 2
  have HF := hideIt (hfin.out w4 w3 HG4.out hT3 hg3)
  clear hT3 hg3 hfin HT4 HG4
  go_wp2
  refine leaves_cons (f := 34) (args := #[.pointer (some ⟨T, 2, none⟩)]) (by simp) (by simp [go_sem]) ?_
  refine (unlock_deferred muLib ⟨T, 2, none⟩ .returning _ st fr).mono ?_
  rintro e u' w'' ⟨rfl, rfl, rfl⟩
  exact ⟨.tuple #[], by simp [results, Try.results31], rfl, HF.out⟩

/-- A table, free, of the places hs, the names' map reading as D. -/
def Tbl (w : World) (T U R : Nat) (hs : List Hk) (f c o : Int) (m : Nat) (D : DataW Unit) : Prop :=
  ∃ L chk M, TabAt w T 0 L chk U R M hs.length f c o ∧ ChkOk T chk ∧ RingRow w R hs.length ∧ (∀ i, i < hs.length → HeldAt w R (i * 5) (at_ hs i)) ∧ Names w U m D
theorem Tbl.keep {w w' : World} {T U R : Nat} {hs : List Hk} {f c o : Int} {m : Nat} {D : DataW Unit} (h : Tbl w T U R hs f c o m D) (h1 : w'.heap[T]? = w.heap[T]?) (h2 : w'.heap[U]? = w.heap[U]?) (h3 : w'.heap[R]? = w.heap[R]?) : Tbl w' T U R hs f c o m D := by
  obtain ⟨L, chk, M, a, b, d, e, g⟩ := h
  exact ⟨L, chk, M, a.keep h1, b, d.keep h3, fun i hi => (e i hi).grown h3, g.keep h2⟩
theorem Tbl.lt {w : World} {T U R : Nat} {hs : List Hk} {f c o : Int} {m : Nat} {D : DataW Unit} (h : Tbl w T U R hs f c o m D) : T < w.heap.size ∧ U < w.heap.size ∧ R < w.heap.size := by
  obtain ⟨L, chk, M, a, b, d, e, g⟩ := h
  exact ⟨a.lt, g.lt, d.lt⟩
theorem Tbl.below {w w' : World} {T U R B : Nat} {hs : List Hk} {f c o : Int} {m : Nat} {D : DataW Unit} (h : Tbl w T U R hs f c o m D) (hb : Below B w w') (hB : w.heap.size ≤ B) : Tbl w' T U R hs f c o m D := by
  obtain ⟨l1, l2, l3⟩ := h.lt
  exact h.keep (hb.block T (by omega)) (hb.block U (by omega)) (hb.block R (by omega))
theorem Tbl.names {w : World} {T U R : Nat} {hs : List Hk} {f c o : Int} {m : Nat} {D : DataW Unit} (h : Tbl w T U R hs f c o m D) : w.cell? ⟨T, 11, none⟩ = some (.map (some U)) ∧ Names w U m D := by
  obtain ⟨L, chk, M, a, b, d, e, g⟩ := h
  exact ⟨a.names, g⟩
theorem Tbl.apart {w : World} {T U R : Nat} {hs : List Hk} {f c o : Int} {m : Nat} {D : DataW Unit} (h : Tbl w T U R hs f c o m D) : T ≠ U ∧ T ≠ R ∧ U ≠ R := by
  obtain ⟨L, chk, M, a, b, d, e, g⟩ := h
  refine ⟨g.ne a.state, a.ne d, fun e => ?_⟩
  obtain ⟨es, clock, hb, _⟩ := g
  obtain ⟨cur, h1, _⟩ := d
  rw [e, h1] at hb
  simp at hb

def clrB (hs : List Hk) (b : Bool) (p : Nat) : List Hk := if b then clr hs p else hs
theorem clrB_length (hs : List Hk) (b : Bool) (p : Nat) : (clrB hs b p).length = hs.length := by
  unfold clrB; cases b <;> simp [clr_length]

theorem settle_any (T U R K m f d : Nat) (hs : List Hk) (c o : Int) (key : ByteArray) (num : Int) (D : DataW Unit) (acc : Bool) (w : World) (hn : hs.length ≤ 65536) (hT : Tbl w T U R hs f c o m D) (hK : KeyAt w K key num) (hKT : K ≠ T) (hsz : key.size ≤ 9223372036854775807)
    (hd : (acc && decide (o ≤ num)) = true → f < hs.length ∧ d < hs.length ∧ IntKind.u64.wrap (num - o) = (d : Int)) :
    Calls Try.prog 31 #[.pointer (some ⟨T, 0, none⟩), .pointer (some ⟨K, 0, none⟩), .bool acc] w fun e w' => e = .returned (.tuple #[]) ∧ Tbl w' T U R (clrB hs (acc && decide (o ≤ num)) ((f + d) % hs.length)) f c o m (D.del (kl key)) ∧ Only T U R w w' := by
  obtain ⟨a1, a2, a3⟩ := hT.apart
  obtain ⟨L, chk, M, h1, h2, h3, h4, h5⟩ := hT
  by_cases hb : (acc && decide (o ≤ num)) = true
  · obtain ⟨g1, g2, g3⟩ := hd hb
    rw [hb]
    simp at hb
    obtain ⟨rfl, hge⟩ := hb
    refine (settle_hit T U R M K m d f L chk hs c o key num D w hn g1 g2 g3 h1 h2 h3 h4 h5 hK hKT hsz hge).mono ?_
    rintro e w' ⟨rfl, q1, q2, q3, q4, q5⟩
    refine ⟨rfl, ⟨L, _, M, ?_, .inr rfl, ?_, ?_, q4⟩, q5⟩
    · rw [clrB_length]; exact q1
    · rw [clrB_length]; exact q2
    · rw [clrB_length]; exact q3
  · have hb' : (acc && decide (o ≤ num)) = false := by simpa using hb
    rw [hb']
    refine (settle_miss T U R M K m hs.length L chk f c o key num D acc w h1 h2 h3.lt a2 a3 h5 hK hKT hsz hb').mono ?_
    rintro e w' ⟨rfl, q1, q2, q4, q5⟩
    exact ⟨rfl, ⟨L, _, M, q1, .inr rfl, h3.keep q2, fun i hi => (h4 i hi).grown q2, q4⟩, q5⟩

set_option maxHeartbeats 400000 in
theorem zsettle_any (T U R K m f d : Nat) (hs : List Hk) (c o : Int) (key : ByteArray) (num : Int) (D : DataW Unit) (acc : Bool) (w : World) (hn : hs.length ≤ 65536) (hT : Tbl w T U R hs f c o m D) (hK : KeyAt w K key num) (hKT : K ≠ T) (hsz : key.size ≤ 9223372036854775807)
    (hd : (acc && decide (o ≤ num)) = true → f < hs.length ∧ d < hs.length ∧ IntKind.u64.wrap (num - o) = (d : Int)) :
    Calls Try.prog 14 #[.pointer (some ⟨T, 0, none⟩), .pointer (some ⟨K, 0, none⟩), .bool acc] w fun e w' => e = .returned (.tuple #[]) ∧ Tbl w' T U R (clrB hs (acc && decide (o ≤ num)) ((f + d) % hs.length)) f c o m (D.del (kl key)) ∧ Only T U R w w' := by
  have C := hideIt (settle_any T U R K m f d hs c o key num D acc w hn hT hK hKT hsz hd)
  clear hT hK hd hKT
  go_enter Try.func14, Try.ntmps14
  go_wp2_with fail
  refine C.out.mono ?_
  rintro e w1 ⟨rfl, h1, h2⟩
  have H1 := hideIt h1
  have H2 := hideIt h2
  clear h1 h2 C
  go_wp2
  go_end0
  exact ⟨rfl, H1.out, H2.out⟩

end Go.Proofs.Qxb6609104a

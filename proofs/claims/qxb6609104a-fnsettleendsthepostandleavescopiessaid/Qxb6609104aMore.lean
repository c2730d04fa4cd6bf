/-
  SEAT b6609104a: the walk of FnCopiesOneKeyMore.
-/
import Derived.Test.Qxb6609104aSame
namespace Go.Proofs.Qxb6609104a
open Go.RowKit
set_option linter.unusedVariables false

/-- Block X is a box of the two cells a, b. -/
def BoxAt (w : World) (X : Nat) (a b : Value) : Prop := w.heap[X]? = some (.cells #[a, b] 36 (0, 0))
theorem BoxAt.lt {w : World} {X : Nat} {a b : Value} (h : BoxAt w X a b) : X < w.heap.size := (Array.getElem?_eq_some_iff.1 h).1
theorem BoxAt.below {w w' : World} {X B : Nat} {a b : Value} (h : BoxAt w X a b) (hb : Below B w w') (hB : w.heap.size ≤ B) : BoxAt w' X a b := (hb.block X (Nat.lt_of_lt_of_le h.lt hB)).trans h
theorem BoxAt.cells {w : World} {X : Nat} {a b : Value} (h : BoxAt w X a b) : w.cell? ⟨X, 0, none⟩ = some a ∧ w.cell? ⟨X, 1, none⟩ = some b := by
  unfold BoxAt at h
  exact ⟨by simp [World.cell?, h], by simp [World.cell?, h]⟩
theorem BoxAt.new (w : World) (a b : Value) : BoxAt (w.alloc (.cells #[a, b] 36)) w.heap.size a b := heap_alloc_new w _
theorem below_alloc (w : World) (o : Obj) : Below w.heap.size w (w.alloc o) := (Below.refl _ _).alloc (Nat.le_refl _) _

/-- The copies of the cnt keys from f on lie in block C. -/
def Cps (hs : List Hk) (n f cnt : Nat) (w : World) (C : Nat) : Prop := C < w.heap.size ∧ ∀ i, i < cnt → CopyOf hs n f w C i
theorem Cps.below {hs : List Hk} {n f cnt : Nat} {w w' : World} {C B : Nat} (h : Cps hs n f cnt w C) (hb : Below B w w') (hB : w.heap.size ≤ B) : Cps hs n f cnt w' C :=
  ⟨Nat.lt_of_lt_of_le h.1 hb.size, fun i hi => (h.2 i hi).below hb (Nat.lt_of_lt_of_le h.1 hB)⟩

set_option maxHeartbeats 2000000 in
theorem more_walk (ao : Option Addr) (cap : Nat) (f c o : Int) (hs : List Hk) (w : World) (hlen : hs.length ≤ 9223372036854775807) (ho0 : 0 ≤ o) (ho1 : o < 18446744073709551616) (hin : RingIn w ao hs) :
    Calls Try.prog 6 #[.slice ao hs.length cap, .int .i64 f, .int .i64 c, .int .u64 o] w fun e w' => e = .returned (.bool true) ∧ Below w.heap.size w w' := by
  have HIN := hideIt hin
  clear hin
  go_enter Try.func6, Try.ntmps6
  go_wp2_with fail
  refine (bytes23_any ao hs.length cap f c o w hlen).mono ?_
  rintro e w1 ⟨⟨bo, rfl⟩, hw⟩
  subst w1
  cases bo
  · go_wp2
    go_ret
    exact ⟨rfl, Below.refl _ _⟩
  by_cases h16 : (26214 : Int) < (hs.length : Int)
  · go_wp2_with fail
    go_ret
    exact ⟨rfl, Below.refl _ _⟩
  by_cases hsh : Shape (hs.length : Int) f c
  case neg =>
    go_wp2_with fail
    refine (shape_no _ f c w hsh).mono ?_
    rintro e w1 ⟨rfl, hw⟩
    subst w1
    go_wp2
    go_ret
    exact ⟨rfl, Below.refl _ _⟩
  go_wp2_with fail
  refine (shape_yes _ f c w hsh).mono ?_
  rintro e w1 ⟨rfl, hw⟩
  subst w1
  by_cases hcn : (hs.length : Int) ≤ c
  · go_wp2_with fail
    go_ret
    exact ⟨rfl, Below.refl _ _⟩
  obtain ⟨h0, h1, h2, h3, h4⟩ : (hs.length : Int) ≠ 0 ∧ 0 ≤ f ∧ f < (hs.length : Int) ∧ 0 ≤ c ∧ c ≤ (hs.length : Int) := by
    rcases hsh with ⟨g1, g2, g3⟩ | g
    · omega
    · exact g
  obtain ⟨n, hn⟩ : ∃ n, n = hs.length := ⟨_, rfl⟩
  have HN := hideIt hn
  obtain ⟨f, rfl⟩ : ∃ j : Nat, f = j := ⟨f.toNat, by omega⟩
  obtain ⟨c, rfl⟩ : ∃ j : Nat, c = j := ⟨c.toNat, by omega⟩
  clear hsh hn HN n
  have hfn : f < hs.length := by omega
  have hcc : c < hs.length := by omega
  have hnn : hs.length ≤ 26214 := by omega
  clear h0 h1 h2 h3 h4 h16 hcn
  obtain ⟨b, off, rfl⟩ : ∃ b off, ao = some ⟨b, off, none⟩ := by
    rcases HIN.out with h | ⟨b, off, h, _⟩
    · rw [h] at hfn; simp at hfn
    · exact ⟨b, off, h⟩
  go_wp2_with fail
  refine (newTable_any (some ⟨b, off, none⟩) cap hs f c o w (by omega) HIN.out).mono ?_
  rintro e w1 ⟨T, U, R, M, L, rfl, hT, hR, hH, hU, hge, hb1⟩
  go_wp2_with fail
  refine (zcopies_any T U R M hs.length f c L (.int .u64 0) o hs w1 (by omega) (by omega) (.inl hfn) ho0 ho1 hT hR hH).mono ?_
  rintro e w2 ⟨C1, rfl, hC1a, hC1b, hc1, hb2⟩
  have hP1 : Cps hs hs.length f c w2 C1 := ⟨hC1b, hc1⟩
  have hb02 : Below w.heap.size w w2 := hb1.trans (hb2.mono hb1.size)
  have HIN2 := hideIt (HIN.out.below hb02 (Nat.le_refl _))
  have HP1 := hideIt hP1
  have HB02 := hideIt hb02
  clear hT hR hH hU hge hb1 hc1 hb2 hP1 hb02 hC1a hC1b HIN
  go_wp2_with fail
  refine (newTable_any (some ⟨b, off, none⟩) cap hs f ((c : Int) + 1) o _ (by omega) (HIN2.out.below (below_alloc w2 _) (Nat.le_refl _))).mono ?_
  rintro e w3 ⟨T2, U2, R2, M2, L2, rfl, hT, hR, hH, hU, hge, hb3⟩
  rw [show ((c : Int) + 1) = ((c + 1 : Nat) : Int) from by omega] at hT
  rw [World.size_alloc] at hb3
  go_wp2_with fail
  refine (zcopies_any T2 U2 R2 M2 hs.length f (c + 1) L2 (.int .u64 0) o hs w3 (by omega) (by omega) (.inl hfn) ho0 ho1 hT hR hH).mono ?_
  rintro e w4 ⟨C2, rfl, hC2a, hC2b, hc2, hb4⟩
  have hb24 : Below (w2.heap.size + 1) (w2.alloc (.cells #[.int .u64 o, .slice (some ⟨C1, 0, none⟩) c c] 36)) w4 := hb3.trans (hb4.mono (by have := hb3.size; simp at this; omega))
  have hX1 : BoxAt w4 w2.heap.size (.int .u64 o) (.slice (some ⟨C1, 0, none⟩) c c) := (BoxAt.new w2 _ _).below hb24 (by simp)
  have hP1 : Cps hs hs.length f c w4 C1 := (HP1.out.below (below_alloc w2 _) (Nat.le_refl _)).below hb24 (by simp)
  have hP2 : Cps hs hs.length f (c + 1) w4 C2 := ⟨hC2b, hc2⟩
  have hb24' : Below w2.heap.size w2 w4 := (below_alloc w2 _).trans (hb24.mono (by omega))
  have hR4 : RingIn w4 (some ⟨b, off, none⟩) hs := HIN2.out.below hb24' (Nat.le_refl _)
  have hb04 : Below w.heap.size w w4 := HB02.out.trans (hb24'.mono HB02.out.size)
  have HX1 := hideIt hX1
  have HP1' := hideIt hP1
  have HP2 := hideIt hP2
  have HR4 := hideIt hR4
  have HB04 := hideIt hb04
  have hxl := hX1.lt
  obtain ⟨x0, x1⟩ := hX1.cells
  clear hT hR hH hU hge hb3 hc2 hb4 hb24 hX1 hP1 hP2 hb24' hR4 hb04 hC2a hC2b HIN2 HP1 HB02
  go_wp2_with fail
  refine (model_any C1 hs.length f c cap (some ⟨b, off, none⟩) o hs _ (by omega) rfl (by omega) (.inl hfn) (Nat.lt_of_lt_of_le HP1'.out.1 (below_alloc w4 _).size) (HR4.out.below (below_alloc w4 _) (Nat.le_refl _)) (HP1'.out.below (below_alloc w4 _) (Nat.le_refl _)).2).mono ?_
  rintro e w5 ⟨rfl, hb5⟩
  rw [World.size_alloc] at hb5
  have hX2 : BoxAt w5 w4.heap.size (.int .u64 o) (.slice (some ⟨C2, 0, none⟩) (c + 1) (c + 1)) := (BoxAt.new w4 _ _).below hb5 (by simp)
  have hb45 : Below w4.heap.size w4 w5 := (below_alloc w4 _).trans (hb5.mono (by omega))
  have hX1 := HX1.out.below hb45 (Nat.le_refl _)
  have hP1 := HP1'.out.below hb45 (Nat.le_refl _)
  have hP2 := HP2.out.below hb45 (Nat.le_refl _)
  have hR5 := HR4.out.below hb45 (Nat.le_refl _)
  have hb05 : Below w.heap.size w w5 := HB04.out.trans (hb45.mono HB04.out.size)
  clear HX1 HP1' HP2 HR4 HB04 hb5 hb45 x0 x1 hxl
  have HX1 := hideIt hX1
  have HX2 := hideIt hX2
  have HP1 := hideIt hP1
  have HP2 := hideIt hP2
  have HR5 := hideIt hR5
  have HB05 := hideIt hb05
  obtain ⟨x0, x1⟩ := hX2.cells
  clear hX1 hX2 hP1 hP2 hR5 hb05
  have e0 : (o != o) = false := by simp
  have e1 : ((c : Int) + 1 != (c : Int) + 1) = false := by simp
  go_wp2_with fail
  refine (first_any o _ (c + 1) (c + 1) _).mono ?_
  rintro e w6 ⟨rfl, hb6⟩
  have hX2 := HX2.out.below hb6 (Nat.le_refl _)
  clear x0 x1
  obtain ⟨x0, x1⟩ := hX2.cells
  have HB6 := hideIt hb6
  clear hX2 hb6
  go_wp2_with fail
  refine (len_any o _ (c + 1) (c + 1) _).mono ?_
  rintro e w7 ⟨rfl, hb7⟩
  have hb57 : Below w5.heap.size w5 w7 := HB6.out.trans (hb7.mono HB6.out.size)
  have HB57 := hideIt hb57
  clear hb57 hb7 HB6 x0 x1
  go_wp2
  go_loopw [11] (fun i wr => ∃ k : Nat, k ≤ c ∧ i = .int .i64 k ∧ Below w5.heap.size w5 wr) (fun i _ => c - (intOf i).toNat)
  case atStart => exact ⟨0, Nat.zero_le _, rfl, HB57.out⟩
  case round =>
    clear HB57
    obtain ⟨k, hk, rfl, hbr⟩ := hrel
    by_cases hlt : k < c
    · have ha := (HP1.out.below hbr (Nat.le_refl _)).2 k hlt
      have hb := (HP2.out.below hbr (Nat.le_refl _)).2 k (by omega)
      unfold CopyOf at ha hb
      generalize (at_ hs ((f + k) % hs.length)).o = y at ha hb
      generalize (at_ hs ((f + k) % hs.length)).s = z at ha hb
      have f0 : (y != y) = false := by simp
      have f1 : (z != z) = false := by simp
      have HAk := hideIt ha
      have HBk := hideIt hb
      have HBR := hideIt hbr
      obtain ⟨x0, x1⟩ := (HX1.out.below hbr (Nat.le_refl _)).cells
      clear ha hb hbr
      go_wp2_with fail
      refine (copyAt_any o C1 c c k y 0 z 0 _ hlt (by omega) HAk.out).mono ?_
      rintro e w8 ⟨rfl, hb8⟩
      have hbr := HBR.out.trans (hb8.mono HBR.out.size)
      have hb' := HBk.out.below hb8 HBk.out.1
      clear HBR hb8 x0 x1 HAk HBk
      have HBR := hideIt hbr
      have HBk := hideIt hb'
      obtain ⟨x0, x1⟩ := (HX2.out.below hbr (Nat.le_refl _)).cells
      clear hbr hb'
      go_wp2_with fail
      refine (copyAt_any o C2 (c + 1) (c + 1) k y 0 z 0 _ (by omega) (by omega) HBk.out).mono ?_
      rintro e w9 ⟨rfl, hb9⟩
      have hbr := HBR.out.trans (hb9.mono HBR.out.size)
      clear HBR hb9 x0 x1 HBk
      go_wp2
      go_roundw
      case rel => exact ⟨k + 1, by omega, by go_num, hbr⟩
      case measure => simp [intOf]; omega
    · obtain ⟨p, hp⟩ : ∃ p, p = (f + c) % hs.length := ⟨_, rfl⟩
      have hpn : p < hs.length := by rw [hp]; exact Nat.mod_lt _ (by omega)
      have epl : placeI (hs.length : Int) (f : Int) (c : Int) = (p : Int) := by
        unfold placeI
        rw [hp]
        by_cases h : hs.length ≤ f + c
        · rw [if_pos (by omega), Nat.mod_eq_sub_mod h, Nat.mod_eq_of_lt (by omega)]; omega
        · rw [if_neg (by omega), Nat.mod_eq_of_lt (by omega)]; omega
      have cpl := fun W => place_any (hs.length : Int) (f : Int) (c : Int) W (by omega) (by omega) (by omega) (by omega) (by omega)
      rw [epl] at cpl
      have CPL := hideIt cpl
      obtain ⟨bx, ofx, ebo, hbw, hx⟩ : ∃ b' off', some (⟨b, off, none⟩ : Addr) = some ⟨b', off', none⟩ ∧ b' < wr.heap.size ∧ HeldAt wr b' (off' + p * 5) (at_ hs p) := by
        rcases HR5.out.below hbr (Nat.le_refl _) with h | ⟨b', off', h1, h2, h3⟩
        · rw [h] at hpn; simp at hpn
        · exact ⟨b', off', h1, h2, h3 p hpn⟩
      simp only [Option.some.injEq, Addr.mk.injEq, and_true] at ebo
      obtain ⟨rfl, rfl⟩ := ebo
      have hcp := (HP2.out.below hbr (Nat.le_refl _)).2 c (by omega)
      unfold CopyOf at hcp
      rw [← hp] at hcp
      generalize at_ hs p = x at hx hcp
      obtain ⟨d0, d1, d2, d3, d4⟩ := hx
      have HHX : Hid (HeldAt wr b (off + p * 5) x) := ⟨d0, d1, d2, d3, d4⟩
      have HCP := hideIt hcp
      have hX2r := HX2.out.below hbr (Nat.le_refl _)
      have hxs := hX2r.lt
      obtain ⟨x0, x1⟩ := hX2r.cells
      have HF := hideIt (HB05.out.trans (hbr.mono HB05.out.size))
      have b1 : (0 : Int) ≤ (p : Int) := by omega
      have b2 : (p : Int) < (hs.length : Int) := by omega
      clear cpl epl hp hcp hX2r hbr
      go_wp2
      go_region_held3 (fun w' => w'.cell? ⟨w4.heap.size, 0, none⟩ = some (.int .u64 o) ∧ w'.cell? ⟨w4.heap.size, 1, none⟩ = some (.slice (some ⟨C2, 0, none⟩) (c + 1) (c + 1)) ∧ w'.cell? ⟨b, off + p * 5, none⟩ = some (.int .u64 x.h) ∧ w'.cell? ⟨b, off + p * 5 + 1, none⟩ = some (.int .i64 x.o) ∧ w'.cell? ⟨b, off + p * 5 + 2, none⟩ = some (.int .i64 x.a) ∧ w'.cell? ⟨b, off + p * 5 + 3, none⟩ = some (.int .u32 x.s) ∧ w'.cell? ⟨b, off + p * 5 + 4, none⟩ = some (.bool x.p)) (first | go_keep | exact keep7 (w := wr.drew) hb3 hxs hbw x0 x1 HHX.out)
        ((first | (go_at_call 15; refine (CPL.out _).mono ?_; rintro e w3 ⟨rfl, hw3⟩; subst w3) | (go_at_call 27; refine (copyIs_yes o C2 (c + 1) (c + 1) c x.h x.o x.a x.s x.p _ (by omega) (by omega) (CopyAt.below (B := wr.heap.size) HCP.out (Below.drew (Below.refl _ _)) HCP.out.1)).mono ?_; rintro e w3 ⟨rfl, hb3⟩)))
      go_wp2
      go_ret
      exact ⟨rfl, HF.out.trans ((Below.trans (B := wr.heap.size) (Below.drew (Below.refl _ _)) hb3).mono HF.out.size)⟩

end Go.Proofs.Qxb6609104a

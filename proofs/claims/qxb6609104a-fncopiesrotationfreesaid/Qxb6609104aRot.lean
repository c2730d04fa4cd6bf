/-
  SEAT b6609104a: the walk of FnCopiesRotationFree.
-/
import Derived.Test.Qxb6609104aMore
namespace Go.Proofs.Qxb6609104a
open Go.RowKit
set_option linter.unusedVariables false

theorem Try.info49 : (Try.prog.info? 49).map (fun i => (i.zero, i.size, i.bytes)) = some (some (.agg #[.int .u64 0, .int .i64 0, .int .i64 0, .int .u32 0, .bool false]), 5, 32) := by kernel_rfl

/-- Block R is a row of n places of the law's own type. -/
def HRow (w : World) (R n : Nat) : Prop := ∃ cur : Array Value, w.heap[R]? = some (.cells cur 49 (0, 0)) ∧ cur.size = n * 5
theorem HRow.cell {w : World} {R n : Nat} (h : HRow w R n) (q : Nat) (hq : q < n * 5) : ∃ v, w.cell? ⟨R, q, none⟩ = some v := by
  obtain ⟨cur, h1, h2⟩ := h
  exact ⟨cur[q]'(by omega), by simp [World.cell?, h1, h2, hq]⟩
theorem HRow.free {w : World} {R n : Nat} (h : HRow w R n) (q : Nat) : w.frozen? ⟨R, q, none⟩ = false := by
  obtain ⟨cur, h1, h2⟩ := h
  simp [World.frozen?, h1]
theorem HRow.set {w : World} {R n : Nat} (h : HRow w R n) (q : Nat) (v : Value) : HRow (w.setCell ⟨R, q, none⟩ v) R n := by
  obtain ⟨cur, h1, h2⟩ := h
  exact ⟨_, heap_setCell_same w R q cur 49 v h1, by simpa using h2⟩
theorem hset5_row {w : World} {R n : Nat} (h : HRow w R n) (q : Nat) (x : Hk) : HRow (set5 w R q x) R n := ((((h.set _ _).set _ _).set _ _).set _ _).set _ _
theorem hset5_held {w : World} {R n : Nat} (h : HRow w R n) (q : Nat) (x : Hk) (hq : q + 5 ≤ n * 5) : HeldAt (set5 w R q x) R q x := by
  unfold set5
  refine ⟨?_, ?_, ?_, ?_, ?_⟩
  · obtain ⟨v, hv⟩ := h.cell q (by omega)
    rw [World.cell?_setCell_other _ _ _ _ (by simp), World.cell?_setCell_other _ _ _ _ (by simp), World.cell?_setCell_other _ _ _ _ (by simp), World.cell?_setCell_other _ _ _ _ (by simp)]
    exact World.cell?_setCell_same _ _ _ hv
  · obtain ⟨v, hv⟩ := (h.set q (.int .u64 x.h)).cell (q + 1) (by omega)
    rw [World.cell?_setCell_other _ _ _ _ (by simp), World.cell?_setCell_other _ _ _ _ (by simp), World.cell?_setCell_other _ _ _ _ (by simp)]
    exact World.cell?_setCell_same _ _ _ hv
  · obtain ⟨v, hv⟩ := ((h.set q (.int .u64 x.h)).set (q + 1) (.int .i64 x.o)).cell (q + 2) (by omega)
    rw [World.cell?_setCell_other _ _ _ _ (by simp), World.cell?_setCell_other _ _ _ _ (by simp)]
    exact World.cell?_setCell_same _ _ _ hv
  · obtain ⟨v, hv⟩ := (((h.set q (.int .u64 x.h)).set (q + 1) (.int .i64 x.o)).set (q + 2) (.int .i64 x.a)).cell (q + 3) (by omega)
    rw [World.cell?_setCell_other _ _ _ _ (by simp)]
    exact World.cell?_setCell_same _ _ _ hv
  · obtain ⟨v, hv⟩ := ((((h.set q (.int .u64 x.h)).set (q + 1) (.int .i64 x.o)).set (q + 2) (.int .i64 x.a)).set (q + 3) (.int .u32 x.s)).cell (q + 4) (by omega)
    exact World.cell?_setCell_same _ _ _ hv

/-- x modulo n, for x below twice n. -/
def md (n x : Nat) : Nat := if n ≤ x then x - n else x
theorem mod_md {n x : Nat} (h : x < 2 * n) : x % n = md n x := by
  unfold md
  split
  · rw [Nat.mod_eq_sub_mod (by assumption), Nat.mod_eq_of_lt (by omega)]
  · exact Nat.mod_eq_of_lt (by omega)

/-- The ring turned by t. -/
def turnedL (hs : List Hk) (t : Nat) : List Hk := (List.range hs.length).map fun q => at_ hs (md hs.length (q + hs.length - t))
theorem turned_length (hs : List Hk) (t : Nat) : (turnedL hs t).length = hs.length := by simp [turnedL]
theorem turned_at (hs : List Hk) (t q : Nat) (hq : q < hs.length) : at_ (turnedL hs t) q = at_ hs (md hs.length (q + hs.length - t)) := by
  show (turnedL hs t).getD q hk0 = _
  unfold turnedL
  rw [List.getD_eq_getElem?_getD, List.getElem?_map, List.getElem?_range hq]
  rfl
theorem turned_copy (hs : List Hk) (t f f2 i : Nat) (ht : t < hs.length ∨ t = 0) (hf : f < hs.length) (hi : i < hs.length) (h2 : f2 = md hs.length (f + t)) :
    at_ (turnedL hs t) ((f2 + i) % hs.length) = at_ hs ((f + i) % hs.length) := by
  have hf2 : f2 < hs.length := by rw [h2]; unfold md; split <;> omega
  rw [mod_md (by omega), mod_md (by omega), turned_at _ _ _ (by unfold md; split <;> omega)]
  congr 1
  subst h2
  unfold md
  repeat' split
  all_goals omega

theorem rot_end {hs : List Hk} {t g : Nat} {w : World} (ht : t < hs.length) (hg : g < w.heap.size) (hh : ∀ p, p < hs.length → HeldAt w g (md hs.length (p + t) * 5) (at_ hs p)) : RingIn w (some ⟨g, 0, none⟩) (turnedL hs t) := by
  refine .inr ⟨g, 0, rfl, hg, fun i hi => ?_⟩
  rw [turned_length] at hi
  rw [turned_at hs t i hi, Nat.zero_add]
  have h := hh (md hs.length (i + hs.length - t)) (by unfold md; split <;> omega)
  have e : md hs.length (md hs.length (i + hs.length - t) + t) = i := by
    unfold md
    repeat' split
    all_goals omega
  rwa [e] at h

theorem rot_step {hs : List Hk} {t k q g B : Nat} {w0 w : World} {x : Hk} (hR : HRow w g hs.length) (hk : k < hs.length) (ht : t < hs.length) (hh : ∀ p, p < k → HeldAt w g (md hs.length (p + t) * 5) (at_ hs p)) (hx : x = at_ hs k) (hq : q = md hs.length (k + t)) (hb : Below B w0 w) (hBg : B ≤ g := by exact Nat.le_refl _) :
    HRow (set5 w g (q * 5) x) g hs.length ∧ (∀ p, p < k + 1 → HeldAt (set5 w g (q * 5) x) g (md hs.length (p + t) * 5) (at_ hs p)) ∧ Below B w0 (set5 w g (q * 5) x) := by
  have hqn : q < hs.length := by rw [hq]; unfold md; split <;> omega
  have hgl : g < w.heap.size := by obtain ⟨cur, h1, _⟩ := hR; exact (Array.getElem?_eq_some_iff.1 h1).1
  refine ⟨hset5_row hR _ _, fun p hp => ?_, hb.grown (set5_grown w g _ x) (by omega) (fun j hj => by cases hj; exact hBg)⟩
  by_cases hpk : p = k
  · subst hpk
    rw [← hq, ← hx]
    exact hset5_held hR _ _ (by omega)
  · refine set5_keeps (hh p (by omega)) ?_
    have : md hs.length (p + t) ≠ q := by
      rw [hq]; unfold md
      repeat' split
      all_goals omega
    omega

set_option maxRecDepth 100000 in
set_option maxHeartbeats 3000000 in
theorem rot_walk (ao : Option Addr) (cap : Nat) (f c o t : Int) (hs : List Hk) (w : World) (hlen : hs.length ≤ 9223372036854775807) (ho0 : 0 ≤ o) (ho1 : o < 18446744073709551616) (hin : RingIn w ao hs) :
    Calls Try.prog 5 #[.slice ao hs.length cap, .int .i64 f, .int .i64 c, .int .u64 o, .int .i64 t] w fun e w' => e = .returned (.bool true) ∧ Below w.heap.size w w' := by
  have HIN := hideIt hin
  clear hin
  go_enter Try.func5, Try.ntmps5
  go_wp2_with fail
  refine (bytes22_any ao hs.length cap f c o t w hlen).mono ?_
  rintro e w1 ⟨⟨bo, rfl⟩, hw⟩
  subst w1
  cases bo
  · go_wp2
    go_ret
    exact ⟨rfl, Below.refl _ _⟩
  by_cases h16 : (26214 : Int) < (hs.length : Int)
  · go_wp2_with fail
    go_ret
    exact ⟨rfl, Below.refl _ _⟩
  by_cases hsh : Shape (hs.length : Int) f c
  case neg =>
    go_wp2_with fail
    refine (shape_no _ f c w hsh).mono ?_
    rintro e w1 ⟨rfl, hw⟩
    subst w1
    go_wp2
    go_ret
    exact ⟨rfl, Below.refl _ _⟩
  go_wp2_with fail
  refine (shape_yes _ f c w hsh).mono ?_
  rintro e w1 ⟨rfl, hw⟩
  subst w1
  by_cases ht0 : t < 0
  · go_wp2_with fail
    go_ret
    exact ⟨rfl, Below.refl _ _⟩
  by_cases ht1 : (hs.length : Int) ≤ t ∧ t ≠ 0
  · obtain ⟨ht1, ht2⟩ := ht1
    have ht3 : (t != 0) = true := by simpa using ht2
    clear ht2
    go_wp2_with fail
    go_ret
    exact ⟨rfl, Below.refl _ _⟩
  obtain ⟨t, rfl⟩ : ∃ j : Nat, t = j := ⟨t.toNat, by omega⟩
  obtain ⟨f, rfl⟩ : ∃ j : Nat, f = j := ⟨f.toNat, by rcases hsh with ⟨g1, g2, g3⟩ | g <;> omega⟩
  obtain ⟨c, rfl⟩ : ∃ j : Nat, c = j := ⟨c.toNat, by rcases hsh with ⟨g1, g2, g3⟩ | g <;> omega⟩
  have ht : t < hs.length ∨ t = 0 := by omega
  have hfn : f < hs.length ∨ (hs.length = 0 ∧ f = 0) := by rcases hsh with ⟨g1, g2, g3⟩ | g <;> omega
  have hcn : c ≤ hs.length := by rcases hsh with ⟨g1, g2, g3⟩ | g <;> omega
  have hnn : hs.length ≤ 26214 := by omega
  clear hsh ht1 ht0 h16
  have HT := hideIt ht
  have HF := hideIt hfn
  obtain ⟨i0, hi, hz0, hz1, hz2⟩ := info_parts Try.info49
  have HI : Hid (Try.prog.info? 49 = some i0 ∧ i0.zero = some (.agg #[.int .u64 0, .int .i64 0, .int .i64 0, .int .u32 0, .bool false]) ∧ i0.size = 5 ∧ i0.bytes = 32) := ⟨hi, hz0, hz1, hz2⟩
  clear hi hz0 hz1 hz2
  by_cases hn0 : hs.length = 0
  · obtain rfl : hs = [] := List.eq_nil_of_length_eq_zero hn0
    obtain ⟨rfl, rfl, rfl⟩ : f = 0 ∧ c = 0 ∧ t = 0 := by
      simp at hfn ht hcn
      omega
    clear HT HF hfn ht hn0
    go_wp2_with (first
      | (at_make; refine wpList_make_full _ rfl _ _ 22 rfl w.heap.size 49 i0 _ 5 Try.underlying22 HI.out.1 HI.out.2.1 HI.out.2.2.1 .i64 .i64 _ _ 0 rfl rfl rfl rfl (by rw [HI.out.2.2.2]; omega) (by unfold maxLen; omega) (Nat.le_refl _) ?_))
    intro wA hownA hgA
    have hbA : Below w.heap.size w wA := (Below.refl _ _).grown hgA (Nat.le_refl _) (fun j hj => by cases hj)
    have HBA := hideIt hbA
    have HINA : Hid (RingIn wA ao []) := .inl rfl
    clear hownA hgA hbA
    go_wp2_with fail
    refine wp_loop_rounds 1 ?_
    rw [rounds_succ]
    go_wp2_with fail
    refine (newTable_any ao cap [] 0 0 o _ (by simp) (.inl rfl)).mono ?_
    rintro e w1 ⟨T, U, R, M, L, rfl, hT, hR, hH, hU, hge, hb1⟩
    go_wp2_with fail
    refine (zcopies_any T U R M 0 0 0 L (.int .u64 0) o [] w1 (by omega) (by omega) (.inr rfl) ho0 ho1 hT hR hH).mono ?_
    rintro e w2 ⟨C1, rfl, hC1a, hC1b, hc1, hb2⟩
    have HB02 := hideIt (HBA.out.trans ((hb1.trans (hb2.mono hb1.size)).mono HBA.out.size))
    clear hT hR hH hU hge hb1 hc1 hb2 hC1a HBA HINA
    go_wp2_with fail
    refine (newTable_any (some ⟨w.heap.size, 0, none⟩) 0 [] 0 0 o _ (by simp) (.inl rfl)).mono ?_
    rintro e w3 ⟨T2, U2, R2, M2, L2, rfl, hT, hR, hH, hU, hge, hb3⟩
    rw [World.size_alloc] at hb3
    go_wp2_with fail
    refine (zcopies_any T2 U2 R2 M2 0 0 0 L2 (.int .u64 0) o [] w3 (by omega) (by omega) (.inr rfl) ho0 ho1 hT hR hH).mono ?_
    rintro e w4 ⟨C2, rfl, hC2a, hC2b, hc2, hb4⟩
    have hb24 : Below (w2.heap.size + 1) (w2.alloc (.cells #[.int .u64 o, .slice (some ⟨C1, 0, none⟩) 0 0] 36)) w4 := hb3.trans (hb4.mono (by have := hb3.size; simp at this; omega))
    have hX1 : BoxAt w4 w2.heap.size (.int .u64 o) (.slice (some ⟨C1, 0, none⟩) 0 0) := (BoxAt.new w2 _ _).below hb24 (by simp)
    have hb24' : Below w2.heap.size w2 w4 := (below_alloc w2 _).trans (hb24.mono (by omega))
    have HB04 := hideIt (HB02.out.trans (hb24'.mono HB02.out.size))
    have HX1 := hideIt hX1
    have hxl := hX1.lt
    obtain ⟨x0, x1⟩ := hX1.cells
    clear hT hR hH hU hge hb3 hc2 hb4 hb24 hX1 hb24' hC2a HB02
    go_wp2_with fail
    refine (model_nil C1 cap ao o _).mono ?_
    rintro e w5 ⟨rfl, hb5⟩
    rw [World.size_alloc] at hb5
    have hX2 : BoxAt w5 w4.heap.size (.int .u64 o) (.slice (some ⟨C2, 0, none⟩) 0 0) := (BoxAt.new w4 _ _).below hb5 (by simp)
    have hb45 : Below w4.heap.size w4 w5 := (below_alloc w4 _).trans (hb5.mono (by omega))
    have hX1 := HX1.out.below hb45 (Nat.le_refl _)
    have HB05 := hideIt (HB04.out.trans (hb45.mono HB04.out.size))
    clear HX1 HB04 hb5 hb45 x0 x1 hxl
    obtain ⟨x0, x1⟩ := hX1.cells
    obtain ⟨x2, x3⟩ := hX2.cells
    clear hX1 hX2
    go_wp2_with fail
    refine (same_yes C1 C2 0 o (fun i => (0, 0)) _ (by omega) (fun i hi => absurd hi (by omega)) (fun i hi => absurd hi (by omega))).mono ?_
    rintro e w6 ⟨rfl, hb6⟩
    have HF6 := hideIt (HB05.out.trans (hb6.mono HB05.out.size))
    clear hb6
    go_wp2
    go_ret
    exact ⟨rfl, HF6.out⟩
  have hfn' : f < hs.length := by omega
  have ht' : t < hs.length := by omega
  have g1 : ¬ ((hs.length : Int) ≤ (t : Int)) := by omega
  clear HT HF hfn ht hn0
  obtain ⟨b, off, rfl⟩ : ∃ b off, ao = some ⟨b, off, none⟩ := by
    rcases HIN.out with h | ⟨b, off, h, _⟩
    · rw [h] at hfn'; simp at hfn'
    · exact ⟨b, off, h⟩
  obtain ⟨hbw, hheld⟩ : b < w.heap.size ∧ ∀ i, i < hs.length → HeldAt w b (off + i * 5) (at_ hs i) := by
    rcases HIN.out with h | ⟨b', off', h1, h2, h3⟩
    · rw [h] at hfn'; simp at hfn'
    · simp only [Option.some.injEq, Addr.mk.injEq, and_true] at h1
      obtain ⟨rfl, rfl⟩ := h1
      exact ⟨h2, h3⟩
  have HHELD := hideIt hheld
  clear hheld
  go_wp2_with (first
    | (at_make; refine wpList_make_full _ rfl _ _ 22 rfl w.heap.size 49 i0 _ 5 Try.underlying22 HI.out.1 HI.out.2.1 HI.out.2.2.1 .i64 .i64 _ _ hs.length rfl rfl rfl rfl (by rw [HI.out.2.2.2]; omega) (by unfold maxLen; omega) (Nat.le_refl _) ?_))
  intro wA hownA hgA
  obtain ⟨cur, hcur, hsz, _, hgl⟩ := row_of_owns hownA
  have hRA : HRow wA w.heap.size hs.length := ⟨cur, hcur, hsz⟩
  have hbA : Below w.heap.size w wA := (Below.refl _ _).grown hgA (Nat.le_refl _) (fun j hj => by cases hj)
  clear hownA hgA hcur hsz
  go_wp2
  go_loopw [13] (fun i wr => ∃ k : Nat, k ≤ hs.length ∧ i = .int .i64 k ∧ HRow wr w.heap.size hs.length ∧ (∀ p, p < k → HeldAt wr w.heap.size (md hs.length (p + t) * 5) (at_ hs p)) ∧ Below w.heap.size w wr)
    (fun i _ => hs.length - (intOf i).toNat)
  case atStart => exact ⟨0, Nat.zero_le _, rfl, hRA, fun p hp => absurd hp (by omega), hbA⟩
  case round =>
    clear hRA hbA
    obtain ⟨k, hk, rfl, hRr, hhr, hbr⟩ := hrel
    by_cases hlt : k < hs.length
    · have hx := (HHELD.out k hlt).grown (hbr.block b hbw)
      obtain ⟨x, hxe⟩ : ∃ x, x = at_ hs k := ⟨_, rfl⟩
      rw [← hxe] at hx
      obtain ⟨d0, d1, d2, d3, d4⟩ := hx
      obtain ⟨q, hq⟩ : ∃ q, q = md hs.length (k + t) := ⟨_, rfl⟩
      have hqn : q < hs.length := by rw [hq]; unfold md; split <;> omega
      have HQ := hideIt hq
      have HXE := hideIt hxe
      have HHR := hideIt hhr
      obtain ⟨v0, e0⟩ := hRr.cell (q * 5) (by omega)
      obtain ⟨v1, e1⟩ := hRr.cell (q * 5 + 1) (by omega)
      obtain ⟨v2, e2⟩ := hRr.cell (q * 5 + 2) (by omega)
      obtain ⟨v3, e3⟩ := hRr.cell (q * 5 + 3) (by omega)
      obtain ⟨v4, e4⟩ := hRr.cell (q * 5 + 4) (by omega)
      have z0 := hRr.free (q * 5)
      have z1 := hRr.free (q * 5 + 1)
      have z2 := hRr.free (q * 5 + 2)
      have z3 := hRr.free (q * 5 + 3)
      have z4 := hRr.free (q * 5 + 4)
      have R := rot_step (hs := hs) (t := t) hRr hlt ht' HHR.out hxe hq hbr
      have HR := hideIt R
      clear hxe hq hhr R hbr
      by_cases hge : hs.length ≤ k + t
      · have eq1 : ((k : Int) + (t : Int) - (hs.length : Int)) = (q : Int) := by have := HQ.out; unfold md at this; rw [if_pos hge] at this; omega
        have b1 : (0 : Int) ≤ (q : Int) := by omega
        have b2 : (q : Int) < (hs.length : Int) := by omega
        have b3 : ((hs.length : Int) ≤ (k : Int) + (t : Int)) := by omega
        go_wp2
        go_roundw
        case rel => exact ⟨k + 1, by omega, by go_num, HR.out.1, HR.out.2.1, HR.out.2.2⟩
        case measure => simp [intOf]; omega
      · have eq1 : ((k : Int) + (t : Int)) = (q : Int) := by have := HQ.out; unfold md at this; rw [if_neg hge] at this; omega
        have b1 : (0 : Int) ≤ (q : Int) := by omega
        have b2 : (q : Int) < (hs.length : Int) := by omega
        have b3 : ¬ ((hs.length : Int) ≤ (k : Int) + (t : Int)) := by omega
        go_wp2
        go_roundw
        case rel => exact ⟨k + 1, by omega, by go_num, HR.out.1, HR.out.2.1, HR.out.2.2⟩
        case measure => simp [intOf]; omega
    · obtain rfl : k = hs.length := by omega
      have HINT := hideIt (rot_end ht' (by obtain ⟨cur, h1, _⟩ := hRr; exact (Array.getElem?_eq_some_iff.1 h1).1) hhr)
      have HINA : Hid (RingIn wr (some ⟨b, off, none⟩) hs) := HIN.out.below hbr (Nat.le_refl _)
      have HBA := hideIt hbr
      clear HIN HHELD hhr hRr hbr
      obtain ⟨f2, hf2e⟩ : ∃ f2, f2 = md hs.length (f + t) := ⟨_, rfl⟩
      have hf2n : f2 < hs.length := by rw [hf2e]; unfold md; split <;> omega
      have HF2E := hideIt hf2e
      have HF2 : Hid ((hs.length ≤ f + t → f2 + hs.length = f + t) ∧ (¬ hs.length ≤ f + t → f2 = f + t)) := by
        rw [hf2e]; unfold md
        exact ⟨fun h => by rw [if_pos h]; omega, fun h => by rw [if_neg h]⟩
      clear hf2e
      have p0 : (0 : Int) < (hs.length : Int) := by omega
      by_cases hge : hs.length ≤ f + t
      · have b3 : ((hs.length : Int) ≤ (f : Int) + (t : Int)) := by omega
        go_wp2_with fail
        refine (newTable_any (some ⟨b, off, none⟩) cap hs f c o _ (by omega) (HINA.out)).mono ?_
        rintro e w1 ⟨T, U, R, M, L, rfl, hT, hR, hH, hU, hge, hb1⟩
        go_wp2_with fail
        refine (zcopies_any T U R M hs.length f c L (.int .u64 0) o hs w1 (by omega) hcn (.inl hfn') ho0 ho1 hT hR hH).mono ?_
        rintro e w2 ⟨C1, rfl, hC1a, hC1b, hc1, hb2⟩
        have hP1 : Cps hs hs.length f c w2 C1 := ⟨hC1b, hc1⟩
        have hbA2 : Below wr.heap.size wr w2 := hb1.trans (hb2.mono hb1.size)
        have HINT2 := hideIt (HINT.out.below hbA2 (Nat.le_refl _))
        have HIN2 := hideIt (HINA.out.below hbA2 (Nat.le_refl _))
        have HP1 := hideIt hP1
        have HB02 := hideIt (HBA.out.trans (hbA2.mono HBA.out.size))
        clear hT hR hH hU hge hb1 hc1 hb2 hP1 hbA2 hC1a hC1b HINT HINA HBA
        go_wp2_with fail
        have ct := newTable_any (some ⟨w.heap.size, 0, none⟩) hs.length (turnedL hs t) ((f : Int) + (t : Int) - (hs.length : Int)) c o (w2.alloc (.cells #[.int .u64 o, .slice (some ⟨C1, 0, none⟩) c c] 36)) (by rw [turned_length]; omega) (HINT2.out.below (below_alloc w2 _) (Nat.le_refl _))
        rw [turned_length] at ct
        refine ct.mono ?_
        clear ct
        rintro e w3 ⟨T2, U2, R2, M2, L2, rfl, hT, hR, hH, hU, hge, hb3⟩
        rw [turned_length] at hT hR hH
        rw [show ((f : Int) + (t : Int) - (hs.length : Int) : Int) = (f2 : Int) from by have := HF2.out; omega] at hT
        rw [World.size_alloc] at hb3
        go_wp2_with fail
        refine (zcopies_any T2 U2 R2 M2 hs.length f2 c L2 (.int .u64 0) o (turnedL hs t) w3 (by omega) hcn (.inl hf2n) ho0 ho1 hT hR hH).mono ?_
        rintro e w4 ⟨C2, rfl, hC2a, hC2b, hc2, hb4⟩
        have hb24 : Below (w2.heap.size + 1) (w2.alloc (.cells #[.int .u64 o, .slice (some ⟨C1, 0, none⟩) c c] 36)) w4 := hb3.trans (hb4.mono (by have := hb3.size; simp at this; omega))
        have hX1 : BoxAt w4 w2.heap.size (.int .u64 o) (.slice (some ⟨C1, 0, none⟩) c c) := (BoxAt.new w2 _ _).below hb24 (by simp)
        have hP1 : Cps hs hs.length f c w4 C1 := (HP1.out.below (below_alloc w2 _) (Nat.le_refl _)).below hb24 (by simp)
        have hP2 : Cps (turnedL hs t) hs.length f2 c w4 C2 := ⟨hC2b, hc2⟩
        have hb24' : Below w2.heap.size w2 w4 := (below_alloc w2 _).trans (hb24.mono (by omega))
        have hR4 : RingIn w4 (some ⟨b, off, none⟩) hs := HIN2.out.below hb24' (Nat.le_refl _)
        have hb04 : Below w.heap.size w w4 := HB02.out.trans (hb24'.mono HB02.out.size)
        have HX1 := hideIt hX1
        have HP1' := hideIt hP1
        have HP2 := hideIt hP2
        have HR4 := hideIt hR4
        have HB04 := hideIt hb04
        have hxl := hX1.lt
        obtain ⟨x0, x1⟩ := hX1.cells
        clear hT hR hH hU hge hb3 hc2 hb4 hb24 hX1 hP1 hP2 hb24' hR4 hb04 hC2a hC2b HIN2 HINT2 HP1 HB02
        go_wp2_with fail
        refine (model_any C1 hs.length f c cap (some ⟨b, off, none⟩) o hs _ (by omega) rfl hcn (.inl hfn') (Nat.lt_of_lt_of_le HP1'.out.1 (below_alloc w4 _).size) (HR4.out.below (below_alloc w4 _) (Nat.le_refl _)) (HP1'.out.below (below_alloc w4 _) (Nat.le_refl _)).2).mono ?_
        rintro e w5 ⟨rfl, hb5⟩
        rw [World.size_alloc] at hb5
        have hX2 : BoxAt w5 w4.heap.size (.int .u64 o) (.slice (some ⟨C2, 0, none⟩) c c) := (BoxAt.new w4 _ _).below hb5 (by simp)
        have hb45 : Below w4.heap.size w4 w5 := (below_alloc w4 _).trans (hb5.mono (by omega))
        have hX1 := HX1.out.below hb45 (Nat.le_refl _)
        have hP1 := HP1'.out.below hb45 (Nat.le_refl _)
        have hP2 := HP2.out.below hb45 (Nat.le_refl _)
        have hb05 : Below w.heap.size w w5 := HB04.out.trans (hb45.mono HB04.out.size)
        clear HX1 HP1' HP2 HR4 HB04 hb5 hb45 x0 x1 hxl
        have HA := hideIt hP1.2
        have HB : Hid (∀ i, i < c → CopyAt w5 C2 i (at_ hs ((f + i) % hs.length)).o 0 (at_ hs ((f + i) % hs.length)).s 0) := fun i hi => by
          have := hP2.2 i hi
          unfold CopyOf at this
          rwa [turned_copy hs t f f2 i (.inl ht') hfn' (by omega) HF2E.out] at this
        have HB05 := hideIt hb05
        obtain ⟨x0, x1⟩ := hX1.cells
        obtain ⟨x2, x3⟩ := hX2.cells
        clear hX1 hX2 hP1 hP2 hb05
        go_wp2_with fail
        refine (same_yes C1 C2 c o (fun i => ((at_ hs ((f + i) % hs.length)).o, (at_ hs ((f + i) % hs.length)).s)) _ (by omega) HA.out HB.out).mono ?_
        rintro e w6 ⟨rfl, hb6⟩
        have HF6 := hideIt (HB05.out.trans (hb6.mono HB05.out.size))
        clear hb6
        go_wp2
        go_ret
        exact ⟨rfl, HF6.out⟩
      · have b3 : ¬ ((hs.length : Int) ≤ (f : Int) + (t : Int)) := by omega
        go_wp2_with fail
        refine (newTable_any (some ⟨b, off, none⟩) cap hs f c o _ (by omega) (HINA.out)).mono ?_
        rintro e w1 ⟨T, U, R, M, L, rfl, hT, hR, hH, hU, hge, hb1⟩
        go_wp2_with fail
        refine (zcopies_any T U R M hs.length f c L (.int .u64 0) o hs w1 (by omega) hcn (.inl hfn') ho0 ho1 hT hR hH).mono ?_
        rintro e w2 ⟨C1, rfl, hC1a, hC1b, hc1, hb2⟩
        have hP1 : Cps hs hs.length f c w2 C1 := ⟨hC1b, hc1⟩
        have hbA2 : Below wr.heap.size wr w2 := hb1.trans (hb2.mono hb1.size)
        have HINT2 := hideIt (HINT.out.below hbA2 (Nat.le_refl _))
        have HIN2 := hideIt (HINA.out.below hbA2 (Nat.le_refl _))
        have HP1 := hideIt hP1
        have HB02 := hideIt (HBA.out.trans (hbA2.mono HBA.out.size))
        clear hT hR hH hU hge hb1 hc1 hb2 hP1 hbA2 hC1a hC1b HINT HINA HBA
        go_wp2_with fail
        have ct := newTable_any (some ⟨w.heap.size, 0, none⟩) hs.length (turnedL hs t) ((f : Int) + (t : Int)) c o (w2.alloc (.cells #[.int .u64 o, .slice (some ⟨C1, 0, none⟩) c c] 36)) (by rw [turned_length]; omega) (HINT2.out.below (below_alloc w2 _) (Nat.le_refl _))
        rw [turned_length] at ct
        refine ct.mono ?_
        clear ct
        rintro e w3 ⟨T2, U2, R2, M2, L2, rfl, hT, hR, hH, hU, hge, hb3⟩
        rw [turned_length] at hT hR hH
        rw [show ((f : Int) + (t : Int) : Int) = (f2 : Int) from by have := HF2.out; omega] at hT
        rw [World.size_alloc] at hb3
        go_wp2_with fail
        refine (zcopies_any T2 U2 R2 M2 hs.length f2 c L2 (.int .u64 0) o (turnedL hs t) w3 (by omega) hcn (.inl hf2n) ho0 ho1 hT hR hH).mono ?_
        rintro e w4 ⟨C2, rfl, hC2a, hC2b, hc2, hb4⟩
        have hb24 : Below (w2.heap.size + 1) (w2.alloc (.cells #[.int .u64 o, .slice (some ⟨C1, 0, none⟩) c c] 36)) w4 := hb3.trans (hb4.mono (by have := hb3.size; simp at this; omega))
        have hX1 : BoxAt w4 w2.heap.size (.int .u64 o) (.slice (some ⟨C1, 0, none⟩) c c) := (BoxAt.new w2 _ _).below hb24 (by simp)
        have hP1 : Cps hs hs.length f c w4 C1 := (HP1.out.below (below_alloc w2 _) (Nat.le_refl _)).below hb24 (by simp)
        have hP2 : Cps (turnedL hs t) hs.length f2 c w4 C2 := ⟨hC2b, hc2⟩
        have hb24' : Below w2.heap.size w2 w4 := (below_alloc w2 _).trans (hb24.mono (by omega))
        have hR4 : RingIn w4 (some ⟨b, off, none⟩) hs := HIN2.out.below hb24' (Nat.le_refl _)
        have hb04 : Below w.heap.size w w4 := HB02.out.trans (hb24'.mono HB02.out.size)
        have HX1 := hideIt hX1
        have HP1' := hideIt hP1
        have HP2 := hideIt hP2
        have HR4 := hideIt hR4
        have HB04 := hideIt hb04
        have hxl := hX1.lt
        obtain ⟨x0, x1⟩ := hX1.cells
        clear hT hR hH hU hge hb3 hc2 hb4 hb24 hX1 hP1 hP2 hb24' hR4 hb04 hC2a hC2b HIN2 HINT2 HP1 HB02
        go_wp2_with fail
        refine (model_any C1 hs.length f c cap (some ⟨b, off, none⟩) o hs _ (by omega) rfl hcn (.inl hfn') (Nat.lt_of_lt_of_le HP1'.out.1 (below_alloc w4 _).size) (HR4.out.below (below_alloc w4 _) (Nat.le_refl _)) (HP1'.out.below (below_alloc w4 _) (Nat.le_refl _)).2).mono ?_
        rintro e w5 ⟨rfl, hb5⟩
        rw [World.size_alloc] at hb5
        have hX2 : BoxAt w5 w4.heap.size (.int .u64 o) (.slice (some ⟨C2, 0, none⟩) c c) := (BoxAt.new w4 _ _).below hb5 (by simp)
        have hb45 : Below w4.heap.size w4 w5 := (below_alloc w4 _).trans (hb5.mono (by omega))
        have hX1 := HX1.out.below hb45 (Nat.le_refl _)
        have hP1 := HP1'.out.below hb45 (Nat.le_refl _)
        have hP2 := HP2.out.below hb45 (Nat.le_refl _)
        have hb05 : Below w.heap.size w w5 := HB04.out.trans (hb45.mono HB04.out.size)
        clear HX1 HP1' HP2 HR4 HB04 hb5 hb45 x0 x1 hxl
        have HA := hideIt hP1.2
        have HB : Hid (∀ i, i < c → CopyAt w5 C2 i (at_ hs ((f + i) % hs.length)).o 0 (at_ hs ((f + i) % hs.length)).s 0) := fun i hi => by
          have := hP2.2 i hi
          unfold CopyOf at this
          rwa [turned_copy hs t f f2 i (.inl ht') hfn' (by omega) HF2E.out] at this
        have HB05 := hideIt hb05
        obtain ⟨x0, x1⟩ := hX1.cells
        obtain ⟨x2, x3⟩ := hX2.cells
        clear hX1 hX2 hP1 hP2 hb05
        go_wp2_with fail
        refine (same_yes C1 C2 c o (fun i => ((at_ hs ((f + i) % hs.length)).o, (at_ hs ((f + i) % hs.length)).s)) _ (by omega) HA.out HB.out).mono ?_
        rintro e w6 ⟨rfl, hb6⟩
        have HF6 := hideIt (HB05.out.trans (hb6.mono HB05.out.size))
        clear hb6
        go_wp2
        go_ret
        exact ⟨rfl, HF6.out⟩

end Go.Proofs.Qxb6609104a

/-
  SEAT b6609104a: zzCopiesModel at an empty ring; zzSameCopies.
-/
import Derived.Test.Qxb6609104aModel
namespace Go.Proofs.Qxb6609104a
open Go.RowKit
set_option linter.unusedVariables false

set_option maxHeartbeats 1000000 in
theorem model_nil (C cap : Nat) (ao : Option Addr) (o : Int) (w : World) :
    Calls Try.prog 19 #[.agg #[.int .u64 o, .slice (some ⟨C, 0, none⟩) 0 0], .slice ao 0 cap, .int .i64 0, .int .i64 0, .int .u64 o] w fun e w' => e = .returned (.bool true) ∧ Below w.heap.size w w' := by
  go_enter Try.func19, Try.ntmps19
  go_wp2_with fail
  refine (first_any o _ 0 0 _).mono ?_
  rintro e w1 ⟨rfl, hb1⟩
  rw [World.size_alloc] at hb1
  obtain ⟨x0, x1⟩ := box_cells rfl hb1
  have e0 : (o != o) = false := by simp
  go_wp2_with fail
  refine (len_any o _ 0 0 _).mono ?_
  rintro e w2 ⟨rfl, hb2⟩
  have hb12 : BoxIn w (.int .u64 o) (.slice (some ⟨C, 0, none⟩) 0 0) w2 := BoxIn.step (show BoxIn w _ _ w1 from hb1) hb2
  clear hb1 hb2 x0 x1
  go_wp2
  refine wp_loop_rounds 1 ?_
  rw [rounds_succ]
  go_wp2
  refine wp_loop_rounds 1 ?_
  rw [rounds_succ]
  go_wp2
  go_ret
  exact ⟨rfl, hb12.below⟩

theorem model_any (C n f cnt cap : Nat) (ao : Option Addr) (o : Int) (hs : List Hk) (w : World) (hn : n ≤ 65536) (hlen : hs.length = n) (hcnt : cnt ≤ n) (hf : f < n ∨ (n = 0 ∧ f = 0)) (hC : C < w.heap.size)
    (hin : RingIn w ao hs) (hc : ∀ i, i < cnt → CopyOf hs n f w C i) :
    Calls Try.prog 19 #[.agg #[.int .u64 o, .slice (some ⟨C, 0, none⟩) cnt cnt], .slice ao n cap, .int .i64 f, .int .i64 cnt, .int .u64 o] w fun e w' => e = .returned (.bool true) ∧ Below w.heap.size w w' := by
  rcases hf with hf | ⟨rfl, rfl⟩
  · rcases hin with rfl | ⟨b, off, rfl, h2, h3⟩
    · simp at hlen; omega
    · exact model_some C n f cnt b off cap o hs w hn hlen hcnt hf hC h2 (by rw [hlen] at h3; exact h3) hc
  · obtain rfl : cnt = 0 := by omega
    exact model_nil C cap ao o w

/-- wr is w with two boxes laid at its end, and whatever behind them. -/
def Box2 (w : World) (a b c d : Value) (wr : World) : Prop := Below (w.heap.size + 2) ((w.alloc (.cells #[a, b] 36)).alloc (.cells #[c, d] 36)) wr
theorem Box2.cells {w wr : World} {a b c d : Value} (h : Box2 w a b c d wr) : wr.cell? ⟨w.heap.size, 0, none⟩ = some a ∧ wr.cell? ⟨w.heap.size, 1, none⟩ = some b ∧ wr.cell? ⟨w.heap.size + 1, 0, none⟩ = some c ∧ wr.cell? ⟨w.heap.size + 1, 1, none⟩ = some d := by
  have h1 := (Below.block h w.heap.size (by omega)).trans ((heap_alloc_old _ _ (by simp)).trans (heap_alloc_new w _))
  have h2 := (Below.block h (w.heap.size + 1) (by omega)).trans (alloc2_new w _ _)
  exact ⟨by simp [World.cell?, h1], by simp [World.cell?, h1], by simp [World.cell?, h2], by simp [World.cell?, h2]⟩
theorem Box2.size {w wr : World} {a b c d : Value} (h : Box2 w a b c d wr) : w.heap.size + 1 < wr.heap.size := by have := Below.size h; simp at this; omega
theorem Box2.below {w wr : World} {a b c d : Value} (h : Box2 w a b c d wr) : Below w.heap.size w wr := (((Below.refl _ _).alloc (Nat.le_refl _) _).alloc (by simp) _).trans (Below.mono h (by omega))
theorem Box2.step {w wr w' : World} {a b c d : Value} (h : Box2 w a b c d wr) (hb : Below wr.heap.size wr w') : Box2 w a b c d w' := Below.trans h (hb.mono (by have := h.size; omega))

theorem keep4 {w w' : World} {X Y : Nat} {a0 a1 a2 a3 : Value} (hb : Below w.heap.size w w') (hX : X < w.heap.size) (hY : Y < w.heap.size) (x0 : w.cell? ⟨X, 0, none⟩ = some a0) (x1 : w.cell? ⟨X, 1, none⟩ = some a1) (x2 : w.cell? ⟨Y, 0, none⟩ = some a2) (x3 : w.cell? ⟨Y, 1, none⟩ = some a3) :
    w'.cell? ⟨X, 0, none⟩ = some a0 ∧ w'.cell? ⟨X, 1, none⟩ = some a1 ∧ w'.cell? ⟨Y, 0, none⟩ = some a2 ∧ w'.cell? ⟨Y, 1, none⟩ = some a3 :=
  ⟨(hb.cell (p := ⟨X, 0, none⟩) hX).trans x0, (hb.cell (p := ⟨X, 1, none⟩) hX).trans x1, (hb.cell (p := ⟨Y, 0, none⟩) hY).trans x2, (hb.cell (p := ⟨Y, 1, none⟩) hY).trans x3⟩

set_option maxHeartbeats 1000000 in
theorem same_yes (A B cnt : Nat) (o : Int) (g : Nat → Int × Int) (w : World) (hn : cnt ≤ 65536) (hA : ∀ i, i < cnt → CopyAt w A i (g i).1 0 (g i).2 0) (hB : ∀ i, i < cnt → CopyAt w B i (g i).1 0 (g i).2 0) :
    Calls Try.prog 18 #[.agg #[.int .u64 o, .slice (some ⟨A, 0, none⟩) cnt cnt], .agg #[.int .u64 o, .slice (some ⟨B, 0, none⟩) cnt cnt]] w fun e w' => e = .returned (.bool true) ∧ Below w.heap.size w w' := by
  have HA := hideIt hA
  have HB := hideIt hB
  clear hA hB
  have hb0 : Box2 w (.int .u64 o) (.slice (some ⟨A, 0, none⟩) cnt cnt) (.int .u64 o) (.slice (some ⟨B, 0, none⟩) cnt cnt) ((w.alloc (.cells #[.int .u64 o, .slice (some ⟨A, 0, none⟩) cnt cnt] 36)).alloc (.cells #[.int .u64 o, .slice (some ⟨B, 0, none⟩) cnt cnt] 36)).drew := Below.drew (Below.refl _ _)
  have HB0 := hideIt hb0
  clear hb0
  go_enter Try.func18, Try.ntmps18
  go_wp2
  go_region_held3 (fun w' => w'.cell? ⟨w.heap.size, 0, none⟩ = some (.int .u64 o) ∧ w'.cell? ⟨w.heap.size, 1, none⟩ = some (.slice (some ⟨A, 0, none⟩) cnt cnt) ∧ w'.cell? ⟨w.heap.size + 1, 0, none⟩ = some (.int .u64 o) ∧ w'.cell? ⟨w.heap.size + 1, 1, none⟩ = some (.slice (some ⟨B, 0, none⟩) cnt cnt)) (first | go_keep | exact Box2.cells hbx)
    ((go_at_call 24; refine (first_any o _ cnt cnt _).mono ?_; rintro e w3 ⟨rfl, hb3⟩; have hbx : Box2 w (.int .u64 o) (.slice (some ⟨A, 0, none⟩) cnt cnt) (.int .u64 o) (.slice (some ⟨B, 0, none⟩) cnt cnt) w3 := (by first | exact hbx.step hb3 | exact HB0.out.step hb3); clear hb3))
  have HBX := hideIt hbx
  obtain ⟨x0, x1, x2, x3⟩ := hbx.cells
  have e0 : (o != o) = false := by simp
  have e1 : ((cnt : Int) != (cnt : Int)) = false := by simp
  clear hbx HB0
  go_wp2_with fail
  refine (len_any o _ cnt cnt _).mono ?_
  rintro e w4 ⟨rfl, hb4⟩
  have hbx := HBX.out.step hb4
  clear HBX hb4 x0 x1 x2 x3
  have HBX := hideIt hbx
  obtain ⟨x0, x1, x2, x3⟩ := hbx.cells
  clear hbx
  go_wp2_with fail
  refine (len_any o _ cnt cnt _).mono ?_
  rintro e w5 ⟨rfl, hb5⟩
  have hbx := HBX.out.step hb5
  clear HBX hb5 x0 x1 x2 x3
  go_wp2
  go_loopw [6] (fun i wr => ∃ k : Nat, k ≤ cnt ∧ i = .int .i64 k ∧ Box2 w (.int .u64 o) (.slice (some ⟨A, 0, none⟩) cnt cnt) (.int .u64 o) (.slice (some ⟨B, 0, none⟩) cnt cnt) wr) (fun i _ => cnt - (intOf i).toNat)
  case atStart => exact ⟨0, Nat.zero_le _, rfl, hbx⟩
  case round =>
    clear hbx
    obtain ⟨k, hk, rfl, hbx⟩ := hrel
    by_cases hlt : k < cnt
    · have hbelow := hbx.below
      have ha := (HA.out k hlt).below hbelow (HA.out k hlt).1
      have hb := (HB.out k hlt).below hbelow (HB.out k hlt).1
      generalize (g k).1 = y at ha hb
      generalize (g k).2 = z at ha hb
      have f0 : (y != y) = false := by simp
      have f1 : (z != z) = false := by simp
      have HAk := hideIt ha
      have HBk := hideIt hb
      have HBX := hideIt hbx
      obtain ⟨x0, x1, x2, x3⟩ := hbx.cells
      clear ha hb hbelow hbx
      go_wp2_with fail
      refine (copyAt_any o A cnt cnt k y 0 z 0 _ hlt hn HAk.out).mono ?_
      rintro e w6 ⟨rfl, hb6⟩
      have hbx := HBX.out.step hb6
      have hb' := HBk.out.below hb6 HBk.out.1
      clear HBX hb6 x0 x1 x2 x3 HAk HBk
      have HBX := hideIt hbx
      have HBk := hideIt hb'
      obtain ⟨x0, x1, x2, x3⟩ := hbx.cells
      clear hbx hb'
      go_wp2_with fail
      refine (copyAt_any o B cnt cnt k y 0 z 0 _ hlt hn HBk.out).mono ?_
      rintro e w7 ⟨rfl, hb7⟩
      have hbx := HBX.out.step hb7
      clear HBX hb7 x0 x1 x2 x3 HBk
      go_wp2
      go_roundw
      case rel => exact ⟨k + 1, by omega, by go_num, hbx⟩
      case measure => simp [intOf]; omega
    · go_wp2
      go_ret
      exact ⟨rfl, hbx.below⟩

end Go.Proofs.Qxb6609104a

/-
  SEAT b6609104a: zzCopiesModel: it answers true of what copies hands back.
-/
import Derived.Test.Qxb6609104aZcopies
namespace Go.Proofs.Qxb6609104a
open Go.RowKit
set_option linter.unusedVariables false

/-- The first test of zzCopiesModel: the copies' first and their number. -/
theorem box_cells {w : World} {ob : Obj} {a b : Value} (h : ob = .cells #[a, b] 36 (0, 0)) {w' : World} (hb : Below (w.heap.size + 1) (w.alloc ob) w') : w'.cell? ⟨w.heap.size, 0, none⟩ = some a ∧ w'.cell? ⟨w.heap.size, 1, none⟩ = some b := by
  have := (hb.block w.heap.size (by omega)).trans (heap_alloc_new w ob)
  subst h
  exact ⟨by simp [World.cell?, this], by simp [World.cell?, this]⟩

/-- wr is w with a box of the two cells a, b laid at its end, and whatever behind it. -/
def BoxIn (w : World) (a b : Value) (wr : World) : Prop := Below (w.heap.size + 1) (w.alloc (.cells #[a, b] 36)) wr
theorem BoxIn.cells {w wr : World} {a b : Value} (h : BoxIn w a b wr) : wr.cell? ⟨w.heap.size, 0, none⟩ = some a ∧ wr.cell? ⟨w.heap.size, 1, none⟩ = some b := box_cells rfl h
theorem BoxIn.size {w wr : World} {a b : Value} (h : BoxIn w a b wr) : w.heap.size < wr.heap.size := by have := Below.size h; simp at this; omega
theorem BoxIn.below {w wr : World} {a b : Value} (h : BoxIn w a b wr) : Below w.heap.size w wr := ((Below.refl _ _).alloc (Nat.le_refl _) _).trans (Below.mono h (by omega))
theorem BoxIn.step {w wr w' : World} {a b : Value} (h : BoxIn w a b wr) (hb : Below wr.heap.size wr w') : BoxIn w a b w' := Below.trans h (hb.mono h.size)

/-- Seven cells that a callee has left alone. -/
theorem keep7 {w w' : World} {X b q : Nat} {a0 a1 : Value} {x : Hk} (hb : Below w.heap.size w w') (hX : X < w.heap.size) (hB : b < w.heap.size) (x0 : w.cell? ⟨X, 0, none⟩ = some a0) (x1 : w.cell? ⟨X, 1, none⟩ = some a1) (hx : HeldAt w b q x) :
    w'.cell? ⟨X, 0, none⟩ = some a0 ∧ w'.cell? ⟨X, 1, none⟩ = some a1 ∧ w'.cell? ⟨b, q, none⟩ = some (.int .u64 x.h) ∧ w'.cell? ⟨b, q + 1, none⟩ = some (.int .i64 x.o) ∧ w'.cell? ⟨b, q + 2, none⟩ = some (.int .i64 x.a) ∧ w'.cell? ⟨b, q + 3, none⟩ = some (.int .u32 x.s) ∧ w'.cell? ⟨b, q + 4, none⟩ = some (.bool x.p) :=
  ⟨(hb.cell (p := ⟨X, 0, none⟩) hX).trans x0, (hb.cell (p := ⟨X, 1, none⟩) hX).trans x1, hx.grown (hb.block b hB)⟩

set_option maxHeartbeats 2000000 in
theorem model_some (C n f cnt b off cap : Nat) (o : Int) (hs : List Hk) (w : World) (hn : n ≤ 65536) (hlen : hs.length = n) (hcnt : cnt ≤ n) (hf : f < n) (hC : C < w.heap.size)
    (hbw : b < w.heap.size) (hin : ∀ i, i < n → HeldAt w b (off + i * 5) (at_ hs i)) (hc : ∀ i, i < cnt → CopyOf hs n f w C i) :
    Calls Try.prog 19 #[.agg #[.int .u64 o, .slice (some ⟨C, 0, none⟩) cnt cnt], .slice (some ⟨b, off, none⟩) n cap, .int .i64 f, .int .i64 cnt, .int .u64 o] w fun e w' => e = .returned (.bool true) ∧ Below w.heap.size w w' := by
  have HIN := hideIt hin
  have HC := hideIt hc
  have HLEN := hideIt hlen
  clear hin hc hlen
  go_enter Try.func19, Try.ntmps19
  go_wp2_with fail
  refine (first_any o _ cnt cnt _).mono ?_
  rintro e w1 ⟨rfl, hb1⟩
  rw [World.size_alloc] at hb1
  obtain ⟨x0, x1⟩ := box_cells rfl hb1
  have e0 : (o != o) = false := by simp
  go_wp2_with fail
  refine (len_any o _ cnt cnt _).mono ?_
  rintro e w2 ⟨rfl, hb2⟩
  have hb12 : BoxIn w (.int .u64 o) (.slice (some ⟨C, 0, none⟩) cnt cnt) w2 := BoxIn.step (show BoxIn w _ _ w1 from hb1) hb2
  clear hb1 hb2 x0 x1
  have e1 : ((cnt : Int) != (cnt : Int)) = false := by simp
  go_wp2
  go_loopw [11, 12] (fun i p wr => ∃ k p' : Nat, k ≤ cnt ∧ p' ≤ n ∧ Hid (p' = f + k) ∧ i = .int .i64 k ∧ p = .int .i64 p' ∧ BoxIn w (.int .u64 o) (.slice (some ⟨C, 0, none⟩) cnt cnt) wr)
    (fun i _ _ => cnt - (intOf i).toNat)
  case atStart => exact ⟨0, f, Nat.zero_le _, by omega, rfl, rfl, rfl, hb12⟩
  case round =>
    clear hb12
    obtain ⟨k, p', hk, hp', HP, rfl, rfl, hbx⟩ := hrel
    obtain ⟨x0, x1⟩ := hbx.cells
    have hbelow := hbx.below
    by_cases hlt : p' < n ∧ k < cnt
    · obtain ⟨hlt1, hlt2⟩ := hlt
      have hx := (HIN.out p' hlt1).grown (hbelow.block b hbw)
      obtain ⟨x, hxe⟩ : ∃ x, x = at_ hs p' := ⟨_, rfl⟩
      rw [← hxe] at hx
      obtain ⟨d0, d1, d2, d3, d4⟩ := hx
      have hcp : CopyAt wr C k x.o 0 x.s 0 := by
        have := CopyAt.below (HC.out k hlt2) hbelow hC
        rwa [show (f + k) % n = p' from by rw [← HP.out]; exact Nat.mod_eq_of_lt hlt1, ← hxe] at this
      have HCP := hideIt hcp
      have HHX : Hid (HeldAt wr b (off + p' * 5) x) := ⟨d0, d1, d2, d3, d4⟩
      have hxs := hbx.size
      have b1 : (0 : Int) ≤ (p' : Int) := by omega
      have b2 : (p' : Int) < (n : Int) := by omega
      have b3 : (k : Int) < (cnt : Int) := by omega
      have hbw' : b < wr.heap.size := by have := hbx.size; omega
      clear hxe hcp hbelow
      go_wp2
      go_region_held3 (fun w' => w'.cell? ⟨w.heap.size, 0, none⟩ = some (.int .u64 o) ∧ w'.cell? ⟨w.heap.size, 1, none⟩ = some (.slice (some ⟨C, 0, none⟩) cnt cnt) ∧ w'.cell? ⟨b, off + p' * 5, none⟩ = some (.int .u64 x.h) ∧ w'.cell? ⟨b, off + p' * 5 + 1, none⟩ = some (.int .i64 x.o) ∧ w'.cell? ⟨b, off + p' * 5 + 2, none⟩ = some (.int .i64 x.a) ∧ w'.cell? ⟨b, off + p' * 5 + 3, none⟩ = some (.int .u32 x.s) ∧ w'.cell? ⟨b, off + p' * 5 + 4, none⟩ = some (.bool x.p)) (first | go_keep | exact keep7 (w := wr.drew) hb3 hxs hbw' x0 x1 HHX.out)
        ((go_at_call 27; refine (copyIs_yes o C cnt cnt k x.h x.o x.a x.s x.p _ hlt2 (by omega) (HCP.out.below (Below.drew (Below.refl _ _)) (by omega))).mono ?_; rintro e w3 ⟨rfl, hb3⟩))
      go_wp2
      go_roundw
      case rel => exact ⟨k + 1, p' + 1, by omega, by omega, by show _ = _; rw [HP.out]; omega, by go_num, by go_num, hbx.step (Below.trans (Below.drew (Below.refl _ _)) hb3)⟩
      case measure => simp [intOf]; omega
    · have hd : Hid (k = cnt ∨ k + f = n + 0) := by
        show _ ∨ _
        have := HP.out
        omega
      clear hbelow HP
      by_cases h : p' < n
      · have h1 : ¬ ((k : Int) < (cnt : Int)) := by omega
        have h2 : ((p' : Int) < (n : Int)) := by omega
        clear h hlt
        go_wp2
        clear x0 x1
        go_loopw [11, 13] (fun i p wq => ∃ k p' : Nat, k ≤ cnt ∧ p' ≤ f ∧ Hid (k = cnt ∨ k + f = n + p') ∧ i = .int .i64 k ∧ p = .int .i64 p' ∧ BoxIn w (.int .u64 o) (.slice (some ⟨C, 0, none⟩) cnt cnt) wq)
          (fun i _ _ => cnt - (intOf i).toNat)
        case atStart => exact ⟨k, 0, hk, Nat.zero_le _, hd, rfl, rfl, hbx⟩
        case round =>
          clear hbx hd
          obtain ⟨k2, p2, hk2, hp2, HD, rfl, rfl, hbx⟩ := hrel
          obtain ⟨x0, x1⟩ := hbx.cells
          have hbelow := hbx.below
          by_cases hl : p2 < f ∧ k2 < cnt
          · obtain ⟨hl1, hl2⟩ := hl
            have hx := (HIN.out p2 (by omega)).grown (hbelow.block b hbw)
            obtain ⟨x, hxe⟩ : ∃ x, x = at_ hs p2 := ⟨_, rfl⟩
            rw [← hxe] at hx
            obtain ⟨d0, d1, d2, d3, d4⟩ := hx
            have hcp : CopyAt wr C k2 x.o 0 x.s 0 := by
              have := CopyAt.below (HC.out k2 hl2) hbelow hC
              rwa [show (f + k2) % n = p2 from by
                have := HD.out
                rw [show f + k2 = n + p2 from by omega, Nat.add_mod_left]
                exact Nat.mod_eq_of_lt (by omega), ← hxe] at this
            have HCP := hideIt hcp
            have HHX : Hid (HeldAt wr b (off + p2 * 5) x) := ⟨d0, d1, d2, d3, d4⟩
            have hxs := hbx.size
            have b1 : (0 : Int) ≤ (p2 : Int) := by omega
            have b2 : (p2 : Int) < (n : Int) := by omega
            have b3 : (k2 : Int) < (cnt : Int) := by omega
            have hbw' : b < wr.heap.size := by have := hbx.size; omega
            clear hxe hcp hbelow
            go_wp2
            go_region_held3 (fun w' => w'.cell? ⟨w.heap.size, 0, none⟩ = some (.int .u64 o) ∧ w'.cell? ⟨w.heap.size, 1, none⟩ = some (.slice (some ⟨C, 0, none⟩) cnt cnt) ∧ w'.cell? ⟨b, off + p2 * 5, none⟩ = some (.int .u64 x.h) ∧ w'.cell? ⟨b, off + p2 * 5 + 1, none⟩ = some (.int .i64 x.o) ∧ w'.cell? ⟨b, off + p2 * 5 + 2, none⟩ = some (.int .i64 x.a) ∧ w'.cell? ⟨b, off + p2 * 5 + 3, none⟩ = some (.int .u32 x.s) ∧ w'.cell? ⟨b, off + p2 * 5 + 4, none⟩ = some (.bool x.p)) (first | go_keep | exact keep7 (w := wr.drew) hb3 hxs hbw' x0 x1 HHX.out)
              ((go_at_call 27; refine (copyIs_yes o C cnt cnt k2 x.h x.o x.a x.s x.p _ hl2 (by omega) (HCP.out.below (Below.drew (Below.refl _ _)) (by omega))).mono ?_; rintro e w3 ⟨rfl, hb3⟩))
            go_wp2
            go_roundw
            case rel => exact ⟨k2 + 1, p2 + 1, by omega, by omega, by show _ ∨ _; have := HD.out; omega, by go_num, by go_num, hbx.step (Below.trans (Below.drew (Below.refl _ _)) hb3)⟩
            case measure => simp [intOf]; omega
          · by_cases h : p2 < f
            · have h3 : ¬ ((k2 : Int) < (cnt : Int)) := by omega
              have h4 : ((p2 : Int) < (f : Int)) := by omega
              clear h hl
              go_wp2
              go_ret
              exact ⟨rfl, hbelow⟩
            · have h4 : ¬ ((p2 : Int) < (f : Int)) := by omega
              clear h hl
              go_wp2
              go_ret
              exact ⟨rfl, hbelow⟩
      · have h2 : ¬ ((p' : Int) < (n : Int)) := by omega
        clear h hlt
        go_wp2
        clear x0 x1
        go_loopw [11, 13] (fun i p wq => ∃ k p' : Nat, k ≤ cnt ∧ p' ≤ f ∧ Hid (k = cnt ∨ k + f = n + p') ∧ i = .int .i64 k ∧ p = .int .i64 p' ∧ BoxIn w (.int .u64 o) (.slice (some ⟨C, 0, none⟩) cnt cnt) wq)
          (fun i _ _ => cnt - (intOf i).toNat)
        case atStart => exact ⟨k, 0, hk, Nat.zero_le _, hd, rfl, rfl, hbx⟩
        case round =>
          clear hbx hd
          obtain ⟨k2, p2, hk2, hp2, HD, rfl, rfl, hbx⟩ := hrel
          obtain ⟨x0, x1⟩ := hbx.cells
          have hbelow := hbx.below
          by_cases hl : p2 < f ∧ k2 < cnt
          · obtain ⟨hl1, hl2⟩ := hl
            have hx := (HIN.out p2 (by omega)).grown (hbelow.block b hbw)
            obtain ⟨x, hxe⟩ : ∃ x, x = at_ hs p2 := ⟨_, rfl⟩
            rw [← hxe] at hx
            obtain ⟨d0, d1, d2, d3, d4⟩ := hx
            have hcp : CopyAt wr C k2 x.o 0 x.s 0 := by
              have := CopyAt.below (HC.out k2 hl2) hbelow hC
              rwa [show (f + k2) % n = p2 from by
                have := HD.out
                rw [show f + k2 = n + p2 from by omega, Nat.add_mod_left]
                exact Nat.mod_eq_of_lt (by omega), ← hxe] at this
            have HCP := hideIt hcp
            have HHX : Hid (HeldAt wr b (off + p2 * 5) x) := ⟨d0, d1, d2, d3, d4⟩
            have hxs := hbx.size
            have b1 : (0 : Int) ≤ (p2 : Int) := by omega
            have b2 : (p2 : Int) < (n : Int) := by omega
            have b3 : (k2 : Int) < (cnt : Int) := by omega
            have hbw' : b < wr.heap.size := by have := hbx.size; omega
            clear hxe hcp hbelow
            go_wp2
            go_region_held3 (fun w' => w'.cell? ⟨w.heap.size, 0, none⟩ = some (.int .u64 o) ∧ w'.cell? ⟨w.heap.size, 1, none⟩ = some (.slice (some ⟨C, 0, none⟩) cnt cnt) ∧ w'.cell? ⟨b, off + p2 * 5, none⟩ = some (.int .u64 x.h) ∧ w'.cell? ⟨b, off + p2 * 5 + 1, none⟩ = some (.int .i64 x.o) ∧ w'.cell? ⟨b, off + p2 * 5 + 2, none⟩ = some (.int .i64 x.a) ∧ w'.cell? ⟨b, off + p2 * 5 + 3, none⟩ = some (.int .u32 x.s) ∧ w'.cell? ⟨b, off + p2 * 5 + 4, none⟩ = some (.bool x.p)) (first | go_keep | exact keep7 (w := wr.drew) hb3 hxs hbw' x0 x1 HHX.out)
              ((go_at_call 27; refine (copyIs_yes o C cnt cnt k2 x.h x.o x.a x.s x.p _ hl2 (by omega) (HCP.out.below (Below.drew (Below.refl _ _)) (by omega))).mono ?_; rintro e w3 ⟨rfl, hb3⟩))
            go_wp2
            go_roundw
            case rel => exact ⟨k2 + 1, p2 + 1, by omega, by omega, by show _ ∨ _; have := HD.out; omega, by go_num, by go_num, hbx.step (Below.trans (Below.drew (Below.refl _ _)) hb3)⟩
            case measure => simp [intOf]; omega
          · by_cases h : p2 < f
            · have h3 : ¬ ((k2 : Int) < (cnt : Int)) := by omega
              have h4 : ((p2 : Int) < (f : Int)) := by omega
              clear h hl
              go_wp2
              go_ret
              exact ⟨rfl, hbelow⟩
            · have h4 : ¬ ((p2 : Int) < (f : Int)) := by omega
              clear h hl
              go_wp2
              go_ret
              exact ⟨rfl, hbelow⟩

end Go.Proofs.Qxb6609104a

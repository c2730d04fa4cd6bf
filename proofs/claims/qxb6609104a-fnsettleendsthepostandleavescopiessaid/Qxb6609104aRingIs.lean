/-
  SEAT b6609104a: ZZheld, zzRingIs.
-/
import Derived.Test.Qxb6609104aSettle
namespace Go.Proofs.Qxb6609104a
open Go.RowKit
set_option linter.unusedVariables false

set_option maxHeartbeats 400000 in
theorem held_any (T R n i : Nat) (h o a s : Int) (p : Bool) (w : World) (hn : n ≤ 65536) (hi : i < n) (hT : w.cell? ⟨T, 12, none⟩ = some (.slice (some ⟨R, 0, none⟩) n n)) (hRl : R < w.heap.size) (hx : HeldAt w R (i * 5) ⟨h, o, a, s, p⟩) :
    Calls Try.prog 32 #[.pointer (some ⟨T, 0, none⟩), .int .i64 i] w fun e w' => e = .returned (.tuple #[.int .u64 h, .int .i64 o, .int .i64 a, .int .u32 s, .bool p]) ∧ Below w.heap.size w w' := by
  obtain ⟨c0, c1, c2, c3, c4⟩ := hx
  simp only at c0 c1 c2 c3 c4
  go_enter Try.func32, Try.ntmps32
  go_wp2
  go_quiet (fail)
  go_wp2
  refine bodyPost_ret (v := .tuple #[.int .u64 h, .int .i64 o, .int .i64 a, .int .u32 s, .bool p]) (by simp [results, Try.results32, go_sem]) rfl ⟨rfl, ?_⟩
  exact below_drewN ((Below.refl _ _).alloc (Nat.le_refl _) _) _

theorem Tbl.ringCell {w : World} {T U R : Nat} {hs : List Hk} {f c o : Int} {m : Nat} {D : DataW Unit} (h : Tbl w T U R hs f c o m D) : w.cell? ⟨T, 12, none⟩ = some (.slice (some ⟨R, 0, none⟩) hs.length hs.length) := by
  obtain ⟨L, chk, M, a, b, d, e, g⟩ := h
  exact a.ring
theorem Tbl.held {w : World} {T U R : Nat} {hs : List Hk} {f c o : Int} {m : Nat} {D : DataW Unit} (h : Tbl w T U R hs f c o m D) (i : Nat) (hi : i < hs.length) : HeldAt w R (i * 5) (at_ hs i) := by
  obtain ⟨L, chk, M, a, b, d, e, g⟩ := h
  exact e i hi

set_option maxHeartbeats 400000 in
theorem ringIs_nil (T : Nat) (ao : Option Addr) (cap : Nat) (c1 c2 : Int) (w : World) :
    Calls Try.prog 16 #[.pointer (some ⟨T, 0, none⟩), .slice ao 0 cap, .int .i64 c1, .int .i64 c2] w fun e w' => e = .returned (.bool true) ∧ Below w.heap.size w w' := by
  go_enter Try.func16, Try.ntmps16
  go_wp2
  refine wp_loop_rounds 1 ?_
  rw [rounds_succ]
  go_wp2
  go_ret
  exact ⟨rfl, Below.refl _ _⟩

set_option maxHeartbeats 1000000 in
theorem ringIs_some (T U R m b off cap : Nat) (hs ht : List Hk) (f c o c1 c2 : Int) (D : DataW Unit) (w : World) (hn : hs.length ≤ 65536) (hl : ht.length = hs.length) (hT : Tbl w T U R ht f c o m D) (hbw : b < w.heap.size) (hin : ∀ i, i < hs.length → HeldAt w b (off + i * 5) (at_ hs i))
    (hc : ∀ i, i < hs.length → at_ ht i = if (i : Int) = c1 ∨ (i : Int) = c2 then offOf (at_ hs i) else at_ hs i) :
    Calls Try.prog 16 #[.pointer (some ⟨T, 0, none⟩), .slice (some ⟨b, off, none⟩) hs.length cap, .int .i64 c1, .int .i64 c2] w fun e w' => e = .returned (.bool true) ∧ Below w.heap.size w w' := by
  have hRl := hT.lt.2.2
  have HT := hideIt hT
  have HIN := hideIt hin
  have HC := hideIt hc
  have HL := hideIt hl
  clear hT hin hc hl
  go_enter Try.func16, Try.ntmps16
  go_wp2
  go_loopw [9] (fun i wr => ∃ k : Nat, k ≤ hs.length ∧ i = .int .i64 k ∧ Below w.heap.size w wr) (fun i _ => hs.length - (intOf i).toNat)
  case atStart => exact ⟨0, Nat.zero_le _, rfl, Below.refl _ _⟩
  case round =>
    obtain ⟨k, hk, rfl, hb⟩ := hrel
    by_cases hlt : k < hs.length
    · have hTr := HT.out.below hb (Nat.le_refl _)
      have hx : HeldAt wr b (off + k * 5) (at_ hs k) := (HIN.out k hlt).grown (hb.block b hbw)
      have hy := hTr.held k (by have := HL.out; omega)
      have hring := hTr.ringCell
      rw [HL.out] at hring
      have hz := hb.size
      have hcc := HC.out k hlt
      rw [hcc] at hy
      obtain ⟨h, o', a, s, p, hxe⟩ : ∃ h o a s p, at_ hs k = ⟨h, o, a, s, p⟩ := ⟨_, _, _, _, _, rfl⟩
      rw [hxe] at hx hy
      have f0 : (h != h) = false := by simp
      have f1 : (o' != o') = false := by simp
      have f2 : (a != a) = false := by simp
      have f3 : (s != s) = false := by simp
      have f4 : (p != p) = false := by simp
      have HB := hideIt hb
      have HX := hideIt hx
      have hRw : R < wr.heap.size := by omega
      clear hTr hcc hxe hb hx
      by_cases e1 : (k : Int) = c1
      · have HY : Hid (HeldAt wr R (k * 5) ⟨h, o', a, s, false⟩) := by rw [if_pos (.inl e1)] at hy; exact hy
        have g1 : ((k : Int) == c1) = true := by simpa using e1
        clear hy e1
        go_wp2_with fail
        refine (held_any T R hs.length k h o' a s false wr hn hlt hring hRw HY.out).mono ?_
        rintro e w2 ⟨rfl, hb2⟩
        obtain ⟨d0, d1, d2, d3, d4⟩ : HeldAt w2 b (off + k * 5) ⟨h, o', a, s, p⟩ := HX.out.grown (hb2.block b (by omega))
        simp only at d0 d1 d2 d3 d4
        have HB2 := hideIt (HB.out.trans (hb2.mono hz))
        have hbw2 : b < w2.heap.size := by have := hb2.size; omega
        clear hb2 HX HB HY
        go_wp2
        go_roundw
        case rel => exact ⟨k + 1, by omega, by go_num, HB2.out.alloc HB2.out.size _⟩
        case measure => simp [intOf]; omega
      · by_cases e2 : (k : Int) = c2
        · have HY : Hid (HeldAt wr R (k * 5) ⟨h, o', a, s, false⟩) := by rw [if_pos (.inr e2)] at hy; exact hy
          have g1 : ((k : Int) == c1) = false := by simpa using e1
          have g2 : ((k : Int) == c2) = true := by simpa using e2
          clear hy e1 e2
          go_wp2_with fail
          refine (held_any T R hs.length k h o' a s false wr hn hlt hring hRw HY.out).mono ?_
          rintro e w2 ⟨rfl, hb2⟩
          obtain ⟨d0, d1, d2, d3, d4⟩ : HeldAt w2 b (off + k * 5) ⟨h, o', a, s, p⟩ := HX.out.grown (hb2.block b (by omega))
          simp only at d0 d1 d2 d3 d4
          have HB2 := hideIt (HB.out.trans (hb2.mono hz))
          have hbw2 : b < w2.heap.size := by have := hb2.size; omega
          clear hb2 HX HB HY
          go_wp2
          go_roundw
          case rel => exact ⟨k + 1, by omega, by go_num, HB2.out.alloc HB2.out.size _⟩
          case measure => simp [intOf]; omega
        · have HY : Hid (HeldAt wr R (k * 5) ⟨h, o', a, s, p⟩) := by rw [if_neg (by omega)] at hy; exact hy
          have g1 : ((k : Int) == c1) = false := by simpa using e1
          have g2 : ((k : Int) == c2) = false := by simpa using e2
          clear hy e1 e2
          go_wp2_with fail
          refine (held_any T R hs.length k h o' a s p wr hn hlt hring hRw HY.out).mono ?_
          rintro e w2 ⟨rfl, hb2⟩
          obtain ⟨d0, d1, d2, d3, d4⟩ : HeldAt w2 b (off + k * 5) ⟨h, o', a, s, p⟩ := HX.out.grown (hb2.block b (by omega))
          simp only at d0 d1 d2 d3 d4
          have HB2 := hideIt (HB.out.trans (hb2.mono hz))
          have hbw2 : b < w2.heap.size := by have := hb2.size; omega
          clear hb2 HX HB HY
          go_wp2
          go_roundw
          case rel => exact ⟨k + 1, by omega, by go_num, HB2.out.alloc HB2.out.size _⟩
          case measure => simp [intOf]; omega
    · have HB := hideIt hb
      clear hb
      go_wp2
      go_ret
      exact ⟨rfl, HB.out⟩

theorem ringIs_any (T U R m : Nat) (ao : Option Addr) (cap : Nat) (hs ht : List Hk) (f c o c1 c2 : Int) (D : DataW Unit) (w : World) (hn : hs.length ≤ 65536) (hl : ht.length = hs.length) (hT : Tbl w T U R ht f c o m D) (hin : RingIn w ao hs)
    (hc : ∀ i, i < hs.length → at_ ht i = if (i : Int) = c1 ∨ (i : Int) = c2 then offOf (at_ hs i) else at_ hs i) :
    Calls Try.prog 16 #[.pointer (some ⟨T, 0, none⟩), .slice ao hs.length cap, .int .i64 c1, .int .i64 c2] w fun e w' => e = .returned (.bool true) ∧ Below w.heap.size w w' := by
  rcases hin with rfl | ⟨b, off, rfl, h2, h3⟩
  · exact ringIs_nil T ao cap c1 c2 w
  · exact ringIs_some T U R m b off cap hs ht f c o c1 c2 D w hn hl hT h2 h3 hc

end Go.Proofs.Qxb6609104a

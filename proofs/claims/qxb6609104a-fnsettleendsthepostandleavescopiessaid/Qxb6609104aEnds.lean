/-
  SEAT b6609104a: the walk of FnSettleEndsThePostAndLeavesCopies.
-/
import Derived.Test.Qxb6609104aSteps
import Derived.Test.Qxb6609104aMore
import Derived.Deep.DeepCutAuto
namespace Go.Proofs.Qxb6609104a
open Go.RowKit
set_option linter.unusedVariables false

/-- Where one table lies; the world now. -/
structure St1 (w : World) (B T U R : Nat) (W : World) : Prop where
  below : Below w.heap.size w W
  p1 : w.heap.size ≤ T ∧ w.heap.size ≤ U ∧ w.heap.size ≤ R
  p2 : T < B ∧ U < B ∧ R < B
  p5 : B ≤ W.heap.size
section
variable {w W W' : World} {B T U R : Nat}
theorem St1.a (h : St1 w B T U R W) (ho : Only T U R W W') : St1 w B T U R W' :=
  ⟨h.below.trans (ho.below h.below.size h.p1.1 h.p1.2.1 h.p1.2.2), h.p1, h.p2, Nat.le_trans h.p5 ho.size⟩
theorem St1.on (h : St1 w B T U R W) (hb : Below W.heap.size W W') : St1 w B T U R W' :=
  ⟨h.below.trans (hb.mono h.below.size), h.p1, h.p2, Nat.le_trans h.p5 hb.size⟩
/-- A block from B on, through what turns the table alone. -/
theorem St1.block (h : St1 w B T U R W) (ho : Only T U R W W') (b : Nat) (hb : b < W.heap.size) (hB : B ≤ b) : W'.heap[b]? = W.heap[b]? := by
  obtain ⟨_, _, ⟨p, q, r⟩, _⟩ := h
  exact ho.block b hb (by omega) (by omega) (by omega)
end

theorem clrB_os (hs : List Hk) (b : Bool) (p i : Nat) (hi : i < hs.length) : (at_ (clrB hs b p) i).o = (at_ hs i).o ∧ (at_ (clrB hs b p) i).s = (at_ hs i).s := by
  rw [clrB_at hs b p i hi]
  split
  · exact ⟨rfl, rfl⟩
  · exact ⟨rfl, rfl⟩
theorem copyOf_clr {hs : List Hk} {b : Bool} {p n f i C : Nat} {w : World} (hl : hs.length = n) (hn : 0 < n) (h : CopyOf (clrB hs b p) n f w C i) : CopyOf hs n f w C i := by
  unfold CopyOf at *
  obtain ⟨e1, e2⟩ := clrB_os hs b p ((f + i) % n) (by rw [hl]; exact Nat.mod_lt _ hn)
  rw [e1, e2] at h
  exact h

theorem tcopies_any (T U R m n f cnt : Nat) (o : Int) (hs : List Hk) (D : DataW Unit) (w : World) (hl : hs.length = n) (hn : n ≤ 65536) (hcnt : cnt ≤ n) (hf : f < n ∨ n = 0) (ho0 : 0 ≤ o) (ho1 : o < 18446744073709551616) (hT : Tbl w T U R hs f cnt o m D) :
    Calls Try.prog 13 #[.pointer (some ⟨T, 0, none⟩)] w (Copied hs n f cnt o w) := by
  subst hl
  obtain ⟨L, chk, M, a, b, d, e, g⟩ := hT
  exact zcopies_any T U R M hs.length f cnt L chk o hs w hn hcnt hf ho0 ho1 a d e

set_option maxRecDepth 100000 in
set_option maxHeartbeats 4000000 in
theorem ends_walk (ar : Option Addr) (capr : Nat) (f c o : Int) (hs : List Hk) (az : Option Addr) (caps : Nat) (ss : List ByteArray) (k1 : ByteArray) (n1 : Int) (a1 : Bool) (w : World)
    (hlen : hs.length ≤ 9223372036854775807) (hslen : ss.length ≤ 9223372036854775807) (hss : ∀ x ∈ ss, x.size ≤ 9223372036854775807) (hk1 : k1.size ≤ 9223372036854775807)
    (ho0 : 0 ≤ o) (ho1 : o < 18446744073709551616) (hn10 : 0 ≤ n1) (hn11 : n1 < 18446744073709551616) (hin : RingIn w ar hs) (hstr : InStrs w az ss) :
    Calls Try.prog 3 #[.slice ar hs.length capr, .int .i64 f, .int .i64 c, .int .u64 o, .slice az ss.length caps, .string k1, .int .u64 n1, .bool a1] w fun e w' => e = .returned (.bool true) ∧ Below w.heap.size w w' := by
  have HIN := hideIt hin
  have HSTR := hideIt hstr
  have HSS := hideIt hss
  clear hin hstr hss
  go_enter Try.func3, Try.ntmps3
  go_wp2_with fail
  refine (bytes7_any ar hs.length capr az caps f c o n1 a1 k1 ss w hlen hslen hk1 HSS.out HSTR.out).mono ?_
  rintro e w1 ⟨⟨bo, rfl⟩, hw⟩
  subst w1
  cases bo
  · go_wp2
    go_ret
    exact ⟨rfl, Below.refl _ _⟩
  by_cases h16 : (26214 : Int) < (hs.length : Int)
  · go_wp2_with fail
    go_ret
    exact ⟨rfl, Below.refl _ _⟩
  go_wp2_with fail
  refine (addStrings_any az caps _ ss w hslen HSS.out (by omega) (by omega) HSTR.out).mono ?_
  rintro e w1 ⟨⟨x1, bo, rfl, hx1⟩, hw⟩
  subst w1
  cases bo
  · clear hx1
    go_wp2
    go_ret
    exact ⟨rfl, Below.refl _ _⟩
  obtain ⟨hx10, hx11, hs16⟩ := hx1 rfl
  clear hx1
  go_wp2_with fail
  refine (addString_any x1 k1 w hk1 hx10 hx11).mono ?_
  rintro e w1 ⟨⟨x2, bo, rfl, hx2⟩, hw⟩
  subst w1
  cases bo
  · clear hx2
    go_wp2
    go_ret
    exact ⟨rfl, Below.refl _ _⟩
  clear hx2 hx10 hx11
  by_cases hsh : Shape (hs.length : Int) f c
  case neg =>
    go_wp2_with fail
    refine (shape_no _ f c w hsh).mono ?_
    rintro e w1 ⟨rfl, hw⟩
    subst w1
    go_wp2
    go_ret
    exact ⟨rfl, Below.refl _ _⟩
  go_wp2_with fail
  refine (shape_yes _ f c w hsh).mono ?_
  rintro e w1 ⟨rfl, hw⟩
  subst w1
  obtain ⟨h1, h2, h3, h4⟩ : 0 ≤ f ∧ (f < (hs.length : Int) ∨ ((hs.length : Int) = 0 ∧ f = 0)) ∧ 0 ≤ c ∧ c ≤ (hs.length : Int) := by
    rcases hsh with ⟨g1, g2, g3⟩ | ⟨g1, g2, g3, g4, g5⟩
    · omega
    · omega
  obtain ⟨f, rfl⟩ : ∃ j : Nat, f = j := ⟨f.toNat, by omega⟩
  obtain ⟨c, rfl⟩ : ∃ j : Nat, c = j := ⟨c.toNat, by omega⟩
  have hcn : c ≤ hs.length := by omega
  have HFN : Hid (f < hs.length ∨ (hs.length = 0 ∧ f = 0)) := by have := h2; exact (by omega : f < hs.length ∨ (hs.length = 0 ∧ f = 0))
  have HF : Hid (f < hs.length ∨ c = 0) := by have := h2; exact (by omega : f < hs.length ∨ c = 0)
  have hnn : hs.length ≤ 26214 := by omega
  clear hsh h1 h2 h3 h4 h16

  obtain ⟨i1, hi1⟩ : ∃ i : Bool, i = (decide (o ≤ n1) && decide (n1 - o < (c : Int))) := ⟨_, rfl⟩
  have HI1 := hideIt hi1
  clear hi1
  have wc1 : IntKind.u64.wrap (c : Int) = (c : Int) := by rw [IntKind.wrap_u64]; omega
  go_upto_region 13 with fail
  go_cut [19] from 64 to 74 (fun s wx => s = .bool i1 ∧ wx = w)
  case first =>
    by_cases h : o ≤ n1
    · have wd : IntKind.u64.wrap (n1 - o) = n1 - o := by rw [IntKind.wrap_u64]; omega
      by_cases h' : n1 - o < (c : Int)
      · have E : Hid (Value.bool true = Value.bool i1) := by have : i1 = true := (by rw [HI1.out]; simp [h, h']); exact congrArg Value.bool this.symm
        go_wp2_with fail
        go_meet
        case rel => exact ⟨E.out, rfl⟩
      · have E : Hid (Value.bool false = Value.bool i1) := by have : i1 = false := (by rw [HI1.out]; simp [h, h']); exact congrArg Value.bool this.symm
        go_wp2_with fail
        go_meet
        case rel => exact ⟨E.out, rfl⟩
    · have E : Hid (Value.bool false = Value.bool i1) := by have : i1 = false := (by rw [HI1.out]; simp [h]); exact congrArg Value.bool this.symm
      go_wp2_with fail
      go_meet
      case rel => exact ⟨E.out, rfl⟩
  case rest =>
  obtain ⟨rfl, hwc⟩ := hcut
  subst wc
  obtain ⟨x1, hx1⟩ : ∃ x : Bool, x = (a1 && decide (o ≤ n1) && !i1) := ⟨_, rfl⟩
  have HX1 := hideIt hx1
  clear hx1
  go_upto_region 14 with fail
  go_cut [84] from 75 to 84 (fun s wx => s = .bool x1 ∧ wx = w)
  case first =>
    cases a1
    · have E : Hid (Value.bool false = Value.bool x1) := by have : x1 = false := (by rw [HX1.out]; simp); exact congrArg Value.bool this.symm
      go_wp2_with fail
      go_meet
      case rel => exact ⟨E.out, rfl⟩
    · by_cases h : o ≤ n1
      · have E : Hid (Value.bool (!i1) = Value.bool x1) := by have : x1 = !i1 := (by rw [HX1.out]; simp [h]); exact congrArg Value.bool this.symm
        go_wp2_with fail
        go_meet
        case rel => exact ⟨E.out, rfl⟩
      · have E : Hid (Value.bool false = Value.bool x1) := by have : x1 = false := (by rw [HX1.out]; simp [h]); exact congrArg Value.bool this.symm
        go_wp2_with fail
        go_meet
        case rel => exact ⟨E.out, rfl⟩
  case rest =>
  obtain ⟨rfl, hwc⟩ := hcut
  subst wc
  cases x1
  case true =>
    go_wp2
    go_ret
    exact ⟨rfl, Below.refl _ _⟩

  obtain ⟨b1, hb1⟩ : ∃ b : Bool, b = (a1 && decide (o ≤ n1)) := ⟨_, rfl⟩
  obtain ⟨d1, hd1⟩ : ∃ d : Nat, d = (n1 - o).toNat := ⟨_, rfl⟩
  obtain ⟨p1, hp1⟩ : ∃ p : Nat, p = (f + d1) % hs.length := ⟨_, rfl⟩
  have HB1 := hideIt hb1
  have HP1 := hideIt hp1
  have HD1 := hideIt (win_d (f := f) (n := hs.length) hb1 HI1.out HX1.out HF.out hcn hd1 ho0 hn11)
  have HG1 := hideIt (win_g hb1 HI1.out HX1.out)
  clear hb1 hd1 hp1 HI1 HX1 HF
  go_wp2_with fail
  refine (newTable_any ar capr hs f c o w (by omega) HIN.out).mono ?_
  intro e w1 hbt
  obtain ⟨T1, U1, R1, rfl, hT1, hge1, hb1⟩ := Tbl.of_built hbt
  clear hbt
  have HTA := hideIt hT1
  have HST : Hid (St1 w w1.heap.size T1 U1 R1 w1) := ⟨hb1, hge1, hT1.lt, Nat.le_refl _⟩
  clear hT1 hge1 hb1
  go_wp2
  go_loopw [21] (fun i wr => ∃ k : Nat, k ≤ ss.length ∧ i = .int .i64 k ∧ Tbl wr T1 U1 R1 hs f c o k (nmD ss k) ∧ St1 w w1.heap.size T1 U1 R1 wr) (fun i _ => ss.length - (intOf i).toNat)
  case atStart => exact ⟨0, Nat.zero_le _, rfl, HTA.out, HST.out⟩
  case round =>
    clear HTA HST
    obtain ⟨k, hk, rfl, hta, hst⟩ := hrel
    have HTA := hideIt hta
    have HST := hideIt hst
    clear hta hst
    by_cases hlt : k < ss.length
    · obtain ⟨bz, offz, rfl, hbz, hcz⟩ : ∃ b off, az = some ⟨b, off, none⟩ ∧ b < w.heap.size ∧ ∀ i, i < ss.length → w.cell? ⟨b, off + i, none⟩ = some (.string (ss.getD i ByteArray.empty)) := by
        rcases HSTR.out with h | h
        · rw [h] at hlt; simp at hlt
        · exact h
      have hsz : (ss.getD k ByteArray.empty).size ≤ 9223372036854775807 := HSS.out _ (by rw [List.getD_eq_getElem?_getD, List.getElem?_eq_getElem hlt]; simp)
      have hcell : wr.cell? ⟨bz, offz + k, none⟩ = some (.string (ss.getD k ByteArray.empty)) := (HST.out.below.cell (p := ⟨bz, offz + k, none⟩) hbz).trans (hcz k hlt)
      have HN := hideIt (nmD_succ ss k)
      obtain ⟨y, hy⟩ : ∃ y, y = ss.getD k ByteArray.empty := ⟨_, rfl⟩
      rw [← hy] at hcell hsz HN
      clear hy hcz
      go_wp2_with fail
      refine (zput_any T1 U1 R1 hs f c o k (nmD ss k) y 0 wr (by omega) hsz HTA.out).mono ?_
      rintro e v1 ⟨K, rfl, _, hT, _, hO⟩
      have HTA' := hideIt hT
      have HST' := hideIt (HST.out.a hO)
      clear HTA HST hT hO hcell
      go_wp2
      go_roundw
      case rel => exact ⟨k + 1, by omega, by go_num, by rw [HN.out]; exact HTA'.out, HST'.out⟩
      case measure => simp [intOf]; omega
    · obtain rfl : k = ss.length := by omega
      go_wp2_with fail
      refine (zput_any T1 U1 R1 hs f c o ss.length (nmD ss ss.length) k1 n1 wr (by omega) hk1 HTA.out).mono ?_
      rintro e v1 ⟨K, rfl, hK, hT, hKa, hO⟩
      have HTA1 := hideIt hT
      have HST1 := hideIt (HST.out.a hO)
      have HK1 := hideIt hKa
      have hKB : w1.heap.size ≤ K := Nat.le_trans HST.out.p5 hK
      clear HTA HST hT hO hKa hK
      go_wp2_with fail
      refine (tcopies_any T1 U1 R1 _ hs.length f c o hs _ v1 rfl (by omega) hcn (by have := HFN.out; omega) ho0 ho1 HTA1.out).mono ?_
      rintro e v2 ⟨C1, rfl, hC1a, hC1b, hc1, hb2⟩
      have hC1B : w1.heap.size ≤ C1 := Nat.le_trans HST1.out.p5 hC1a
      have HTA2 := hideIt ((HTA1.out.below hb2 (Nat.le_refl _)).below (below_alloc v2 (.cells #[.int .u64 o, .slice (some ⟨C1, 0, none⟩) c c] 36)) (Nat.le_refl _))
      have HK2 := hideIt ((HK1.out.below hb2 (Nat.le_refl _)).below (below_alloc v2 (.cells #[.int .u64 o, .slice (some ⟨C1, 0, none⟩) c c] 36)) (Nat.le_refl _))
      have HST2 := hideIt ((HST1.out.on hb2).on (below_alloc v2 (.cells #[.int .u64 o, .slice (some ⟨C1, 0, none⟩) c c] 36)))
      have HP2 := hideIt (Cps.below ⟨hC1b, hc1⟩ (below_alloc v2 (.cells #[.int .u64 o, .slice (some ⟨C1, 0, none⟩) c c] 36)) (Nat.le_refl _))
      have HXB2 := hideIt (BoxAt.new v2 (.int .u64 o) (.slice (some ⟨C1, 0, none⟩) c c))
      have hXB : w1.heap.size ≤ v2.heap.size := Nat.le_trans HST1.out.p5 hb2.size
      clear HTA1 HST1 HK1 hC1a hC1b hc1 hb2
      have hKT : K ≠ T1 := by have := HST2.out.p2; omega
      go_wp2_with fail
      refine (zsettle_n T1 U1 R1 K _ f d1 p1 hs.length hs c o k1 n1 _ a1 b1 _ HB1.out rfl HP1.out (by omega) HTA2.out HK2.out hKT hk1 HD1.out).mono ?_
      rintro e v3 ⟨rfl, hT, hO⟩
      have HTA3 : Hid (Tbl v3 T1 U1 R1 (clrB hs b1 p1) f c o (ss.length + 1) (fin1 (nmD ss ss.length) k1)) := hT
      have HST3 := hideIt (HST2.out.a hO)
      have HX3 : Hid (BoxAt v3 v2.heap.size (.int .u64 o) (.slice (some ⟨C1, 0, none⟩) c c)) := (HST2.out.block hO v2.heap.size (by simp) hXB).trans HXB2.out
      have HP3 : Hid (Cps hs hs.length f c v3 C1) := ⟨Nat.lt_of_lt_of_le HP2.out.1 hO.size, fun i hi => CopyAt.keep (HP2.out.2 i hi) (HST2.out.block hO C1 HP2.out.1 hC1B) hO.size⟩
      clear HTA2 HST2 HK2 HP2 HXB2 hT hO hKB hC1B hXB
      obtain ⟨X1, hX1⟩ : ∃ X, X = v2.heap.size := ⟨_, rfl⟩
      rw [← hX1] at HX3 ⊢
      clear hX1
      go_wp2_with fail
      refine (tcopies_any T1 U1 R1 _ hs.length f c o (clrB hs b1 p1) _ v3 (clrB_length _ _ _) (by omega) hcn (by have := HFN.out; omega) ho0 ho1 HTA3.out).mono ?_
      rintro e v4 ⟨C2, rfl, hC2a, hC2b, hc2, hb4⟩
      have hb4' := below_alloc v4 (.cells #[.int .u64 o, .slice (some ⟨C2, 0, none⟩) c c] 36)
      have HTA5 := hideIt ((HTA3.out.below hb4 (Nat.le_refl _)).below hb4' (Nat.le_refl _))
      have HST5 := hideIt ((HST3.out.on hb4).on hb4')
      have HX5 := hideIt ((HX3.out.below hb4 (Nat.le_refl _)).below hb4' (Nat.le_refl _))
      have HP5 := hideIt ((HP3.out.below hb4 (Nat.le_refl _)).below hb4' (Nat.le_refl _))
      have HQ5 : Hid (Cps hs hs.length f c (v4.alloc (.cells #[.int .u64 o, .slice (some ⟨C2, 0, none⟩) c c] 36)) C2) := Cps.below ⟨hC2b, fun i hi => copyOf_clr rfl (by omega) (hc2 i hi)⟩ hb4' (Nat.le_refl _)
      have HY5 := hideIt (BoxAt.new v4 (.int .u64 o) (.slice (some ⟨C2, 0, none⟩) c c))
      clear HTA3 HST3 HX3 HP3 hC2a hC2b hc2 hb4 hb4'
      go_upto_region 26 with fail
      obtain ⟨X2, hX2⟩ : ∃ X, X = v4.heap.size := ⟨_, rfl⟩
      rw [← hX2] at HY5 ⊢
      clear hX2
      obtain ⟨v5, hv5⟩ : ∃ v, v = v4.alloc (.cells #[.int .u64 o, .slice (some ⟨C2, 0, none⟩) c c] 36) := ⟨_, rfl⟩
      rw [← hv5] at HTA5 HST5 HX5 HP5 HQ5 HY5 ⊢
      clear hv5
      have HIN5 := hideIt (HIN.out.below HST5.out.below (Nat.le_refl _))
      have HSTR5 := hideIt (HSTR.out.below HST5.out.below (Nat.le_refl _))
      have HB5 := hideIt HST5.out.below
      clear HIN HSTR HST5
      go_cut [117] from 114 to 117 (fun s wx => s = .bool b1 ∧ wx = v5)
      case first =>
        cases a1
        · have E : Hid (Value.bool false = Value.bool b1) := congrArg Value.bool HG1.out
          go_wp2_with fail
          go_meet
          case rel => exact ⟨E.out, rfl⟩
        · have E : Hid (Value.bool i1 = Value.bool b1) := congrArg Value.bool HG1.out
          go_wp2_with fail
          go_meet
          case rel => exact ⟨E.out, rfl⟩
      case rest =>
      obtain ⟨rfl, hwc⟩ := hcut
      subst wc
      go_upto_if 117 with fail
      go_cut [25] from 118 to 125 (fun s wx => s = .int .i64 (cOf b1 p1) ∧ wx = v5)
      case first =>
        cases b1
        · go_wp2_with fail
          go_meet
          case rel => exact ⟨rfl, rfl⟩
        · obtain ⟨hf1, hd1, hw1⟩ := HD1.out rfl
          have hw2 : IntKind.i64.wrap (d1 : Int) = (d1 : Int) := by rw [IntKind.wrap_i64]; omega
          have E : Hid (placeI (hs.length : Int) (f : Int) (d1 : Int) = (p1 : Int)) := by rw [HP1.out]; exact place_mod _ _ _ hf1 hd1
          have CP := hideIt (place_any (hs.length : Int) (f : Int) (d1 : Int) v5 (by omega) (by omega) (by omega) (by omega) (by omega))
          go_wp2_with fail
          refine CP.out.mono ?_
          rintro e w1 ⟨rfl, hw⟩
          subst w1
          rw [E.out]
          go_wp2_with fail
          go_meet
          case rel => exact ⟨rfl, rfl⟩
      case rest =>
      obtain ⟨rfl, hwc⟩ := hcut
      subst wc
      clear HB1 HP1 HD1 HG1
      go_wp2_with fail
      refine (ringIs_any T1 U1 R1 _ ar capr hs _ f c o (cOf b1 p1) (-1) _ v5 (by omega) (clrB_length _ _ _) HTA5.out HIN5.out (fun i hi => ring1 hs b1 p1 i hi)).mono ?_
      rintro e v6 ⟨rfl, hb6⟩
      have HA := hideIt (HTA5.out.below hb6 (Nat.le_refl _))
      have HX := hideIt (HX5.out.below hb6 (Nat.le_refl _))
      have HY := hideIt (HY5.out.below hb6 (Nat.le_refl _))
      have HP := hideIt (HP5.out.below hb6 (Nat.le_refl _))
      have HQ := hideIt (HQ5.out.below hb6 (Nat.le_refl _))
      have HIN := hideIt (HIN5.out.below hb6 (Nat.le_refl _))
      have HSTR := hideIt (HSTR5.out.below hb6 (Nat.le_refl _))
      have HB := hideIt (HB5.out.trans (hb6.mono HB5.out.size))
      clear HTA5 HX5 HY5 HP5 HQ5 HIN5 HSTR5 HB5 hb6
      go_wp2_with fail
      refine (zunder_any T1 U1 R1 _ _ f c o k1 _ false v6 hk1 HA.out (fin1_same _ _)).mono ?_
      rintro e w1 ⟨rfl, hw⟩
      subst w1
      go_wp2
      go_loop [26] (fun i => ∃ k : Nat, k ≤ ss.length ∧ i = .int .i64 k) (fun i => ss.length - (intOf i).toNat)
      case atStart => exact ⟨0, Nat.zero_le _, rfl⟩
      case round =>
        obtain ⟨k, hk, rfl⟩ := hrel
        by_cases hlt : k < ss.length
        · obtain ⟨bz, offz, rfl, hbz, hcz⟩ : ∃ b off, az = some ⟨b, off, none⟩ ∧ b < v6.heap.size ∧ ∀ i, i < ss.length → v6.cell? ⟨b, off + i, none⟩ = some (.string (ss.getD i ByteArray.empty)) := by
            rcases HSTR.out with h | h
            · rw [h] at hlt; simp at hlt
            · exact h
          have hsz : (ss.getD k ByteArray.empty).size ≤ 9223372036854775807 := HSS.out _ (by rw [List.getD_eq_getElem?_getD, List.getElem?_eq_getElem hlt]; simp)
          have hcell := hcz k hlt
          have HN := hideIt (nmD_has ss ss.length k hlt)
          obtain ⟨y, hy⟩ : ∃ y, y = ss.getD k ByteArray.empty := ⟨_, rfl⟩
          rw [← hy] at hcell hsz HN
          clear hy hcz
          cases h1 : (y.toList == k1.toList)
          · have HH : Hid (Maps.has (fin1 (nmD ss ss.length) k1) (kl y) = true) := (fin1_other _ _ _ (kl_ne h1)).trans HN.out
            go_wp2_with fail
            refine (zunder_any T1 U1 R1 _ _ f c o y _ true v6 hsz HA.out HH.out).mono ?_
            rintro e w1 ⟨rfl, hw⟩
            subst w1
            go_wp2
            go_round
            case rel => exact ⟨k + 1, by omega, by go_num⟩
            case measure => simp [intOf]; omega
          · go_wp2
            go_round
            case rel => exact ⟨k + 1, by omega, by go_num⟩
            case measure => simp [intOf]; omega
        · obtain ⟨x0, x1⟩ := HX.out.cells
          obtain ⟨y0, y1⟩ := HY.out.cells
          have HPA : Hid (∀ i, i < c → CopyAt v6 C1 i (at_ hs ((f + i) % hs.length)).o 0 (at_ hs ((f + i) % hs.length)).s 0) := fun i hi => HP.out.2 i hi
          have HQA : Hid (∀ i, i < c → CopyAt v6 C2 i (at_ hs ((f + i) % hs.length)).o 0 (at_ hs ((f + i) % hs.length)).s 0) := fun i hi => HQ.out.2 i hi
          go_wp2_with fail
          refine (same_yes C1 C2 c o (fun i => ((at_ hs ((f + i) % hs.length)).o, (at_ hs ((f + i) % hs.length)).s)) _ (by omega) HPA.out HQA.out).mono ?_
          rintro e v7 ⟨rfl, hb7⟩
          have HY7 := hideIt (HY.out.below hb7 (Nat.le_refl _))
          have HQ7 := hideIt (HQ.out.below hb7 (Nat.le_refl _))
          have HIN7 := hideIt (HIN.out.below hb7 (Nat.le_refl _))
          have HB7 := hideIt (HB.out.trans (hb7.mono HB.out.size))
          clear HX HY HP HQ HIN HB hb7 HPA HQA x0 x1 y0 y1
          obtain ⟨y0, y1⟩ := HY7.out.cells
          go_wp2_with fail
          refine (model_any C2 hs.length f c capr ar o hs v7 (by omega) rfl hcn HFN.out HQ7.out.1 HIN7.out HQ7.out.2).mono ?_
          rintro e v8 ⟨rfl, hb8⟩
          have HB8 := hideIt (HB7.out.trans (hb8.mono HB7.out.size))
          clear hb8
          go_wp2
          go_ret
          exact ⟨rfl, HB8.out⟩

end Go.Proofs.Qxb6609104a

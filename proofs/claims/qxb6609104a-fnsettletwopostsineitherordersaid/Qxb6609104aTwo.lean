/-
  SEAT b6609104a: the walk of FnSettleTwoPostsInEitherOrder.
-/
import Derived.Test.Qxb6609104aSteps
import Derived.Test.Qxb6609104aMore
import Derived.Deep.DeepCutAuto
namespace Go.Proofs.Qxb6609104a
open Go.RowKit
set_option linter.unusedVariables false

set_option maxRecDepth 100000 in
set_option maxHeartbeats 4000000 in
theorem two_walk (ar : Option Addr) (capr : Nat) (f c o : Int) (hs : List Hk) (az : Option Addr) (caps : Nat) (ss : List ByteArray) (k1 k2 : ByteArray) (n1 n2 : Int) (a1 a2 : Bool) (w : World)
    (hlen : hs.length ≤ 9223372036854775807) (hslen : ss.length ≤ 9223372036854775807) (hss : ∀ x ∈ ss, x.size ≤ 9223372036854775807) (hk1 : k1.size ≤ 9223372036854775807) (hk2 : k2.size ≤ 9223372036854775807)
    (ho0 : 0 ≤ o) (ho1 : o < 18446744073709551616) (hn10 : 0 ≤ n1) (hn11 : n1 < 18446744073709551616) (hn20 : 0 ≤ n2) (hn21 : n2 < 18446744073709551616) (hin : RingIn w ar hs) (hstr : InStrs w az ss) :
    Calls Try.prog 4 #[.slice ar hs.length capr, .int .i64 f, .int .i64 c, .int .u64 o, .slice az ss.length caps, .string k1, .int .u64 n1, .bool a1, .string k2, .int .u64 n2, .bool a2] w fun e w' => e = .returned (.bool true) ∧ Below w.heap.size w w' := by
  have HIN := hideIt hin
  have HSTR := hideIt hstr
  have HSS := hideIt hss
  clear hin hstr hss
  go_enter Try.func4, Try.ntmps4
  go_wp2_with fail
  refine (bytes20_any ar hs.length capr az caps f c o n1 n2 a1 a2 k1 k2 ss w hlen hslen hk1 hk2 HSS.out HSTR.out).mono ?_
  rintro e w1 ⟨⟨bo, rfl⟩, hw⟩
  subst w1
  cases bo
  · go_wp2
    go_ret
    exact ⟨rfl, Below.refl _ _⟩
  by_cases h16 : (26214 : Int) < (hs.length : Int)
  · go_wp2_with fail
    go_ret
    exact ⟨rfl, Below.refl _ _⟩
  go_wp2_with fail
  refine (addStrings_any az caps _ ss w hslen HSS.out (by omega) (by omega) HSTR.out).mono ?_
  rintro e w1 ⟨⟨x1, bo, rfl, hx1⟩, hw⟩
  subst w1
  cases bo
  · clear hx1
    go_wp2
    go_ret
    exact ⟨rfl, Below.refl _ _⟩
  obtain ⟨hx10, hx11, hs16⟩ := hx1 rfl
  clear hx1
  go_wp2_with fail
  refine (addString_any x1 k1 w hk1 hx10 hx11).mono ?_
  rintro e w1 ⟨⟨x2, bo, rfl, hx2⟩, hw⟩
  subst w1
  cases bo
  · clear hx2
    go_wp2
    go_ret
    exact ⟨rfl, Below.refl _ _⟩
  obtain ⟨hx20, hx21, _⟩ := hx2 rfl
  clear hx2
  go_wp2_with fail
  refine (addString_any x2 k2 w hk2 hx20 hx21).mono ?_
  rintro e w1 ⟨⟨x3, bo, rfl, hx3⟩, hw⟩
  subst w1
  cases bo
  · clear hx3
    go_wp2
    go_ret
    exact ⟨rfl, Below.refl _ _⟩
  clear hx3 hx10 hx11 hx20 hx21
  by_cases hsh : Shape (hs.length : Int) f c
  case neg =>
    go_wp2_with fail
    refine (shape_no _ f c w hsh).mono ?_
    rintro e w1 ⟨rfl, hw⟩
    subst w1
    go_wp2
    go_ret
    exact ⟨rfl, Below.refl _ _⟩
  go_wp2_with fail
  refine (shape_yes _ f c w hsh).mono ?_
  rintro e w1 ⟨rfl, hw⟩
  subst w1
  obtain ⟨h1, h2, h3, h4⟩ : 0 ≤ f ∧ (f < (hs.length : Int) ∨ c = 0) ∧ 0 ≤ c ∧ c ≤ (hs.length : Int) := by
    rcases hsh with ⟨g1, g2, g3⟩ | ⟨g1, g2, g3, g4, g5⟩
    · omega
    · omega
  obtain ⟨f, rfl⟩ : ∃ j : Nat, f = j := ⟨f.toNat, by omega⟩
  obtain ⟨c, rfl⟩ : ∃ j : Nat, c = j := ⟨c.toNat, by omega⟩
  have HF : Hid (f < hs.length ∨ c = 0) := by have := h2; exact (by omega : f < hs.length ∨ c = 0)
  have hcn : c ≤ hs.length := by omega
  have hnn : hs.length ≤ 26214 := by omega
  clear hsh h1 h2 h3 h4 h16

  obtain ⟨i1, hi1⟩ : ∃ i : Bool, i = (decide (o ≤ n1) && decide (n1 - o < (c : Int))) := ⟨_, rfl⟩
  have HI1 := hideIt hi1
  clear hi1
  have wc1 : IntKind.u64.wrap (c : Int) = (c : Int) := by rw [IntKind.wrap_u64]; omega
  go_upto_region 16 with fail
  go_cut [25] from 85 to 95 (fun s wx => s = .bool i1 ∧ wx = w)
  case first =>
    by_cases h : o ≤ n1
    · have wd : IntKind.u64.wrap (n1 - o) = n1 - o := by rw [IntKind.wrap_u64]; omega
      by_cases h' : n1 - o < (c : Int)
      · have E : Hid (Value.bool true = Value.bool i1) := by have : i1 = true := (by rw [HI1.out]; simp [h, h']); exact congrArg Value.bool this.symm
        go_wp2_with fail
        go_meet
        case rel => exact ⟨E.out, rfl⟩
      · have E : Hid (Value.bool false = Value.bool i1) := by have : i1 = false := (by rw [HI1.out]; simp [h, h']); exact congrArg Value.bool this.symm
        go_wp2_with fail
        go_meet
        case rel => exact ⟨E.out, rfl⟩
    · have E : Hid (Value.bool false = Value.bool i1) := by have : i1 = false := (by rw [HI1.out]; simp [h]); exact congrArg Value.bool this.symm
      go_wp2_with fail
      go_meet
      case rel => exact ⟨E.out, rfl⟩
  case rest =>
  obtain ⟨rfl, hwc⟩ := hcut
  subst wc
  obtain ⟨x1, hx1⟩ : ∃ x : Bool, x = (a1 && decide (o ≤ n1) && !i1) := ⟨_, rfl⟩
  have HX1 := hideIt hx1
  clear hx1
  go_upto_region 17 with fail
  go_cut [105] from 96 to 105 (fun s wx => s = .bool x1 ∧ wx = w)
  case first =>
    cases a1
    · have E : Hid (Value.bool false = Value.bool x1) := by have : x1 = false := (by rw [HX1.out]; simp); exact congrArg Value.bool this.symm
      go_wp2_with fail
      go_meet
      case rel => exact ⟨E.out, rfl⟩
    · by_cases h : o ≤ n1
      · have E : Hid (Value.bool (!i1) = Value.bool x1) := by have : x1 = !i1 := (by rw [HX1.out]; simp [h]); exact congrArg Value.bool this.symm
        go_wp2_with fail
        go_meet
        case rel => exact ⟨E.out, rfl⟩
      · have E : Hid (Value.bool false = Value.bool x1) := by have : x1 = false := (by rw [HX1.out]; simp [h]); exact congrArg Value.bool this.symm
        go_wp2_with fail
        go_meet
        case rel => exact ⟨E.out, rfl⟩
  case rest =>
  obtain ⟨rfl, hwc⟩ := hcut
  subst wc
  cases x1
  case true =>
    go_wp2
    go_ret
    exact ⟨rfl, Below.refl _ _⟩

  obtain ⟨i2, hi2⟩ : ∃ i : Bool, i = (decide (o ≤ n2) && decide (n2 - o < (c : Int))) := ⟨_, rfl⟩
  have HI2 := hideIt hi2
  clear hi2
  have wc2 : IntKind.u64.wrap (c : Int) = (c : Int) := by rw [IntKind.wrap_u64]; omega
  go_upto_region 19 with fail
  go_cut [26] from 106 to 116 (fun s wx => s = .bool i2 ∧ wx = w)
  case first =>
    by_cases h : o ≤ n2
    · have wd : IntKind.u64.wrap (n2 - o) = n2 - o := by rw [IntKind.wrap_u64]; omega
      by_cases h' : n2 - o < (c : Int)
      · have E : Hid (Value.bool true = Value.bool i2) := by have : i2 = true := (by rw [HI2.out]; simp [h, h']); exact congrArg Value.bool this.symm
        go_wp2_with fail
        go_meet
        case rel => exact ⟨E.out, rfl⟩
      · have E : Hid (Value.bool false = Value.bool i2) := by have : i2 = false := (by rw [HI2.out]; simp [h, h']); exact congrArg Value.bool this.symm
        go_wp2_with fail
        go_meet
        case rel => exact ⟨E.out, rfl⟩
    · have E : Hid (Value.bool false = Value.bool i2) := by have : i2 = false := (by rw [HI2.out]; simp [h]); exact congrArg Value.bool this.symm
      go_wp2_with fail
      go_meet
      case rel => exact ⟨E.out, rfl⟩
  case rest =>
  obtain ⟨rfl, hwc⟩ := hcut
  subst wc
  obtain ⟨x2, hx2⟩ : ∃ x : Bool, x = (a2 && decide (o ≤ n2) && !i2) := ⟨_, rfl⟩
  have HX2 := hideIt hx2
  clear hx2
  go_upto_region 20 with fail
  go_cut [126] from 117 to 126 (fun s wx => s = .bool x2 ∧ wx = w)
  case first =>
    cases a2
    · have E : Hid (Value.bool false = Value.bool x2) := by have : x2 = false := (by rw [HX2.out]; simp); exact congrArg Value.bool this.symm
      go_wp2_with fail
      go_meet
      case rel => exact ⟨E.out, rfl⟩
    · by_cases h : o ≤ n2
      · have E : Hid (Value.bool (!i2) = Value.bool x2) := by have : x2 = !i2 := (by rw [HX2.out]; simp [h]); exact congrArg Value.bool this.symm
        go_wp2_with fail
        go_meet
        case rel => exact ⟨E.out, rfl⟩
      · have E : Hid (Value.bool false = Value.bool x2) := by have : x2 = false := (by rw [HX2.out]; simp [h]); exact congrArg Value.bool this.symm
        go_wp2_with fail
        go_meet
        case rel => exact ⟨E.out, rfl⟩
  case rest =>
  obtain ⟨rfl, hwc⟩ := hcut
  subst wc
  cases x2
  case true =>
    go_wp2
    go_ret
    exact ⟨rfl, Below.refl _ _⟩
  obtain ⟨b1, hb1⟩ : ∃ b : Bool, b = (a1 && decide (o ≤ n1)) := ⟨_, rfl⟩
  obtain ⟨d1, hd1⟩ : ∃ d : Nat, d = (n1 - o).toNat := ⟨_, rfl⟩
  obtain ⟨p1, hp1⟩ : ∃ p : Nat, p = (f + d1) % hs.length := ⟨_, rfl⟩
  have HB1 := hideIt hb1
  have HP1 := hideIt hp1
  have HD1 := hideIt (win_d (f := f) (n := hs.length) hb1 HI1.out HX1.out HF.out hcn hd1 ho0 hn11)
  have HG1 := hideIt (win_g hb1 HI1.out HX1.out)
  clear hb1 hd1 hp1 HI1 HX1
  obtain ⟨b2, hb2⟩ : ∃ b : Bool, b = (a2 && decide (o ≤ n2)) := ⟨_, rfl⟩
  obtain ⟨d2, hd2⟩ : ∃ d : Nat, d = (n2 - o).toNat := ⟨_, rfl⟩
  obtain ⟨p2, hp2⟩ : ∃ p : Nat, p = (f + d2) % hs.length := ⟨_, rfl⟩
  have HB2 := hideIt hb2
  have HP2 := hideIt hp2
  have HD2 := hideIt (win_d (f := f) (n := hs.length) hb2 HI2.out HX2.out HF.out hcn hd2 ho0 hn21)
  have HG2 := hideIt (win_g hb2 HI2.out HX2.out)
  clear hb2 hd2 hp2 HI2 HX2
  clear HF
  go_wp2_with fail
  refine (newTable_any ar capr hs f c o w (by omega) HIN.out).mono ?_
  intro e w1 hbt
  obtain ⟨T1, U1, R1, rfl, hT1, hge1, hb1⟩ := Tbl.of_built hbt
  clear hbt
  have HIN1 := hideIt (HIN.out.below hb1 (Nat.le_refl _))
  have HT1 := hideIt hT1
  have HB01 := hideIt hb1
  have HGE1 := hideIt hge1
  clear hT1 hb1 hge1
  go_wp2_with fail
  refine (newTable_any ar capr hs f c o w1 (by omega) HIN1.out).mono ?_
  intro e w2 hbt
  obtain ⟨T2, U2, R2, rfl, hT2, hge2, hb2⟩ := Tbl.of_built hbt
  clear hbt
  have HTA := hideIt (HT1.out.below hb2 (Nat.le_refl _))
  have HTB := hideIt hT2
  have HST : Hid (St w w1.heap.size w2.heap.size T1 U1 R1 T2 U2 R2 w2) := ⟨HB01.out.trans (hb2.mono HB01.out.size), HGE1.out, HT1.out.lt, hge2, hT2.lt, Nat.le_refl _⟩
  clear hT2 hge2 hb2 HT1 HB01 HGE1 HIN1
  have HE : Hid (∃ z, z = w1.heap.size) := ⟨_, rfl⟩
  go_wp2
  go_loopw [29] (fun i wr => ∃ k : Nat, k ≤ ss.length ∧ i = .int .i64 k ∧ Tbl wr T1 U1 R1 hs f c o k (nmD ss k) ∧ Tbl wr T2 U2 R2 hs f c o k (nmD ss k) ∧ St w w1.heap.size w2.heap.size T1 U1 R1 T2 U2 R2 wr) (fun i _ => ss.length - (intOf i).toNat)
  case atStart => exact ⟨0, Nat.zero_le _, rfl, HTA.out, HTB.out, HST.out⟩
  case round =>
    clear HTA HTB HST
    obtain ⟨k, hk, rfl, hta, htb, hst⟩ := hrel
    have HTA := hideIt hta
    have HTB := hideIt htb
    have HST := hideIt hst
    clear hta htb hst
    by_cases hlt : k < ss.length
    · obtain ⟨bz, offz, rfl, hbz, hcz⟩ : ∃ b off, az = some ⟨b, off, none⟩ ∧ b < w.heap.size ∧ ∀ i, i < ss.length → w.cell? ⟨b, off + i, none⟩ = some (.string (ss.getD i ByteArray.empty)) := by
        rcases HSTR.out with h | h
        · rw [h] at hlt; simp at hlt
        · exact h
      have hsz : (ss.getD k ByteArray.empty).size ≤ 9223372036854775807 := HSS.out _ (by rw [List.getD_eq_getElem?_getD, List.getElem?_eq_getElem hlt]; simp)
      have hcell : wr.cell? ⟨bz, offz + k, none⟩ = some (.string (ss.getD k ByteArray.empty)) := (HST.out.below.cell (p := ⟨bz, offz + k, none⟩) hbz).trans (hcz k hlt)
      have HN := hideIt (nmD_succ ss k)
      obtain ⟨y, hy⟩ : ∃ y, y = ss.getD k ByteArray.empty := ⟨_, rfl⟩
      have HCZ := hideIt (hcz k hlt)
      rw [← hy] at hcell hsz HN HCZ
      clear hy hcz
      go_wp2_with fail
      refine (zput_any T1 U1 R1 hs f c o k (nmD ss k) y 0 wr (by omega) hsz HTA.out).mono ?_
      rintro e v1 ⟨K, rfl, _, hT, _, hO⟩
      have HTA' := hideIt hT
      have HTB' := hideIt (HST.out.keepB hO HTB.out)
      have HST' := hideIt (HST.out.a hO)
      clear HTA HTB HST hT hO hcell
      have hcell : v1.cell? ⟨bz, offz + k, none⟩ = some (.string y) := (HST'.out.below.cell (p := ⟨bz, offz + k, none⟩) hbz).trans HCZ.out
      go_wp2_with fail
      refine (zput_any T2 U2 R2 hs f c o k (nmD ss k) y 0 v1 (by omega) hsz HTB'.out).mono ?_
      rintro e v2 ⟨K', rfl, _, hT, _, hO⟩
      have HTB := hideIt hT
      have HTA := hideIt (HST'.out.keepA hO HTA'.out)
      have HST := hideIt (HST'.out.b hO)
      clear HTA' HTB' HST' hT hO hcell
      go_wp2
      go_roundw
      case rel => exact ⟨k + 1, by omega, by go_num, by rw [HN.out]; exact HTA.out, by rw [HN.out]; exact HTB.out, HST.out⟩
      case measure => simp [intOf]; omega
    · obtain rfl : k = ss.length := by omega
      go_wp2_with fail
      refine (zput_any T1 U1 R1 hs f c o (ss.length) (nmD ss ss.length) k1 n1 wr (by omega) hk1 HTA.out).mono ?_
      rintro e u_1 ⟨K1, rfl, hK, hT, hKa, hO⟩
      have HK1 := hideIt (HST.out.newKey hK hKa)
      have HTA' := hideIt hT
      have HTB' := hideIt (HST.out.keepB hO HTB.out)
      have HST' := hideIt (HST.out.a hO)
      clear hK hT hKa hO HTA HTB HST 
      have HTA := HTA'
      have HTB := HTB'
      have HST := HST'
      clear HTA' HTB' HST'
      go_wp2_with fail
      refine (zput_any T1 U1 R1 hs f c o (ss.length + 1) ((nmD ss ss.length).put (kl k1) tt) k2 n2 u_1 (by omega) hk2 HTA.out).mono ?_
      rintro e u_2 ⟨K2, rfl, hK, hT, hKa, hO⟩
      have HK2 := hideIt (HST.out.newKey hK hKa)
      have HTA' := hideIt hT
      have HTB' := hideIt (HST.out.keepB hO HTB.out)
      have HK1' := hideIt (HST.out.keyA hO HK1.out)
      have HST' := hideIt (HST.out.a hO)
      clear hK hT hKa hO HTA HTB HST HK1
      have HTA := HTA'
      have HTB := HTB'
      have HST := HST'
      have HK1 := HK1'
      clear HTA' HTB' HST' HK1'
      go_wp2_with fail
      refine (zput_any T2 U2 R2 hs f c o (ss.length) (nmD ss ss.length) k1 n1 u_2 (by omega) hk1 HTB.out).mono ?_
      rintro e u_3 ⟨K3, rfl, hK, hT, hKa, hO⟩
      have HK3 := hideIt (HST.out.newKey hK hKa)
      have HTB' := hideIt hT
      have HTA' := hideIt (HST.out.keepA hO HTA.out)
      have HK1' := hideIt (HST.out.keyB hO HK1.out)
      have HK2' := hideIt (HST.out.keyB hO HK2.out)
      have HST' := hideIt (HST.out.b hO)
      clear hK hT hKa hO HTA HTB HST HK1 HK2
      have HTA := HTA'
      have HTB := HTB'
      have HST := HST'
      have HK1 := HK1'
      have HK2 := HK2'
      clear HTA' HTB' HST' HK1' HK2'
      go_wp2_with fail
      refine (zput_any T2 U2 R2 hs f c o (ss.length + 1) ((nmD ss ss.length).put (kl k1) tt) k2 n2 u_3 (by omega) hk2 HTB.out).mono ?_
      rintro e u_4 ⟨K4, rfl, hK, hT, hKa, hO⟩
      have HK4 := hideIt (HST.out.newKey hK hKa)
      have HTB' := hideIt hT
      have HTA' := hideIt (HST.out.keepA hO HTA.out)
      have HK1' := hideIt (HST.out.keyB hO HK1.out)
      have HK2' := hideIt (HST.out.keyB hO HK2.out)
      have HK3' := hideIt (HST.out.keyB hO HK3.out)
      have HST' := hideIt (HST.out.b hO)
      clear hK hT hKa hO HTA HTB HST HK1 HK2 HK3
      have HTA := HTA'
      have HTB := HTB'
      have HST := HST'
      have HK1 := HK1'
      have HK2 := HK2'
      have HK3 := HK3'
      clear HTA' HTB' HST' HK1' HK2' HK3'
      go_wp2_with fail
      refine (zsettle_n T1 U1 R1 K1 (ss.length + 1 + 1) f d1 p1 hs.length hs c o k1 n1 (((nmD ss ss.length).put (kl k1) tt).put (kl k2) tt) a1 b1 u_4 HB1.out rfl HP1.out (by omega) HTA.out HK1.out.2 (HST.out.neA HK1.out) hk1 HD1.out).mono ?_
      rintro e u_5 ⟨rfl, hT, hO⟩
      have HTA' := hideIt hT
      have HTB' := hideIt (HST.out.keepB hO HTB.out)
      have HK1' := hideIt (HST.out.keyA hO HK1.out)
      have HK2' := hideIt (HST.out.keyA hO HK2.out)
      have HK3' := hideIt (HST.out.keyA hO HK3.out)
      have HK4' := hideIt (HST.out.keyA hO HK4.out)
      have HST' := hideIt (HST.out.a hO)
      clear hT hO HTA HTB HST HK1 HK2 HK3 HK4
      have HTA := HTA'
      have HTB := HTB'
      have HST := HST'
      have HK1 := HK1'
      have HK2 := HK2'
      have HK3 := HK3'
      have HK4 := HK4'
      clear HTA' HTB' HST' HK1' HK2' HK3' HK4'
      go_wp2_with fail
      refine (zsettle_n T1 U1 R1 K2 (ss.length + 1 + 1) f d2 p2 hs.length (clrB hs b1 p1) c o k2 n2 ((((nmD ss ss.length).put (kl k1) tt).put (kl k2) tt).del (kl k1)) a2 b2 u_5 HB2.out (clrB_length _ _ _) HP2.out (by omega) HTA.out HK2.out.2 (HST.out.neA HK2.out) hk2 HD2.out).mono ?_
      rintro e u_6 ⟨rfl, hT, hO⟩
      have HTA' := hideIt hT
      have HTB' := hideIt (HST.out.keepB hO HTB.out)
      have HK1' := hideIt (HST.out.keyA hO HK1.out)
      have HK2' := hideIt (HST.out.keyA hO HK2.out)
      have HK3' := hideIt (HST.out.keyA hO HK3.out)
      have HK4' := hideIt (HST.out.keyA hO HK4.out)
      have HST' := hideIt (HST.out.a hO)
      clear hT hO HTA HTB HST HK1 HK2 HK3 HK4
      have HTA := HTA'
      have HTB := HTB'
      have HST := HST'
      have HK1 := HK1'
      have HK2 := HK2'
      have HK3 := HK3'
      have HK4 := HK4'
      clear HTA' HTB' HST' HK1' HK2' HK3' HK4'
      go_wp2_with fail
      refine (zsettle_n T2 U2 R2 K4 (ss.length + 1 + 1) f d2 p2 hs.length hs c o k2 n2 (((nmD ss ss.length).put (kl k1) tt).put (kl k2) tt) a2 b2 u_6 HB2.out rfl HP2.out (by omega) HTB.out HK4.out.2 (HST.out.neB HK4.out) hk2 HD2.out).mono ?_
      rintro e u_7 ⟨rfl, hT, hO⟩
      have HTB' := hideIt hT
      have HTA' := hideIt (HST.out.keepA hO HTA.out)
      have HK1' := hideIt (HST.out.keyB hO HK1.out)
      have HK2' := hideIt (HST.out.keyB hO HK2.out)
      have HK3' := hideIt (HST.out.keyB hO HK3.out)
      have HK4' := hideIt (HST.out.keyB hO HK4.out)
      have HST' := hideIt (HST.out.b hO)
      clear hT hO HTA HTB HST HK1 HK2 HK3 HK4
      have HTA := HTA'
      have HTB := HTB'
      have HST := HST'
      have HK1 := HK1'
      have HK2 := HK2'
      have HK3 := HK3'
      have HK4 := HK4'
      clear HTA' HTB' HST' HK1' HK2' HK3' HK4'
      go_wp2_with fail
      refine (zsettle_n T2 U2 R2 K3 (ss.length + 1 + 1) f d1 p1 hs.length (clrB hs b2 p2) c o k1 n1 ((((nmD ss ss.length).put (kl k1) tt).put (kl k2) tt).del (kl k2)) a1 b1 u_7 HB1.out (clrB_length _ _ _) HP1.out (by omega) HTB.out HK3.out.2 (HST.out.neB HK3.out) hk1 HD1.out).mono ?_
      rintro e u_8 ⟨rfl, hT, hO⟩
      have HTB' := hideIt hT
      have HTA' := hideIt (HST.out.keepA hO HTA.out)
      have HK1' := hideIt (HST.out.keyB hO HK1.out)
      have HK2' := hideIt (HST.out.keyB hO HK2.out)
      have HK3' := hideIt (HST.out.keyB hO HK3.out)
      have HK4' := hideIt (HST.out.keyB hO HK4.out)
      have HST' := hideIt (HST.out.b hO)
      clear hT hO HTA HTB HST HK1 HK2 HK3 HK4
      have HTA := HTA'
      have HTB := HTB'
      have HST := HST'
      have HK1 := HK1'
      have HK2 := HK2'
      have HK3 := HK3'
      have HK4 := HK4'
      clear HTA' HTB' HST' HK1' HK2' HK3' HK4'
      clear HK1 HK2 HK3 HK4
      have HIN8 := hideIt (HIN.out.below HST.out.below (Nat.le_refl _))
      have HSTR8 := hideIt (HSTR.out.below HST.out.below (Nat.le_refl _))
      have HA8 : Hid (Tbl u_8 T1 U1 R1 (clrB (clrB hs b1 p1) b2 p2) f c o (ss.length + 1 + 1) (fin2 (nmD ss ss.length) k1 k2)) := HTA.out
      have HB8 : Hid (Tbl u_8 T2 U2 R2 (clrB (clrB hs b2 p2) b1 p1) f c o (ss.length + 1 + 1) (fin2 (nmD ss ss.length) k1 k2)) := by rw [← fin2_comm]; exact HTB.out
      have HB0 := hideIt HST.out.below
      clear HTA HTB HST HIN HSTR
      go_upto_region 38 with fail
      go_cut [190] from 187 to 190 (fun s wx => s = .bool b1 ∧ wx = u_8)
      case first =>
        cases a1
        · have E : Hid (Value.bool false = Value.bool b1) := congrArg Value.bool HG1.out
          go_wp2_with fail
          go_meet
          case rel => exact ⟨E.out, rfl⟩
        · have E : Hid (Value.bool i1 = Value.bool b1) := congrArg Value.bool HG1.out
          go_wp2_with fail
          go_meet
          case rel => exact ⟨E.out, rfl⟩
      case rest =>
      obtain ⟨rfl, hwc⟩ := hcut
      subst wc
      go_upto_if 190 with fail
      go_cut [34] from 191 to 198 (fun s wx => s = .int .i64 (cOf b1 p1) ∧ wx = u_8)
      case first =>
        cases b1
        · go_wp2_with fail
          go_meet
          case rel => exact ⟨rfl, rfl⟩
        · obtain ⟨hf1, hd1, hw1⟩ := HD1.out rfl
          have hw2 : IntKind.i64.wrap (d1 : Int) = (d1 : Int) := by rw [IntKind.wrap_i64]; omega
          have E : Hid (placeI (hs.length : Int) (f : Int) (d1 : Int) = (p1 : Int)) := by rw [HP1.out]; exact place_mod _ _ _ hf1 hd1
          have CP := hideIt (place_any (hs.length : Int) (f : Int) (d1 : Int) u_8 (by omega) (by omega) (by omega) (by omega) (by omega))
          go_wp2_with fail
          refine CP.out.mono ?_
          rintro e w1 ⟨rfl, hw⟩
          subst w1
          rw [E.out]
          go_wp2_with fail
          go_meet
          case rel => exact ⟨rfl, rfl⟩
      case rest =>
      obtain ⟨rfl, hwc⟩ := hcut
      subst wc
      go_upto_region 41 with fail
      go_cut [202] from 199 to 202 (fun s wx => s = .bool b2 ∧ wx = u_8)
      case first =>
        cases a2
        · have E : Hid (Value.bool false = Value.bool b2) := congrArg Value.bool HG2.out
          go_wp2_with fail
          go_meet
          case rel => exact ⟨E.out, rfl⟩
        · have E : Hid (Value.bool i2 = Value.bool b2) := congrArg Value.bool HG2.out
          go_wp2_with fail
          go_meet
          case rel => exact ⟨E.out, rfl⟩
      case rest =>
      obtain ⟨rfl, hwc⟩ := hcut
      subst wc
      go_upto_if 202 with fail
      go_cut [35] from 203 to 210 (fun s wx => s = .int .i64 (cOf b2 p2) ∧ wx = u_8)
      case first =>
        cases b2
        · go_wp2_with fail
          go_meet
          case rel => exact ⟨rfl, rfl⟩
        · obtain ⟨hf1, hd1, hw1⟩ := HD2.out rfl
          have hw2 : IntKind.i64.wrap (d2 : Int) = (d2 : Int) := by rw [IntKind.wrap_i64]; omega
          have E : Hid (placeI (hs.length : Int) (f : Int) (d2 : Int) = (p2 : Int)) := by rw [HP2.out]; exact place_mod _ _ _ hf1 hd1
          have CP := hideIt (place_any (hs.length : Int) (f : Int) (d2 : Int) u_8 (by omega) (by omega) (by omega) (by omega) (by omega))
          go_wp2_with fail
          refine CP.out.mono ?_
          rintro e w1 ⟨rfl, hw⟩
          subst w1
          rw [E.out]
          go_wp2_with fail
          go_meet
          case rel => exact ⟨rfl, rfl⟩
      case rest =>
      obtain ⟨rfl, hwc⟩ := hcut
      subst wc
      clear HB1 HB2 HP1 HP2 HD1 HD2 HG1 HG2
      go_wp2_with fail
      refine (ringIs_any T1 U1 R1 _ ar capr hs _ f c o (cOf b1 p1) (cOf b2 p2) _ u_8 (by omega) ((clrB_length _ _ _).trans (clrB_length _ _ _)) HA8.out HIN8.out (fun i hi => ring2 hs b1 b2 p1 p2 i hi)).mono ?_
      rintro e v9 ⟨rfl, hb9⟩
      have HA9 := hideIt (HA8.out.below hb9 (Nat.le_refl _))
      have HB9 := hideIt (HB8.out.below hb9 (Nat.le_refl _))
      have HIN9 := hideIt (HIN8.out.below hb9 (Nat.le_refl _))
      have HSTR9 := hideIt (HSTR8.out.below hb9 (Nat.le_refl _))
      have HB09 := hideIt (HB0.out.trans (hb9.mono HB0.out.size))
      clear HA8 HB8 HIN8 HSTR8 HB0 hb9
      go_wp2_with fail
      refine (ringIs_any T2 U2 R2 _ ar capr hs _ f c o (cOf b1 p1) (cOf b2 p2) _ v9 (by omega) ((clrB_length _ _ _).trans (clrB_length _ _ _)) HB9.out HIN9.out (fun i hi => ring2' hs b1 b2 p1 p2 i hi)).mono ?_
      rintro e v10 ⟨rfl, hb9⟩
      have HA := hideIt (HA9.out.below hb9 (Nat.le_refl _))
      have HB := hideIt (HB9.out.below hb9 (Nat.le_refl _))
      have HSTR := hideIt (HSTR9.out.below hb9 (Nat.le_refl _))
      have HFIN := hideIt (HB09.out.trans (hb9.mono HB09.out.size))
      clear HA9 HB9 HIN9 HSTR9 HB09 hb9
      go_wp2_with fail
      refine (zunder_any T1 U1 R1 _ _ f c o k1 _ false v10 hk1 HA.out (fin2_first _ _ _)).mono ?_
      rintro e w1 ⟨rfl, hw⟩
      subst w1
      go_wp2_with fail
      refine (zunder_any T1 U1 R1 _ _ f c o k2 _ false v10 hk2 HA.out (fin2_second _ _ _)).mono ?_
      rintro e w1 ⟨rfl, hw⟩
      subst w1
      go_wp2_with fail
      refine (zunder_any T2 U2 R2 _ _ f c o k1 _ false v10 hk1 HB.out (fin2_first _ _ _)).mono ?_
      rintro e w1 ⟨rfl, hw⟩
      subst w1
      go_wp2_with fail
      refine (zunder_any T2 U2 R2 _ _ f c o k2 _ false v10 hk2 HB.out (fin2_second _ _ _)).mono ?_
      rintro e w1 ⟨rfl, hw⟩
      subst w1
      go_wp2
      go_loop [36] (fun i => ∃ k : Nat, k ≤ ss.length ∧ i = .int .i64 k) (fun i => ss.length - (intOf i).toNat)
      case atStart => exact ⟨0, Nat.zero_le _, rfl⟩
      case round =>
        obtain ⟨k, hk, rfl⟩ := hrel
        by_cases hlt : k < ss.length
        · obtain ⟨bz, offz, rfl, hbz, hcz⟩ : ∃ b off, az = some ⟨b, off, none⟩ ∧ b < v10.heap.size ∧ ∀ i, i < ss.length → v10.cell? ⟨b, off + i, none⟩ = some (.string (ss.getD i ByteArray.empty)) := by
            rcases HSTR.out with h | h
            · rw [h] at hlt; simp at hlt
            · exact h
          have hsz : (ss.getD k ByteArray.empty).size ≤ 9223372036854775807 := HSS.out _ (by rw [List.getD_eq_getElem?_getD, List.getElem?_eq_getElem hlt]; simp)
          have hcell := hcz k hlt
          have HN := hideIt (nmD_has ss ss.length k hlt)
          obtain ⟨y, hy⟩ : ∃ y, y = ss.getD k ByteArray.empty := ⟨_, rfl⟩
          rw [← hy] at hcell hsz HN
          clear hy hcz
          cases h1 : (y.toList == k1.toList)
          · cases h2 : (y.toList == k2.toList)
            · have HH : Hid (Maps.has (fin2 (nmD ss ss.length) k1 k2) (kl y) = true) := (fin2_other _ _ _ _ (kl_ne h1) (kl_ne h2)).trans HN.out
              go_wp2_with fail
              refine (zunder_any T1 U1 R1 _ _ f c o y _ true v10 hsz HA.out HH.out).mono ?_
              rintro e w1 ⟨rfl, hw⟩
              subst w1
              go_wp2_with fail
              refine (zunder_any T2 U2 R2 _ _ f c o y _ true v10 hsz HB.out HH.out).mono ?_
              rintro e w1 ⟨rfl, hw⟩
              subst w1
              go_wp2
              go_round
              case rel => exact ⟨k + 1, by omega, by go_num⟩
              case measure => simp [intOf]; omega
            · go_wp2
              go_round
              case rel => exact ⟨k + 1, by omega, by go_num⟩
              case measure => simp [intOf]; omega
          · go_wp2
            go_round
            case rel => exact ⟨k + 1, by omega, by go_num⟩
            case measure => simp [intOf]; omega
        · obtain ⟨z, hz⟩ : ∃ z, Maps.size (fin2 (nmD ss ss.length) k1 k2) = z := ⟨_, rfl⟩
          have HZ := hideIt hz
          have ez : ((z : Int) == (z : Int)) = true := by simp
          clear hz
          go_wp2_with fail
          refine (zlen_any T1 U1 R1 _ _ f c o _ z v10 HA.out HZ.out).mono ?_
          rintro e w1 ⟨rfl, hw⟩
          subst w1
          go_wp2_with fail
          refine (zlen_any T2 U2 R2 _ _ f c o _ z v10 HB.out HZ.out).mono ?_
          rintro e w1 ⟨rfl, hw⟩
          subst w1
          go_wp2
          go_ret
          exact ⟨rfl, HFIN.out⟩

end Go.Proofs.Qxb6609104a

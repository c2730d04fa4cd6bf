/-
  SEAT b6608975a: the walk of FnGivenInsertShiftsBits.
-/
import Derived.Test.Qxb6608975aRep
namespace Go.Proofs.Qxb6608975a
open Go.RowKit

theorem wrap_mask (k : Nat) (hk : k < 64) : IntKind.u64.wrap (IntKind.u64.wrap (2 ^ k) - 1) = ((2 ^ k - 1 : Nat) : Int) := by
  have h : 2 ^ k ≤ 2 ^ 63 := Nat.pow_le_pow_right (by omega) (by omega)
  have h1 : 1 ≤ 2 ^ k := Nat.one_le_two_pow
  rw [wrap_pow k hk, IntKind.wrap_u64]
  generalize 2 ^ k = P at *
  omega
theorem wrap_high (G k : Nat) : IntKind.u64.wrap (↑G / 2 ^ k * 2 ^ (k + 1)) = ((G / 2 ^ k * 2 ^ (k + 1) % 2 ^ 64 : Nat) : Int) := by
  rw [IntKind.wrap_u64, show ((2 : Int) ^ k) = ((2 ^ k : Nat) : Int) by norm_cast, show ((2 : Int) ^ (k + 1)) = ((2 ^ (k + 1) : Nat) : Int) by norm_cast, ← Int.natCast_ediv, ← Int.natCast_mul]
  generalize G / 2 ^ k * 2 ^ (k + 1) = X
  omega
theorem ins_arith (G G' k B : Nat) (h : G' = ((G &&& (2 ^ k - 1)) ||| B) ||| ((G / 2 ^ k * 2 ^ (k + 1)) % 2 ^ 64)) (hG : G < 18446744073709551616) (hk : k < 64) (hB : B < 18446744073709551616) :
    ((G' : Int) == bits .or .u64 (bits .or .u64 (bits .and .u64 (↑G) (IntKind.u64.wrap (IntKind.u64.wrap (2 ^ k) - 1))) (B : Int)) (IntKind.u64.wrap (↑G / 2 ^ k * 2 ^ (k + 1)))) = true := by
  have hp := pow_lt64 k hk
  have ha : G &&& (2 ^ k - 1) < 18446744073709551616 := Nat.lt_of_le_of_lt Nat.and_le_left hG
  have hm : G / 2 ^ k * 2 ^ (k + 1) % 2 ^ 64 < 18446744073709551616 := Nat.mod_lt _ (by omega)
  have ho : (G &&& (2 ^ k - 1)) ||| B < 18446744073709551616 := Nat.or_lt_two_pow (n := 64) ha hB
  rw [wrap_mask k hk, wrap_high, u64_and_nat _ _ hG (by omega), u64_or_nat _ _ ha hB, u64_or_nat _ _ ho hm, ← h]
  simp
theorem ins_with (G G' k : Nat) (h : G' = ((G &&& (2 ^ k - 1)) ||| 2 ^ k) ||| ((G / 2 ^ k * 2 ^ (k + 1)) % 2 ^ 64)) (hG : G < 18446744073709551616) (hk : k < 64) :
    ((G' : Int) == bits .or .u64 (bits .or .u64 (bits .and .u64 (↑G) (IntKind.u64.wrap (IntKind.u64.wrap (2 ^ k) - 1))) (IntKind.u64.wrap (2 ^ k))) (IntKind.u64.wrap (↑G / 2 ^ k * 2 ^ (k + 1)))) = true := by
  have := ins_arith G G' k (2 ^ k) h hG hk (pow_lt64 k hk)
  rwa [← wrap_pow k hk] at this
theorem ins_without (G G' k : Nat) (h : G' = ((G &&& (2 ^ k - 1)) ||| 0) ||| ((G / 2 ^ k * 2 ^ (k + 1)) % 2 ^ 64)) (hG : G < 18446744073709551616) (hk : k < 64) :
    ((G' : Int) == bits .or .u64 (bits .or .u64 (bits .and .u64 (↑G) (IntKind.u64.wrap (IntKind.u64.wrap (2 ^ k) - 1))) 0) (IntKind.u64.wrap (↑G / 2 ^ k * 2 ^ (k + 1)))) = true :=
  ins_arith G G' k 0 h hG hk (by omega)

theorem nil_with (G G' : Nat) (hG : G = 0) (h : G' = 1) : ((G' : Int) == bits .or .u64 (bits .or .u64 (bits .and .u64 (↑G) 0) 1) (IntKind.u64.wrap (↑G * 2))) = true := by
  subst hG; subst h; decide +kernel
theorem nil_without (G G' : Nat) (hG : G = 0) (h : G' = 0) : ((G' : Int) == bits .or .u64 (bits .or .u64 (bits .and .u64 (↑G) 0) 0) (IntKind.u64.wrap (↑G * 2))) = true := by
  subst hG; subst h; decide +kernel

/-- The strings as cells, closed to the walk's rewriting. -/
def strsV (ss : List ByteArray) : List Value := ss.map Value.string
theorem strsV_snoc (ss : List ByteArray) (x : ByteArray) : strsV ss ++ [.string x] = strsV (ss ++ [x]) := by simp [strsV]
theorem strsV_nil : strsV [] = [] := rfl

/-- The first j of ss, s, and of the rest those below k. -/
def insTo (ss : List ByteArray) (j : Nat) (s : ByteArray) (k : Nat) : List ByteArray := ss.take j ++ s :: (ss.take k).drop j
theorem insTo_start (ss : List ByteArray) (j : Nat) (s : ByteArray) : ss.take j ++ [s] = insTo ss j s j := by
  simp [insTo]
theorem insTo_end (ss : List ByteArray) (j : Nat) (s : ByteArray) : insTo ss j s ss.length = ins ss j s := by simp [insTo, ins]
theorem take_step (ss : List ByteArray) (k : Nat) (h : k < ss.length) : ss.take (k + 1) = ss.take k ++ [ss.getD k ByteArray.empty] := by
  rw [List.take_succ_eq_append_getElem h, List.getD_eq_getElem?_getD, List.getElem?_eq_getElem h]; rfl
theorem insTo_step (ss : List ByteArray) (j : Nat) (s : ByteArray) (k : Nat) (hj : j ≤ k) (h : k < ss.length) : insTo ss j s (k + 1) = insTo ss j s k ++ [ss.getD k ByteArray.empty] := by
  unfold insTo
  rw [take_step ss k h, List.drop_append_of_le_length (by simp; omega)]
  simp
theorem one_cell (s : ByteArray) : ∀ v ∈ [Value.string s], v.oneCell' = true := by
  intro v hv
  rw [List.mem_singleton.1 hv]
  rfl

set_option maxHeartbeats 1000000 in
/-- From 'b := make([]string, 0, len(a)+1)' on: the head of the walk, where a is by now nil or the call's own. -/
theorem ins_walk (ao : Option Addr) (cap : Nat) (i : Int) (s : ByteArray) (ss : List ByteArray) (w : World) (hlen : ss.length ≤ 9223372036854775807) (hs : s.size ≤ 9223372036854775807) (hss : ∀ x ∈ ss, x.size ≤ 9223372036854775807) (hin : InStrs w ao ss) (hnil : ao = none → ss = [] ∧ cap = 0) :
    Calls Try.prog 3 #[.slice ao ss.length cap, .int .i64 i, .string s] w fun e w' => e = .returned (.bool true) ∧ Below w.heap.size w w' := by
  have HIN : Hid (InStrs w ao ss) := hin
  have HSS : Hid (∀ x ∈ ss, x.size ≤ 9223372036854775807) := hss
  have HNIL : Hid (ao = none → ss = [] ∧ cap = 0) := hnil
  clear hin hss hnil
  obtain ⟨i0, hi, hz0, hz1, hz2⟩ := info_parts Try.info9
  have hneq := fun w => run_neq_slice_nil_any (P := Try.prog) w 22 9 ao ss.length cap 0 0 Try.underlying22
  go_enter Try.func3, Try.ntmps3
  go_wp2_with fail
  refine (bytesI_any ao cap i s ss w hlen hs HSS.out HIN.out).mono ?_
  rintro e w1 ⟨⟨bo, rfl⟩, hw⟩
  subst w1
  cases bo
  · go_wp2
    go_ret
    exact ⟨rfl, Below.refl _ _⟩
  by_cases h16 : (65536 : Int) < (ss.length : Int)
  · go_wp2_with fail
    go_ret
    exact ⟨rfl, Below.refl _ _⟩
  by_cases hs20 : (1048576 : Int) < (s.size : Int)
  · go_wp2_with fail
    go_ret
    exact ⟨rfl, Below.refl _ _⟩
  go_wp2_with fail
  refine (over_any ao cap s.size ss w (by omega) (by omega) (by omega) HIN.out).mono ?_
  rintro e w1 ⟨⟨bo, rfl⟩, hw⟩
  subst w1
  cases bo
  case true =>
    go_wp2
    go_ret
    exact ⟨rfl, Below.refl _ _⟩
  by_cases hi0 : i < 0
  · go_wp2_with fail
    go_ret
    exact ⟨rfl, Below.refl _ _⟩
  by_cases hin : (ss.length : Int) < i
  · go_wp2_with fail
    go_ret
    exact ⟨rfl, Below.refl _ _⟩
  obtain ⟨j, rfl⟩ : ∃ j : Nat, i = j := ⟨i.toNat, by omega⟩
  have hjn : j ≤ ss.length := by omega
  cases ao with
  | none =>
    obtain ⟨rfl, rfl⟩ := HNIL.out rfl
    obtain rfl : j = 0 := by simpa using hjn
    clear HIN HSS HNIL hlen h16
    go_wp2_with (first
      | (at_make; refine wpList_make_own _ rfl _ _ 22 rfl w.heap.size 9 i0 (.string ByteArray.empty) 1 Try.underlying22 hi hz0 hz1 .i64 .i64 _ 1 rfl rfl (by omega) (by rw [hz2]; omega) (by unfold maxLen; omega) (Nat.le_refl _) ?_))
    intro w3 hown3 hg3
    have hb3 : Below w.heap.size w w3 := (Below.refl _ _).grown hg3 (Nat.le_refl _) (fun j hj => by cases hj)
    have hbz := hb3.size
    clear hg3
    go_wp2
    refine wp_loop_rounds 1 ?_
    rw [rounds_succ]
    go_wp2_with (first
      | (at_builtin; refine wpList_append_fits _ rfl _ _ 22 rfl w.heap.size 9 i0 1 Try.underlying22 hi hz1 w.heap.size 0 1 _ rfl (hown3.alloc _) ⟨w3.heap.size, 0, none⟩ 1 1 [.string s] rfl rfl (cell_one_new _ _ _) (one_cell s) (by omega) ?_))
    intro w4 hown4 hg4
    have hb4 : Below w.heap.size w w4 := (hb3.alloc (by omega) _).grown hg4 (by simp; omega) (fun j hj => by cases hj; omega)
    clear hg4 hown3 hb3 hbz
    go_wp2
    refine wp_loop_rounds 1 ?_
    rw [rounds_succ]
    have hObb : Owns w4 w.heap.size w.heap.size 1 [s] := Owns.of hown4 rfl rfl
    clear hown4
    go_wp2_with fail
    refine (zzgiven_any _ _ _ [] _ (.inl ⟨rfl, rfl⟩)).mono ?_
    rintro e w5 ⟨rfl, hb5⟩
    go_wp2_with fail
    refine (zzgiven_any _ _ _ [s] _ (hObb.below hb5 hObb.lt.2).row).mono ?_
    rintro e w6 ⟨rfl, hb6⟩
    have hb56 : Below w.heap.size w w5 := hb4.trans (hb5.mono hb4.size)
    have hb7 : Below w.heap.size w w6 := hb56.trans (hb6.mono hb56.size)
    clear hb5 hb6 hb56 hb4 hObb
    have HE : Hid (gv [s] = if s.toList.isEmpty then 0 else 1) := by
      show gvTo [s] 1 = _
      cases h : s.toList.isEmpty <;> simp [gvTo, giv, h]
    have HG : Hid (gv [] = 0) := rfl
    generalize gv [] = G at *
    generalize gv [s] = G' at *
    cases hse : s.toList.isEmpty
    · go_wp2
      go_ret
      exact ⟨ret_true (nil_with G G' HG.out (by rw [HE.out, if_neg (by simp [hse])])), hb7⟩
    · go_wp2
      go_ret
      exact ⟨ret_true (nil_without G G' HG.out (by rw [HE.out, if_pos hse])), hb7⟩
  | some a =>
    clear HNIL
    go_wp2_with (first
      | (at_make; refine wpList_make_full _ rfl _ _ 22 rfl w.heap.size 9 i0 (.string ByteArray.empty) 1 Try.underlying22 hi hz0 hz1 .i64 .i64 _ _ ss.length rfl rfl rfl rfl (by rw [hz2]; omega) (by unfold maxLen; omega) (Nat.le_refl _) ?_))
    intro w1 hown1 hg1
    have hb1 : Below w.heap.size w w1 := (Below.refl _ _).grown hg1 (Nat.le_refl _) (fun j hj => by cases hj)
    have hO1 := Owns.made hown1
    have HK1 : Hid (w1.heap[w.heap.size]? = some (.cells ((List.replicate ss.length ByteArray.empty).map Value.string).toArray 9 (0, 0))) := hO1.block (by simp)
    clear hown1 hg1 hO1
    go_wp2_with (first
      | (refine wpList_copy_splice rfl _ _ 22 22 rfl 9 Try.underlying22 Try.size9 _ _ _ _ _ _ rfl rfl w.heap.size 0 _ 9 HK1.out (ss.map Value.string) (strs_min ss) (fun hp => ⟨rfl, HIN.out.src hb1 hp⟩) (by simp) strs_oneCell w.heap.size w hb1 (Nat.le_refl _) ?_))
    intro w2 HK2 hb2
    clear hb1 HK1
    have hO2 : Owns w2 w.heap.size w.heap.size ss.length ss := Owns.of_block (Nat.le_refl _) (by unfold maxLen; omega) (by rw [← splice_all ss.length ss rfl]; exact HK2.out)
    clear HK2
    have hw2 := hb2.size
    go_wp2_with (first
      | (at_make; refine wpList_make_own _ rfl _ _ 22 rfl w.heap.size 9 i0 (.string ByteArray.empty) 1 Try.underlying22 hi hz0 hz1 .i64 .i64 _ (ss.length + 1) rfl rfl (by omega) (by rw [hz2]; omega) (by unfold maxLen; omega) hw2 ?_))
    intro w3 hown3 hg3
    have hb3 : Below w.heap.size w w3 := hb2.grown hg3 hw2 (fun j hj => by cases hj)
    have hO2' := hO2.kept hg3 (by simp)
    have hl2 := hO2.lt.2
    have hl3 : w2.heap.size < w3.heap.size := (World.ownsRow.lt hown3 _ rfl).2
    clear hg3 hb2 hO2
    go_wp2
    go_loopw [8, 9] (fun v i wr => ∃ k : Nat, k ≤ j ∧ i = .int .i64 k ∧ v = .slice (some ⟨w2.heap.size, 0, none⟩) k (ss.length + 1) ∧
        wr.ownsRow w.heap.size 9 1 (.slice (some ⟨w2.heap.size, 0, none⟩) k (ss.length + 1)) k (strsV (ss.take k)) ∧ Below w2.heap.size w3 wr)
      (fun _ i _ => j - (intOf i).toNat)
    case atStart => exact ⟨0, Nat.zero_le _, rfl, rfl, hown3, Below.refl _ _⟩
    case round =>
      clear hown3
      obtain ⟨k, hk, rfl, rfl, hOb, hbk⟩ := hrel
      have hOa := hO2'.below hbk hl2
      have hbz := hbk.size
      by_cases hlt : k < j
      · have hca := hOa.cell k (by omega)
        obtain ⟨x, hx⟩ : ∃ x, x = ss.getD k ByteArray.empty := ⟨_, rfl⟩
        rw [← hx] at hca
        have HX : Hid (ss.take k ++ [x] = ss.take (k + 1)) := by rw [hx, take_step ss k (by omega)]; exact rfl
        clear hx hOa
        go_wp2_with (first
          | (at_builtin; refine wpList_append_fits _ rfl _ _ 22 rfl w.heap.size 9 i0 1 Try.underlying22 hi hz1 w2.heap.size k (ss.length + 1) _ rfl (hOb.alloc _) ⟨wr.heap.size, 0, none⟩ 1 1 [.string x] rfl rfl (cell_one_new _ _ _) (one_cell x) (by omega) ?_))
        intro w4 hown4 hg4
        have hb4 : Below w2.heap.size w3 w4 := (hbk.alloc (by omega) _).grown hg4 (by simp; omega) (fun j hj => by cases hj; omega)
        rw [strsV_snoc, HX.out] at hown4
        clear hg4 hbk hOb
        go_wp2
        go_roundw
        case rel => exact ⟨k + 1, by omega, by go_num, rfl, hown4, hb4⟩
        case measure => simp [intOf]; omega
      · obtain rfl : k = j := by omega
        go_wp2_with (first
          | (at_builtin; refine wpList_append_fits _ rfl _ _ 22 rfl w.heap.size 9 i0 1 Try.underlying22 hi hz1 w2.heap.size k (ss.length + 1) _ rfl (hOb.alloc _) ⟨wr.heap.size, 0, none⟩ 1 1 [.string s] rfl rfl (cell_one_new _ _ _) (one_cell s) (by omega) ?_))
        intro w4 hown4 hg4
        have hb4 : Below w2.heap.size w3 w4 := (hbk.alloc (by omega) _).grown hg4 (by simp; omega) (fun j hj => by cases hj; omega)
        rw [strsV_snoc, insTo_start] at hown4
        clear hg4 hbk hOb hOa
        go_wp2
        clear hbz
        go_loopw [8, 10] (fun v i wr => ∃ m : Nat, k ≤ m ∧ m ≤ ss.length ∧ i = .int .i64 m ∧ v = .slice (some ⟨w2.heap.size, 0, none⟩) (m + 1) (ss.length + 1) ∧
            wr.ownsRow w.heap.size 9 1 (.slice (some ⟨w2.heap.size, 0, none⟩) (m + 1) (ss.length + 1)) (m + 1) (strsV (insTo ss k s m)) ∧ Below w2.heap.size w3 wr)
          (fun _ i _ => ss.length - (intOf i).toNat)
        case atStart => exact ⟨k, Nat.le_refl _, hjn, rfl, rfl, hown4, hb4⟩
        case round =>
          clear hown4 hb4
          obtain ⟨m, hkm, hm, rfl, rfl, hOb, hbk⟩ := hrel
          have hOa := hO2'.below hbk hl2
          have hbz := hbk.size
          by_cases hlt2 : m < ss.length
          · have hca := hOa.cell m (by omega)
            obtain ⟨x, hx⟩ : ∃ x, x = ss.getD m ByteArray.empty := ⟨_, rfl⟩
            rw [← hx] at hca
            have HX : Hid (insTo ss k s m ++ [x] = insTo ss k s (m + 1)) := by rw [hx, insTo_step ss k s m hkm hlt2]; exact rfl
            clear hx hOa
            go_wp2_with (first
              | (at_builtin; refine wpList_append_fits _ rfl _ _ 22 rfl w.heap.size 9 i0 1 Try.underlying22 hi hz1 w2.heap.size (m + 1) (ss.length + 1) _ rfl (hOb.alloc _) ⟨wr.heap.size, 0, none⟩ 1 1 [.string x] rfl rfl (cell_one_new _ _ _) (one_cell x) (by omega) ?_))
            intro w5 hown5 hg5
            have hb5 : Below w2.heap.size w3 w5 := (hbk.alloc (by omega) _).grown hg5 (by simp; omega) (fun j hj => by cases hj; omega)
            rw [strsV_snoc, HX.out] at hown5
            clear hg5 hbk hOb
            go_wp2
            go_roundw
            case rel => exact ⟨m + 1, by omega, by omega, by go_num, rfl, hown5, hb5⟩
            case measure => simp [intOf]; omega
          · obtain rfl : m = ss.length := by omega
            rw [insTo_end] at hOb
            have hObb : Owns wr w.heap.size w2.heap.size (ss.length + 1) (ins ss k s) := Owns.of hOb (ins_length ss k s hjn).symm rfl
            have hbw : Below w.heap.size w wr := hb3.trans (hbk.mono hw2)
            clear hO2' hb3 hbk hOb
            go_wp2_with fail
            refine (zzgiven_any _ _ _ ss _ hOa.row).mono ?_
            rintro e w5 ⟨rfl, hb5⟩
            go_wp2_with fail
            have hrow : StrRow w5 (.slice (some ⟨w2.heap.size, 0, none⟩) (ss.length + 1) (ss.length + 1)) (ins ss k s) := by
              have := (hObb.below hb5 hObb.lt.2).row
              rwa [ins_length ss k s hjn] at this
            refine (zzgiven_any _ _ _ (ins ss k s) _ hrow).mono ?_
            rintro e w6 ⟨rfl, hb6⟩
            have hb56 : Below w.heap.size w w5 := hbw.trans (hb5.mono hbw.size)
            have hb7 : Below w.heap.size w w6 := hb56.trans (hb6.mono hb56.size)
            clear hb5 hb6 hb56 hbw hrow hObb hOa
            by_cases h64 : (64 : Int) ≤ (k : Int)
            · have HE : Hid (gv (ins ss k s) = gv ss) := gv_ins_past ss k s hjn (by omega)
              go_wp2
              go_ret
              exact ⟨by rw [HE.out]; simp, hb7⟩
            · have HE : Hid (gv (ins ss k s) = ((gv ss &&& (2 ^ k - 1)) ||| (if s.toList.isEmpty then 0 else 2 ^ k)) ||| ((gv ss / 2 ^ k * 2 ^ (k + 1)) % 2 ^ 64)) := gv_ins ss k s hjn (by omega)
              have HL' : Hid (gv ss < 18446744073709551616) := gv_lt ss
              generalize gv ss = G at *
              generalize gv (ins ss k s) = G' at *
              cases hse : s.toList.isEmpty
              · go_wp2
                go_ret
                exact ⟨ret_true (ins_with G G' k (by rw [HE.out, if_neg (by simp [hse])]) HL'.out (by omega)), hb7⟩
              · go_wp2
                go_ret
                exact ⟨ret_true (ins_without G G' k (by rw [HE.out, if_pos hse]) HL'.out (by omega)), hb7⟩

end Go.Proofs.Qxb6608975a

/-
  SEAT b6608975a: the walk of FnGivenReplaceSetsOneBit.
-/
import Derived.Test.Qxb6608975aRowsOf
namespace Go.Proofs.Qxb6608975a
open Go.RowKit

theorem strs_oneCell {ss : List ByteArray} : ∀ v ∈ ss.map Value.string, v.oneCell' = true := by
  intro v hv
  obtain ⟨x, _, rfl⟩ := List.mem_map.1 hv
  rfl

theorem strs_min (ss : List ByteArray) : (ss.map Value.string).length = Nat.min ss.length ss.length := by
  show _ = min _ _
  simp

theorem ret_true {b : Bool} (h : b = true) : Ending.returned (.bool b) = .returned (.bool true) := by rw [h]
theorem pow_lt64 (j : Nat) (hj : j < 64) : 2 ^ j < 18446744073709551616 := Nat.lt_of_lt_of_le (Nat.pow_lt_pow_right (by omega) hj) (by omega)
theorem rep_with (G G' j : Nat) (h : G' = (G &&& (18446744073709551615 - 2 ^ j)) ||| 2 ^ j) (hG : G < 18446744073709551616) (hj : j < 64) :
    ((G' : Int) == bits .or .u64 (bits .andNot .u64 (↑G) (IntKind.u64.wrap (2 ^ j))) (IntKind.u64.wrap (2 ^ j))) = true := by
  rw [wrap_pow j hj, u64_andNot_nat _ _ hG (pow_lt64 j hj), u64_or_nat _ _ (andNot_lt _ _) (pow_lt64 j hj), ← h]
  simp
theorem rep_without (G G' j : Nat) (h : G' = G &&& (18446744073709551615 - 2 ^ j)) (hG : G < 18446744073709551616) (hj : j < 64) :
    ((G' : Int) == bits .andNot .u64 (↑G) (IntKind.u64.wrap (2 ^ j))) = true := by
  rw [wrap_pow j hj, u64_andNot_nat _ _ hG (pow_lt64 j hj), ← h]
  simp

set_option maxHeartbeats 1000000 in
theorem rep_walk (ao : Option Addr) (cap : Nat) (i : Int) (s : ByteArray) (ss : List ByteArray) (w : World) (hlen : ss.length ≤ 9223372036854775807) (hs : s.size ≤ 9223372036854775807) (hss : ∀ x ∈ ss, x.size ≤ 9223372036854775807) (hin : InStrs w ao ss) :
    Calls Try.prog 4 #[.slice ao ss.length cap, .int .i64 i, .string s] w fun e w' => e = .returned (.bool true) ∧ Below w.heap.size w w' := by
  have HIN : Hid (InStrs w ao ss) := hin
  have HSS : Hid (∀ x ∈ ss, x.size ≤ 9223372036854775807) := hss
  clear hin hss
  obtain ⟨i0, hi, hz0, hz1, hz2⟩ := info_parts Try.info9
  have hneq := fun w => run_neq_slice_nil_any (P := Try.prog) w 22 9 ao ss.length cap 0 0 Try.underlying22
  go_enter Try.func4, Try.ntmps4
  go_wp2_with fail
  refine (bytesR_any ao cap i s ss w hlen hs HSS.out HIN.out).mono ?_
  rintro e w1 ⟨⟨bo, rfl⟩, hw⟩
  subst w1
  cases bo
  · go_wp2
    go_ret
    exact ⟨rfl, Below.refl _ _⟩
  by_cases h16 : (65536 : Int) < (ss.length : Int)
  · go_wp2_with fail
    go_ret
    exact ⟨rfl, Below.refl _ _⟩
  by_cases hs20 : (1048576 : Int) < (s.size : Int)
  · go_wp2_with fail
    go_ret
    exact ⟨rfl, Below.refl _ _⟩
  go_wp2_with fail
  refine (over_any ao cap s.size ss w (by omega) (by omega) (by omega) HIN.out).mono ?_
  rintro e w1 ⟨⟨bo, rfl⟩, hw⟩
  subst w1
  cases bo
  case true =>
    go_wp2
    go_ret
    exact ⟨rfl, Below.refl _ _⟩
  by_cases hi0 : i < 0
  · go_wp2_with fail
    go_ret
    exact ⟨rfl, Below.refl _ _⟩
  by_cases hin : (ss.length : Int) ≤ i
  · go_wp2_with fail
    go_ret
    exact ⟨rfl, Below.refl _ _⟩
  obtain ⟨j, rfl⟩ : ∃ j : Nat, i = j := ⟨i.toNat, by omega⟩
  have hjn : j < ss.length := by omega
  obtain ⟨b, off, rfl, hbw, hc⟩ : ∃ b off, ao = some ⟨b, off, none⟩ ∧ b < w.heap.size ∧ ∀ i, i < ss.length → w.cell? ⟨b, off + i, none⟩ = some (.string (ss.getD i ByteArray.empty)) := by
    rcases HIN.out with h | h
    · rw [h] at hjn; simp at hjn
    · exact h
  clear hc
  go_wp2_with (first
    | (at_make; refine wpList_make_full _ rfl _ _ 22 rfl w.heap.size 9 i0 (.string ByteArray.empty) 1 Try.underlying22 hi hz0 hz1 .i64 .i64 _ _ ss.length rfl rfl rfl rfl (by rw [hz2]; omega) (by unfold maxLen; omega) (Nat.le_refl _) ?_))
  intro w1 hown1 hg1
  have hb1 : Below w.heap.size w w1 := (Below.refl _ _).grown hg1 (Nat.le_refl _) (fun j hj => by cases hj)
  have hO1 := Owns.made hown1
  have HK1 : Hid (w1.heap[w.heap.size]? = some (.cells ((List.replicate ss.length ByteArray.empty).map Value.string).toArray 9 (0, 0))) := hO1.block (by simp)
  clear hown1 hg1 hO1
  go_wp2_with (first
    | (refine wpList_copy_splice rfl _ _ 22 22 rfl 9 Try.underlying22 Try.size9 _ _ _ _ _ _ rfl rfl w.heap.size 0 _ 9 HK1.out (ss.map Value.string) (by simp) (fun hp => ⟨rfl, HIN.out.src hb1 hp⟩) (by simp) strs_oneCell w.heap.size w hb1 (Nat.le_refl _) ?_))
  intro w2 HK2 hb2
  clear hb1 HK1
  have hO2 : Owns w2 w.heap.size w.heap.size ss.length ss := Owns.of_block (Nat.le_refl _) (by unfold maxLen; omega) (by rw [← splice_all ss.length ss rfl]; exact HK2.out)
  clear HK2
  have hw2 := hb2.size
  go_wp2_with (first
    | (at_make; refine wpList_make_full _ rfl _ _ 22 rfl w.heap.size 9 i0 (.string ByteArray.empty) 1 Try.underlying22 hi hz0 hz1 .i64 .i64 _ _ ss.length rfl rfl rfl rfl (by rw [hz2]; omega) (by unfold maxLen; omega) hw2 ?_))
  intro w3 hown3 hg3
  have hb3 : Below w.heap.size w w3 := hb2.grown hg3 hw2 (fun j hj => by cases hj)
  have hO3 := Owns.made hown3
  have hO2' := hO2.kept hg3 (by simp)
  have hl2 := hO2.lt.2
  clear hown3 hg3 hb2 hO2
  go_wp2
  go_loopw [9] (fun i wr => ∃ k : Nat, k ≤ ss.length ∧ i = .int .i64 k ∧ Owns wr w.heap.size w2.heap.size ss.length (filled ss k) ∧ Below w2.heap.size w3 wr)
    (fun i _ => ss.length - (intOf i).toNat)
  case atStart => exact ⟨0, Nat.zero_le _, rfl, by rw [filled_zero]; exact hO3, Below.refl _ _⟩
  case round =>
    obtain ⟨k, hk, rfl, hOb, hbk⟩ := hrel
    have hOa := hO2'.below hbk hl2
    by_cases hlt : k < ss.length
    · have hca := hOa.cell k hlt
      have hfb := hOb.frozen k
      obtain ⟨x, hx⟩ : ∃ x, x = ss.getD k ByteArray.empty := ⟨_, rfl⟩
      rw [← hx] at hca
      have hcb := hOb.cell k (by rw [filled_length ss k hk]; exact hlt)
      obtain ⟨y, hy⟩ : ∃ y, y = (filled ss k).getD k ByteArray.empty := ⟨_, rfl⟩
      rw [← hy] at hcb
      have hst := hOb.stored k x
      rw [hx, filled_step ss k hlt, ← hx] at hst
      have hbs : Below w2.heap.size w3 (wr.setCell ⟨w2.heap.size, k, none⟩ (.string x)) := hbk.setCell (Nat.le_refl _) _
      clear hx hy hOb hbk hOa hO2' hO3 hb3
      go_wp2
      go_roundw
      case rel => exact ⟨k + 1, by omega, by go_num, hst, hbs⟩
      case measure => simp [intOf]; omega
    · obtain rfl : k = ss.length := by omega
      rw [filled_all] at hOb
      have hcb := hOb.cell j hjn
      have hfb := hOb.frozen j
      have hst := hOb.stored j s
      have hbs : Below w2.heap.size w3 (wr.setCell ⟨w2.heap.size, j, none⟩ (.string s)) := hbk.setCell (Nat.le_refl _) _
      have hOa' := hO2'.below hbs hl2
      have hbw : Below w.heap.size w (wr.setCell ⟨w2.heap.size, j, none⟩ (.string s)) := hb3.trans (hbs.mono hw2)
      clear hO2' hO3 hb3 hbs hbk hOa hOb
      go_wp2_with fail
      refine (zzgiven_any _ _ _ ss _ hOa'.row).mono ?_
      rintro e w5 ⟨rfl, hb5⟩
      go_wp2_with fail
      have hrow : StrRow w5 (.slice (some ⟨w2.heap.size, 0, none⟩) ss.length ss.length) (ss.set j s) := by
        have := (hst.below hb5 hst.lt.2).row
        rwa [List.length_set] at this
      refine (zzgiven_any _ _ _ (ss.set j s) _ hrow).mono ?_
      rintro e w6 ⟨rfl, hb6⟩
      have hb56 : Below w.heap.size w w5 := hbw.trans (hb5.mono hbw.size)
      have hb7 : Below w.heap.size w w6 := hb56.trans (hb6.mono hb56.size)
      clear hb5 hb6 hb56 hbw hrow hst hOa' hcb hfb
      by_cases h64 : (64 : Int) ≤ (j : Int)
      · have HE : Hid (gv (ss.set j s) = gv ss) := gv_set_past ss j s hjn (by omega)
        go_wp2
        go_ret
        exact ⟨by rw [HE.out]; simp, hb7⟩
      · have HE : Hid (gv (ss.set j s) = (gv ss &&& (18446744073709551615 - 2 ^ j)) ||| (if s.toList.isEmpty then 0 else 2 ^ j)) := gv_set ss j s hjn (by omega)
        have HL := gv_lt ss
        have HL' : Hid (gv ss < 18446744073709551616) := HL
        clear HL
        generalize gv ss = G at *
        generalize gv (ss.set j s) = G' at *
        cases hse : s.toList.isEmpty
        · go_wp2
          go_ret
          exact ⟨ret_true (rep_with G G' j (by rw [HE.out, if_neg (by simp [hse])]) HL'.out (by omega)), hb7⟩
        · go_wp2
          go_ret
          exact ⟨ret_true (rep_without G G' j (by rw [HE.out, if_pos hse, Nat.or_zero]) HL'.out (by omega)), hb7⟩

end Go.Proofs.Qxb6608975a

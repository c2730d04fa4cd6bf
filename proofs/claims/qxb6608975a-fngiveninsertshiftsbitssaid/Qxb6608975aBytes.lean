/-
  SEAT b6608975a: the two bounds (zzBytes.., zzOverBytes), walked: each answers some bool and turns nothing; ZZgiven by its contract.
-/
import Derived.Test.Qxb6608975aGiven
namespace Go.Proofs.Qxb6608975a
open Go.RowKit

set_option maxHeartbeats 400000 in
theorem given_nil (w : World) :
    Calls Try.prog 12 #[.agg #[.int .i64 0, .string ByteArray.empty, .string ByteArray.empty, .int .i64 0, .slice none 0 0]] w fun e w' =>
      e = .returned (.int .u64 0) ∧ Below w.heap.size w w' := by
  go_enter Try.func12, Try.ntmps12
  go_wp2
  refine wp_loop_rounds 1 ?_
  rw [rounds_succ]
  go_wp2
  go_ret
  exact ⟨rfl, (Below.refl _ _).alloc (Nat.le_refl _) _⟩

/-- The slice v, nil or at the head of a row, holds the strings ss. -/
def StrRow (w : World) (v : Value) (ss : List ByteArray) : Prop :=
  (v = .slice none 0 0 ∧ ss = []) ∨ ∃ g cap, v = .slice (some ⟨g, 0, none⟩) ss.length cap ∧ ss.length ≤ cap ∧ ss.length ≤ 9223372036854775807 ∧
    (∀ i, i < ss.length → w.cell? ⟨g, i, none⟩ = some (.string (ss.getD i ByteArray.empty))) ∧ (0 < ss.length → g < w.heap.size)

theorem given_any (v : Value) (ss : List ByteArray) (w : World) (h : StrRow w v ss) :
    Calls Try.prog 12 #[.agg #[.int .i64 0, .string ByteArray.empty, .string ByteArray.empty, .int .i64 0, v]] w fun e w' =>
      e = .returned (.int .u64 (gv ss)) ∧ Below w.heap.size w w' := by
  rcases h with ⟨rfl, rfl⟩ | ⟨g, cap, rfl, hcap, hlen, hc, hg⟩
  · exact given_nil w
  · by_cases h64 : ss.length ≤ 64
    · have e : gv ss = gvTo ss ss.length := by unfold gv; rw [Nat.min_eq_left h64]
      rw [e]
      exact given_short g cap ss w hcap hlen hc hg h64
    · have e : gv ss = gvTo ss 64 := by unfold gv; rw [Nat.min_eq_right (by omega)]
      rw [e]
      exact given_long g cap ss w hcap hlen hc hg (by omega)

set_option maxHeartbeats 400000 in
theorem zzgiven_any (ao : Option Addr) (n cap : Nat) (ss : List ByteArray) (w : World) (h : StrRow w (.slice ao n cap) ss) :
    Calls Try.prog 9 #[.slice ao n cap] w fun e w' => e = .returned (.int .u64 (gv ss)) ∧ Below w.heap.size w w' := by
  have c := given_any _ ss w h
  have C : Hid (Calls Try.prog 12 #[.agg #[.int .i64 0, .string ByteArray.empty, .string ByteArray.empty, .int .i64 0, .slice ao n cap]] w fun e w' => e = .returned (.int .u64 (gv ss)) ∧ Below w.heap.size w w') := c
  clear c h
  go_enter Try.func9, Try.ntmps9
  go_wp2_with (go_at_call 12; refine C.out.mono ?_; rintro e w' ⟨rfl, hb⟩)
  go_ret
  exact ⟨rfl, hb⟩

/-- Some bool comes back. -/
def SomeBool (e : Ending) : Prop := ∃ bo : Bool, e = .returned (.bool bo)
theorem SomeBool.mk (bo : Bool) : SomeBool (.returned (.bool bo)) := ⟨bo, rfl⟩

/-- The slice that came in, of whatever address where it is empty, holds the strings ss. -/
def InStrs (w : World) (ao : Option Addr) (ss : List ByteArray) : Prop :=
  ss = [] ∨ ∃ b off, ao = some ⟨b, off, none⟩ ∧ b < w.heap.size ∧ ∀ i, i < ss.length → w.cell? ⟨b, off + i, none⟩ = some (.string (ss.getD i ByteArray.empty))

set_option maxHeartbeats 400000 in
theorem bytesI_some (b off cap : Nat) (i : Int) (s : ByteArray) (ss : List ByteArray) (w : World) (hlen : ss.length ≤ 9223372036854775807) (hs : s.size ≤ 9223372036854775807) (hss : ∀ x ∈ ss, x.size ≤ 9223372036854775807)
    (hc : ∀ i, i < ss.length → w.cell? ⟨b, off + i, none⟩ = some (.string (ss.getD i ByteArray.empty))) :
    Calls Try.prog 7 #[.slice (some ⟨b, off, none⟩) ss.length cap, .int .i64 i, .string s] w fun e w' => SomeBool e ∧ w' = w := by
  by_cases h20 : (1048576 : Int) < (ss.length : Int)
  · go_enter Try.func7, Try.ntmps7
    go_wp2
    go_ret
    exact ⟨.mk _, rfl⟩
  go_enter Try.func7, Try.ntmps7
  go_wp2
  go_loop [7, 8] (fun t i => ∃ (k : Nat) (n : Int), k ≤ ss.length ∧ i = .int .i64 k ∧ t = .int .i64 n ∧ 0 ≤ n ∧ n ≤ 1048576) (fun _ i => ss.length - (intOf i).toNat)
  case atStart => exact ⟨0, _, Nat.zero_le _, rfl, rfl, by omega, by omega⟩
  case round =>
    obtain ⟨k, n, hk, rfl, rfl, hn0, hn1⟩ := hrel
    by_cases hlt : k < ss.length
    · have hcell := hc k hlt
      have hsz : (ss.getD k ByteArray.empty).size ≤ 9223372036854775807 := hss _ (by rw [List.getD_eq_getElem?_getD, List.getElem?_eq_getElem hlt]; simp)
      obtain ⟨x, hx⟩ : ∃ x, x = ss.getD k ByteArray.empty := ⟨_, rfl⟩
      rw [← hx] at hcell hsz
      clear hx hc hss
      by_cases hx1 : (1048576 : Int) < (x.size : Int)
      · go_wp2
        go_ret
        exact ⟨.mk _, rfl⟩
      · by_cases hx2 : (1048576 : Int) < n + (x.size : Int)
        · go_wp2
          go_ret
          exact ⟨.mk _, rfl⟩
        · go_wp2
          go_round
          case rel => exact ⟨k + 1, _, by omega, by go_num, rfl, by omega, by omega⟩
          case measure => simp [intOf]; omega
    · clear hc hss
      by_cases hs1 : (1048576 : Int) < (s.size : Int)
      · go_wp2
        go_ret
        exact ⟨.mk _, rfl⟩
      · by_cases hs2 : (1048576 : Int) < n + (s.size : Int)
        · go_wp2
          go_ret
          exact ⟨.mk _, rfl⟩
        · go_wp2
          go_ret
          exact ⟨.mk _, rfl⟩

set_option maxHeartbeats 400000 in
theorem bytesI_none (ao : Option Addr) (cap : Nat) (i : Int) (s : ByteArray) (w : World) (hs : s.size ≤ 9223372036854775807) :
    Calls Try.prog 7 #[.slice ao 0 cap, .int .i64 i, .string s] w fun e w' => SomeBool e ∧ w' = w := by
  go_enter Try.func7, Try.ntmps7
  go_wp2
  refine wp_loop_rounds 1 ?_
  rw [rounds_succ]
  by_cases hs1 : (1048576 : Int) < (s.size : Int)
  · go_wp2
    go_ret
    exact ⟨.mk _, rfl⟩
  · go_wp2
    go_ret
    exact ⟨.mk _, rfl⟩

theorem bytesI_any (ao : Option Addr) (cap : Nat) (i : Int) (s : ByteArray) (ss : List ByteArray) (w : World) (hlen : ss.length ≤ 9223372036854775807) (hs : s.size ≤ 9223372036854775807) (hss : ∀ x ∈ ss, x.size ≤ 9223372036854775807) (hin : InStrs w ao ss) :
    Calls Try.prog 7 #[.slice ao ss.length cap, .int .i64 i, .string s] w fun e w' => SomeBool e ∧ w' = w := by
  rcases hin with rfl | ⟨b, off, rfl, _, hc⟩
  · exact bytesI_none ao cap i s w hs
  · exact bytesI_some b off cap i s ss w hlen hs hss hc

set_option maxHeartbeats 400000 in
theorem bytesR_some (b off cap : Nat) (i : Int) (s : ByteArray) (ss : List ByteArray) (w : World) (hlen : ss.length ≤ 9223372036854775807) (hs : s.size ≤ 9223372036854775807) (hss : ∀ x ∈ ss, x.size ≤ 9223372036854775807)
    (hc : ∀ i, i < ss.length → w.cell? ⟨b, off + i, none⟩ = some (.string (ss.getD i ByteArray.empty))) :
    Calls Try.prog 10 #[.slice (some ⟨b, off, none⟩) ss.length cap, .int .i64 i, .string s] w fun e w' => SomeBool e ∧ w' = w := by
  by_cases h20 : (1048576 : Int) < (ss.length : Int)
  · go_enter Try.func10, Try.ntmps10
    go_wp2
    go_ret
    exact ⟨.mk _, rfl⟩
  go_enter Try.func10, Try.ntmps10
  go_wp2
  go_loop [7, 8] (fun t i => ∃ (k : Nat) (n : Int), k ≤ ss.length ∧ i = .int .i64 k ∧ t = .int .i64 n ∧ 0 ≤ n ∧ n ≤ 1048576) (fun _ i => ss.length - (intOf i).toNat)
  case atStart => exact ⟨0, _, Nat.zero_le _, rfl, rfl, by omega, by omega⟩
  case round =>
    obtain ⟨k, n, hk, rfl, rfl, hn0, hn1⟩ := hrel
    by_cases hlt : k < ss.length
    · have hcell := hc k hlt
      have hsz : (ss.getD k ByteArray.empty).size ≤ 9223372036854775807 := hss _ (by rw [List.getD_eq_getElem?_getD, List.getElem?_eq_getElem hlt]; simp)
      obtain ⟨x, hx⟩ : ∃ x, x = ss.getD k ByteArray.empty := ⟨_, rfl⟩
      rw [← hx] at hcell hsz
      clear hx hc hss
      by_cases hx1 : (1048576 : Int) < (x.size : Int)
      · go_wp2
        go_ret
        exact ⟨.mk _, rfl⟩
      · by_cases hx2 : (1048576 : Int) < n + (x.size : Int)
        · go_wp2
          go_ret
          exact ⟨.mk _, rfl⟩
        · go_wp2
          go_round
          case rel => exact ⟨k + 1, _, by omega, by go_num, rfl, by omega, by omega⟩
          case measure => simp [intOf]; omega
    · clear hc hss
      by_cases hs1 : (1048576 : Int) < (s.size : Int)
      · go_wp2
        go_ret
        exact ⟨.mk _, rfl⟩
      · by_cases hs2 : (1048576 : Int) < n + (s.size : Int)
        · go_wp2
          go_ret
          exact ⟨.mk _, rfl⟩
        · go_wp2
          go_ret
          exact ⟨.mk _, rfl⟩

set_option maxHeartbeats 400000 in
theorem bytesR_none (ao : Option Addr) (cap : Nat) (i : Int) (s : ByteArray) (w : World) (hs : s.size ≤ 9223372036854775807) :
    Calls Try.prog 10 #[.slice ao 0 cap, .int .i64 i, .string s] w fun e w' => SomeBool e ∧ w' = w := by
  go_enter Try.func10, Try.ntmps10
  go_wp2
  refine wp_loop_rounds 1 ?_
  rw [rounds_succ]
  by_cases hs1 : (1048576 : Int) < (s.size : Int)
  · go_wp2
    go_ret
    exact ⟨.mk _, rfl⟩
  · go_wp2
    go_ret
    exact ⟨.mk _, rfl⟩

theorem bytesR_any (ao : Option Addr) (cap : Nat) (i : Int) (s : ByteArray) (ss : List ByteArray) (w : World) (hlen : ss.length ≤ 9223372036854775807) (hs : s.size ≤ 9223372036854775807) (hss : ∀ x ∈ ss, x.size ≤ 9223372036854775807) (hin : InStrs w ao ss) :
    Calls Try.prog 10 #[.slice ao ss.length cap, .int .i64 i, .string s] w fun e w' => SomeBool e ∧ w' = w := by
  rcases hin with rfl | ⟨b, off, rfl, _, hc⟩
  · exact bytesR_none ao cap i s w hs
  · exact bytesR_some b off cap i s ss w hlen hs hss hc

set_option maxHeartbeats 400000 in
theorem over_some (b off cap : Nat) (x0 : Int) (ss : List ByteArray) (w : World) (hlen : ss.length ≤ 65536) (h0 : 0 ≤ x0) (h1 : x0 ≤ 1048576)
    (hc : ∀ i, i < ss.length → w.cell? ⟨b, off + i, none⟩ = some (.string (ss.getD i ByteArray.empty))) :
    Calls Try.prog 8 #[.slice (some ⟨b, off, none⟩) ss.length cap, .int .i64 x0] w fun e w' => SomeBool e ∧ w' = w := by
  by_cases h20 : (1048576 : Int) < x0 + 8 * (ss.length : Int)
  · go_enter Try.func8, Try.ntmps8
    go_wp2
    go_ret
    exact ⟨.mk _, rfl⟩
  go_enter Try.func8, Try.ntmps8
  go_wp2
  go_loop [5, 6] (fun t i => ∃ (k : Nat) (n : Int), k ≤ ss.length ∧ i = .int .i64 k ∧ t = .int .i64 n) (fun _ i => ss.length - (intOf i).toNat)
  case atStart => exact ⟨0, _, Nat.zero_le _, rfl, rfl⟩
  case round =>
    obtain ⟨k, n, hk, rfl, rfl⟩ := hrel
    by_cases hlt : k < ss.length
    · have hcell := hc k hlt
      obtain ⟨x, hx⟩ : ∃ x, x = ss.getD k ByteArray.empty := ⟨_, rfl⟩
      rw [← hx] at hcell
      clear hx hc
      go_wp2
      · go_ret
        exact ⟨.mk _, rfl⟩
      · go_round
        case rel => exact ⟨k + 1, _, by omega, by go_num, rfl⟩
        case measure => simp [intOf]; omega
    · go_wp2
      go_ret
      exact ⟨.mk _, rfl⟩

set_option maxHeartbeats 400000 in
theorem over_none (ao : Option Addr) (cap : Nat) (x0 : Int) (w : World) (h0 : 0 ≤ x0) (h1 : x0 ≤ 1048576) :
    Calls Try.prog 8 #[.slice ao 0 cap, .int .i64 x0] w fun e w' => SomeBool e ∧ w' = w := by
  go_enter Try.func8, Try.ntmps8
  go_wp2
  refine wp_loop_rounds 1 ?_
  rw [rounds_succ]
  go_wp2
  go_ret
  exact ⟨.mk _, rfl⟩

theorem over_any (ao : Option Addr) (cap : Nat) (x0 : Int) (ss : List ByteArray) (w : World) (hlen : ss.length ≤ 65536) (h0 : 0 ≤ x0) (h1 : x0 ≤ 1048576) (hin : InStrs w ao ss) :
    Calls Try.prog 8 #[.slice ao ss.length cap, .int .i64 x0] w fun e w' => SomeBool e ∧ w' = w := by
  rcases hin with rfl | ⟨b, off, rfl, _, hc⟩
  · exact over_none ao cap x0 w h0 h1
  · exact over_some b off cap x0 ss w hlen h0 h1 hc

end Go.Proofs.Qxb6608975a

/-
  SEAT b6609104a: []string: the bounds (zzBytes, zzAddStrings, zzAddString), walked.
-/
import Derived.Test.Qxb6609104aSmall
namespace Go.Proofs.Qxb6609104a
open Go.RowKit
set_option linter.unusedVariables false

/-- The slice that came in, of whatever address where it is empty, holds the strings ss. -/
def InStrs (w : World) (ao : Option Addr) (ss : List ByteArray) : Prop :=
  ss = [] ∨ ∃ b off, ao = some ⟨b, off, none⟩ ∧ b < w.heap.size ∧ ∀ i, i < ss.length → w.cell? ⟨b, off + i, none⟩ = some (.string (ss.getD i ByteArray.empty))
theorem InStrs.below {w w' : World} {B : Nat} {ao : Option Addr} {ss : List ByteArray} (h : InStrs w ao ss) (hb : Below B w w') (hB : w.heap.size ≤ B) : InStrs w' ao ss := by
  rcases h with h | ⟨b, off, h1, h2, h3⟩
  · exact .inl h
  · exact .inr ⟨b, off, h1, Nat.lt_of_lt_of_le h2 hb.size, fun i hi => (hb.cell (p := ⟨b, off + i, none⟩) (Nat.lt_of_lt_of_le h2 hB)).trans (h3 i hi)⟩

/-- A sum and whether it is within the bound come back. -/
def Sum (n : Nat) (e : Ending) : Prop := ∃ (x : Int) (bo : Bool), e = .returned (.tuple #[.int .i64 x, .bool bo]) ∧ (bo = true → 0 ≤ x ∧ x ≤ 1048576 ∧ n ≤ 65536)
theorem Sum.no (n : Nat) (x : Int) : Sum n (.returned (.tuple #[.int .i64 x, .bool false])) := ⟨x, false, rfl, fun h => by cases h⟩
theorem Sum.yes {n : Nat} {x : Int} (h0 : 0 ≤ x) (h1 : x ≤ 1048576) (h2 : n ≤ 65536) : Sum n (.returned (.tuple #[.int .i64 x, .bool true])) := ⟨x, true, rfl, fun _ => ⟨h0, h1, h2⟩⟩

set_option maxHeartbeats 400000 in
theorem addString_any (x : Int) (s : ByteArray) (w : World) (hs : s.size ≤ 9223372036854775807) (h0 : 0 ≤ x) (h1 : x ≤ 1048576) :
    Calls Try.prog 9 #[.int .i64 x, .string s] w fun e w' => Sum 0 e ∧ w' = w := by
  by_cases hx1 : (1048576 : Int) < (s.size : Int)
  · go_enter Try.func9, Try.ntmps9
    go_wp2
    refine bodyPost_ret (v := .tuple #[.int .i64 x, .bool false]) (by simp [results, Try.results9, go_sem]) rfl ⟨.no _ _, rfl⟩
  · by_cases hx2 : (1048576 : Int) < x + (s.size : Int)
    · go_enter Try.func9, Try.ntmps9
      go_wp2
      refine bodyPost_ret (v := .tuple #[.int .i64 (x + s.size), .bool false]) (by simp [results, Try.results9, go_sem]) rfl ⟨.no _ _, rfl⟩
    · go_enter Try.func9, Try.ntmps9
      go_wp2
      refine bodyPost_ret (v := .tuple #[.int .i64 (x + s.size), .bool true]) (by simp [results, Try.results9, go_sem]) rfl ⟨.yes (by omega) (by omega) (by omega), rfl⟩

set_option maxHeartbeats 400000 in
theorem addStrings_none (ao : Option Addr) (cap : Nat) (x : Int) (w : World) (h0 : 0 ≤ x) (h1 : x ≤ 1048576) :
    Calls Try.prog 8 #[.int .i64 x, .slice ao 0 cap] w fun e w' => Sum 0 e ∧ w' = w := by
  go_enter Try.func8, Try.ntmps8
  go_wp2
  refine wp_loop_rounds 1 ?_
  rw [rounds_succ]
  go_wp2
  refine bodyPost_ret (v := .tuple #[.int .i64 x, .bool true]) (by simp [results, Try.results8, go_sem]) rfl ⟨.yes (by omega) (by omega) (by omega), rfl⟩

set_option maxHeartbeats 400000 in
theorem addStrings_some (b off cap : Nat) (x : Int) (ss : List ByteArray) (w : World) (hlen : ss.length ≤ 9223372036854775807) (hss : ∀ x ∈ ss, x.size ≤ 9223372036854775807) (h0 : 0 ≤ x) (h1 : x ≤ 1048576)
    (hc : ∀ i, i < ss.length → w.cell? ⟨b, off + i, none⟩ = some (.string (ss.getD i ByteArray.empty))) :
    Calls Try.prog 8 #[.int .i64 x, .slice (some ⟨b, off, none⟩) ss.length cap] w fun e w' => Sum ss.length e ∧ w' = w := by
  by_cases h20 : (65536 : Int) < (ss.length : Int)
  · go_enter Try.func8, Try.ntmps8
    go_wp2
    refine bodyPost_ret (v := .tuple #[.int .i64 x, .bool false]) (by simp [results, Try.results8, go_sem]) rfl ⟨.no _ _, rfl⟩
  by_cases h21 : (1048576 : Int) < x + (ss.length : Int) * 16
  · go_enter Try.func8, Try.ntmps8
    go_wp2
    refine bodyPost_ret (v := .tuple #[.int .i64 (x + ss.length * 16), .bool false]) (by simp [results, Try.results8, go_sem]) rfl ⟨.no _ _, rfl⟩
  go_enter Try.func8, Try.ntmps8
  go_wp2
  go_loop [0, 6] (fun t i => ∃ (k : Nat) (n : Int), k ≤ ss.length ∧ i = .int .i64 k ∧ t = .int .i64 n ∧ 0 ≤ n ∧ n ≤ 1048576) (fun _ i => ss.length - (intOf i).toNat)
  case atStart => exact ⟨0, _, Nat.zero_le _, rfl, rfl, by omega, by omega⟩
  case round =>
    obtain ⟨k, n, hk, rfl, rfl, hn0, hn1⟩ := hrel
    by_cases hlt : k < ss.length
    · have hcell := hc k hlt
      have hsz : (ss.getD k ByteArray.empty).size ≤ 9223372036854775807 := hss _ (by rw [List.getD_eq_getElem?_getD, List.getElem?_eq_getElem hlt]; simp)
      obtain ⟨y, hy⟩ : ∃ y, y = ss.getD k ByteArray.empty := ⟨_, rfl⟩
      rw [← hy] at hcell hsz
      clear hy hc hss
      by_cases hx1 : (1048576 : Int) < (y.size : Int)
      · go_wp2
        refine bodyPost_ret (v := .tuple #[.int .i64 n, .bool false]) (by simp [results, Try.results8, go_sem]) rfl ⟨.no _ _, rfl⟩
      · by_cases hx2 : (1048576 : Int) < n + (y.size : Int)
        · go_wp2
          refine bodyPost_ret (v := .tuple #[.int .i64 (n + y.size), .bool false]) (by simp [results, Try.results8, go_sem]) rfl ⟨.no _ _, rfl⟩
        · go_wp2
          go_round
          case rel => exact ⟨k + 1, _, by omega, by go_num, rfl, by omega, by omega⟩
          case measure => simp [intOf]; omega
    · clear hc hss
      go_wp2
      refine bodyPost_ret (v := .tuple #[.int .i64 n, .bool true]) (by simp [results, Try.results8, go_sem]) rfl ⟨.yes (by omega) (by omega) (by omega), rfl⟩

theorem addStrings_any (ao : Option Addr) (cap : Nat) (x : Int) (ss : List ByteArray) (w : World) (hlen : ss.length ≤ 9223372036854775807) (hss : ∀ x ∈ ss, x.size ≤ 9223372036854775807) (h0 : 0 ≤ x) (h1 : x ≤ 1048576) (hin : InStrs w ao ss) :
    Calls Try.prog 8 #[.int .i64 x, .slice ao ss.length cap] w fun e w' => Sum ss.length e ∧ w' = w := by
  rcases hin with rfl | ⟨b, off, rfl, _, hc⟩
  · exact addStrings_none ao cap x w h0 h1
  · exact addStrings_some b off cap x ss w hlen hss h0 h1 hc

set_option maxHeartbeats 1000000 in
theorem bytes7_some (ar : Option Addr) (nr cr b off cap : Nat) (f c o : Int) (n1 : Int) (a1 : Bool) (s : ByteArray) (ss : List ByteArray) (w : World) (hr : nr ≤ 9223372036854775807) (hlen : ss.length ≤ 9223372036854775807) (hs : s.size ≤ 9223372036854775807) (hss : ∀ x ∈ ss, x.size ≤ 9223372036854775807)
    (hc : ∀ i, i < ss.length → w.cell? ⟨b, off + i, none⟩ = some (.string (ss.getD i ByteArray.empty))) :
    Calls Try.prog 7 #[.slice ar nr cr, .int .i64 f, .int .i64 c, .int .u64 o, .slice (some ⟨b, off, none⟩) ss.length cap, .string s, .int .u64 n1, .bool a1] w fun e w' => SomeBool e ∧ w' = w := by
  by_cases h19 : (1048576 : Int) < (nr : Int)
  · go_enter Try.func7, Try.ntmps7
    go_wp2
    go_ret
    exact ⟨.mk _, rfl⟩
  by_cases h20 : (1048576 : Int) < (ss.length : Int)
  · go_enter Try.func7, Try.ntmps7
    go_wp2
    go_ret
    exact ⟨.mk _, rfl⟩
  by_cases h21 : (1048576 : Int) < (nr : Int) + (ss.length : Int)
  · go_enter Try.func7, Try.ntmps7
    go_wp2
    go_ret
    exact ⟨.mk _, rfl⟩
  go_enter Try.func7, Try.ntmps7
  go_wp2
  go_loop [17, 18] (fun t i => ∃ (k : Nat) (n : Int), k ≤ ss.length ∧ i = .int .i64 k ∧ t = .int .i64 n ∧ 0 ≤ n ∧ n ≤ 1048576) (fun _ i => ss.length - (intOf i).toNat)
  case atStart => exact ⟨0, _, Nat.zero_le _, rfl, rfl, by omega, by omega⟩
  case round =>
    obtain ⟨k, n, hk, rfl, rfl, hn0, hn1⟩ := hrel
    by_cases hlt : k < ss.length
    · have hcell := hc k hlt
      have hsz : (ss.getD k ByteArray.empty).size ≤ 9223372036854775807 := hss _ (by rw [List.getD_eq_getElem?_getD, List.getElem?_eq_getElem hlt]; simp)
      obtain ⟨y, hy⟩ : ∃ y, y = ss.getD k ByteArray.empty := ⟨_, rfl⟩
      rw [← hy] at hcell hsz
      clear hy hc hss
      by_cases hx1 : (1048576 : Int) < (y.size : Int)
      · go_wp2
        go_ret
        exact ⟨.mk _, rfl⟩
      · by_cases hx2 : (1048576 : Int) < n + (y.size : Int)
        · go_wp2
          go_ret
          exact ⟨.mk _, rfl⟩
        · go_wp2
          go_round
          case rel => exact ⟨k + 1, _, by omega, by go_num, rfl, by omega, by omega⟩
          case measure => simp [intOf]; omega
    · clear hc hss
      by_cases hs1 : (1048576 : Int) < (s.size : Int)
      · go_wp2
        go_ret
        exact ⟨.mk _, rfl⟩
      · by_cases hs2 : (1048576 : Int) < n + (s.size : Int)
        · go_wp2
          go_ret
          exact ⟨.mk _, rfl⟩
        · go_wp2
          go_ret
          exact ⟨.mk _, rfl⟩

set_option maxHeartbeats 1000000 in
theorem bytes7_none (ar : Option Addr) (nr cr : Nat) (ao : Option Addr) (cap : Nat) (f c o : Int) (n1 : Int) (a1 : Bool) (s : ByteArray) (w : World) (hr : nr ≤ 9223372036854775807) (hs : s.size ≤ 9223372036854775807) :
    Calls Try.prog 7 #[.slice ar nr cr, .int .i64 f, .int .i64 c, .int .u64 o, .slice ao 0 cap, .string s, .int .u64 n1, .bool a1] w fun e w' => SomeBool e ∧ w' = w := by
  by_cases h19 : (1048576 : Int) < (nr : Int)
  · go_enter Try.func7, Try.ntmps7
    go_wp2
    go_ret
    exact ⟨.mk _, rfl⟩
  go_enter Try.func7, Try.ntmps7
  go_wp2
  refine wp_loop_rounds 1 ?_
  rw [rounds_succ]
  by_cases hs1 : (1048576 : Int) < (s.size : Int)
  · go_wp2
    go_ret
    exact ⟨.mk _, rfl⟩
  · by_cases hs2 : (1048576 : Int) < (nr : Int) + (s.size : Int)
    · go_wp2
      go_ret
      exact ⟨.mk _, rfl⟩
    · go_wp2
      go_ret
      exact ⟨.mk _, rfl⟩

theorem bytes7_any (ar : Option Addr) (nr cr : Nat) (ao : Option Addr) (cap : Nat) (f c o : Int) (n1 : Int) (a1 : Bool) (s : ByteArray) (ss : List ByteArray) (w : World) (hr : nr ≤ 9223372036854775807) (hlen : ss.length ≤ 9223372036854775807) (hs : s.size ≤ 9223372036854775807) (hss : ∀ x ∈ ss, x.size ≤ 9223372036854775807) (hin : InStrs w ao ss) :
    Calls Try.prog 7 #[.slice ar nr cr, .int .i64 f, .int .i64 c, .int .u64 o, .slice ao ss.length cap, .string s, .int .u64 n1, .bool a1] w fun e w' => SomeBool e ∧ w' = w := by
  rcases hin with rfl | ⟨b, off, rfl, _, hc⟩
  · exact bytes7_none ar nr cr ao cap f c o n1 a1 s w hr hs
  · exact bytes7_some ar nr cr b off cap f c o n1 a1 s ss w hr hlen hs hss hc

set_option maxHeartbeats 1000000 in
theorem bytes20_some (ar : Option Addr) (nr cr b off cap : Nat) (f c o : Int) (n1 n2 : Int) (a1 a2 : Bool) (s : ByteArray) (t : ByteArray) (ss : List ByteArray) (w : World) (hr : nr ≤ 9223372036854775807) (hlen : ss.length ≤ 9223372036854775807) (hs : s.size ≤ 9223372036854775807) (ht : t.size ≤ 9223372036854775807) (hss : ∀ x ∈ ss, x.size ≤ 9223372036854775807)
    (hc : ∀ i, i < ss.length → w.cell? ⟨b, off + i, none⟩ = some (.string (ss.getD i ByteArray.empty))) :
    Calls Try.prog 20 #[.slice ar nr cr, .int .i64 f, .int .i64 c, .int .u64 o, .slice (some ⟨b, off, none⟩) ss.length cap, .string s, .int .u64 n1, .bool a1, .string t, .int .u64 n2, .bool a2] w fun e w' => SomeBool e ∧ w' = w := by
  by_cases h19 : (1048576 : Int) < (nr : Int)
  · go_enter Try.func20, Try.ntmps20
    go_wp2
    go_ret
    exact ⟨.mk _, rfl⟩
  by_cases h20 : (1048576 : Int) < (ss.length : Int)
  · go_enter Try.func20, Try.ntmps20
    go_wp2
    go_ret
    exact ⟨.mk _, rfl⟩
  by_cases h21 : (1048576 : Int) < (nr : Int) + (ss.length : Int)
  · go_enter Try.func20, Try.ntmps20
    go_wp2
    go_ret
    exact ⟨.mk _, rfl⟩
  go_enter Try.func20, Try.ntmps20
  go_wp2
  go_loop [23, 24] (fun t i => ∃ (k : Nat) (n : Int), k ≤ ss.length ∧ i = .int .i64 k ∧ t = .int .i64 n ∧ 0 ≤ n ∧ n ≤ 1048576) (fun _ i => ss.length - (intOf i).toNat)
  case atStart => exact ⟨0, _, Nat.zero_le _, rfl, rfl, by omega, by omega⟩
  case round =>
    obtain ⟨k, n, hk, rfl, rfl, hn0, hn1⟩ := hrel
    by_cases hlt : k < ss.length
    · have hcell := hc k hlt
      have hsz : (ss.getD k ByteArray.empty).size ≤ 9223372036854775807 := hss _ (by rw [List.getD_eq_getElem?_getD, List.getElem?_eq_getElem hlt]; simp)
      obtain ⟨y, hy⟩ : ∃ y, y = ss.getD k ByteArray.empty := ⟨_, rfl⟩
      rw [← hy] at hcell hsz
      clear hy hc hss
      by_cases hx1 : (1048576 : Int) < (y.size : Int)
      · go_wp2
        go_ret
        exact ⟨.mk _, rfl⟩
      · by_cases hx2 : (1048576 : Int) < n + (y.size : Int)
        · go_wp2
          go_ret
          exact ⟨.mk _, rfl⟩
        · go_wp2
          go_round
          case rel => exact ⟨k + 1, _, by omega, by go_num, rfl, by omega, by omega⟩
          case measure => simp [intOf]; omega
    · clear hc hss
      by_cases hs1 : (1048576 : Int) < (s.size : Int)
      · go_wp2
        go_ret
        exact ⟨.mk _, rfl⟩
      · by_cases hs2 : (1048576 : Int) < n + (s.size : Int)
        · go_wp2
          go_ret
          exact ⟨.mk _, rfl⟩
        · by_cases ht1 : (1048576 : Int) < (t.size : Int)
          · go_wp2
            go_ret
            exact ⟨.mk _, rfl⟩
          · by_cases ht2 : (1048576 : Int) < n + (s.size : Int) + (t.size : Int)
            · go_wp2
              go_ret
              exact ⟨.mk _, rfl⟩
            · go_wp2
              go_ret
              exact ⟨.mk _, rfl⟩

set_option maxHeartbeats 1000000 in
theorem bytes20_none (ar : Option Addr) (nr cr : Nat) (ao : Option Addr) (cap : Nat) (f c o : Int) (n1 n2 : Int) (a1 a2 : Bool) (s : ByteArray) (t : ByteArray) (w : World) (hr : nr ≤ 9223372036854775807) (hs : s.size ≤ 9223372036854775807) (ht : t.size ≤ 9223372036854775807) :
    Calls Try.prog 20 #[.slice ar nr cr, .int .i64 f, .int .i64 c, .int .u64 o, .slice ao 0 cap, .string s, .int .u64 n1, .bool a1, .string t, .int .u64 n2, .bool a2] w fun e w' => SomeBool e ∧ w' = w := by
  by_cases h19 : (1048576 : Int) < (nr : Int)
  · go_enter Try.func20, Try.ntmps20
    go_wp2
    go_ret
    exact ⟨.mk _, rfl⟩
  go_enter Try.func20, Try.ntmps20
  go_wp2
  refine wp_loop_rounds 1 ?_
  rw [rounds_succ]
  by_cases hs1 : (1048576 : Int) < (s.size : Int)
  · go_wp2
    go_ret
    exact ⟨.mk _, rfl⟩
  · by_cases hs2 : (1048576 : Int) < (nr : Int) + (s.size : Int)
    · go_wp2
      go_ret
      exact ⟨.mk _, rfl⟩
    · by_cases ht1 : (1048576 : Int) < (t.size : Int)
      · go_wp2
        go_ret
        exact ⟨.mk _, rfl⟩
      · by_cases ht2 : (1048576 : Int) < (nr : Int) + (s.size : Int) + (t.size : Int)
        · go_wp2
          go_ret
          exact ⟨.mk _, rfl⟩
        · go_wp2
          go_ret
          exact ⟨.mk _, rfl⟩

theorem bytes20_any (ar : Option Addr) (nr cr : Nat) (ao : Option Addr) (cap : Nat) (f c o : Int) (n1 n2 : Int) (a1 a2 : Bool) (s : ByteArray) (t : ByteArray) (ss : List ByteArray) (w : World) (hr : nr ≤ 9223372036854775807) (hlen : ss.length ≤ 9223372036854775807) (hs : s.size ≤ 9223372036854775807) (ht : t.size ≤ 9223372036854775807) (hss : ∀ x ∈ ss, x.size ≤ 9223372036854775807) (hin : InStrs w ao ss) :
    Calls Try.prog 20 #[.slice ar nr cr, .int .i64 f, .int .i64 c, .int .u64 o, .slice ao ss.length cap, .string s, .int .u64 n1, .bool a1, .string t, .int .u64 n2, .bool a2] w fun e w' => SomeBool e ∧ w' = w := by
  rcases hin with rfl | ⟨b, off, rfl, _, hc⟩
  · exact bytes20_none ar nr cr ao cap f c o n1 n2 a1 a2 s t w hr hs ht
  · exact bytes20_some ar nr cr b off cap f c o n1 n2 a1 a2 s t ss w hr hlen hs ht hss hc

end Go.Proofs.Qxb6609104a

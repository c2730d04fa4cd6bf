/-
  SEAT b6608975a: effect.given and ZZgiven, walked.
-/
import Derived.Test.Qxb6608975aRows
import Derived.Test.Qxb6608975aPlain
import Derived.WalkKit
import Derived.WalkSpells
import Derived.WalkLawsBesides
import Derived.Laws.BitsAllLaws
namespace Go.Proofs.Qxb6608975a
open Go.RowKit

theorem wrap_pow (k : Nat) (hk : k < 64) : IntKind.u64.wrap (2 ^ k) = ((2 ^ k : Nat) : Int) := by
  have h : 2 ^ k ≤ 2 ^ 63 := Nat.pow_le_pow_right (by omega) (by omega)
  rw [IntKind.wrap_u64, show ((2 : Int) ^ k) = ((2 ^ k : Nat) : Int) by norm_cast]
  generalize 2 ^ k = P at *
  omega
theorem or_step (G k : Nat) (hG : G < 2 ^ k) (hk : k < 64) : bits .or .u64 (↑G) (IntKind.u64.wrap (2 ^ k)) = ((G ||| 2 ^ k : Nat) : Int) := by
  have h : 2 ^ k ≤ 2 ^ 63 := Nat.pow_le_pow_right (by omega) (by omega)
  rw [wrap_pow k hk, u64_or_nat _ _ (by omega) (by omega)]

set_option maxHeartbeats 400000 in
theorem given_short (g cap : Nat) (ss : List ByteArray) (w : World) (hcap : ss.length ≤ cap) (hlen : ss.length ≤ 9223372036854775807)
    (hc : ∀ i, i < ss.length → w.cell? ⟨g, i, none⟩ = some (.string (ss.getD i ByteArray.empty))) (hg : 0 < ss.length → g < w.heap.size) (h64 : ss.length ≤ 64) :
    Calls Try.prog 12 #[.agg #[.int .i64 0, .string ByteArray.empty, .string ByteArray.empty, .int .i64 0, .slice (some ⟨g, 0, none⟩) ss.length cap]] w fun e w' =>
      e = .returned (.int .u64 (gvTo ss ss.length)) ∧ Below w.heap.size w w' := by
  go_enter Try.func12, Try.ntmps12
  go_wp2
  go_loop [3, 14] (fun t i => ∃ k : Nat, k ≤ ss.length ∧ i = .int .i64 k ∧ t = .int .u64 (gvTo ss k)) (fun _ i => ss.length - (intOf i).toNat)
  case atStart => exact ⟨0, Nat.zero_le _, rfl, rfl⟩
  case round =>
    obtain ⟨k, hk, rfl, rfl⟩ := hrel
    by_cases hlt : k < ss.length
    · have hcell : w.cell? ⟨g, k, none⟩ = some (.string (ss.getD k ByteArray.empty)) := hc k (by omega)
      have hgw : g < w.heap.size := hg (by omega)
      have hk64 : k < 64 := by omega
      have hS : Hid (gvTo ss (k + 1) = if giv ss k then gvTo ss k ||| 2 ^ k else gvTo ss k) := rfl
      have hL := gvTo_lt ss k
      have hP : 2 ^ k ≤ 2 ^ 63 := Nat.pow_le_pow_right (by omega) (by omega)
      have HL : Hid (gvTo ss k < 2 ^ k) := hL
      have HP : Hid (2 ^ k ≤ 2 ^ 63) := hP
      obtain ⟨s, hs⟩ : ∃ s, s = ss.getD k ByteArray.empty := ⟨_, rfl⟩
      rw [← hs] at hcell
      have HG : Hid (giv ss k = !s.toList.isEmpty) := by rw [hs]; rfl
      clear hs hL hP hc
      generalize gvTo ss k = G at *
      cases hne : s.toList.isEmpty
      · go_wp2
        go_round
        case rel => exact ⟨k + 1, by omega, by go_num, by rw [hS.out, HG.out, hne, or_step G k HL.out hk64]; rfl⟩
        case measure => simp [intOf]; omega
      · go_wp2
        go_round
        case rel => exact ⟨k + 1, by omega, by go_num, by rw [hS.out, HG.out, hne]; rfl⟩
        case measure => simp [intOf]; omega
    · go_wp2
      go_ret
      obtain rfl : k = ss.length := by omega
      exact ⟨rfl, (Below.refl _ _).alloc (Nat.le_refl _) _⟩

set_option maxHeartbeats 400000 in
theorem given_long (g cap : Nat) (ss : List ByteArray) (w : World) (hcap : ss.length ≤ cap) (hlen : ss.length ≤ 9223372036854775807)
    (hc : ∀ i, i < ss.length → w.cell? ⟨g, i, none⟩ = some (.string (ss.getD i ByteArray.empty))) (hg : 0 < ss.length → g < w.heap.size) (h64 : 64 < ss.length) :
    Calls Try.prog 12 #[.agg #[.int .i64 0, .string ByteArray.empty, .string ByteArray.empty, .int .i64 0, .slice (some ⟨g, 0, none⟩) ss.length cap]] w fun e w' =>
      e = .returned (.int .u64 (gvTo ss 64)) ∧ Below w.heap.size w w' := by
  go_enter Try.func12, Try.ntmps12
  go_wp2
  go_loop [3, 14] (fun t i => ∃ k : Nat, k ≤ 64 ∧ i = .int .i64 k ∧ t = .int .u64 (gvTo ss k)) (fun _ i => 64 - (intOf i).toNat)
  case atStart => exact ⟨0, Nat.zero_le _, rfl, rfl⟩
  case round =>
    obtain ⟨k, hk, rfl, rfl⟩ := hrel
    by_cases hlt : k < 64
    · have hcell : w.cell? ⟨g, k, none⟩ = some (.string (ss.getD k ByteArray.empty)) := hc k (by omega)
      have hgw : g < w.heap.size := hg (by omega)
      have hk64 : k < 64 := by omega
      have hS : Hid (gvTo ss (k + 1) = if giv ss k then gvTo ss k ||| 2 ^ k else gvTo ss k) := rfl
      have hL := gvTo_lt ss k
      have hP : 2 ^ k ≤ 2 ^ 63 := Nat.pow_le_pow_right (by omega) (by omega)
      have HL : Hid (gvTo ss k < 2 ^ k) := hL
      have HP : Hid (2 ^ k ≤ 2 ^ 63) := hP
      obtain ⟨s, hs⟩ : ∃ s, s = ss.getD k ByteArray.empty := ⟨_, rfl⟩
      rw [← hs] at hcell
      have HG : Hid (giv ss k = !s.toList.isEmpty) := by rw [hs]; rfl
      clear hs hL hP hc
      generalize gvTo ss k = G at *
      cases hne : s.toList.isEmpty
      · go_wp2
        go_round
        case rel => exact ⟨k + 1, by omega, by go_num, by rw [hS.out, HG.out, hne, or_step G k HL.out hk64]; rfl⟩
        case measure => simp [intOf]; omega
      · go_wp2
        go_round
        case rel => exact ⟨k + 1, by omega, by go_num, by rw [hS.out, HG.out, hne]; rfl⟩
        case measure => simp [intOf]; omega
    · go_wp2
      go_ret
      obtain rfl : k = 64 := by omega
      exact ⟨rfl, (Below.refl _ _).alloc (Nat.le_refl _) _⟩

end Go.Proofs.Qxb6608975a

/-
  SEAT b6609104a: keyTable.numbered.
-/
import Derived.Test.Qxb6609104aNew
namespace Go.Proofs.Qxb6609104a
open Go.RowKit
set_option linter.unusedVariables false

theorem TabAt.first {w : World} {T : Nat} {st : Int} {L chk : Value} {U R M n : Nat} {f c o : Int} (h : TabAt w T st L chk U R M n f c o) : w.cell? ⟨T, 13, none⟩ = some (.int .i64 f) := by simp [World.cell?, show w.heap[T]? = _ from h, tab]
theorem TabAt.count {w : World} {T : Nat} {st : Int} {L chk : Value} {U R M n : Nat} {f c o : Int} (h : TabAt w T st L chk U R M n f c o) : w.cell? ⟨T, 14, none⟩ = some (.int .i64 c) := by simp [World.cell?, show w.heap[T]? = _ from h, tab]
theorem TabAt.oldest {w : World} {T : Nat} {st : Int} {L chk : Value} {U R M n : Nat} {f c o : Int} (h : TabAt w T st L chk U R M n f c o) : w.cell? ⟨T, 15, none⟩ = some (.int .u64 o) := by simp [World.cell?, show w.heap[T]? = _ from h, tab]
theorem TabAt.state {w : World} {T : Nat} {st : Int} {L chk : Value} {U R M n : Nat} {f c o : Int} (h : TabAt w T st L chk U R M n f c o) : w.cell? ⟨T, 2, none⟩ = some (.int .i32 st) := by simp [World.cell?, show w.heap[T]? = _ from h, tab]
theorem TabAt.names {w : World} {T : Nat} {st : Int} {L chk : Value} {U R M n : Nat} {f c o : Int} (h : TabAt w T st L chk U R M n f c o) : w.cell? ⟨T, 11, none⟩ = some (.map (some U)) := by simp [World.cell?, show w.heap[T]? = _ from h, tab]
theorem TabAt.free {w : World} {T : Nat} {st : Int} {L chk : Value} {U R M n : Nat} {f c o : Int} (h : TabAt w T st L chk U R M n f c o) (q : Nat) : w.frozen? ⟨T, q, none⟩ = false := by simp [World.frozen?, show w.heap[T]? = _ from h]

set_option maxHeartbeats 400000 in
theorem numbered_any (T R n d f : Nat) (m o : Int) (w : World) (hn : n ≤ 65536) (hf : f < n) (hd : d < n) (hw : IntKind.u64.wrap (m - o) = (d : Int))
    (hr : w.cell? ⟨T, 12, none⟩ = some (.slice (some ⟨R, 0, none⟩) n n)) (h1 : w.cell? ⟨T, 13, none⟩ = some (.int .i64 f)) (h2 : w.cell? ⟨T, 15, none⟩ = some (.int .u64 o)) :
    Calls Try.prog 35 #[.pointer (some ⟨T, 0, none⟩), .int .u64 m] w fun e w' => e = .returned (.pointer (some ⟨R, (f + d) % n * 5, none⟩)) ∧ ∃ q, w' = w.drewN q := by
  have e1 : IntKind.i64.wrap (d : Int) = (d : Int) := by rw [IntKind.wrap_i64]; omega
  have e2 : IntKind.i64.wrap ((f : Int) + (d : Int)) = (f : Int) + (d : Int) := by rw [IntKind.wrap_i64]; omega
  obtain ⟨r, hr'⟩ : ∃ r : Nat, r = (f + d) % n := ⟨_, rfl⟩
  have hrn : r < n := by rw [hr']; exact Nat.mod_lt _ (by omega)
  have e3 : ((f : Int) + (d : Int)).tmod (n : Int) = (r : Int) := by
    rw [hr', ← Int.natCast_add, Int.tmod_eq_emod_of_nonneg (by omega)]
    rfl
  have e4 : ((n : Int) == 0) = false := by rw [beq_eq_false_iff_ne]; omega
  have b1 : (0 : Int) ≤ (r : Int) := by omega
  have b2 : (r : Int) < (n : Int) := by omega
  have e5 : IntKind.i64.wrap (r : Int) = (r : Int) := by rw [IntKind.wrap_i64]; omega
  rw [← hr']
  clear hr'
  go_enter Try.func35, Try.ntmps35
  go_wp2
  go_quiet (fail)
  go_wp2
  go_ret
  exact ⟨rfl, _, rfl⟩

end Go.Proofs.Qxb6609104a

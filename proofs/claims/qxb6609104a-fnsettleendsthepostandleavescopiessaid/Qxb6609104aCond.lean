/-
  SEAT b6609104a: sync.Cond's Broadcast, nobody waiting, one goroutine.
-/
import Derived.Test.Qxb6609104aCopies
namespace Go.Proofs.Qxb6609104a
open Go.RowKit
set_option linter.unusedVariables false

/-- copyChecker.check, the first time: the checker comes to hold its own address. -/
theorem check_first (c : Addr) (w : World) (hc : w.cell? c = some (.int .u64 0)) (hz : w.frozen? c = false) :
    (callFunc 39 #[.pointer (some c)]).run Try.prog w = .ok (.value (.tuple #[])) (w.setCell c (.pointer (some c))) := by
  rw [run_callFunc_extern Try.func39 (by kernel_rfl) (by kernel_rfl) (by kernel_rfl) (e := Extern.SyncCond.check) (by kernel_rfl)]
  have e : Extern.SyncCond.check #[.pointer (some c)] = (asAddr (.pointer (some c)) >>= _) := rfl
  rw [e]
  simp [asAddr, Extern.SyncCond.isSelf, hc, hz, mark, Sem.run, run_store Try.prog w c (.pointer (some c)) .atomic rfl, Result.andThen, Extern.SyncCond.none_]

/-- .. again: it holds its own address: nothing turns. -/
theorem check_again (c : Addr) (w : World) (hc : w.cell? c = some (.pointer (some c))) :
    (callFunc 39 #[.pointer (some c)]).run Try.prog w = .ok (.value (.tuple #[])) w := by
  rw [run_callFunc_extern Try.func39 (by kernel_rfl) (by kernel_rfl) (by kernel_rfl) (e := Extern.SyncCond.check) (by kernel_rfl)]
  have e : Extern.SyncCond.check #[.pointer (some c)] = (asAddr (.pointer (some c)) >>= _) := rfl
  rw [e]
  simp [asAddr, Extern.SyncCond.isSelf, hc, Result.andThen, Extern.SyncCond.none_]

/-- notifyListNotifyAll, nobody waiting: nothing turns. -/
theorem notifyAll_none (T q : Nat) (w : World) (h0 : w.cell? ⟨T, q, none⟩ = some (.int .u32 0)) (h1 : w.cell? ⟨T, q + 1, none⟩ = some (.int .u32 0)) :
    (callFunc 40 #[.pointer (some ⟨T, q, none⟩)]).run Try.prog w = .ok (.value (.tuple #[])) w := by
  rw [run_callFunc_extern Try.func40 (by kernel_rfl) (by kernel_rfl) (by kernel_rfl) (e := Extern.SyncCond.notifyAll) (by kernel_rfl)]
  have e0 : (IntKind.u32.wrap 0).toNat = 0 := by decide
  simp [e0, Extern.SyncCond.notifyAll, Extern.SyncCond.list, Extern.SyncCond.counter, Addr.add, h0, h1, mark, Sem.run, Result.andThen, Extern.SyncCond.none_]

theorem TabAt.chkd {w : World} {T : Nat} {st : Int} {L chk : Value} {U R M n : Nat} {f c o : Int} (h : TabAt w T st L chk U R M n f c o) (chk' : Value) : TabAt (w.setCell ⟨T, 10, none⟩ chk') T st L chk' U R M n f c o := by
  have := heap_setCell_same w T 10 _ 87 chk' h
  exact this
theorem TabAt.checker {w : World} {T : Nat} {st : Int} {L chk : Value} {U R M n : Nat} {f c o : Int} (h : TabAt w T st L chk U R M n f c o) : w.cell? ⟨T, 10, none⟩ = some chk := by simp [World.cell?, show w.heap[T]? = _ from h, tab]
theorem TabAt.wait {w : World} {T : Nat} {st : Int} {L chk : Value} {U R M n : Nat} {f c o : Int} (h : TabAt w T st L chk U R M n f c o) : w.cell? ⟨T, 5, none⟩ = some (.int .u32 0) := by simp [World.cell?, show w.heap[T]? = _ from h, tab]
theorem TabAt.notify {w : World} {T : Nat} {st : Int} {L chk : Value} {U R M n : Nat} {f c o : Int} (h : TabAt w T st L chk U R M n f c o) : w.cell? ⟨T, 6, none⟩ = some (.int .u32 0) := by simp [World.cell?, show w.heap[T]? = _ from h, tab]

/-- What a checker may hold: nothing yet, or its own address. -/
def ChkOk (T : Nat) (chk : Value) : Prop := chk = .int .u64 0 ∨ chk = .pointer (some ⟨T, 10, none⟩)

set_option maxHeartbeats 400000 in
/-- Broadcast. -/
theorem broadcast_any (T : Nat) (st : Int) (L chk : Value) (U R M n : Nat) (f c o : Int) (w : World) (hk : ChkOk T chk) (hT : TabAt w T st L chk U R M n f c o) :
    Calls Try.prog 36 #[.pointer (some ⟨T, 4, none⟩)] w fun e w' => e = .returned (.tuple #[]) ∧ TabAt w' T st L (.pointer (some ⟨T, 10, none⟩)) U R M n f c o ∧ w.grownBy w' (some T) := by
  rcases hk with rfl | rfl
  · have h1 := check_first ⟨T, 10, none⟩ w hT.checker (hT.free 10)
    have h2 := notifyAll_none T 5 (w.setCell ⟨T, 10, none⟩ (.pointer (some ⟨T, 10, none⟩))) (hT.chkd _).wait (hT.chkd _).notify
    have HT := hideIt hT
    clear hT
    go_enter Try.func36, Try.ntmps36
    go_wp2
    go_end0
    exact ⟨rfl, HT.out.chkd _, grown_setCell _ _ _ _⟩
  · have h1 := check_again ⟨T, 10, none⟩ w hT.checker
    have h2 := notifyAll_none T 5 w hT.wait hT.notify
    have HT := hideIt hT
    clear hT
    go_enter Try.func36, Try.ntmps36
    go_wp2
    go_end0
    exact ⟨rfl, HT.out, World.grownBy.refl _ _⟩

end Go.Proofs.Qxb6609104a

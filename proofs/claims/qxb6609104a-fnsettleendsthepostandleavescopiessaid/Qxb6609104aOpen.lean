/-
  SEAT b6609104a: a []Held argument, opened.
-/
import Derived.Test.Qxb6609104aNew
import Derived.Test.Qxb6609104aCarry
import Derived.ProofKit
import Derived.Deep.Slices
namespace Go.Proofs.Qxb6609104a
open Go.ChangeShapes Go.WideShapes Go.ChangeAt Go.RowKit Go.Deep
open Go.ChangeMaps (open_string shut_string)

theorem Try.own : ownKnob Try.prog.godebug = none := by kernel_rfl
theorem Try.laidOut : laidOutB Try.prog = true := by kernel_rfl
theorem Try.cells49 : Try.prog.cellsOf 49 = 5 := by kernel_rfl
theorem Try.cells23 : Try.prog.cellsOf 23 = 1 := by kernel_rfl
theorem Try.cells2 : Try.prog.cellsOf 2 = 1 := by kernel_rfl
theorem Try.cells47 : Try.prog.cellsOf 47 = 1 := by kernel_rfl
theorem Try.cells4 : Try.prog.cellsOf 4 = 1 := by kernel_rfl

theorem cell_plain {w : World} {a : Addr} {v : Value} (h : w.cell? a = some v) : ∃ b off, a = ⟨b, off, none⟩ ∧ b < w.heap.size := by
  obtain ⟨b, off, sp⟩ := a
  have hb : b < w.heap.size := by
    rcases Nat.lt_or_ge b w.heap.size with h' | h'
    · exact h'
    · simp [World.cell?, Array.getElem?_eq_none h'] at h
  have hs : sp = none := by simpa using World.cell?_spot h
  subst hs
  exact ⟨b, off, rfl, hb⟩

theorem five {α : Type} {cs : List α} (h : cs.length = 5) : ∃ a b c d e, cs = [a, b, c, d, e] := by
  match cs, h with
  | [a, b, c, d, e], _ => exact ⟨a, b, c, d, e, rfl⟩

/-- One element of a []Held. -/
theorem open_held {H : Type} {enc : TypeId × Value → H} {W : World} {sp : Nat → Bool} {base fuel : Nat} {held : Bool} {cs : List Value} {x : DataW H × List MemPlace} (h : DataW.trod enc Try.prog W base sp held fuel 49 cs = some x) :
    ∃ y : Hk, cs = [.int .u64 y.h, .int .i64 y.o, .int .i64 y.a, .int .u32 y.s, .bool y.p] := by
  obtain ⟨xs, n, _, rfl, hlen, hxs, hf⟩ := DataW.trod_struct Try.underlying49 h
  rw [Try.cells49] at hlen
  obtain ⟨c0, c1, c2, c3, c4, rfl⟩ := five hlen
  have hxl : xs.length = 5 := by simpa using hxs
  obtain ⟨y0, y1, y2, y3, y4, rfl⟩ := five hxl
  have f0 : DataW.trod enc Try.prog W base sp held n 23 (([c0, c1, c2, c3, c4].drop 0).take (Try.prog.cellsOf 23)) = some y0 := hf 0 _ rfl
  have f1 : DataW.trod enc Try.prog W base sp held n 2 (([c0, c1, c2, c3, c4].drop 1).take (Try.prog.cellsOf 2)) = some y1 := hf 1 _ rfl
  have f2 : DataW.trod enc Try.prog W base sp held n 2 (([c0, c1, c2, c3, c4].drop 2).take (Try.prog.cellsOf 2)) = some y2 := hf 2 _ rfl
  have f3 : DataW.trod enc Try.prog W base sp held n 47 (([c0, c1, c2, c3, c4].drop 3).take (Try.prog.cellsOf 47)) = some y3 := hf 3 _ rfl
  have f4 : DataW.trod enc Try.prog W base sp held n 4 (([c0, c1, c2, c3, c4].drop 4).take (Try.prog.cellsOf 4)) = some y4 := hf 4 _ rfl
  rw [Try.cells23] at f0
  rw [Try.cells2] at f1 f2
  rw [Try.cells47] at f3
  rw [Try.cells4] at f4
  obtain ⟨h0, e0, _, _⟩ := DataW.trod_int Try.underlying23 f0
  obtain ⟨h1, e1, _, _⟩ := DataW.trod_int Try.underlying2 f1
  obtain ⟨h2, e2, _, _⟩ := DataW.trod_int Try.underlying2 f2
  obtain ⟨h3, e3, _, _⟩ := DataW.trod_int Try.underlying47 f3
  obtain ⟨h4, e4, _⟩ := DataW.trod_bool Try.underlying4 f4
  simp at e0 e1 e2 e3 e4
  subst e0 e1 e2 e3 e4
  exact ⟨⟨h0, h1, h2, h3, h4⟩, rfl⟩

set_option maxRecDepth 100000 in
/-- A []Held argument, opened. -/
theorem open_ring {H : Type} {enc : TypeId × Value → H} {W : World} {v : Value} {d : DataW H} {p : List MemPlace} {base : Nat} (hv : Value.okWide Try.prog W .any base 22 v) (h : DataW.Trod enc Try.prog W 0 (fun _ => true) true 22 v d p) :
    ∃ (ao : Option Addr) (cap : Nat) (hs : List Hk), v = .slice ao hs.length cap ∧ RingIn W ao hs ∧ hs.length ≤ 9223372036854775807 := by
  obtain ⟨a0, len, cap, rfl⟩ := okWide_slice Try.underlying22 hv
  obtain ⟨fuel, hf⟩ := h
  rcases open_slice Try.underlying22 hf with ⟨hcs, hx⟩ | ⟨a, len', cap', m, n, D, Pl, hcs, _, hl, hm, hmm, hx, hel⟩
  · simp [Value.cells] at hcs
    obtain ⟨rfl, rfl, rfl⟩ := hcs
    exact ⟨none, 0, [], rfl, .inl rfl, by simp⟩
  · simp [Value.cells] at hcs
    obtain ⟨rfl, rfl, rfl⟩ := hcs
    simp at hmm
    subst hmm
    rw [Try.cells49] at hel
    unfold maxLen at hm
    by_cases h0 : len = 0
    · subst h0
      exact ⟨some a, m, [], rfl, .inl rfl, by simp⟩
    have hch : ∀ i, i < len → ∃ y : Hk, W.cell? (a.add (i * 5)) = some (.int .u64 y.h) ∧ W.cell? ((a.add (i * 5)).add 1) = some (.int .i64 y.o) ∧ W.cell? ((a.add (i * 5)).add 2) = some (.int .i64 y.a) ∧ W.cell? ((a.add (i * 5)).add 3) = some (.int .u32 y.s) ∧ W.cell? ((a.add (i * 5)).add 4) = some (.bool y.p) := by
      intro i hi
      obtain ⟨cs', h1, h2⟩ := hel i (by omega)
      obtain ⟨y, rfl⟩ := open_held h2
      have hc := World.cells?_some h1
      exact ⟨y, hc.2.2 0 (by omega), hc.2.2 1 (by omega), hc.2.2 2 (by omega), hc.2.2 3 (by omega), hc.2.2 4 (by omega)⟩
    obtain ⟨y0, g0, _⟩ := hch 0 (by omega)
    have e0 : a.add (0 * 5) = a := rfl
    rw [e0] at g0
    obtain ⟨b, off, rfl, hb⟩ := cell_plain g0
    have : Inhabited Hk := ⟨hk0⟩
    obtain ⟨Y, hY⟩ := choose_lt (α := Hk) hch
    have hlen : ((List.range len).map Y).length = len := by simp
    refine ⟨some ⟨b, off, none⟩, m, (List.range len).map Y, by rw [hlen], .inr ⟨b, off, rfl, hb, fun i hi => ?_⟩, by omega⟩
    rw [hlen] at hi
    obtain ⟨q0, q1, q2, q3, q4⟩ := hY i hi
    have e : at_ ((List.range len).map Y) i = Y i := by
      unfold at_
      rw [List.getD_eq_getElem?_getD, List.getElem?_map, List.getElem?_range hi]
      rfl
    rw [e]
    simp only [add_plain] at q0 q1 q2 q3 q4
    exact ⟨q0, q1, q2, q3, q4⟩

end Go.Proofs.Qxb6609104a

/-
  SEAT b6608975a: rows.meet over maps that came in, were made, or are nil: what a value of type map[string]string reads as, its look-up, its range.
-/
import Derived.Test.Qxb6608975aRows
import Derived.WalkKit
import Derived.WalkSpells
import Derived.WalkLawsBesides
import Derived.Maps.RangeWalk
import Derived.Maps.OwnSet
import Derived.Maps.OwnOps
import Derived.Maps.StringElems
namespace Go.Proofs.Qxb6608975a
open Go.RowKit Go.Maps Go.WideMaps
variable {H : Type}

theorem mlaw : Keyed Try.prog 9 := string_keyed Try.underlying9
theorem zero9 (w : World) : (zeroValue 9).run Try.prog w = .ok (.string ByteArray.empty) w := by kernel_rfl

/-- The value v of type map[string]string reads in w as D: nil reads as the empty map. -/
def MapIs (w : World) (v : Value) (D : DataW H) : Prop :=
  (v = .map none ∧ D = .map []) ∨ ∃ b n, v = .map (some b) ∧ w.ownsMap Try.prog 9 (plainElem Try.prog 9) b n D

/-- A map that a Below leaves alone. -/
theorem MapIs.below {w w' : World} {v : Value} {D : DataW H} (h : MapIs w v D) (hb : Below w.heap.size w w') : MapIs w' v D := by
  rcases h with h | ⟨b, n, hv, ho⟩
  · exact .inl h
  · exact .inr ⟨b, n, hv, ho.kept (row := none) ⟨hb.os, hb.tape, hb.output, hb.size, fun k hk _ => hb.block k hk⟩ (by simp)⟩
theorem MapIs.grown {w w' : World} {v : Value} {D : DataW H} {row : Option Nat} (h : MapIs w v D) (hg : w.grownBy w' row) (hne : ∀ b, v = .map (some b) → some b ≠ row) : MapIs w' v D := by
  rcases h with h | ⟨b, n, hv, ho⟩
  · exact .inl h
  · exact .inr ⟨b, n, hv, ho.kept hg (hne b hv)⟩
theorem MapIs.alloc {w : World} {v : Value} {D : DataW H} (h : MapIs w v D) (o : Obj) : MapIs (w.alloc o) v D := h.grown (World.grownBy_alloc w o none) (by simp)

def zd : DataW H := .lit (.string [])
/-- What the two maps give for the keys that both have agree. -/
def MeetP (A B : DataW H) : Prop := ∀ kl, Maps.has A kl = true → Maps.has B kl = true → A.atKey kl zd = B.atKey kl zd

theorem MeetP.symm {A B : DataW H} (h : MeetP A B) : MeetP B A := fun kl h1 h2 => (h kl h2 h1).symm
theorem MeetP.refl (A : DataW H) : MeetP A A := fun _ _ _ => rfl
theorem MeetP.nil (A : DataW H) : MeetP A (.map []) := fun kl _ h2 => by simp [Maps.has] at h2

section
variable {w : World} {ops : Array Oper} {rest : List Oper} {o : Oper} {a : Act} {Q : Exit → Act → World → Prop}

/-- 'w, ok := m[k]', m whatever map[string]string. -/
theorem wpList_look_any (hg : o.guard = none) (m x : Operand) (hop : o.op = Op.lookup 28 m x true) (mv : Value) (D : DataW H) (hm : a.eval m = mv) (hown : MapIs w mv D)
    (s : ByteArray) (hx : a.eval x = .string s) (hs : s.size ≤ maxLen)
    (hK : ∀ c : ByteArray, c.size ≤ maxLen → D.atKey (.string s.data.toList) zd = .lit (.string c.data.toList) →
      wpList Try.prog ops Q rest (a.put o.dst (.tuple #[.string c, .bool (Maps.has D (.string s.data.toList))])) w) :
    wpList Try.prog ops Q (o :: rest) a w := by
  have hkey : keyOf Try.prog 9 (.string s) = some (.string s.data.toList) := keyOf_string_mk Try.underlying9 hs
  rcases hown with ⟨rfl, rfl⟩ | ⟨b, n, rfl, ho⟩
  · refine wpList_plain hg fun K' hK' => ?_
    have hrun := Maps.look_nil (w := w) true mlaw Try.underlying28 (zero9 w) hkey
    unfold Oper.wp
    simp [execOp, hop, hm, hx, hrun, Result.andThen]
    exact hK' _ _ (hK ByteArray.empty (Nat.zero_le _) rfl)
  · refine wpList_lookup_own_ok w hg m x 28 hop 9 9 mlaw Try.underlying28 (plainElem Try.prog 9) (zero9 w) zd [] (plainElem_string Try.underlying9 (Nat.zero_le _)) b n D hm ho (.string s) _ hx hkey (fun v ps hv => ?_)
    obtain ⟨c, rfl, hc, hwc⟩ := plainElem_string_inv Try.underlying9 hv
    exact hK c hwc (congrArg Prod.fst hc)

/-- The range's step at string keys, string elements. -/
theorem wpList_next_ss (hg : o.guard = none) (it : Operand) (hop : o.op = Op.next it false)
    (b r n : Nat) (D : DataW H) (left : Lit → Bool) (cnt : Nat) (hit : a.eval it = .pointer (some ⟨r, 0, none⟩)) (h : w.ranges Try.prog 9 (plainElem Try.prog 9) b r n D left cnt)
    (hDone : cnt = 0 → (∀ kl, left kl = false) → wpList Try.prog ops Q rest (a.put o.dst (.tuple #[.bool false])) w)
    (hMore : ∀ (x c : ByteArray) (w' : World) (cnt' : Nat), x.size ≤ maxLen → c.size ≤ maxLen → left (.string x.data.toList) = true → (∀ zd, D.atKey (.string x.data.toList) zd = .lit (.string c.data.toList)) → w'.ranges Try.prog 9 (plainElem Try.prog 9) b r n D (fun z => left z && !z.sameKey (.string x.data.toList)) cnt' → cnt' < cnt →
      w.grownBy w' (some r) → w'.heap.size = w.heap.size → (Instr.entry (.pointer (some ⟨r, 0, none⟩))).run Try.prog w' = .ok (.tuple #[.string x, .string c]) w' → wpList Try.prog ops Q rest (a.put o.dst (.tuple #[.bool true, .string x, .string c])) w') :
    wpList Try.prog ops Q (o :: rest) a w := by
  have hinv : ∀ key kl, keyOf Try.prog 9 key = some kl → ∃ x : ByteArray, key = .string x ∧ kl = .string x.data.toList ∧ x.size ≤ maxLen := by
    intro key kl hk
    cases key <;> simp [keyOf, Try.underlying9, mapKey] at hk
    exact ⟨_, rfl, hk.2.symm, hk.1⟩
  refine wpList_next_ranges w hg it hop 9 mlaw (plainElem Try.prog 9) Value.string Value.string (fun key kl hkey => by obtain ⟨x, rfl, _⟩ := hinv key kl hkey; exact ⟨x, rfl⟩) (fun v y hv => by obtain ⟨c, rfl, _⟩ := plainElem_string_inv Try.underlying9 hv; exact ⟨c, rfl⟩)
    b r n D left cnt hit h hDone (fun x c kl y w' cnt' hkey hlk hv hat hrg hlt hgr hsz hen => ?_)
  obtain ⟨x', ex, rfl, hwx⟩ := hinv _ _ hkey
  cases ex
  obtain ⟨c', ec, rfl, hwc⟩ := plainElem_string_inv Try.underlying9 hv
  cases ec
  exact hMore x c w' cnt' hwx hwc hlk hat hrg hlt hgr hsz hen
end

end Go.Proofs.Qxb6608975a

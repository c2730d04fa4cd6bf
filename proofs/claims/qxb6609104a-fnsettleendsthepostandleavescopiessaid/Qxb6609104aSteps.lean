/-
  SEAT b6609104a: steps over one or two tables.
-/
import Derived.Test.Qxb6609104aNamed
namespace Go.Proofs.Qxb6609104a
open Go.RowKit Go.Maps
set_option linter.unusedVariables false

theorem win_d {a i b : Bool} {o num : Int} {c f n d : Nat} (hb : b = (a && decide (o ≤ num))) (hi : i = (decide (o ≤ num) && decide (num - o < (c : Int)))) (hx : false = (a && decide (o ≤ num) && !i)) (hf : f < n ∨ c = 0) (hcn : c ≤ n) (hd : d = (num - o).toNat) (h0 : 0 ≤ o) (h1 : num < 18446744073709551616) :
    b = true → f < n ∧ d < n ∧ IntKind.u64.wrap (num - o) = (d : Int) := by
  intro hbt
  rw [hbt] at hb
  rw [← hb] at hx
  have hit : i = true := by simpa using hx.symm
  rw [hit] at hi
  have h2 := hi.symm
  simp at h2
  refine ⟨by omega, by omega, ?_⟩
  rw [IntKind.wrap_u64]; omega
theorem win_g {a i b : Bool} {o num : Int} {c : Nat} (hb : b = (a && decide (o ≤ num))) (hi : i = (decide (o ≤ num) && decide (num - o < (c : Int)))) (hx : false = (a && decide (o ≤ num) && !i)) : (a && i) = b := by
  rw [hb]
  cases a
  · rfl
  · cases hd : decide (o ≤ num)
    · rw [hi, hd]; rfl
    · rw [hd] at hx
      have hit : i = true := by simpa using hx.symm
      rw [hit]

theorem zsettle_n (T U R K m f d p n : Nat) (hs : List Hk) (c o : Int) (key : ByteArray) (num : Int) (D : DataW Unit) (acc b : Bool) (w : World) (hb : b = (acc && decide (o ≤ num))) (hl : hs.length = n) (hp : p = (f + d) % n) (hn : n ≤ 65536) (hT : Tbl w T U R hs f c o m D) (hK : KeyAt w K key num) (hKT : K ≠ T) (hsz : key.size ≤ 9223372036854775807)
    (hd : b = true → f < n ∧ d < n ∧ IntKind.u64.wrap (num - o) = (d : Int)) :
    Calls Try.prog 14 #[.pointer (some ⟨T, 0, none⟩), .pointer (some ⟨K, 0, none⟩), .bool acc] w fun e w' => e = .returned (.tuple #[]) ∧ Tbl w' T U R (clrB hs b p) f c o m (D.del (kl key)) ∧ Only T U R w w' := by
  subst hl hb hp
  exact zsettle_any T U R K m f d hs c o key num D acc w hn hT hK hKT hsz hd

theorem zunder_any (T U R m : Nat) (hs : List Hk) (f c o : Int) (key : ByteArray) (D : DataW Unit) (b : Bool) (w : World) (hsz : key.size ≤ 9223372036854775807) (hT : Tbl w T U R hs f c o m D) (hb : Maps.has D (kl key) = b) :
    Calls Try.prog 17 #[.pointer (some ⟨T, 0, none⟩), .string key] w fun e w' => e = .returned (.bool b) ∧ w' = w := by
  have := underWay_any T U m key D w hsz hT.names.1 hT.names.2
  rw [hb] at this
  exact this
theorem zlen_any (T U R m : Nat) (hs : List Hk) (f c o : Int) (D : DataW Unit) (z : Nat) (w : World) (hT : Tbl w T U R hs f c o m D) (hz : Maps.size D = z) :
    Calls Try.prog 21 #[.pointer (some ⟨T, 0, none⟩)] w fun e w' => e = .returned (.int .i64 z) ∧ w' = w := by
  have := underWayLen_any T U m D w hT.names.1 hT.names.2
  rw [hz] at this
  exact this

/-- Where two tables lie: T1, U1, R1 from w's end on, below B1; T2, U2, R2 from B1 on, below B2; the world now. -/
structure St (w : World) (B1 B2 T1 U1 R1 T2 U2 R2 : Nat) (W : World) : Prop where
  below : Below w.heap.size w W
  p1 : w.heap.size ≤ T1 ∧ w.heap.size ≤ U1 ∧ w.heap.size ≤ R1
  p2 : T1 < B1 ∧ U1 < B1 ∧ R1 < B1
  p3 : B1 ≤ T2 ∧ B1 ≤ U2 ∧ B1 ≤ R2
  p4 : T2 < B2 ∧ U2 < B2 ∧ R2 < B2
  p5 : B2 ≤ W.heap.size

section
variable {w W W' : World} {B1 B2 T1 U1 R1 T2 U2 R2 : Nat}
theorem St.small (h : St w B1 B2 T1 U1 R1 T2 U2 R2 W) : w.heap.size ≤ W.heap.size := h.below.size
theorem St.a (h : St w B1 B2 T1 U1 R1 T2 U2 R2 W) (ho : Only T1 U1 R1 W W') : St w B1 B2 T1 U1 R1 T2 U2 R2 W' :=
  ⟨h.below.trans (ho.below h.small h.p1.1 h.p1.2.1 h.p1.2.2), h.p1, h.p2, h.p3, h.p4, Nat.le_trans h.p5 ho.size⟩
theorem St.b (h : St w B1 B2 T1 U1 R1 T2 U2 R2 W) (ho : Only T2 U2 R2 W W') : St w B1 B2 T1 U1 R1 T2 U2 R2 W' := by
  obtain ⟨h0, ⟨a1, a2, a3⟩, ⟨b1, b2, b3⟩, ⟨c1, c2, c3⟩, ⟨d1, d2, d3⟩, e⟩ := h
  exact ⟨h0.trans (ho.below h0.size (by omega) (by omega) (by omega)), ⟨a1, a2, a3⟩, ⟨b1, b2, b3⟩, ⟨c1, c2, c3⟩, ⟨d1, d2, d3⟩, Nat.le_trans e ho.size⟩
theorem St.on (h : St w B1 B2 T1 U1 R1 T2 U2 R2 W) (hb : Below W.heap.size W W') : St w B1 B2 T1 U1 R1 T2 U2 R2 W' :=
  ⟨h.below.trans (hb.mono h.small), h.p1, h.p2, h.p3, h.p4, Nat.le_trans h.p5 hb.size⟩
theorem St.keepB (h : St w B1 B2 T1 U1 R1 T2 U2 R2 W) (ho : Only T1 U1 R1 W W') {hs : List Hk} {f c o : Int} {m : Nat} {D : DataW Unit} (hT : Tbl W T2 U2 R2 hs f c o m D) : Tbl W' T2 U2 R2 hs f c o m D := by
  obtain ⟨h0, ⟨a1, a2, a3⟩, ⟨b1, b2, b3⟩, ⟨c1, c2, c3⟩, ⟨d1, d2, d3⟩, e⟩ := h
  exact hT.only ho ⟨by omega, by omega, by omega⟩ ⟨by omega, by omega, by omega⟩ ⟨by omega, by omega, by omega⟩
theorem St.keepA (h : St w B1 B2 T1 U1 R1 T2 U2 R2 W) (ho : Only T2 U2 R2 W W') {hs : List Hk} {f c o : Int} {m : Nat} {D : DataW Unit} (hT : Tbl W T1 U1 R1 hs f c o m D) : Tbl W' T1 U1 R1 hs f c o m D := by
  obtain ⟨h0, ⟨a1, a2, a3⟩, ⟨b1, b2, b3⟩, ⟨c1, c2, c3⟩, ⟨d1, d2, d3⟩, e⟩ := h
  exact hT.only ho ⟨by omega, by omega, by omega⟩ ⟨by omega, by omega, by omega⟩ ⟨by omega, by omega, by omega⟩
/-- A post that lies behind both tables. -/
def KeyIn (W : World) (B K : Nat) (key : ByteArray) (num : Int) : Prop := B ≤ K ∧ KeyAt W K key num
theorem St.keyA (h : St w B1 B2 T1 U1 R1 T2 U2 R2 W) (ho : Only T1 U1 R1 W W') {K : Nat} {key : ByteArray} {num : Int} (hK : KeyIn W B2 K key num) : KeyIn W' B2 K key num := by
  obtain ⟨h0, ⟨a1, a2, a3⟩, ⟨b1, b2, b3⟩, ⟨c1, c2, c3⟩, ⟨d1, d2, d3⟩, e⟩ := h
  obtain ⟨q, hK⟩ := hK
  exact ⟨q, hK.only ho ⟨by omega, by omega, by omega⟩⟩
theorem St.keyB (h : St w B1 B2 T1 U1 R1 T2 U2 R2 W) (ho : Only T2 U2 R2 W W') {K : Nat} {key : ByteArray} {num : Int} (hK : KeyIn W B2 K key num) : KeyIn W' B2 K key num := by
  obtain ⟨h0, ⟨a1, a2, a3⟩, ⟨b1, b2, b3⟩, ⟨c1, c2, c3⟩, ⟨d1, d2, d3⟩, e⟩ := h
  obtain ⟨q, hK⟩ := hK
  exact ⟨q, hK.only ho ⟨by omega, by omega, by omega⟩⟩
theorem St.newKey (h : St w B1 B2 T1 U1 R1 T2 U2 R2 W) {K : Nat} {key : ByteArray} {num : Int} (hK : W.heap.size ≤ K) (hk : KeyAt W' K key num) : KeyIn W' B2 K key num := ⟨Nat.le_trans h.p5 hK, hk⟩
theorem St.neA (h : St w B1 B2 T1 U1 R1 T2 U2 R2 W) {K : Nat} {key : ByteArray} {num : Int} (hK : KeyIn W B2 K key num) : K ≠ T1 := by
  obtain ⟨h0, ⟨a1, a2, a3⟩, ⟨b1, b2, b3⟩, ⟨c1, c2, c3⟩, ⟨d1, d2, d3⟩, e⟩ := h
  have := hK.1
  omega
theorem St.neB (h : St w B1 B2 T1 U1 R1 T2 U2 R2 W) {K : Nat} {key : ByteArray} {num : Int} (hK : KeyIn W B2 K key num) : K ≠ T2 := by
  obtain ⟨h0, ⟨a1, a2, a3⟩, ⟨b1, b2, b3⟩, ⟨c1, c2, c3⟩, ⟨d1, d2, d3⟩, e⟩ := h
  have := hK.1
  omega
end

end Go.Proofs.Qxb6609104a

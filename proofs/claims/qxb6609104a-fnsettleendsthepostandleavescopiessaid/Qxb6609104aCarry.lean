/-
  SEAT b6609104a: all arguments read behind the call as before it, where nothing that was there has turned.
-/
import Derived.ProofKit
namespace Go.Proofs.Qxb6609104a
open Go.RowKit

theorem below_trodAll {H : Type} {enc : TypeId × Value → H} {P : Program} (hl : laidOutB P = true) {W W' : World} (hb : Below W.heap.size W W') :
    ∀ {ts : List TypeId} {vs : List Value} {ds : List (DataW H)} {ps : List MemPlace}, (ts.all fun t => P.readableRec t && decide (t < P.types.size)) = true →
      DataW.TrodAll enc P W 0 (fun _ => true) true ts vs ds ps → (∀ x ∈ ps, x.block < W.heap.size) →
      DataW.TrodAll enc P W' 0 (fun b => decide (b < W.heap.size)) true ts vs ds ps
  | [], [], [], _, _, h, _ => h
  | t :: ts, v :: vs, d :: ds, ps, hr, ⟨p, q, h1, h2, e⟩, hlt => by
    subst e
    simp only [List.all_cons, Bool.and_eq_true, decide_eq_true_eq] at hr
    exact ⟨p, q, Below.trod hl hr.1.1 hr.1.2 h1 hb (fun x hx => hlt x (List.mem_append.2 (.inl hx))), below_trodAll hl hb hr.2 h2 (fun x hx => hlt x (List.mem_append.2 (.inr hx))), rfl⟩

end Go.Proofs.Qxb6609104a

/-
Arguments read behind the call as they read before.
-/
import Derived.Test.YtdpmbchamefkmaaGreatDoorArgs
import Derived.Carry
namespace Go.Proofs.YtdpmbchamefkmaaGreatDoor
open Go.ChangeShapes Go.WideShapes Go.ChangeAt Go.RowKit

theorem Tryz.laidOut : laidOutB Tryz.prog = true := by kernel_rfl

theorem trodAll_stays {H : Type} {enc : TypeId × Value → H} {W W' : World} {sp' : Nat → Bool} (hb : Below W.heap.size W W') :
    ∀ {ts : List TypeId} {vs : List Value} {ds : List (DataW H)} {ps : List MemPlace}, (∀ t ∈ ts, Tryz.prog.readableRec t = true ∧ t < Tryz.prog.types.size) → DataW.TrodAll enc Tryz.prog W 0 (fun _ => true) true ts vs ds ps →
      (∀ x ∈ ps, x.block < W.heap.size ∧ sp' x.block = true) → DataW.TrodAll enc Tryz.prog W' 0 sp' true ts vs ds ps
  | [], [], [], _, _, h, _ => h
  | [], [], _ :: _, _, _, h, _ => h.elim
  | [], _ :: _, _, _, _, h, _ => h.elim
  | _ :: _, [], _, _, _, h, _ => h.elim
  | _ :: _, _ :: _, [], _, _, h, _ => h.elim
  | t :: ts, v :: vs, d :: ds, ps, ht, h, hp => by
    obtain ⟨a, b, h1, h2, rfl⟩ := h
    exact ⟨a, b, WideElems.Trod_stays Tryz.laidOut (ht t (by simp)).1 (ht t (by simp)).2 h1 (fun x hx => hb.same (hp x (by simp [hx])).1) (fun x hx => (hp x (by simp [hx])).2), trodAll_stays hb (fun u hu => ht u (by simp [hu])) h2 (fun x hx => hp x (by simp [hx])), rfl⟩
end Go.Proofs.YtdpmbchamefkmaaGreatDoor

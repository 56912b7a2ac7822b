/-
Joins the buffers and the sixth text of the reference's numbers; the small tactics calm_region, (apply calm_val (D' := []) (hD := rfl); (· intro wZ1 hwZ1; simp only [fillAll]; go_simp; exact ⟨rfl, Grow.refl _⟩); simp only [Act.put, List.setIfInBounds_toArray, List.set_cons_succ, List.set_cons_zero]), calm_end and (apply calm_val (D' := []) (hD := rfl); (· intro wZ3 hwZ3; simp only [fillAll]; go_simp; refine ⟨Grow.refl _, (are wZ3 hwZ3).mono ?_⟩; exact fun e wZ4 h => ⟨_, h.1, rfl, h.2⟩); simp only [Act.put, List.setIfInBounds_toArray, List.set_cons_succ, List.set_cons_zero]) written out by expand.py.
-/
import Derived.Test.YtdpmbchamefkmaaGreatDoorBuf
import Derived.Test.YtdpmbchamefkmaaGreatDoorSpec6
namespace Go.Proofs.YtdpmbchamefkmaaGreatDoor
end Go.Proofs.YtdpmbchamefkmaaGreatDoor

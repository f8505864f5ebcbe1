/- One operation of a region that draws its order, taken first: one that is wanted, one that is not, a call. -/
import Derived.Test.YtcodhjoiikdhmaaGreatDoorQri
import Derived.Deep.RegionHeld3
set_option linter.unusedVariables false
set_option linter.unusedSimpArgs false
namespace Go.Proofs.YtcodhjoiikdhmaaGreatDoor
open Go Go.RowKit
section
variable {P : Program} {ops : Array Oper} {Q : Exit → Act → World → Prop} {md : Region.Mode} {S : World → Prop}
theorem take_w (i : Nat) (v : Value) {oi : Oper} {fuel : Nat} {listed : Array Bool} {a : Act} {w : World} (hi : ops.toList[i]? = some oi)
    (hs : Region.noSelect ops = true) (hf : Region.free md ops listed i = true) (hr : (Region.ready md ops listed).contains i = true)
    (hQ : ∀ c a w, Q (.panic c) (a.put oi.dst v) w → Q (.panic c) a w) (hw : Region.wanted oi (yielded ops a.tmps) = true) (hy : ∀ w, S w → (execOp a.eval oi).run P w = .ok (.value v) w) (hS : S w)
    (h : wpAnyH P md ops Q S fuel (listed.setIfInBounds i true) (a.put oi.dst v) w) : wpAnyH P md ops Q S (fuel + 1) listed a w :=
  wpAnyH_take (by rw [← Array.getElem?_toList]; exact hi) hs hf hr hQ (.inl ⟨hw, hy⟩) hS h
theorem take_u (i : Nat) {oi : Oper} {fuel : Nat} {listed : Array Bool} {a : Act} {w : World} (hi : ops.toList[i]? = some oi)
    (hs : Region.noSelect ops = true) (hf : Region.free md ops listed i = true) (hr : (Region.ready md ops listed).contains i = true)
    (hQ : ∀ c a w, Q (.panic c) (a.put oi.dst undef) w → Q (.panic c) a w) (hw : Region.wanted oi (yielded ops a.tmps) = false) (hS : S w)
    (h : wpAnyH P md ops Q S fuel (listed.setIfInBounds i true) (a.put oi.dst undef) w) : wpAnyH P md ops Q S (fuel + 1) listed a w :=
  wpAnyH_take (by rw [← Array.getElem?_toList]; exact hi) hs hf hr hQ (.inr ⟨hw, rfl⟩) hS h
theorem call_r (i : Nat) {o : Oper} {fuel : Nat} {listed : Array Bool} {a : Act} {w : World} (ho : ops.toList[i]? = some o) (hr : Region.ready md ops listed = [i]) (hw : Region.wanted o (yielded ops a.tmps) = true)
    (h : ∀ K' : Act → World → Prop, Shut (∀ a w, S w → (S w → wpAnyH P md ops Q S fuel (listed.setIfInBounds i true) a w) → K' a w) → Oper.wp P o a w K' Q) : wpAnyH P md ops Q S (fuel + 1) listed a w :=
  wpAnyH_ready (rs := [i]) hr (by simp) (AllReadyH.cons (by rw [← Array.getElem?_toList]; exact ho) (fun K' hK => by rw [if_pos hw]; exact h K' hK) AllReadyH.nil)
end
end Go.Proofs.YtcodhjoiikdhmaaGreatDoor

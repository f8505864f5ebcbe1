/- What the rows' lists give of the world; a slice of entries that came in, opened. -/
import Derived.Test.YtcodhjoiikdhmaaGreatDoorQio
import Derived.Test.YtcodhjoiikdhmaaGreatDoorCards
import Derived.Test.YtcodhjoiikdhmaaGreatDoorTie
import Derived.WalkKit
import Derived.ProofKit
import Derived.OpenShut
import Derived.LaidLaws
import Derived.Lib.LaidU8T
import Derived.PinnedBridge
import Derived.Lay
import Derived.Carry
import Derived.OpenVars
import Derived.SevenTiedAt
import Derived.Deep.Slices
import Derived.Deep.DeepHandedRow
set_option linter.unusedVariables false
set_option linter.unusedSimpArgs false
namespace Go.Proofs.YtcodhjoiikdhmaaGreatDoor
open Go Go.RowKit Go.ChangeShapes Go.WideShapes

theorem laid_in {P : Program} {w : World} : ∀ {l : List (String × DataW Unit)} {ps : List MemPlace}, DataW.LaidVars P w l ps → ∀ n d, (n, d) ∈ l →
    ∃ g t cs fuel p, P.globalNamed n = some g ∧ (P.globals[g]?).map (·.type) = some t ∧ w.var? P n = some cs ∧ DataW.trod (fun _ => ()) P w 0 (fun _ => true) false fuel t cs.toList = some (d, p) ∧
      (∀ x ∈ MemPlace.row ⟨g, 0, none⟩ cs.size, x ∈ ps) ∧ ∀ x ∈ p, x ∈ ps
  | [], _, _, _, _, hm => by cases hm
  | (n', d') :: r, ps, h, n, d, hm => by
    obtain ⟨g, t, cs, fuel, p, q, h1, h2, h3, h4, h5, h6⟩ := h
    subst h6
    rcases List.mem_cons.1 hm with e | e
    · cases e
      exact ⟨g, t, cs, fuel, p, h1, h2, h3, h4, fun x hx => by simp [hx], fun x hx => by simp [hx]⟩
    · obtain ⟨g2, t2, cs2, f2, p2, k1, k2, k3, k4, k5, k6⟩ := laid_in h5 n d e
      exact ⟨g2, t2, cs2, f2, p2, k1, k2, k3, k4, fun x hx => by simp [k5 x hx], fun x hx => by simp [k6 x hx]⟩
set_option maxRecDepth 100000 in
theorem errName : ("*errors.errorString" : String) = "*" ++ "errors.errorString" := by decide +kernel
set_option maxRecDepth 100000 in
theorem errRow : ∀ u, Tryz.prog.typeName? 3 u = some "*errors.errorString" → u = 129 := fun u hu =>
  typeName_ptr_named (nm := "errors.errorString") (by kernel_rfl) (by kernel_rfl) (by decide +kernel) u (by rw [hu, errName])
set_option maxRecDepth 100000 in
theorem cellsErr : Tryz.prog.cellsOf 131 = 1 := by kernel_rfl
set_option maxRecDepth 100000 in
theorem cellsStr : Tryz.prog.cellsOf 9 = 1 := by kernel_rfl
set_option maxRecDepth 100000 in
/-- An error of the list. -/
theorem laidErr {L : List (String × DataW Unit)} {W : World} (h : laidMet Tryz.prog L W) {n : String} {text : List UInt8} {g : Nat} (hg : Tryz.prog.globalNamed n = some g) (hty : (Tryz.prog.globals[g]?).map (·.type) = some 61)
    (hm : (n, DataW.iface "*errors.errorString" (.ptr (.agg [.lit (.string text)]))) ∈ L) :
    ∃ a s, W.cell? ⟨g, 0, none⟩ = some (errv a) ∧ W.cell? a = some (.string s) ∧ s.data.toList = text ∧ (∃ cs t, W.heap[a.block]? = some (.cells cs t (0, 0))) ∧ g < W.heap.size := by
  obtain ⟨ps, hv, -, hcells⟩ := h
  obtain ⟨g', t, cs, fuel, p, h1, h2, h3, h4, h5, h6⟩ := laid_in hv _ _ hm
  obtain rfl := Option.some.inj (h1.symm.trans hg)
  obtain rfl := Option.some.inj (h2.symm.trans hty)
  have hcell := World.var?_cell h1 h3
  have ok : ∀ u v, cs.toList = [.iface u v] → Value.okWide Tryz.prog W .any 0 u v := fun u v hcs => by
    have hsz : cs.size = 1 := by rw [← Array.length_toList, hcs]; rfl
    refine (hcells g' 0 (h5 _ (by rw [hsz]; exact MemPlace.mem_row.2 ⟨0, by omega, rfl⟩))).2 u v ?_
    rw [hcell 0, ← Array.getElem?_toList, hcs]
    rfl
  obtain ⟨a, s, hcs, hc0, hs0, hz0, hp⟩ := errorString_of_trod Tryz.underlying61 errRow Tryz.underlying129 Tryz.underlying131 rfl rfl Tryz.underlying9 cellsErr cellsStr h4 ok
  have hgc : W.cell? ⟨g', 0, none⟩ = some (errv a) := by
    rw [hcell 0, ← Array.getElem?_toList, hcs]
    rfl
  refine ⟨a, s, hgc, hc0, hs0, (hcells a.block a.off (h6 _ (by rw [hp]; exact MemPlace.mem_row.2 ⟨0, by omega, by simp⟩))).1, ?_⟩
  rcases Nat.lt_or_ge g' W.heap.size with hlt | hge
  · exact hlt
  · unfold World.cell? at hgc
    simp [Array.getElem?_eq_none hge] at hgc
end Go.Proofs.YtcodhjoiikdhmaaGreatDoor

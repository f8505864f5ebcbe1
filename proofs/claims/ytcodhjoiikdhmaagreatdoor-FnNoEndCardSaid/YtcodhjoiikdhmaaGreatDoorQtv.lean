/- A text without an end of an archive is not read (FnNoEnd).
   Conditions: the package's error variables and the tables of unicode/utf8 are as the program's own text lays them (the row's list, tied by the card). -/
import Derived.Test.YtcodhjoiikdhmaaGreatDoorQta
import Derived.Test.YtcodhjoiikdhmaaGreatDoorQva
set_option linter.unusedVariables false
set_option linter.unusedSimpArgs false
namespace Go.Proofs.YtcodhjoiikdhmaaGreatDoor.fnNoEnd
open Go.ChangeShapes Go.WideShapes Go.ChangeAt Go.RowKit
open Zp
theorem needs : ∀ x ∈ need, x ∈ Rows.fnNoEndRow.laid := by
  intro x hx
  simp only [need, List.mem_cons, List.not_mem_nil, or_false] at hx
  unfold Rows.fnNoEndRow
  rcases hx with rfl | rfl | rfl | rfl | rfl | rfl | rfl | rfl <;> simp only [List.mem_cons, true_or, or_true]
set_option maxRecDepth 100000 in
set_option maxHeartbeats 4000000 in
theorem contract (H : Type) (enc : TypeId × Value → H) (W : World) (base : Nat) (args : Array Value) (ds gs : List (DataW H)) (before : List MemPlace)
    (hval : ∀ (j : Nat) t v, Tryz.f14.params[j]? = some t → args[j]? = some v → Value.okWide Tryz.prog W .any base t v)
    (hW : DataW.Whole enc Tryz.prog Tryz.f14.params.toList Rows.fnNoEndSpec.vars false W args.toList ds gs before) (hL : laidMetH Tryz.prog Rows.fnNoEndRow.laid W) :
    Calls Tryz.prog 14 args W fun e W' => ∃ v, e = .returned v ∧ Rows.fnNoEndSpec.post enc Tryz.prog Tryz.f14 false true false false W args v W' := by
  have hW' := hW
  obtain ⟨p, q, hA0, hV, rfl, hfz, hnd⟩ := hW
  have hA : DataW.TrodAll enc Tryz.prog W 0 (fun _ => true) true Tryz.f14.params.toList args.toList ds p := hA0
  rw [Tryz.params14] at hA hval
  obtain ⟨v0, vs0, d0, ds0, p0, q0, hargs, rfl, rfl, h0, r0⟩ := trodAll_cons hA
  obtain ⟨rfl, rfl, rfl⟩ := trodAll_nil r0
  obtain rfl : args = #[v0] := by cases args; simp_all
  clear hA0
  obtain ⟨s0, rfl, rfl, rfl, hs0⟩ := open_str (hval 0 9 v0 rfl rfl) h0
  obtain ⟨c0, rfl⟩ : ∃ c, s0 = bs c := ⟨_, bs_of s0⟩
  have hc0 : c0.length ≤ 9223372036854775807 := by
    rw [bs_size] at hs0
    unfold maxLen at hs0
    omega
  rw [MakeChecks.laidMetH_plain _ _ _ (by kernel_rfl)] at hL
  obtain ⟨E, hWE⟩ := world_of needs hL
  obtain ⟨g1, g2, g3, g4, rfl⟩ := vars4 hV
  refine (noEndLaw E W.heap.size W c0 hWE hc0).mono fun e W' ⟨he, hf⟩ => ?_
  subst he
  have hb : Below W.heap.size W W' := hf.below (by simp) (Nat.le_refl _)
  have hlt := hW'.lt
  exact ⟨_, rfl, _, _, _, [], _, _, hW', trodAll_mk1 (shut_bool Tryz.underlying4 _), trodAll_cons_mk (Below.trod laidOut (by kernel_rfl) (of_decide_eq_true (by kernel_rfl)) h0 hb (fun x hx => hlt x (by first | (simp [hx]; done) | (cases hx)))) (trodAll_mk0), Below.trodVars laidOut hb (by kernel_rfl) hV, hb.frame _, fun h => by cases h⟩
theorem own : ownKnob Tryz.prog.godebug = none := by kernel_rfl
set_option maxRecDepth 100000 in
set_option maxHeartbeats 4000000 in
theorem lifted (os : Os) (started : os.Started) (H : Type) (enc : TypeId × Value → H) :
    ReturnsInHanded {} Tryz.checked os 14 .any (fun w args => (Rows.fnNoEndSpec.pre enc Tryz.prog Tryz.f14 [] false w args ∧ laidMetH Tryz.prog Rows.fnNoEndRow.laid w) ∧ sizedMet enc Tryz.prog Tryz.f14 (OpenSpec.ofChange Rows.fnNoEndSpec) false w args)
      (Rows.fnNoEndSpec.post enc Tryz.prog Tryz.f14 false true false false) := by
  refine returnsInHanded_of_change_and (C := Tryz.checked) (X := fun w _ => laidMetH Tryz.prog Rows.fnNoEndRow.laid w) (fun _ _ _ hh h => h.of_heap hh) own started (by kernel_rfl) Tryz.func14
    (ChangeSpec.witness_shaped (enc := enc) (C := Tryz.checked) (os := os) (X := fun w _ => laidMetH Tryz.prog Rows.fnNoEndRow.laid w) false (World.laidAll Tryz.prog os Rows.fnNoEndRow.laid) #[.string ⟨#[]⟩] 8 (World.laidAll_os _ _ _)
      (World.shaped_of_ZipB (by kernel_rfl) (by kernel_rfl)) (by kernel_rfl) (by kernel_rfl) (by kernel_rfl)
      (by rw [MakeChecks.laidMetH_plain _ _ _ (by kernel_rfl)]; exact laidMet_laidAll _ (by kernel_rfl) (by kernel_rfl))) ?_
  intro W base args ds gs before hval hW _ _ hL _
  exact contract H enc W base args ds gs before hval hW hL
end Go.Proofs.YtcodhjoiikdhmaaGreatDoor.fnNoEnd

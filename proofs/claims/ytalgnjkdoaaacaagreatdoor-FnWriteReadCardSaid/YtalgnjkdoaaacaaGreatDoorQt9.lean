/- What is written is read back (FnWriteRead).
   Conditions: the package's error variables and the tables of unicode/utf8 are as the program's own text lays them (the row's list, tied by the card). -/
import Derived.Test.YtalgnjkdoaaacaaGreatDoorQta
import Derived.Test.YtalgnjkdoaaacaaGreatDoorQfo
set_option linter.unusedVariables false
set_option linter.unusedSimpArgs false
namespace Go.Proofs.YtalgnjkdoaaacaaGreatDoor.fnWriteRead
open Go.ChangeShapes Go.WideShapes Go.ChangeAt Go.RowKit
open Zp
theorem needs : ∀ x ∈ need, x ∈ Rows.fnWriteReadRow.laid := by
  intro x hx
  simp only [need, List.mem_cons, List.not_mem_nil, or_false] at hx
  unfold Rows.fnWriteReadRow
  rcases hx with rfl | rfl | rfl | rfl | rfl | rfl | rfl | rfl <;> simp only [List.mem_cons, true_or, or_true]
set_option maxRecDepth 100000 in
set_option maxHeartbeats 4000000 in
theorem contract (H : Type) (enc : TypeId × Value → H) (W : World) (base : Nat) (args : Array Value) (ds gs : List (DataW H)) (before : List MemPlace)
    (hval : ∀ (j : Nat) t v, Tryz.f9.params[j]? = some t → args[j]? = some v → Value.okWide Tryz.prog W .any base t v)
    (hW : DataW.Whole enc Tryz.prog Tryz.f9.params.toList Rows.fnWriteReadSpec.vars false W args.toList ds gs before) (hL : laidMetH Tryz.prog Rows.fnWriteReadRow.laid W) :
    Calls Tryz.prog 9 args W fun e W' => ∃ v, e = .returned v ∧ Rows.fnWriteReadSpec.post enc Tryz.prog Tryz.f9 false true false false W args v W' := by
  have hW' := hW
  obtain ⟨p, q, hA0, hV, rfl, hfz, hnd⟩ := hW
  have hA : DataW.TrodAll enc Tryz.prog W 0 (fun _ => true) true Tryz.f9.params.toList args.toList ds p := hA0
  rw [Tryz.params9] at hA hval
  obtain ⟨v0, vs0, d0, ds0, p0, q0, hargs, rfl, rfl, h0, r0⟩ := trodAll_cons hA
  obtain ⟨v1, vs1, d1, ds1, p1, q1, rfl, rfl, rfl, h1, r1⟩ := trodAll_cons r0
  obtain ⟨rfl, rfl, rfl⟩ := trodAll_nil r1
  obtain rfl : args = #[v0, v1] := by cases args; simp_all
  clear hA0
  obtain ⟨a0, len0, cap0, rfl⟩ := okWide_slice Tryz.underlying22 (hval 0 22 v0 rfl rfl)
  obtain ⟨fuel, hf0⟩ := id h0
  obtain ⟨v, l, hcs, hsv, hem⟩ := open_sv hf0
  simp [Value.cells] at hcs
  subst hcs
  obtain ⟨s1, rfl, rfl, rfl, hs1⟩ := open_str (hval 1 9 v1 rfl rfl) h1
  obtain ⟨c1, rfl⟩ : ∃ c, s1 = bs c := ⟨_, bs_of s1⟩
  have hc1 : c1.length ≤ 9223372036854775807 := by
    rw [bs_size] at hs1
    unfold maxLen at hs1
    omega
  rw [MakeChecks.laidMetH_plain _ _ _ (by kernel_rfl)] at hL
  obtain ⟨E, hWE⟩ := world_of needs hL
  obtain ⟨g1, g2, g3, g4, g5, g6, rfl⟩ := vars6 hV
  refine (wreLaw E W.heap.size W l c1 _ hWE hsv hem hc1).mono fun e W' ⟨he, hf⟩ => ?_
  subst he
  have hb : Below W.heap.size W W' := hf.below (by simp) (Nat.le_refl _)
  have hlt := hW'.lt
  exact ⟨_, rfl, _, _, _, [], _, _, hW', trodAll_mk1 (shut_bool Tryz.underlying4 _), trodAll_cons_mk (Below.trod laidOut (by kernel_rfl) (of_decide_eq_true (by kernel_rfl)) h0 hb (fun x hx => hlt x (by first | (simp [hx]; done) | (cases hx)))) (trodAll_cons_mk (Below.trod laidOut (by kernel_rfl) (of_decide_eq_true (by kernel_rfl)) h1 hb (fun x hx => hlt x (by first | (simp [hx]; done) | (cases hx)))) (trodAll_mk0)), Below.trodVars laidOut hb (by kernel_rfl) hV, hb.frame _, fun h => by cases h⟩
theorem own : ownKnob Tryz.prog.godebug = none := by kernel_rfl
set_option maxRecDepth 100000 in
set_option maxHeartbeats 4000000 in
theorem lifted (os : Os) (started : os.Started) (H : Type) (enc : TypeId × Value → H) :
    ReturnsInHanded {} Tryz.checked os 9 .any (fun w args => (Rows.fnWriteReadSpec.pre enc Tryz.prog Tryz.f9 [] false w args ∧ laidMetH Tryz.prog Rows.fnWriteReadRow.laid w) ∧ sizedMet enc Tryz.prog Tryz.f9 (OpenSpec.ofChange Rows.fnWriteReadSpec) false w args)
      (Rows.fnWriteReadSpec.post enc Tryz.prog Tryz.f9 false true false false) := by
  refine returnsInHanded_of_change_and (C := Tryz.checked) (X := fun w _ => laidMetH Tryz.prog Rows.fnWriteReadRow.laid w) (fun _ _ _ hh h => h.of_heap hh) own started (by kernel_rfl) Tryz.func9
    (ChangeSpec.witness_shaped (enc := enc) (C := Tryz.checked) (os := os) (X := fun w _ => laidMetH Tryz.prog Rows.fnWriteReadRow.laid w) false (World.laidAll Tryz.prog os Rows.fnWriteReadRow.laid) #[.slice none 0 0, .string ⟨#[]⟩] 8 (World.laidAll_os _ _ _)
      (World.shaped_of_ZipB (by kernel_rfl) (by kernel_rfl)) (by kernel_rfl) (by kernel_rfl) (by kernel_rfl)
      (by rw [MakeChecks.laidMetH_plain _ _ _ (by kernel_rfl)]; exact laidMet_laidAll _ (by kernel_rfl) (by kernel_rfl))) ?_
  intro W base args ds gs before hval hW _ _ hL _
  exact contract H enc W base args ds gs before hval hW hL
end Go.Proofs.YtalgnjkdoaaacaaGreatDoor.fnWriteRead

/- What stands ahead of an archive is not looked at, where what is read is of bulk at most 1048576 (FnAhead, second form).
   Conditions: the package's error variables and the tables of unicode/utf8 are as the program's own text lays them (the row's list, tied by the card). -/
import Derived.Test.YtcodhjoiikdhmaaGreatDoorQta
import Derived.Test.YtcodhjoiikdhmaaGreatDoorQya
import Derived.JoinedCond
import Derived.Test.YtcodhjoiikdhmaaGreatDoorQyg
set_option linter.unusedVariables false
set_option linter.unusedSimpArgs false
namespace Go.Proofs.YtcodhjoiikdhmaaGreatDoor.fnAhead
open Go.ChangeShapes Go.WideShapes Go.ChangeAt Go.RowKit
open Zp
theorem needs : ∀ x ∈ need, x ∈ Rows.fnAheadUptoRow.laid := by
  intro x hx
  simp only [need, List.mem_cons, List.not_mem_nil, or_false] at hx
  unfold Rows.fnAheadUptoRow
  rcases hx with rfl | rfl | rfl | rfl | rfl | rfl | rfl | rfl <;> simp only [List.mem_cons, true_or, or_true]
set_option maxRecDepth 100000 in
set_option maxHeartbeats 4000000 in
theorem contract (H : Type) (enc : TypeId × Value → H) (W : World) (base : Nat) (args : Array Value) (ds gs : List (DataW H)) (before : List MemPlace)
    (hval : ∀ (j : Nat) t v, Tryz.f9.params[j]? = some t → args[j]? = some v → Value.okWide Tryz.prog W .any base t v)
    (hW : DataW.Whole enc Tryz.prog Tryz.f9.params.toList Rows.fnAheadSpec.vars false W args.toList ds gs before) (hk : Rows.uptoSmall H (ds ++ gs) = true) (hL : laidMetH Tryz.prog Rows.fnAheadUptoRow.laid W) :
    Calls Tryz.prog 9 args W fun e W' => ∃ v, e = .returned v ∧ Rows.fnAheadSpec.post enc Tryz.prog Tryz.f9 false true false false W args v W' := by
  have hW' := hW
  obtain ⟨p, q, hA0, hV, rfl, hfz, hnd⟩ := hW
  have hA : DataW.TrodAll enc Tryz.prog W 0 (fun _ => true) true Tryz.f9.params.toList args.toList ds p := hA0
  rw [Tryz.params9] at hA hval
  obtain ⟨v0, vs0, d0, ds0, p0, q0, hargs, rfl, rfl, h0, r0⟩ := trodAll_cons hA
  obtain ⟨v1, vs1, d1, ds1, p1, q1, rfl, rfl, rfl, h1, r1⟩ := trodAll_cons r0
  obtain ⟨v2, vs2, d2, ds2, p2, q2, rfl, rfl, rfl, h2, r2⟩ := trodAll_cons r1
  obtain ⟨v3, vs3, d3, ds3, p3, q3, rfl, rfl, rfl, h3, r3⟩ := trodAll_cons r2
  obtain ⟨rfl, rfl, rfl⟩ := trodAll_nil r3
  obtain rfl : args = #[v0, v1, v2, v3] := by cases args; simp_all
  clear hA0
  obtain ⟨a0, len0, cap0, rfl⟩ := okWide_slice Tryz.underlying22 (hval 0 22 v0 rfl rfl)
  obtain ⟨fuel, hf0⟩ := id h0
  obtain ⟨v, l, hcs, hsv, hem, hb1, hb2⟩ := open_svB hf0
  simp [Value.cells] at hcs
  subst hcs
  have hkk : Rows.uptoBulkAll _ ≤ 1048576 := of_decide_eq_true hk
  have hpart := Nat.le_trans (bulk_part (List.mem_append_left gs (List.mem_cons_self (a := d0) (l := _)))) hkk
  obtain ⟨s1, rfl, rfl, rfl, hs1⟩ := open_str (hval 1 9 v1 rfl rfl) h1
  obtain ⟨c1, rfl⟩ : ∃ c, s1 = bs c := ⟨_, bs_of s1⟩
  have hc1 : c1.length ≤ 9223372036854775807 := by
    rw [bs_size] at hs1
    unfold maxLen at hs1
    omega
  obtain ⟨s2, rfl, rfl, rfl, hs2⟩ := open_str (hval 2 9 v2 rfl rfl) h2
  obtain ⟨c2, rfl⟩ : ∃ c, s2 = bs c := ⟨_, bs_of s2⟩
  have hc2 : c2.length ≤ 9223372036854775807 := by
    rw [bs_size] at hs2
    unfold maxLen at hs2
    omega
  obtain ⟨n3, rfl, rfl, rfl, w3⟩ := open_int Tryz.underlying3 (hval 3 3 v3 rfl rfl) h3
  rw [MakeChecks.laidMetH_plain _ _ _ (by kernel_rfl)] at hL
  obtain ⟨E, hWE⟩ := world_of needs hL
  obtain ⟨g1, g2, g3, g4, rfl⟩ := vars4 hV
  refine (aheadLaw E W.heap.size W l c1 c2 n3 _ hWE hsv hem hc1 hc2 (bounds_i64 w3) ⟨Nat.le_trans hb1 hpart, Nat.le_trans hb2 hpart⟩).mono fun e W' ⟨he, hf⟩ => ?_
  subst he
  have hb : Below W.heap.size W W' := hf.below (by simp) (Nat.le_refl _)
  have hlt := hW'.lt
  exact ⟨_, rfl, _, _, _, [], _, _, hW', trodAll_mk1 (shut_bool Tryz.underlying4 _), trodAll_cons_mk (Below.trod laidOut (by kernel_rfl) (of_decide_eq_true (by kernel_rfl)) h0 hb (fun x hx => hlt x (by first | (simp [hx]; done) | (cases hx)))) (trodAll_cons_mk (Below.trod laidOut (by kernel_rfl) (of_decide_eq_true (by kernel_rfl)) h1 hb (fun x hx => hlt x (by first | (simp [hx]; done) | (cases hx)))) (trodAll_cons_mk (Below.trod laidOut (by kernel_rfl) (of_decide_eq_true (by kernel_rfl)) h2 hb (fun x hx => hlt x (by first | (simp [hx]; done) | (cases hx)))) (trodAll_cons_mk (Below.trod laidOut (by kernel_rfl) (of_decide_eq_true (by kernel_rfl)) h3 hb (fun x hx => hlt x (by first | (simp [hx]; done) | (cases hx)))) (trodAll_mk0)))), Below.trodVars laidOut hb (by kernel_rfl) hV, hb.frame _, fun h => by cases h⟩
theorem own : ownKnob Tryz.prog.godebug = none := by kernel_rfl
set_option maxRecDepth 100000 in
set_option maxHeartbeats 4000000 in
theorem reads (os : Os) {H : Type} (enc : TypeId × Value → H) :
    (match DataW.whole enc Tryz.prog ((World.laidAll Tryz.prog os Rows.fnAheadUptoRow.laid).forCall (fun _ _ => 0) ⟨#[], #[.slice none 0 0, .string ⟨#[]⟩, .string ⟨#[]⟩, .int .i64 0], []⟩).memory Tryz.f9.params.toList Rows.fnAheadSpec.vars false #[.slice none 0 0, .string ⟨#[]⟩, .string ⟨#[]⟩, .int .i64 0].toList 8 with
      | some x => Rows.uptoSmall H (x.1 ++ x.2.1)
      | none => false) = true := by kernel_rfl
set_option maxRecDepth 100000 in
set_option maxHeartbeats 4000000 in
theorem lifted (os : Os) (started : os.Started) (H : Type) (enc : TypeId × Value → H) (F : Stop.Interp) :
    ReturnsInHanded {} Tryz.checked os 9 .any ((Rows.OpenSpec.upto Rows.fnAheadSpec).preRow enc Tryz.prog Tryz.f9 Rows.fnAheadUptoRow.domain false Rows.fnAheadUptoRow.laid) (((Rows.OpenSpec.upto Rows.fnAheadSpec).at F).post enc Tryz.prog Tryz.f9 false true false false) := by
  have hrd := reads os enc
  cases hx : DataW.whole enc Tryz.prog ((World.laidAll Tryz.prog os Rows.fnAheadUptoRow.laid).forCall (fun _ _ => 0) ⟨#[], #[.slice none 0 0, .string ⟨#[]⟩, .string ⟨#[]⟩, .int .i64 0], []⟩).memory Tryz.f9.params.toList Rows.fnAheadSpec.vars false #[.slice none 0 0, .string ⟨#[]⟩, .string ⟨#[]⟩, .int .i64 0].toList 8 with
  | none => rw [hx] at hrd; cases hrd
  | some x =>
  rw [hx] at hrd
  refine returnsInHanded_of_row (C := Tryz.checked) (s := Rows.OpenSpec.upto Rows.fnAheadSpec) own started (by kernel_rfl) Tryz.func9
    ⟨World.laidAll Tryz.prog os Rows.fnAheadUptoRow.laid, fun _ _ => 0, ⟨#[], #[.slice none 0 0, .string ⟨#[]⟩, .string ⟨#[]⟩, .int .i64 0], []⟩, World.laidAll_os _ _ _, World.shaped_of_ZipB (by kernel_rfl) (by kernel_rfl), rfl, (Input.okWide_of_okWideB (by kernel_rfl)).2,
      OpenSpec.preRow_of_cond 8 hx rfl (fun k hk => by cases hk; exact hrd) (by kernel_rfl) (by rw [MakeChecks.laidMetH_plain _ _ _ (by kernel_rfl)]; exact laidMet_laidAll _ (by kernel_rfl) (by kernel_rfl)),
      by
        simp only [Assume.holds]
        repeat' apply And.intro
        all_goals simp⟩ ?_
  intro W base args ds gs before hval hW _ hcond _ hL _ _
  exact contract H enc W base args ds gs before hval hW (hcond _ rfl) hL
end Go.Proofs.YtcodhjoiikdhmaaGreatDoor.fnAhead

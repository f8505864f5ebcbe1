/- spec.Within, spec.HeaderOk, spec.Simple. -/
import Derived.Test.YtcodhjoiikdhmaaGreatDoorQrc
set_option linter.unusedVariables false
set_option linter.unusedSimpArgs false
namespace Go.Proofs.YtcodhjoiikdhmaaGreatDoor
open Go Go.RowKit
open Zp
set_option maxRecDepth 100000 in
set_option maxHeartbeats 4000000 in
theorem withinC (n a b : Int) (w : World) : Calls Tryz.prog 48 #[.int .i64 n, .int .i64 a, .int .i64 b] w fun e w' => e = .returned (.bool (decide (a ≤ n ∧ n ≤ b))) ∧ w' = w := by
  by_cases h1 : a ≤ n
  · by_cases h2 : n ≤ b
    · have hd : decide (a ≤ n ∧ n ≤ b) = true := decide_eq_true ⟨h1, h2⟩
      rw [hd]
      clear hd
      go_enter Tryz.func48, Tryz.ntmps48
      go_wp2_with fail
      go_ret
      exact ⟨rfl, rfl⟩
    · have hd : decide (a ≤ n ∧ n ≤ b) = false := decide_eq_false (fun h => h2 h.2)
      rw [hd]
      clear hd
      go_enter Tryz.func48, Tryz.ntmps48
      go_wp2_with fail
      go_ret
      exact ⟨by simp, rfl⟩
  · have hd : decide (a ≤ n ∧ n ≤ b) = false := decide_eq_false (fun h => h1 h.1)
    rw [hd]
    clear hd
    go_enter Tryz.func48, Tryz.ntmps48
    go_wp2_with fail
    go_ret
    exact ⟨rfl, rfl⟩
/-- A call answers whether P. -/
def BoolP (P : Prop) (w : World) (e : Ending) (w' : World) : Prop := ∃ b : Bool, e = .returned (.bool b) ∧ (b = true ↔ P) ∧ Fr [] w w'
set_option maxRecDepth 100000 in
set_option maxHeartbeats 8000000 in
theorem hokC (h : Hd) (hI : HdI h) (w : World) :
    Calls Tryz.prog 34 #[.agg #[.string (bs h.name), .string (bs h.comment), .string (bs h.extra), .bool h.non, .int .i64 h.creator, .int .i64 h.reader, .int .i64 h.flags, .int .i64 h.method, .int .i64 h.time, .int .i64 h.date, .int .i64 h.crc, .int .i64 h.packed, .int .i64 h.size, .int .i64 h.ext]] w (BoolP (HdOk h) w) := by
  obtain ⟨-, -, -, -, -, -, -, -, -, -, i11, i12, i13⟩ := hI
  go_enter Tryz.func34, Tryz.ntmps34
  go_wp2_with (first | (go_at_call 48; (with_reducible refine (withinC _ _ _ _).mono ?_); rintro e1 w1 ⟨rfl, rfl⟩) | fail)
  all_goals go_ret
  all_goals refine ⟨_, rfl, ?_, (Fr.refl _ _).alloc _⟩
  all_goals simp only [HdOk, In16, decide_eq_true_eq, Bool.false_eq_true]
  all_goals constructor
  all_goals intro hh
  all_goals first | exact hh.elim | omega | (exfalso; omega)
set_option maxRecDepth 100000 in
set_option maxHeartbeats 4000000 in
theorem simpleC (h : Hd) (hI : HdI h) (w : World) :
    Calls Tryz.prog 19 #[.agg #[.string (bs h.name), .string (bs h.comment), .string (bs h.extra), .bool h.non, .int .i64 h.creator, .int .i64 h.reader, .int .i64 h.flags, .int .i64 h.method, .int .i64 h.time, .int .i64 h.date, .int .i64 h.crc, .int .i64 h.packed, .int .i64 h.size, .int .i64 h.ext]] w fun e w' => e = .returned (.bool (decide ((h.flags.tdiv 8).tmod 2 = 0))) ∧ Fr [] w w' := by
  obtain ⟨-, -, ⟨h1, h2⟩, -, -, -, -, -, -, -, i11, i12, i13⟩ := hI
  go_enter Tryz.func19, Tryz.ntmps19
  go_wp2_with fail
  go_ret
  exact ⟨rfl, (Fr.refl _ _).alloc _⟩
end Go.Proofs.YtcodhjoiikdhmaaGreatDoor

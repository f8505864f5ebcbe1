/- Package time, part 5: Equal, Before, Sub. -/
import Derived.Test.YtcodhjoiikdhmaaGreatDoorQt2
import Derived.Test.YtcodhjoiikdhmaaGreatDoorQt4
set_option linter.unusedVariables false
set_option linter.unusedSimpArgs false
namespace Go.Proofs.YtcodhjoiikdhmaaGreatDoor
open Go Go.RowKit
set_option maxRecDepth 100000 in
set_option maxHeartbeats 2000000 in
theorem tEqual (a b c d : Int) (p q : Option Addr) (w : World) : Calls Tryz.prog 106 #[.agg (tcells a b p), .agg (tcells c d q)] w (RetB w) := by
  have h1 := (Blk.new w 85 (tcells a b p)).alloc (.cells (tcells c d q) 85)
  have h2 := Blk.new1 w (.cells (tcells a b p) 85) 85 (tcells c d q)
  have S1 := Lib.hid (tsec _ _ _ _ _ h1)
  have S2 := Lib.hid (tsec _ _ _ _ _ h2)
  have N1 := Lib.hid (tnsec _ _ _ _ _ h1)
  have N2 := Lib.hid (tnsec _ _ _ _ _ h2)
  clear h1 h2
  go_enter Tryz.func106, Tryz.ntmps106
  go_wp2_with (first
    | (go_at_call 103; (with_reducible first | refine S1.out.mono ?_ | refine S2.out.mono ?_); rintro e w1 ⟨z, rfl, rfl⟩)
    | (go_at_call 104; (with_reducible first | refine N1.out.mono ?_ | refine N2.out.mono ?_); rintro e w1 ⟨z, rfl, rfl⟩)
    | fail)
  all_goals
    go_ret
    exact ⟨_, rfl, ((Fr.refl [] w).alloc _).alloc _⟩
set_option maxRecDepth 100000 in
set_option maxHeartbeats 2000000 in
theorem tBefore (a b c d : Int) (p q : Option Addr) (w : World) : Calls Tryz.prog 107 #[.agg (tcells a b p), .agg (tcells c d q)] w (RetB w) := by
  have h1 := (Blk.new w 85 (tcells a b p)).alloc (.cells (tcells c d q) 85)
  have h2 := Blk.new1 w (.cells (tcells a b p) 85) 85 (tcells c d q)
  have S1 := Lib.hid (tsec _ _ _ _ _ h1)
  have S2 := Lib.hid (tsec _ _ _ _ _ h2)
  have N1 := Lib.hid (tnsec _ _ _ _ _ h1)
  have N2 := Lib.hid (tnsec _ _ _ _ _ h2)
  clear h1 h2
  go_enter Tryz.func107, Tryz.ntmps107
  go_wp2_with (first
    | (go_at_call 103; (with_reducible first | refine S1.out.mono ?_ | refine S2.out.mono ?_); rintro e w1 ⟨z, rfl, rfl⟩)
    | (go_at_call 104; (with_reducible first | refine N1.out.mono ?_ | refine N2.out.mono ?_); rintro e w1 ⟨z, rfl, rfl⟩)
    | fail)
  all_goals
    go_ret
    exact ⟨_, rfl, ((Fr.refl [] w).alloc _).alloc _⟩
end Go.Proofs.YtcodhjoiikdhmaaGreatDoor

/- Package time, part 6: FixedZone, timeZone. -/
namespace Go.Proofs.YtcodhjoiikdhmaaGreatDoor
open Go Go.RowKit
/-- A new place that is not UTC. -/
def RetLoc (w : World) (e : Ending) (w' : World) : Prop := ∃ l : Nat, e = .returned (.pointer (some ⟨l, 0, none⟩)) ∧ w.heap.size ≤ l ∧ l < w'.heap.size ∧ w'.cell? ⟨l, 0, none⟩ = some (.bool false) ∧ Fr [] w w'
set_option maxRecDepth 100000 in
set_option maxHeartbeats 1000000 in
theorem tfixedZone (x : Int) (w : World) : Calls Tryz.prog 113 #[.string ⟨#[]⟩, .int .i64 x] w (RetLoc w) := by
  go_enter Tryz.func113, Tryz.ntmps113
  go_wp2_with fail
  go_ret
  exact ⟨_, rfl, by omega, by simp, (Blk.new2 w _ _ _ _).at_ 0 _ rfl, (((Fr.refl [] w).alloc _).alloc _).alloc _⟩
set_option maxRecDepth 100000 in
set_option maxHeartbeats 1000000 in
theorem tFixedZone (x : Int) (w : World) : Calls Tryz.prog 101 #[.string ⟨#[]⟩, .int .i64 x] w (RetLoc w) := by
  go_enter Tryz.func101, Tryz.ntmps101
  go_wp2_with fail
  refine (tfixedZone _ _).mono ?_
  rintro e w1 ⟨l, rfl, h0, h1, h2, hf⟩
  go_wp2_with fail
  go_ret
  exact ⟨l, rfl, h0, h1, h2, hf⟩
set_option maxRecDepth 100000 in
set_option maxHeartbeats 1000000 in
theorem ttimeZone (x : Int) (w : World) : Calls Tryz.prog 87 #[.int .i64 x] w (RetLoc w) := by
  go_enter Tryz.func87, Tryz.ntmps87
  go_wp2_with (first
    | (go_at_call 100; refine (tRound _ _).mono ?_; rintro e w1 ⟨z, rfl, rfl⟩)
    | (go_at_call 101; refine (tFixedZone _ _).mono ?_; rintro e w1 ⟨l, rfl, h0, h1, h2, hf⟩)
    | fail)
  all_goals
    go_ret
    exact ⟨l, rfl, h0, h1, h2, hf⟩
end Go.Proofs.YtcodhjoiikdhmaaGreatDoor

/- Package time, part 7: Sub. -/
namespace Go.Proofs.YtcodhjoiikdhmaaGreatDoor
open Go Go.RowKit
def RetIn64 (w : World) (e : Ending) (w' : World) : Prop := ∃ z : Int, e = .returned (.int .i64 z) ∧ Fr [] w w'
theorem keepT {w w1 w2 : World} {a b c d : Int} {p q : Option Addr} (h : w1.cell? ⟨w.heap.size, 0, none⟩ = some (.int .u64 a) ∧ w1.cell? ⟨w.heap.size, 1, none⟩ = some (.int .i64 b) ∧ w1.cell? ⟨w.heap.size, 2, none⟩ = some (.pointer p) ∧ w1.cell? ⟨w.heap.size + 1, 0, none⟩ = some (.int .u64 c) ∧ w1.cell? ⟨w.heap.size + 1, 1, none⟩ = some (.int .i64 d) ∧ w1.cell? ⟨w.heap.size + 1, 2, none⟩ = some (.pointer q) ∧ Fr [] w w1 ∧ w.heap.size + 2 ≤ w1.heap.size) (hf : Fr [] w1 w2) :
    w2.cell? ⟨w.heap.size, 0, none⟩ = some (.int .u64 a) ∧ w2.cell? ⟨w.heap.size, 1, none⟩ = some (.int .i64 b) ∧ w2.cell? ⟨w.heap.size, 2, none⟩ = some (.pointer p) ∧ w2.cell? ⟨w.heap.size + 1, 0, none⟩ = some (.int .u64 c) ∧ w2.cell? ⟨w.heap.size + 1, 1, none⟩ = some (.int .i64 d) ∧ w2.cell? ⟨w.heap.size + 1, 2, none⟩ = some (.pointer q) ∧ Fr [] w w2 ∧ w.heap.size + 2 ≤ w2.heap.size := by
  obtain ⟨c0, c1, c2, e0, e1, e2, h2, h3⟩ := h
  have hk : ∀ j i v, j < w.heap.size + 2 → w1.cell? ⟨j, i, none⟩ = some v → w2.cell? ⟨j, i, none⟩ = some v := fun j i v hj h => (hf.cell (p := ⟨j, i, none⟩) (by show j < _; omega) (by simp)).trans h
  exact ⟨hk _ _ _ (by omega) c0, hk _ _ _ (by omega) c1, hk _ _ _ (by omega) c2, hk _ _ _ (by omega) e0, hk _ _ _ (by omega) e1, hk _ _ _ (by omega) e2, h2.trans hf (by simp), Nat.le_trans h3 hf.size⟩
set_option maxRecDepth 100000 in
set_option maxHeartbeats 2000000 in
theorem tSub (a b c d : Int) (p q : Option Addr) (w : World) : Calls Tryz.prog 88 #[.agg (tcells a b p), .agg (tcells c d q)] w (RetIn64 w) := by
  have h1 := (Blk.new w 85 (tcells a b p)).alloc (.cells (tcells c d q) 85)
  have h2 := Blk.new1 w (.cells (tcells a b p) 85) 85 (tcells c d q)
  have S1 := Lib.hid (tsec _ _ _ _ _ h1)
  have S2 := Lib.hid (tsec _ _ _ _ _ h2)
  have N1 := Lib.hid (tnsec _ _ _ _ _ h1)
  have N2 := Lib.hid (tnsec _ _ _ _ _ h2)
  have hF : Fr [] w ((w.alloc (.cells (tcells a b p) 85)).alloc (.cells (tcells c d q) 85)) ∧ w.heap.size + 2 ≤ ((w.alloc (.cells (tcells a b p) 85)).alloc (.cells (tcells c d q) 85)).heap.size := ⟨((Fr.refl [] w).alloc _).alloc _, by simp⟩
  obtain ⟨c0, c1, c2, -, -, -⟩ := timeFacts h1
  obtain ⟨e0, e1, e2, -, -, -⟩ := timeFacts h2
  clear h1 h2
  go_enter Tryz.func88, Tryz.ntmps88
  go_wp2_with (first
    | (go_at_call 102; refine (tsubMono _ _ _).mono ?_; rintro e w1 ⟨z, rfl, rfl⟩)
    | (go_at_call 103; (with_reducible first | refine S1.out.mono ?_ | refine S2.out.mono ?_); rintro e w1 ⟨z, rfl, rfl⟩)
    | (go_at_call 104; (with_reducible first | refine N1.out.mono ?_ | refine N2.out.mono ?_); rintro e w1 ⟨z, rfl, rfl⟩)
    | fail)
  · go_ret
    exact ⟨_, rfl, hF.1⟩
  generalize hw3 : ((w.alloc (.cells (tcells a b p) 85)).alloc (.cells (tcells c d q) 85)) = w3 at *
  clear S1 S2 N1 N2 hw3
  go_region_held3 (fun w' => w'.cell? ⟨w.heap.size, 0, none⟩ = some (.int .u64 a) ∧ w'.cell? ⟨w.heap.size, 1, none⟩ = some (.int .i64 b) ∧ w'.cell? ⟨w.heap.size, 2, none⟩ = some (.pointer p) ∧ w'.cell? ⟨w.heap.size + 1, 0, none⟩ = some (.int .u64 c) ∧ w'.cell? ⟨w.heap.size + 1, 1, none⟩ = some (.int .i64 d) ∧ w'.cell? ⟨w.heap.size + 1, 2, none⟩ = some (.pointer q) ∧ Fr [] w w' ∧ w.heap.size + 2 ≤ w'.heap.size)
    ((first | exact kk | exact ⟨c0, c1, c2, e0, e1, e2, hF.1.drew, hF.2⟩ | assumption))
    ((first
      | (go_at_call 105; refine (tAdd _ _ _ _ _).mono ?_; rintro e w2 ⟨a1, b1, p1, rfl, hf⟩; have kk := keepT (by assumption) hf)
      | (go_at_call 106; refine (tEqual _ _ _ _ _ _ _).mono ?_; rintro e w2 ⟨z, rfl, hf⟩; have kk := keepT (by assumption) hf)))
  obtain ⟨k0, k1, k2, l0, l1, l2, hG, -⟩ := kk
  have HG := Lib.hid hG
  clear hG hF c0 c1 c2 e0 e1 e2
  go_wp2_with (first
    | (go_at_call 107; refine (tBefore _ _ _ _ _ _ _).mono ?_; rintro e w4 ⟨z, rfl, hf4⟩)
    | fail)
  all_goals
    go_ret
    first
    | exact ⟨_, rfl, HG.out.trans hf4 (by simp)⟩
    | exact ⟨_, rfl, HG.out⟩
end Go.Proofs.YtcodhjoiikdhmaaGreatDoor

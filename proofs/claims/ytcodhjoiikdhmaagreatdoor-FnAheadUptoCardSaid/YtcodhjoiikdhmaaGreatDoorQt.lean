/- Package time as the reader of a zip header uses it: every call returns some time, and makes new memory alone. -/
import Derived.Test.YtcodhjoiikdhmaaGreatDoorProg
import Derived.Test.YtcodhjoiikdhmaaGreatDoorQw
import Derived.WalkKit
import Derived.WalkLawsBesides
import Derived.WalkSpells
import Derived.Handy
import Derived.Deep.QuietTactic
import Derived.BigQuiet
import Derived.Deep.RegionWith
set_option linter.unusedVariables false
set_option linter.unusedSimpArgs false
namespace Go.Proofs.YtcodhjoiikdhmaaGreatDoor
open Go Go.RowKit
theorem results_tmp5 {fn : Func} {t u v x y : Tmp} (h : fn.results = #[.tmp t, .tmp u, .tmp v, .tmp x, .tmp y]) (tmps : Array Value) (P : Program) (w : World) :
    (results fn tmps).run P w = .ok (.tuple #[tmps.getD t undef, tmps.getD u undef, tmps.getD v undef, tmps.getD x undef, tmps.getD y undef]) w := by simp [results, h]
abbrev tcells (a b : Int) (p : Option Addr) : Array Value := #[.int .u64 a, .int .i64 b, .pointer p]
theorem timeFacts {w : World} {g : Nat} {a b : Int} {p : Option Addr} (h : Blk w g 85 (tcells a b p)) :
    w.cell? ⟨g, 0, none⟩ = some (.int .u64 a) ∧ w.cell? ⟨g, 1, none⟩ = some (.int .i64 b) ∧ w.cell? ⟨g, 2, none⟩ = some (.pointer p) ∧ w.frozen? ⟨g, 0, none⟩ = false ∧ w.frozen? ⟨g, 1, none⟩ = false ∧ w.frozen? ⟨g, 2, none⟩ = false :=
  ⟨h.at_ 0 _ rfl, h.at_ 1 _ rfl, h.at_ 2 _ rfl, h.frozen 0, h.frozen 1, h.frozen 2⟩
/-- A new time of the call's own is stored into. -/
theorem newT {w w1 : World} {v0 v1 v2 : Value} (h : Fr [] w w1) : Fr [] w (((w1.setCell ⟨w.heap.size, 0, none⟩ v0).setCell ⟨w.heap.size, 1, none⟩ v1).setCell ⟨w.heap.size, 2, none⟩ v2) :=
  ((h.setCell (.inr (Nat.le_refl _)) _).setCell (.inr (Nat.le_refl _)) _).setCell (.inr (Nat.le_refl _)) _
/-- Some int of this kind is returned, and the world is as it was. -/
def RetI (k : IntKind) (w : World) (e : Ending) (w' : World) : Prop := ∃ z : Int, e = .returned (.int k z) ∧ w = w'
def RetIn (k : IntKind) (w : World) (e : Ending) (w' : World) : Prop := ∃ z : Int, e = .returned (.int k z) ∧ Fr [] w w'
def RetB (w : World) (e : Ending) (w' : World) : Prop := ∃ z : Bool, e = .returned (.bool z) ∧ Fr [] w w'
def RetT (w : World) (e : Ending) (w' : World) : Prop := ∃ (a b : Int) (p : Option Addr), e = .returned (.agg (tcells a b p)) ∧ Fr [] w w'
/-- The time at g holds some time again, and nothing else has turned. -/
def SetT (g : Nat) (w : World) (e : Ending) (w' : World) : Prop := e = .returned (.tuple #[]) ∧ (∃ (a b : Int) (p : Option Addr), Blk w' g 85 (tcells a b p)) ∧ Fr [g] w w' ∧ w'.heap.size = w.heap.size
set_option maxRecDepth 100000 in
set_option maxHeartbeats 1000000 in
theorem tsec (g : Nat) (a b : Int) (p : Option Addr) (w : World) (h : Blk w g 85 (tcells a b p)) : Calls Tryz.prog 103 #[.pointer (some ⟨g, 0, none⟩)] w (RetI .i64 w) := by
  have c0 := h.at_ 0 (.int .u64 a) rfl
  have c1 := h.at_ 1 (.int .i64 b) rfl
  go_enter Tryz.func103, Tryz.ntmps103
  go_wp2
  all_goals
    go_ret
    exact ⟨_, rfl, rfl⟩
set_option maxRecDepth 100000 in
set_option maxHeartbeats 1000000 in
theorem tnsec (g : Nat) (a b : Int) (p : Option Addr) (w : World) (h : Blk w g 85 (tcells a b p)) : Calls Tryz.prog 104 #[.pointer (some ⟨g, 0, none⟩)] w (RetI .i32 w) := by
  have c0 := h.at_ 0 (.int .u64 a) rfl
  go_enter Tryz.func104, Tryz.ntmps104
  go_wp2
  all_goals
    go_ret
    exact ⟨_, rfl, rfl⟩
set_option maxRecDepth 100000 in
set_option maxHeartbeats 1000000 in
theorem tunixSec (g : Nat) (a b : Int) (p : Option Addr) (w : World) (h : Blk w g 85 (tcells a b p)) : Calls Tryz.prog 99 #[.pointer (some ⟨g, 0, none⟩)] w (RetI .i64 w) := by
  go_enter Tryz.func99, Tryz.ntmps99
  go_wp2_with fail
  refine (tsec g a b p _ h).mono ?_
  rintro e w1 ⟨z, rfl, rfl⟩
  go_wp2_with fail
  go_ret
  exact ⟨_, rfl, rfl⟩
set_option maxRecDepth 100000 in
set_option maxHeartbeats 1000000 in
theorem tUnixOf (a b : Int) (p : Option Addr) (w : World) : Calls Tryz.prog 81 #[.agg (tcells a b p)] w (RetIn .i64 w) := by
  go_enter Tryz.func81, Tryz.ntmps81
  go_wp2_with fail
  refine (tunixSec w.heap.size a b p _ (Blk.new _ _ _)).mono ?_
  rintro e w1 ⟨z, rfl, rfl⟩
  go_wp2_with fail
  go_ret
  exact ⟨_, rfl, (Fr.refl [] w).alloc _⟩
set_option maxRecDepth 100000 in
set_option maxHeartbeats 2000000 in
theorem tstripMono (g : Nat) (a b : Int) (p : Option Addr) (w : World) (h : Blk w g 85 (tcells a b p)) : Calls Tryz.prog 111 #[.pointer (some ⟨g, 0, none⟩)] w (SetT g w) := by
  have c0 := h.at_ 0 (.int .u64 a) rfl
  have c1 := h.at_ 1 (.int .i64 b) rfl
  have f0 := h.frozen 0
  have f1 := h.frozen 1
  have H := Lib.hid h
  have HS := Lib.hid (tsec g a b p w h)
  clear h
  go_enter Tryz.func111, Tryz.ntmps111
  go_wp2_with (go_at_call 103; refine HS.out.mono ?_; rintro e w1 ⟨z, rfl, rfl⟩)
  all_goals (first | go_end0 | (refine bodyPost_ret (results_none rfl _ _ _) rfl ?_))
  · exact ⟨rfl, ⟨_, _, p, (H.out.set_ 1 _).set_ 0 _⟩, ((Fr.refl _ w).setCell (.inl (by simp)) _).setCell (.inl (by simp)) _, by simp⟩
  · exact ⟨rfl, ⟨_, _, p, H.out⟩, Fr.refl _ w, rfl⟩
set_option maxRecDepth 100000 in
set_option maxHeartbeats 2000000 in
theorem tsetLoc (g l : Nat) (u : Bool) (a b : Int) (p : Option Addr) (w : World) (h : Blk w g 85 (tcells a b p)) (hl : w.cell? ⟨l, 0, none⟩ = some (.bool u)) :
    Calls Tryz.prog 98 #[.pointer (some ⟨g, 0, none⟩), .pointer (some ⟨l, 0, none⟩)] w (SetT g w) := by
  have HS := Lib.hid (tstripMono g a b p w h)
  clear h
  cases u
  all_goals
    go_enter Tryz.func98, Tryz.ntmps98
    go_wp2_with fail
    refine HS.out.mono ?_
    rintro e w1 ⟨rfl, ⟨a1, b1, p1, h1⟩, hf, hz⟩
    have c2 := h1.at_ 2 (.pointer p1) rfl
    have f2 := h1.frozen 2
    have H1 := Lib.hid h1
    have HZ := Lib.hid hz
    clear h1 hz
    go_wp2_with fail
    go_end0
    exact ⟨rfl, ⟨_, _, _, H1.out.set_ 2 _⟩, hf.setCell (.inl (by simp)) _, by simpa using HZ.out⟩
abbrev utcCells : Array Value := #[.bool true, .string ⟨#[85, 84, 67]⟩, .slice none 0 0, .slice none 0 0, .string ⟨#[]⟩, .int .i64 0, .int .i64 0, .pointer none]
set_option maxRecDepth 100000 in
theorem tUTC (w : World) : Calls Tryz.prog 79 #[] w fun e w' => e = .returned (.pointer (some ⟨w.heap.size, 0, none⟩)) ∧ w' = w.alloc (.cells utcCells 192) := by
  go_enter Tryz.func79, Tryz.ntmps79
  go_wp2_with fail
  go_ret
  exact ⟨rfl, rfl⟩
def RetII (w : World) (e : Ending) (w' : World) : Prop := ∃ y z : Int, e = .returned (.tuple #[.int .i64 y, .int .i64 z]) ∧ w = w'
set_option maxRecDepth 100000 in
set_option maxHeartbeats 1000000 in
theorem tnorm (x y z : Int) (h0 : z ≠ 0) (w : World) : Calls Tryz.prog 94 #[.int .i64 x, .int .i64 y, .int .i64 z] w (RetII w) := by
  have h1 : (z == 0) = false := by simpa using h0
  go_enter Tryz.func94, Tryz.ntmps94
  go_wp2
  all_goals
    go_ret2
    exact ⟨_, _, rfl, rfl⟩
set_option maxRecDepth 100000 in
set_option maxHeartbeats 1000000 in
theorem tdays (x y z : Int) (w : World) : Calls Tryz.prog 95 #[.int .i64 x, .int .i64 y, .int .i64 z] w (RetI .u64 w) := by
  go_enter Tryz.func95, Tryz.ntmps95
  go_wp2
  all_goals
    go_ret
    exact ⟨_, rfl, rfl⟩
set_option maxRecDepth 100000 in
theorem tget (l : Nat) (w : World) : Calls Tryz.prog 109 #[.pointer (some ⟨l, 0, none⟩)] w fun e w' => e = .returned (.pointer (some ⟨l, 0, none⟩)) ∧ w = w' := by
  go_enter Tryz.func109, Tryz.ntmps109
  go_wp2
  go_ret
  exact ⟨rfl, rfl⟩
set_option maxRecDepth 100000 in
set_option maxHeartbeats 1000000 in
theorem tlookup (l : Nat) (x : Int) (w : World) (h : Blk w l 192 utcCells) :
    Calls Tryz.prog 96 #[.pointer (some ⟨l, 0, none⟩), .int .i64 x] w fun e w' => (∃ y z : Int, e = .returned (.tuple #[.string ⟨#[85, 84, 67]⟩, .int .i64 0, .int .i64 y, .int .i64 z, .bool false])) ∧ w = w' := by
  have c2 := h.at_ 2 (.slice none 0 0) rfl
  clear h
  go_enter Tryz.func96, Tryz.ntmps96
  go_wp2_with (go_at_call 109; refine (tget l _).mono ?_; rintro e w1 ⟨rfl, rfl⟩)
  refine bodyPost_ret (results_tmp5 rfl _ _ _) rfl ?_
  exact ⟨⟨_, _, rfl⟩, rfl⟩
set_option maxRecDepth 100000 in
theorem tunixTime (x y : Int) (w : World) : Calls Tryz.prog 97 #[.int .i64 x, .int .i32 y] w (RetT w) := by
  go_enter Tryz.func97, Tryz.ntmps97
  go_wp2
  go_returns
  exact ⟨_, _, none, rfl, (Fr.refl [] w).alloc _⟩
set_option maxRecDepth 100000 in
set_option maxHeartbeats 1000000 in
theorem tUnix (x y : Int) (w : World) : Calls Tryz.prog 80 #[.int .i64 x, .int .i64 y] w (RetT w) := by
  go_enter Tryz.func80, Tryz.ntmps80
  go_wp2_with (go_at_call 97; refine (tunixTime _ _ _).mono ?_; rintro e w1 ⟨a, b, p, rfl, hf⟩; obtain ⟨c0, c1, c2, f0, f1, f2⟩ := timeFacts ((Blk.new w _ _).fr hf (by simp)); have hf0 := ((Fr.refl [] w).alloc _).trans hf (by simp))
  all_goals
    have hB1 := ((((Blk.new w _ _).fr hf (by simp)).set_ 0 (.int .u64 a)).set_ 1 (.int .i64 b)).set_ 2 (.pointer p)
    refine bodyPost_ret (v := .agg (tcells a b p)) (results_cell_row rfl _ _ _ _ _ _ _ rfl hB1 rfl rfl rfl) rfl ?_
    exact ⟨_, _, _, rfl, newT hf0⟩
end Go.Proofs.YtcodhjoiikdhmaaGreatDoor

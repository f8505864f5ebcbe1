/- Package time as the reader of a zip header uses it: every call returns some time, and makes new memory alone. -/
import Derived.Test.YtalgnjkdoaaacaaGreatDoorProg
import Derived.Test.YtalgnjkdoaaacaaGreatDoorQp
import Derived.WalkKit
import Derived.WalkLawsBesides
import Derived.WalkSpells
import Derived.Handy
import Derived.Deep.QuietTactic
import Derived.BigQuiet
import Derived.Deep.RegionWith
import Derived.Deep.RegionHeld3
set_option linter.unusedVariables false
set_option linter.unusedSimpArgs false
namespace Go.Proofs.YtalgnjkdoaaacaaGreatDoor
open Go Go.RowKit
theorem results_tmp5 {fn : Func} {t u v x y : Tmp} (h : fn.results = #[.tmp t, .tmp u, .tmp v, .tmp x, .tmp y]) (tmps : Array Value) (P : Program) (w : World) :
    (results fn tmps).run P w = .ok (.tuple #[tmps.getD t undef, tmps.getD u undef, tmps.getD v undef, tmps.getD x undef, tmps.getD y undef]) w := by simp [results, h]
abbrev tcells (a b : Int) (p : Option Addr) : Array Value := #[.int .u64 a, .int .i64 b, .pointer p]
theorem timeFacts {w : World} {g : Nat} {a b : Int} {p : Option Addr} (h : Blk w g 74 (tcells a b p)) :
    w.cell? ⟨g, 0, none⟩ = some (.int .u64 a) ∧ w.cell? ⟨g, 1, none⟩ = some (.int .i64 b) ∧ w.cell? ⟨g, 2, none⟩ = some (.pointer p) ∧ w.frozen? ⟨g, 0, none⟩ = false ∧ w.frozen? ⟨g, 1, none⟩ = false ∧ w.frozen? ⟨g, 2, none⟩ = false :=
  ⟨h.at_ 0 _ rfl, h.at_ 1 _ rfl, h.at_ 2 _ rfl, h.frozen 0, h.frozen 1, h.frozen 2⟩
/-- A new time of the call's own is stored into. -/
theorem newT {w w1 : World} {v0 v1 v2 : Value} (h : Fr [] w w1) : Fr [] w (((w1.setCell ⟨w.heap.size, 0, none⟩ v0).setCell ⟨w.heap.size, 1, none⟩ v1).setCell ⟨w.heap.size, 2, none⟩ v2) :=
  ((h.setCell (.inr (Nat.le_refl _)) _).setCell (.inr (Nat.le_refl _)) _).setCell (.inr (Nat.le_refl _)) _
/-- Some int of this kind is returned, and the world is as it was. -/
def RetI (k : IntKind) (w : World) (e : Ending) (w' : World) : Prop := ∃ z : Int, e = .returned (.int k z) ∧ w = w'
def RetIn (k : IntKind) (w : World) (e : Ending) (w' : World) : Prop := ∃ z : Int, e = .returned (.int k z) ∧ Fr [] w w'
def RetB (w : World) (e : Ending) (w' : World) : Prop := ∃ z : Bool, e = .returned (.bool z) ∧ Fr [] w w'
def RetT (w : World) (e : Ending) (w' : World) : Prop := ∃ (a b : Int) (p : Option Addr), e = .returned (.agg (tcells a b p)) ∧ Fr [] w w'
/-- The time at g holds some time again, and nothing else has turned. -/
def SetT (g : Nat) (w : World) (e : Ending) (w' : World) : Prop := e = .returned (.tuple #[]) ∧ (∃ (a b : Int) (p : Option Addr), Blk w' g 74 (tcells a b p)) ∧ Fr [g] w w' ∧ w'.heap.size = w.heap.size
set_option maxRecDepth 100000 in
set_option maxHeartbeats 1000000 in
theorem tsec (g : Nat) (a b : Int) (p : Option Addr) (w : World) (h : Blk w g 74 (tcells a b p)) : Calls Tryz.prog 140 #[.pointer (some ⟨g, 0, none⟩)] w (RetI .i64 w) := by
  have c0 := h.at_ 0 (.int .u64 a) rfl
  have c1 := h.at_ 1 (.int .i64 b) rfl
  go_enter Tryz.func140, Tryz.ntmps140
  go_wp2
  all_goals
    go_ret
    exact ⟨_, rfl, rfl⟩
set_option maxRecDepth 100000 in
set_option maxHeartbeats 1000000 in
theorem tnsec (g : Nat) (a b : Int) (p : Option Addr) (w : World) (h : Blk w g 74 (tcells a b p)) : Calls Tryz.prog 154 #[.pointer (some ⟨g, 0, none⟩)] w (RetI .i32 w) := by
  have c0 := h.at_ 0 (.int .u64 a) rfl
  go_enter Tryz.func154, Tryz.ntmps154
  go_wp2
  all_goals
    go_ret
    exact ⟨_, rfl, rfl⟩
set_option maxRecDepth 100000 in
set_option maxHeartbeats 1000000 in
theorem tunixSec (g : Nat) (a b : Int) (p : Option Addr) (w : World) (h : Blk w g 74 (tcells a b p)) : Calls Tryz.prog 105 #[.pointer (some ⟨g, 0, none⟩)] w (RetI .i64 w) := by
  go_enter Tryz.func105, Tryz.ntmps105
  go_wp2_with fail
  refine (tsec g a b p _ h).mono ?_
  rintro e w1 ⟨z, rfl, rfl⟩
  go_wp2_with fail
  go_ret
  exact ⟨_, rfl, rfl⟩
set_option maxRecDepth 100000 in
set_option maxHeartbeats 1000000 in
theorem tUnixOf (a b : Int) (p : Option Addr) (w : World) : Calls Tryz.prog 73 #[.agg (tcells a b p)] w (RetIn .i64 w) := by
  go_enter Tryz.func73, Tryz.ntmps73
  go_wp2_with fail
  refine (tunixSec w.heap.size a b p _ (Blk.new _ _ _)).mono ?_
  rintro e w1 ⟨z, rfl, rfl⟩
  go_wp2_with fail
  go_ret
  exact ⟨_, rfl, (Fr.refl [] w).alloc _⟩
set_option maxRecDepth 100000 in
set_option maxHeartbeats 2000000 in
theorem tstripMono (g : Nat) (a b : Int) (p : Option Addr) (w : World) (h : Blk w g 74 (tcells a b p)) : Calls Tryz.prog 161 #[.pointer (some ⟨g, 0, none⟩)] w (SetT g w) := by
  have c0 := h.at_ 0 (.int .u64 a) rfl
  have c1 := h.at_ 1 (.int .i64 b) rfl
  have f0 := h.frozen 0
  have f1 := h.frozen 1
  have H := Lib.hid h
  have HS := Lib.hid (tsec g a b p w h)
  clear h
  go_enter Tryz.func161, Tryz.ntmps161
  go_wp2_with (go_at_call 140; refine HS.out.mono ?_; rintro e w1 ⟨z, rfl, rfl⟩)
  all_goals (first | go_end0 | (refine bodyPost_ret (results_none rfl _ _ _) rfl ?_))
  · exact ⟨rfl, ⟨_, _, p, (H.out.set_ 1 _).set_ 0 _⟩, ((Fr.refl _ w).setCell (.inl (by simp)) _).setCell (.inl (by simp)) _, by simp⟩
  · exact ⟨rfl, ⟨_, _, p, H.out⟩, Fr.refl _ w, rfl⟩
set_option maxRecDepth 100000 in
set_option maxHeartbeats 2000000 in
theorem tsetLoc (g l : Nat) (u : Bool) (a b : Int) (p : Option Addr) (w : World) (h : Blk w g 74 (tcells a b p)) (hl : w.cell? ⟨l, 0, none⟩ = some (.bool u)) :
    Calls Tryz.prog 150 #[.pointer (some ⟨g, 0, none⟩), .pointer (some ⟨l, 0, none⟩)] w (SetT g w) := by
  have HS := Lib.hid (tstripMono g a b p w h)
  clear h
  cases u
  all_goals
    go_enter Tryz.func150, Tryz.ntmps150
    go_wp2_with fail
    refine HS.out.mono ?_
    rintro e w1 ⟨rfl, ⟨a1, b1, p1, h1⟩, hf, hz⟩
    have c2 := h1.at_ 2 (.pointer p1) rfl
    have f2 := h1.frozen 2
    have H1 := Lib.hid h1
    have HZ := Lib.hid hz
    clear h1 hz
    go_wp2_with fail
    go_end0
    exact ⟨rfl, ⟨_, _, _, H1.out.set_ 2 _⟩, hf.setCell (.inl (by simp)) _, by simpa using HZ.out⟩
abbrev utcCells : Array Value := #[.bool true, .string ⟨#[85, 84, 67]⟩, .slice none 0 0, .slice none 0 0, .string ⟨#[]⟩, .int .i64 0, .int .i64 0, .pointer none]
set_option maxRecDepth 100000 in
theorem tUTC (w : World) : Calls Tryz.prog 119 #[] w fun e w' => e = .returned (.pointer (some ⟨w.heap.size, 0, none⟩)) ∧ w' = w.alloc (.cells utcCells 291) := by
  go_enter Tryz.func119, Tryz.ntmps119
  go_wp2_with fail
  go_ret
  exact ⟨rfl, rfl⟩
def RetII (w : World) (e : Ending) (w' : World) : Prop := ∃ y z : Int, e = .returned (.tuple #[.int .i64 y, .int .i64 z]) ∧ w = w'
set_option maxRecDepth 100000 in
set_option maxHeartbeats 1000000 in
theorem tnorm (x y z : Int) (h0 : z ≠ 0) (w : World) : Calls Tryz.prog 146 #[.int .i64 x, .int .i64 y, .int .i64 z] w (RetII w) := by
  have h1 : (z == 0) = false := by simpa using h0
  go_enter Tryz.func146, Tryz.ntmps146
  go_wp2
  all_goals
    go_ret2
    exact ⟨_, _, rfl, rfl⟩
set_option maxRecDepth 100000 in
set_option maxHeartbeats 1000000 in
theorem tdays (x y z : Int) (w : World) : Calls Tryz.prog 147 #[.int .i64 x, .int .i64 y, .int .i64 z] w (RetI .u64 w) := by
  go_enter Tryz.func147, Tryz.ntmps147
  go_wp2
  all_goals
    go_ret
    exact ⟨_, rfl, rfl⟩
set_option maxRecDepth 100000 in
theorem tget (l : Nat) (w : World) : Calls Tryz.prog 158 #[.pointer (some ⟨l, 0, none⟩)] w fun e w' => e = .returned (.pointer (some ⟨l, 0, none⟩)) ∧ w = w' := by
  go_enter Tryz.func158, Tryz.ntmps158
  go_wp2
  go_ret
  exact ⟨rfl, rfl⟩
set_option maxRecDepth 100000 in
set_option maxHeartbeats 1000000 in
theorem tlookup (l : Nat) (x : Int) (w : World) (h : Blk w l 291 utcCells) :
    Calls Tryz.prog 148 #[.pointer (some ⟨l, 0, none⟩), .int .i64 x] w fun e w' => (∃ y z : Int, e = .returned (.tuple #[.string ⟨#[85, 84, 67]⟩, .int .i64 0, .int .i64 y, .int .i64 z, .bool false])) ∧ w = w' := by
  have c2 := h.at_ 2 (.slice none 0 0) rfl
  clear h
  go_enter Tryz.func148, Tryz.ntmps148
  go_wp2_with (go_at_call 158; refine (tget l _).mono ?_; rintro e w1 ⟨rfl, rfl⟩)
  refine bodyPost_ret (results_tmp5 rfl _ _ _) rfl ?_
  exact ⟨⟨_, _, rfl⟩, rfl⟩
set_option maxRecDepth 100000 in
theorem tunixTime (x y : Int) (w : World) : Calls Tryz.prog 149 #[.int .i64 x, .int .i32 y] w (RetT w) := by
  go_enter Tryz.func149, Tryz.ntmps149
  go_wp2
  go_returns
  exact ⟨_, _, none, rfl, (Fr.refl [] w).alloc _⟩
set_option maxRecDepth 100000 in
set_option maxHeartbeats 1000000 in
theorem tUnix (x y : Int) (w : World) : Calls Tryz.prog 120 #[.int .i64 x, .int .i64 y] w (RetT w) := by
  go_enter Tryz.func120, Tryz.ntmps120
  go_wp2_with (go_at_call 149; refine (tunixTime _ _ _).mono ?_; rintro e w1 ⟨a, b, p, rfl, hf⟩; obtain ⟨c0, c1, c2, f0, f1, f2⟩ := timeFacts ((Blk.new w _ _).fr hf (by simp)); have hf0 := ((Fr.refl [] w).alloc _).trans hf (by simp))
  all_goals
    have hB1 := ((((Blk.new w _ _).fr hf (by simp)).set_ 0 (.int .u64 a)).set_ 1 (.int .i64 b)).set_ 2 (.pointer p)
    refine bodyPost_ret (v := .agg (tcells a b p)) (results_cell_row rfl _ _ _ _ _ _ _ rfl hB1 rfl rfl rfl) rfl ?_
    exact ⟨_, _, _, rfl, newT hf0⟩
end Go.Proofs.YtalgnjkdoaaacaaGreatDoor

/- Package time, part 2: Date, UTC, In, FixedZone, Round, Add, Equal, Before, Sub. -/
namespace Go.Proofs.YtalgnjkdoaaacaaGreatDoor
open Go Go.RowKit
set_option maxRecDepth 100000 in
set_option maxHeartbeats 4000000 in
theorem tDate (y m d h mi s n : Int) (l : Nat) (w : World) (hl : Blk w l 291 utcCells) :
    Calls Tryz.prog 118 #[.int .i64 y, .int .i64 m, .int .i64 d, .int .i64 h, .int .i64 mi, .int .i64 s, .int .i64 n, .pointer (some ⟨l, 0, none⟩)] w (RetT w) := by
  have HL := Lib.hid (fun x => tlookup l x _ (hl.alloc (.cells #[.int .u64 0, .int .i64 0, .pointer none] 74)))
  have hlt := hl.lt
  have HB := Lib.hid hl
  clear hl
  go_enter Tryz.func118, Tryz.ntmps118
  go_wp2_with (first
    | (go_at_call 146; refine (tnorm _ _ _ (by decide) _).mono ?_; rintro e w1 ⟨y1, z1, rfl, rfl⟩)
    | (go_at_call 147; refine (tdays _ _ _ _).mono ?_; rintro e w1 ⟨y1, rfl, rfl⟩)
    | (go_at_call 148; refine (HL.out _).mono ?_; rintro e w1 ⟨⟨y1, z1, rfl⟩, rfl⟩)
    | fail)
  refine (tunixTime _ _ _).mono ?_
  rintro e w1 ⟨a, b, p, rfl, hf⟩
  have hB0 := (Blk.new w 74 #[.int .u64 0, .int .i64 0, .pointer none]).fr hf (by simp)
  have hW := ((Fr.refl [] w).alloc _).trans hf (by simp)
  have hL1 := ((HB.out.alloc (.cells #[.int .u64 0, .int .i64 0, .pointer none] 74)).fr hf (by simp)).alloc (.cells (tcells a b p) 74)
  have hB1 := hB0.alloc (.cells (tcells a b p) 74)
  have hlt1 := hB0.lt
  have HS := Lib.hid (tsetLoc w1.heap.size l true a b p _ (Blk.new w1 _ _) (hL1.at_ 0 _ rfl))
  have HB0 := Lib.hid hB1
  have HW := Lib.hid hW
  have HN := Lib.hid (Nat.ne_of_lt hlt1)
  clear hB0 hW hL1 hB1 hlt1 hf
  go_wp2_with fail
  refine HS.out.mono ?_
  rintro e w2 ⟨rfl, ⟨a1, b1, p1, h1⟩, hf, hz⟩
  have c0 := h1.at_ 0 _ rfl
  have c1 := h1.at_ 1 _ rfl
  have c2 := h1.at_ 2 _ rfl
  have hB2 := HB0.out.fr hf (by have := HN.out; simp only [List.mem_singleton]; exact this)
  obtain ⟨d0, d1, d2, f0, f1, f2⟩ := timeFacts hB2
  have hB3 := Lib.hid (((hB2.set_ 0 (.int .u64 a1)).set_ 1 (.int .i64 b1)).set_ 2 (.pointer p1))
  have hF := Lib.hid (((HW.out.alloc _).trans hf (by simp; have := HW.out.size; omega)))
  clear h1 hB2 hf hz
  go_wp2_with fail
  refine bodyPost_ret (v := .agg (tcells a1 b1 p1)) (results_cell_row rfl _ _ _ _ _ _ _ rfl hB3.out rfl rfl rfl) rfl ?_
  exact ⟨_, _, _, rfl, newT hF.out⟩
end Go.Proofs.YtalgnjkdoaaacaaGreatDoor

/- Package time, part 3: UTC, In, FixedZone, Round, timeZone, msDosTimeToTime. -/
namespace Go.Proofs.YtalgnjkdoaaacaaGreatDoor
open Go Go.RowKit
abbrev t0cells : Array Value := #[.int .u64 0, .int .i64 0, .pointer none]
theorem Blk.new1 (w : World) (o : Obj) (t : TypeId) (cs : Array Value) : Blk ((w.alloc o).alloc (.cells cs t)) (w.heap.size + 1) t cs := by
  have h := Blk.new (w.alloc o) t cs
  rwa [show (w.alloc o).heap.size = w.heap.size + 1 by simp] at h
theorem Blk.new2 (w : World) (o o' : Obj) (t : TypeId) (cs : Array Value) : Blk (((w.alloc o).alloc o').alloc (.cells cs t)) (w.heap.size + 2) t cs := by
  have h := Blk.new1 (w.alloc o) o' t cs
  rwa [show (w.alloc o).heap.size + 1 = w.heap.size + 2 by simp] at h
set_option maxRecDepth 100000 in
set_option maxHeartbeats 1000000 in
theorem tMsDos (d t : Int) (w : World) : Calls Tryz.prog 122 #[.int .u16 d, .int .u16 t] w (RetT w) := by
  have HR := Lib.hid ((Blk.new w 74 t0cells).alloc (.cells utcCells 291))
  have HD := Lib.hid (fun y m dd h mi s => tDate y m dd h mi s 0 (w.heap.size + 1) ((w.alloc (.cells t0cells 74)).alloc (.cells utcCells 291)) (Blk.new1 _ _ _ _))
  go_enter Tryz.func122, Tryz.ntmps122
  go_wp2_with (first
    | (go_at_call 119; refine (tUTC _).mono ?_; rintro e w1 ⟨rfl, rfl⟩)
    | fail)
  refine (HD.out _ _ _ _ _ _).mono ?_
  rintro e w2 ⟨a, b, p, rfl, hf⟩
  have hB2 := HR.out.fr hf (by simp)
  obtain ⟨d0, d1, d2, f0, f1, f2⟩ := timeFacts hB2
  have hB3 := Lib.hid (((hB2.set_ 0 (.int .u64 a)).set_ 1 (.int .i64 b)).set_ 2 (.pointer p))
  have hF := Lib.hid ((((Fr.refl [] w).alloc _).alloc _).trans hf (by simp))
  clear hf hB2
  go_wp2_with fail
  refine bodyPost_ret (v := .agg (tcells a b p)) (results_cell_row rfl _ _ _ _ _ _ _ rfl hB3.out rfl rfl rfl) rfl ?_
  exact ⟨_, _, _, rfl, newT hF.out⟩
/-- A copied time at g is set to a place, and handed back through a block of its own. -/
theorem setRes {w w1 w2 : World} {g r : Nat} (h0 : Fr [] w w1) (hg : w.heap.size ≤ g) (hr : w.heap.size ≤ r) (hf : Fr [g] w1 w2)
    (v0 v1 v2 : Value) : Fr [] w (((w2.setCell ⟨r, 0, none⟩ v0).setCell ⟨r, 1, none⟩ v1).setCell ⟨r, 2, none⟩ v2) :=
  (((h0.trans hf (by simp; exact hg)).setCell (.inr hr) _).setCell (.inr hr) _).setCell (.inr hr) _
set_option maxRecDepth 100000 in
set_option maxHeartbeats 1000000 in
theorem tToUTC (a b : Int) (p : Option Addr) (w : World) : Calls Tryz.prog 123 #[.agg (tcells a b p)] w (RetT w) := by
  have hT := ((Blk.new w 74 (tcells a b p)).alloc (.cells t0cells 74)).alloc (.cells utcCells 291)
  have hR := (Blk.new1 w (.cells (tcells a b p) 74) 74 t0cells).alloc (.cells utcCells 291)
  have hL := Blk.new2 w (.cells (tcells a b p) 74) (.cells t0cells 74) 291 utcCells
  have HS := Lib.hid (tsetLoc w.heap.size (w.heap.size + 2) true a b p _ hT (hL.at_ 0 _ rfl))
  have HR := Lib.hid hR
  clear hT hL hR
  go_enter Tryz.func123, Tryz.ntmps123
  go_wp2_with (go_at_call 119; refine (tUTC _).mono ?_; rintro e w1 ⟨rfl, rfl⟩)
  refine HS.out.mono ?_
  rintro e w2 ⟨rfl, ⟨a1, b1, p1, h1⟩, hf, hz⟩
  have hB2 := HR.out.fr hf (by simp)
  obtain ⟨d0, d1, d2, f0, f1, f2⟩ := timeFacts hB2
  obtain ⟨c0, c1, c2, -, -, -⟩ := timeFacts h1
  have hB3 := Lib.hid (((hB2.set_ 0 (.int .u64 a1)).set_ 1 (.int .i64 b1)).set_ 2 (.pointer p1))
  have hF := Lib.hid (hf)
  clear h1 hB2 hf hz
  go_wp2_with fail
  refine bodyPost_ret (v := .agg (tcells a1 b1 p1)) (results_cell_row rfl _ _ _ _ _ _ _ rfl hB3.out rfl rfl rfl) rfl ?_
  exact ⟨_, _, _, rfl, setRes ((((Fr.refl [] w).alloc _).alloc _).alloc _) (by simp) (by simp) hF.out _ _ _⟩
set_option maxRecDepth 100000 in
set_option maxHeartbeats 1000000 in
theorem tIn (a b : Int) (p : Option Addr) (l : Nat) (w : World) (hl : w.cell? ⟨l, 0, none⟩ = some (.bool false)) (hlt : l < w.heap.size) :
    Calls Tryz.prog 124 #[.agg (tcells a b p), .pointer (some ⟨l, 0, none⟩)] w (RetT w) := by
  have hT := (Blk.new w 74 (tcells a b p)).alloc (.cells t0cells 74)
  have hR := Blk.new1 w (.cells (tcells a b p) 74) 74 t0cells
  have hL := ((((Fr.refl [] w).alloc (.cells (tcells a b p) 74)).alloc (.cells t0cells 74)).cell (p := ⟨l, 0, none⟩) hlt (by simp)).trans hl
  have HS := Lib.hid (tsetLoc w.heap.size l false a b p _ hT hL)
  have HR := Lib.hid hR
  clear hT hL hR
  go_enter Tryz.func124, Tryz.ntmps124
  go_wp2_with fail
  refine HS.out.mono ?_
  rintro e w2 ⟨rfl, ⟨a1, b1, p1, h1⟩, hf, hz⟩
  have hB2 := HR.out.fr hf (by simp)
  obtain ⟨d0, d1, d2, f0, f1, f2⟩ := timeFacts hB2
  obtain ⟨c0, c1, c2, -, -, -⟩ := timeFacts h1
  have hB3 := Lib.hid (((hB2.set_ 0 (.int .u64 a1)).set_ 1 (.int .i64 b1)).set_ 2 (.pointer p1))
  have hF := Lib.hid (hf)
  clear h1 hB2 hf hz
  go_wp2_with fail
  refine bodyPost_ret (v := .agg (tcells a1 b1 p1)) (results_cell_row rfl _ _ _ _ _ _ _ rfl hB3.out rfl rfl rfl) rfl ?_
  exact ⟨_, _, _, rfl, setRes (((Fr.refl [] w).alloc _).alloc _) (by simp) (by simp) hF.out _ _ _⟩
def RetBq (w : World) (e : Ending) (w' : World) : Prop := ∃ z : Bool, e = .returned (.bool z) ∧ w = w'
set_option maxRecDepth 100000 in
theorem tless (x y : Int) (w : World) : Calls Tryz.prog 162 #[.int .i64 x, .int .i64 y] w (RetBq w) := by
  go_enter Tryz.func162, Tryz.ntmps162
  go_wp2
  all_goals
    go_ret
    exact ⟨_, rfl, rfl⟩
set_option maxRecDepth 100000 in
set_option maxHeartbeats 1000000 in
theorem tRound (x : Int) (w : World) : Calls Tryz.prog 151 #[.int .i64 x, .int .i64 900000000000] w (RetI .i64 w) := by
  go_enter Tryz.func151, Tryz.ntmps151
  go_wp2_with (go_at_call 162; refine (tless _ _ _).mono ?_; rintro e w1 ⟨z, rfl, rfl⟩)
  all_goals
    go_ret
    exact ⟨_, rfl, rfl⟩
set_option maxRecDepth 100000 in
set_option maxHeartbeats 1000000 in
theorem tsubMono (x y : Int) (w : World) : Calls Tryz.prog 153 #[.int .i64 x, .int .i64 y] w (RetI .i64 w) := by
  go_enter Tryz.func153, Tryz.ntmps153
  go_wp2
  all_goals
    go_ret
    exact ⟨_, rfl, rfl⟩
set_option maxRecDepth 100000 in
set_option maxHeartbeats 1000000 in
theorem tIsZero (a b : Int) (p : Option Addr) (w : World) : Calls Tryz.prog 71 #[.agg (tcells a b p)] w (RetB w) := by
  go_enter Tryz.func71, Tryz.ntmps71
  go_wp2
  all_goals
    go_ret
    exact ⟨_, rfl, (Fr.refl [] w).alloc _⟩
end Go.Proofs.YtalgnjkdoaaacaaGreatDoor

/- Package time, part 4: addSec, Add, Equal, Before. -/
namespace Go.Proofs.YtalgnjkdoaaacaaGreatDoor
open Go Go.RowKit
set_option maxRecDepth 100000 in
set_option maxHeartbeats 1000000 in
theorem taddSec (g : Nat) (a b x : Int) (p : Option Addr) (w : World) (h : Blk w g 74 (tcells a b p)) : Calls Tryz.prog 164 #[.pointer (some ⟨g, 0, none⟩), .int .i64 x] w (SetT g w) := by
  have HS := Lib.hid (tstripMono g a b p w h)
  obtain ⟨c0, c1, c2, f0, f1, f2⟩ := timeFacts h
  have H := Lib.hid h
  clear h
  go_enter Tryz.func164, Tryz.ntmps164
  go_wp2_with (first
    | (go_at_call 161; refine HS.out.mono ?_; rintro e w1 ⟨rfl, ⟨a1, b1, p1, h1⟩, hf, hz⟩; obtain ⟨c0, c1, c2, f0, f1, f2⟩ := timeFacts h1; have H1 := Lib.hid h1; have HF := Lib.hid hf; have HZ := Lib.hid hz; clear h1 hf hz)
    | fail)
  all_goals (first | go_end0 | (refine bodyPost_ret (results_none rfl _ _ _) rfl ?_))
  all_goals (first
    | exact ⟨rfl, ⟨_, _, p, H.out.set_ 0 _⟩, (Fr.refl _ w).setCell (.inl (by simp)) _, by simp⟩
    | exact ⟨rfl, ⟨_, _, p, H.out.set_ 1 _⟩, (Fr.refl _ w).setCell (.inl (by simp)) _, by simp⟩
    | exact ⟨rfl, ⟨_, _, _, H1.out.set_ 1 _⟩, HF.out.setCell (.inl (by simp)) _, by simpa using HZ.out⟩)
/-- Setting one of a time's cells. -/
theorem SetT.put {g : Nat} {w w1 : World} {a b : Int} {p : Option Addr} (h : Blk w1 g 74 (tcells a b p)) (hf : Fr [g] w w1) (hz : w1.heap.size = w.heap.size) (z : Int) :
    (∃ (a b : Int) (p : Option Addr), Blk (w1.setCell ⟨g, 0, none⟩ (.int .u64 z)) g 74 (tcells a b p)) ∧ Fr [g] w (w1.setCell ⟨g, 0, none⟩ (.int .u64 z)) :=
  ⟨⟨_, _, p, h.set_ 0 _⟩, hf.setCell (.inl (by simp)) _⟩
set_option maxRecDepth 100000 in
/-- The result's block, into which a time was stored, is handed back. -/
theorem retT3 {fn : Func} {q : Tmp} {act : Act} {w w1 : World} {r : Nat} {x y : Int} {p : Option Addr} (h : fn.results = #[.cell q 74]) (hp : act.tmps.getD q undef = .pointer (some ⟨r, 0, none⟩)) (hd : act.defers = [])
    (hB : Blk w1 r 74 t0cells) (hF : Fr [] w w1) (hr : w.heap.size ≤ r) :
    bodyPost Tryz.prog fn (RetT w) .ret act (((w1.setCell ⟨r, 0, none⟩ (.int .u64 x)).setCell ⟨r, 1, none⟩ (.int .i64 y)).setCell ⟨r, 2, none⟩ (.pointer p)) :=
  bodyPost_ret (v := .agg (tcells x y p)) (results_cell_row h _ _ _ _ _ _ _ hp (((hB.set_ 0 (.int .u64 x)).set_ 1 (.int .i64 y)).set_ 2 (.pointer p)) rfl rfl rfl) hd
    ⟨_, _, _, rfl, ((hF.setCell (.inr hr) _).setCell (.inr hr) _).setCell (.inr hr) _⟩
set_option maxRecDepth 100000 in
set_option maxHeartbeats 2000000 in
theorem tAdd (a b x : Int) (p : Option Addr) (w : World) : Calls Tryz.prog 155 #[.agg (tcells a b p), .int .i64 x] w (RetT w) := by
  have hT : ∀ z, Blk ((w.alloc (.cells (tcells z b p) 74)).alloc (.cells t0cells 74)) w.heap.size 74 (tcells z b p) := fun z => (Blk.new w 74 (tcells z b p)).alloc (.cells t0cells 74)
  have HN := Lib.hid (tnsec _ a b p _ (hT a))
  have HA := Lib.hid (fun z x => taddSec _ z b x p _ (hT z))
  have HR := Lib.hid (fun z => Blk.new1 w (.cells (tcells z b p) 74) 74 t0cells)
  clear hT
  go_enter Tryz.func155, Tryz.ntmps155
  go_wp2_with (first
    | (go_at_call 154; refine HN.out.mono ?_; rintro e w1 ⟨z, rfl, rfl⟩)
    | (go_at_call 164; refine (HA.out _ _).mono ?_; rintro e w1 ⟨rfl, ⟨a1, b1, p1, h1⟩, hf, hz⟩; obtain ⟨c0, c1, c2, f0, f1, f2⟩ := timeFacts h1; obtain ⟨d0, d1, d2, g0, g1, g2⟩ := timeFacts ((HR.out _).fr hf (by simp)); have HB := Lib.hid ((HR.out _).fr hf (by simp)); have H1 := Lib.hid h1; have HF := Lib.hid ((((Fr.refl [] w).alloc _).alloc _).trans hf (by simp)); have HSM := Lib.hid (tstripMono _ a1 b1 p1 _ h1); clear h1 hf hz)
    | (go_at_call 161; refine HSM.out.mono ?_; rintro e w2 ⟨rfl, ⟨a2, b2, p2, h2⟩, hf2, hz2⟩; obtain ⟨c0, c1, c2, f0, f1, f2⟩ := timeFacts h2; obtain ⟨d0, d1, d2, g0, g1, g2⟩ := timeFacts (HB.out.fr hf2 (by simp)); have HB := Lib.hid (HB.out.fr hf2 (by simp)); have HF := Lib.hid (HF.out.trans hf2 (by simp)); clear h2 hf2 hz2)
    | fail)
  all_goals
    refine retT3 rfl rfl rfl ?_ ?_ (by simp)
    · first | exact HB.out | exact HB.out.far (by simp) _
    · first | exact HF.out | exact HF.out.setCell (.inr (by simp)) _
end Go.Proofs.YtalgnjkdoaaacaaGreatDoor

/- Package time, part 5: Equal, Before, Sub. -/
namespace Go.Proofs.YtalgnjkdoaaacaaGreatDoor
open Go Go.RowKit
set_option maxRecDepth 100000 in
set_option maxHeartbeats 2000000 in
theorem tEqual (a b c d : Int) (p q : Option Addr) (w : World) : Calls Tryz.prog 156 #[.agg (tcells a b p), .agg (tcells c d q)] w (RetB w) := by
  have h1 := (Blk.new w 74 (tcells a b p)).alloc (.cells (tcells c d q) 74)
  have h2 := Blk.new1 w (.cells (tcells a b p) 74) 74 (tcells c d q)
  have S1 := Lib.hid (tsec _ _ _ _ _ h1)
  have S2 := Lib.hid (tsec _ _ _ _ _ h2)
  have N1 := Lib.hid (tnsec _ _ _ _ _ h1)
  have N2 := Lib.hid (tnsec _ _ _ _ _ h2)
  clear h1 h2
  go_enter Tryz.func156, Tryz.ntmps156
  go_wp2_with (first
    | (go_at_call 140; (with_reducible first | refine S1.out.mono ?_ | refine S2.out.mono ?_); rintro e w1 ⟨z, rfl, rfl⟩)
    | (go_at_call 154; (with_reducible first | refine N1.out.mono ?_ | refine N2.out.mono ?_); rintro e w1 ⟨z, rfl, rfl⟩)
    | fail)
  all_goals
    go_ret
    exact ⟨_, rfl, ((Fr.refl [] w).alloc _).alloc _⟩
set_option maxRecDepth 100000 in
set_option maxHeartbeats 2000000 in
theorem tBefore (a b c d : Int) (p q : Option Addr) (w : World) : Calls Tryz.prog 157 #[.agg (tcells a b p), .agg (tcells c d q)] w (RetB w) := by
  have h1 := (Blk.new w 74 (tcells a b p)).alloc (.cells (tcells c d q) 74)
  have h2 := Blk.new1 w (.cells (tcells a b p) 74) 74 (tcells c d q)
  have S1 := Lib.hid (tsec _ _ _ _ _ h1)
  have S2 := Lib.hid (tsec _ _ _ _ _ h2)
  have N1 := Lib.hid (tnsec _ _ _ _ _ h1)
  have N2 := Lib.hid (tnsec _ _ _ _ _ h2)
  clear h1 h2
  go_enter Tryz.func157, Tryz.ntmps157
  go_wp2_with (first
    | (go_at_call 140; (with_reducible first | refine S1.out.mono ?_ | refine S2.out.mono ?_); rintro e w1 ⟨z, rfl, rfl⟩)
    | (go_at_call 154; (with_reducible first | refine N1.out.mono ?_ | refine N2.out.mono ?_); rintro e w1 ⟨z, rfl, rfl⟩)
    | fail)
  all_goals
    go_ret
    exact ⟨_, rfl, ((Fr.refl [] w).alloc _).alloc _⟩
end Go.Proofs.YtalgnjkdoaaacaaGreatDoor

/- Package time, part 6: FixedZone, timeZone. -/
namespace Go.Proofs.YtalgnjkdoaaacaaGreatDoor
open Go Go.RowKit
/-- A new place that is not UTC. -/
def RetLoc (w : World) (e : Ending) (w' : World) : Prop := ∃ l : Nat, e = .returned (.pointer (some ⟨l, 0, none⟩)) ∧ w.heap.size ≤ l ∧ l < w'.heap.size ∧ w'.cell? ⟨l, 0, none⟩ = some (.bool false) ∧ Fr [] w w'
set_option maxRecDepth 100000 in
set_option maxHeartbeats 1000000 in
theorem tfixedZone (x : Int) (w : World) : Calls Tryz.prog 163 #[.string ⟨#[]⟩, .int .i64 x] w (RetLoc w) := by
  go_enter Tryz.func163, Tryz.ntmps163
  go_wp2_with fail
  go_ret
  exact ⟨_, rfl, by omega, by simp, (Blk.new2 w _ _ _ _).at_ 0 _ rfl, (((Fr.refl [] w).alloc _).alloc _).alloc _⟩
set_option maxRecDepth 100000 in
set_option maxHeartbeats 1000000 in
theorem tFixedZone (x : Int) (w : World) : Calls Tryz.prog 152 #[.string ⟨#[]⟩, .int .i64 x] w (RetLoc w) := by
  go_enter Tryz.func152, Tryz.ntmps152
  go_wp2_with fail
  refine (tfixedZone _ _).mono ?_
  rintro e w1 ⟨l, rfl, h0, h1, h2, hf⟩
  go_wp2_with fail
  go_ret
  exact ⟨l, rfl, h0, h1, h2, hf⟩
set_option maxRecDepth 100000 in
set_option maxHeartbeats 1000000 in
theorem ttimeZone (x : Int) (w : World) : Calls Tryz.prog 125 #[.int .i64 x] w (RetLoc w) := by
  go_enter Tryz.func125, Tryz.ntmps125
  go_wp2_with (first
    | (go_at_call 151; refine (tRound _ _).mono ?_; rintro e w1 ⟨z, rfl, rfl⟩)
    | (go_at_call 152; refine (tFixedZone _ _).mono ?_; rintro e w1 ⟨l, rfl, h0, h1, h2, hf⟩)
    | fail)
  all_goals
    go_ret
    exact ⟨l, rfl, h0, h1, h2, hf⟩
end Go.Proofs.YtalgnjkdoaaacaaGreatDoor

/- Package time, part 7: Sub. -/
namespace Go.Proofs.YtalgnjkdoaaacaaGreatDoor
open Go Go.RowKit
def RetIn64 (w : World) (e : Ending) (w' : World) : Prop := ∃ z : Int, e = .returned (.int .i64 z) ∧ Fr [] w w'
theorem keepT {w w1 w2 : World} {a b c d : Int} {p q : Option Addr} (h : w1.cell? ⟨w.heap.size, 0, none⟩ = some (.int .u64 a) ∧ w1.cell? ⟨w.heap.size, 1, none⟩ = some (.int .i64 b) ∧ w1.cell? ⟨w.heap.size, 2, none⟩ = some (.pointer p) ∧ w1.cell? ⟨w.heap.size + 1, 0, none⟩ = some (.int .u64 c) ∧ w1.cell? ⟨w.heap.size + 1, 1, none⟩ = some (.int .i64 d) ∧ w1.cell? ⟨w.heap.size + 1, 2, none⟩ = some (.pointer q) ∧ Fr [] w w1 ∧ w.heap.size + 2 ≤ w1.heap.size) (hf : Fr [] w1 w2) :
    w2.cell? ⟨w.heap.size, 0, none⟩ = some (.int .u64 a) ∧ w2.cell? ⟨w.heap.size, 1, none⟩ = some (.int .i64 b) ∧ w2.cell? ⟨w.heap.size, 2, none⟩ = some (.pointer p) ∧ w2.cell? ⟨w.heap.size + 1, 0, none⟩ = some (.int .u64 c) ∧ w2.cell? ⟨w.heap.size + 1, 1, none⟩ = some (.int .i64 d) ∧ w2.cell? ⟨w.heap.size + 1, 2, none⟩ = some (.pointer q) ∧ Fr [] w w2 ∧ w.heap.size + 2 ≤ w2.heap.size := by
  obtain ⟨c0, c1, c2, e0, e1, e2, h2, h3⟩ := h
  have hk : ∀ j i v, j < w.heap.size + 2 → w1.cell? ⟨j, i, none⟩ = some v → w2.cell? ⟨j, i, none⟩ = some v := fun j i v hj h => (hf.cell (p := ⟨j, i, none⟩) (by show j < _; omega) (by simp)).trans h
  exact ⟨hk _ _ _ (by omega) c0, hk _ _ _ (by omega) c1, hk _ _ _ (by omega) c2, hk _ _ _ (by omega) e0, hk _ _ _ (by omega) e1, hk _ _ _ (by omega) e2, h2.trans hf (by simp), Nat.le_trans h3 hf.size⟩
set_option maxRecDepth 100000 in
set_option maxHeartbeats 2000000 in
theorem tSub (a b c d : Int) (p q : Option Addr) (w : World) : Calls Tryz.prog 126 #[.agg (tcells a b p), .agg (tcells c d q)] w (RetIn64 w) := by
  have h1 := (Blk.new w 74 (tcells a b p)).alloc (.cells (tcells c d q) 74)
  have h2 := Blk.new1 w (.cells (tcells a b p) 74) 74 (tcells c d q)
  have S1 := Lib.hid (tsec _ _ _ _ _ h1)
  have S2 := Lib.hid (tsec _ _ _ _ _ h2)
  have N1 := Lib.hid (tnsec _ _ _ _ _ h1)
  have N2 := Lib.hid (tnsec _ _ _ _ _ h2)
  have hF : Fr [] w ((w.alloc (.cells (tcells a b p) 74)).alloc (.cells (tcells c d q) 74)) ∧ w.heap.size + 2 ≤ ((w.alloc (.cells (tcells a b p) 74)).alloc (.cells (tcells c d q) 74)).heap.size := ⟨((Fr.refl [] w).alloc _).alloc _, by simp⟩
  obtain ⟨c0, c1, c2, -, -, -⟩ := timeFacts h1
  obtain ⟨e0, e1, e2, -, -, -⟩ := timeFacts h2
  clear h1 h2
  go_enter Tryz.func126, Tryz.ntmps126
  go_wp2_with (first
    | (go_at_call 153; refine (tsubMono _ _ _).mono ?_; rintro e w1 ⟨z, rfl, rfl⟩)
    | (go_at_call 140; (with_reducible first | refine S1.out.mono ?_ | refine S2.out.mono ?_); rintro e w1 ⟨z, rfl, rfl⟩)
    | (go_at_call 154; (with_reducible first | refine N1.out.mono ?_ | refine N2.out.mono ?_); rintro e w1 ⟨z, rfl, rfl⟩)
    | fail)
  · go_ret
    exact ⟨_, rfl, hF.1⟩
  generalize hw3 : ((w.alloc (.cells (tcells a b p) 74)).alloc (.cells (tcells c d q) 74)) = w3 at *
  clear S1 S2 N1 N2 hw3
  go_region_held3 (fun w' => w'.cell? ⟨w.heap.size, 0, none⟩ = some (.int .u64 a) ∧ w'.cell? ⟨w.heap.size, 1, none⟩ = some (.int .i64 b) ∧ w'.cell? ⟨w.heap.size, 2, none⟩ = some (.pointer p) ∧ w'.cell? ⟨w.heap.size + 1, 0, none⟩ = some (.int .u64 c) ∧ w'.cell? ⟨w.heap.size + 1, 1, none⟩ = some (.int .i64 d) ∧ w'.cell? ⟨w.heap.size + 1, 2, none⟩ = some (.pointer q) ∧ Fr [] w w' ∧ w.heap.size + 2 ≤ w'.heap.size)
    ((first | exact kk | exact ⟨c0, c1, c2, e0, e1, e2, hF.1.drew, hF.2⟩ | assumption))
    ((first
      | (go_at_call 155; refine (tAdd _ _ _ _ _).mono ?_; rintro e w2 ⟨a1, b1, p1, rfl, hf⟩; have kk := keepT (by assumption) hf)
      | (go_at_call 156; refine (tEqual _ _ _ _ _ _ _).mono ?_; rintro e w2 ⟨z, rfl, hf⟩; have kk := keepT (by assumption) hf)))
  obtain ⟨k0, k1, k2, l0, l1, l2, hG, -⟩ := kk
  have HG := Lib.hid hG
  clear hG hF c0 c1 c2 e0 e1 e2
  go_wp2_with (first
    | (go_at_call 157; refine (tBefore _ _ _ _ _ _ _).mono ?_; rintro e w4 ⟨z, rfl, hf4⟩)
    | fail)
  all_goals
    go_ret
    first
    | exact ⟨_, rfl, HG.out.trans hf4 (by simp)⟩
    | exact ⟨_, rfl, HG.out⟩
end Go.Proofs.YtalgnjkdoaaacaaGreatDoor

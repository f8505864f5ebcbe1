/- Package time, part 2: Date, UTC, In, FixedZone, Round, Add, Equal, Before, Sub. -/
import Derived.Test.YtcodhjoiikdhmaaGreatDoorQt
import Derived.Deep.RegionHeld3
set_option linter.unusedVariables false
set_option linter.unusedSimpArgs false
namespace Go.Proofs.YtcodhjoiikdhmaaGreatDoor
open Go Go.RowKit
set_option maxRecDepth 100000 in
set_option maxHeartbeats 4000000 in
theorem tDate (y m d h mi s n : Int) (l : Nat) (w : World) (hl : Blk w l 192 utcCells) :
    Calls Tryz.prog 78 #[.int .i64 y, .int .i64 m, .int .i64 d, .int .i64 h, .int .i64 mi, .int .i64 s, .int .i64 n, .pointer (some ⟨l, 0, none⟩)] w (RetT w) := by
  have HL := Lib.hid (fun x => tlookup l x _ (hl.alloc (.cells #[.int .u64 0, .int .i64 0, .pointer none] 85)))
  have hlt := hl.lt
  have HB := Lib.hid hl
  clear hl
  go_enter Tryz.func78, Tryz.ntmps78
  go_wp2_with (first
    | (go_at_call 94; refine (tnorm _ _ _ (by decide) _).mono ?_; rintro e w1 ⟨y1, z1, rfl, rfl⟩)
    | (go_at_call 95; refine (tdays _ _ _ _).mono ?_; rintro e w1 ⟨y1, rfl, rfl⟩)
    | (go_at_call 96; refine (HL.out _).mono ?_; rintro e w1 ⟨⟨y1, z1, rfl⟩, rfl⟩)
    | fail)
  refine (tunixTime _ _ _).mono ?_
  rintro e w1 ⟨a, b, p, rfl, hf⟩
  have hB0 := (Blk.new w 85 #[.int .u64 0, .int .i64 0, .pointer none]).fr hf (by simp)
  have hW := ((Fr.refl [] w).alloc _).trans hf (by simp)
  have hL1 := ((HB.out.alloc (.cells #[.int .u64 0, .int .i64 0, .pointer none] 85)).fr hf (by simp)).alloc (.cells (tcells a b p) 85)
  have hB1 := hB0.alloc (.cells (tcells a b p) 85)
  have hlt1 := hB0.lt
  have HS := Lib.hid (tsetLoc w1.heap.size l true a b p _ (Blk.new w1 _ _) (hL1.at_ 0 _ rfl))
  have HB0 := Lib.hid hB1
  have HW := Lib.hid hW
  have HN := Lib.hid (Nat.ne_of_lt hlt1)
  clear hB0 hW hL1 hB1 hlt1 hf
  go_wp2_with fail
  refine HS.out.mono ?_
  rintro e w2 ⟨rfl, ⟨a1, b1, p1, h1⟩, hf, hz⟩
  have c0 := h1.at_ 0 _ rfl
  have c1 := h1.at_ 1 _ rfl
  have c2 := h1.at_ 2 _ rfl
  have hB2 := HB0.out.fr hf (by have := HN.out; simp only [List.mem_singleton]; exact this)
  obtain ⟨d0, d1, d2, f0, f1, f2⟩ := timeFacts hB2
  have hB3 := Lib.hid (((hB2.set_ 0 (.int .u64 a1)).set_ 1 (.int .i64 b1)).set_ 2 (.pointer p1))
  have hF := Lib.hid (((HW.out.alloc _).trans hf (by simp; have := HW.out.size; omega)))
  clear h1 hB2 hf hz
  go_wp2_with fail
  refine bodyPost_ret (v := .agg (tcells a1 b1 p1)) (results_cell_row rfl _ _ _ _ _ _ _ rfl hB3.out rfl rfl rfl) rfl ?_
  exact ⟨_, _, _, rfl, newT hF.out⟩
end Go.Proofs.YtcodhjoiikdhmaaGreatDoor

/- Package time, part 3: UTC, In, FixedZone, Round, timeZone, msDosTimeToTime. -/
namespace Go.Proofs.YtcodhjoiikdhmaaGreatDoor
open Go Go.RowKit
abbrev t0cells : Array Value := #[.int .u64 0, .int .i64 0, .pointer none]
theorem Blk.new1 (w : World) (o : Obj) (t : TypeId) (cs : Array Value) : Blk ((w.alloc o).alloc (.cells cs t)) (w.heap.size + 1) t cs := by
  have h := Blk.new (w.alloc o) t cs
  rwa [show (w.alloc o).heap.size = w.heap.size + 1 by simp] at h
theorem Blk.new2 (w : World) (o o' : Obj) (t : TypeId) (cs : Array Value) : Blk (((w.alloc o).alloc o').alloc (.cells cs t)) (w.heap.size + 2) t cs := by
  have h := Blk.new1 (w.alloc o) o' t cs
  rwa [show (w.alloc o).heap.size + 1 = w.heap.size + 2 by simp] at h
set_option maxRecDepth 100000 in
set_option maxHeartbeats 1000000 in
theorem tMsDos (d t : Int) (w : World) : Calls Tryz.prog 83 #[.int .u16 d, .int .u16 t] w (RetT w) := by
  have HR := Lib.hid ((Blk.new w 85 t0cells).alloc (.cells utcCells 192))
  have HD := Lib.hid (fun y m dd h mi s => tDate y m dd h mi s 0 (w.heap.size + 1) ((w.alloc (.cells t0cells 85)).alloc (.cells utcCells 192)) (Blk.new1 _ _ _ _))
  go_enter Tryz.func83, Tryz.ntmps83
  go_wp2_with (first
    | (go_at_call 79; refine (tUTC _).mono ?_; rintro e w1 ⟨rfl, rfl⟩)
    | fail)
  refine (HD.out _ _ _ _ _ _).mono ?_
  rintro e w2 ⟨a, b, p, rfl, hf⟩
  have hB2 := HR.out.fr hf (by simp)
  obtain ⟨d0, d1, d2, f0, f1, f2⟩ := timeFacts hB2
  have hB3 := Lib.hid (((hB2.set_ 0 (.int .u64 a)).set_ 1 (.int .i64 b)).set_ 2 (.pointer p))
  have hF := Lib.hid ((((Fr.refl [] w).alloc _).alloc _).trans hf (by simp))
  clear hf hB2
  go_wp2_with fail
  refine bodyPost_ret (v := .agg (tcells a b p)) (results_cell_row rfl _ _ _ _ _ _ _ rfl hB3.out rfl rfl rfl) rfl ?_
  exact ⟨_, _, _, rfl, newT hF.out⟩
/-- A copied time at g is set to a place, and handed back through a block of its own. -/
theorem setRes {w w1 w2 : World} {g r : Nat} (h0 : Fr [] w w1) (hg : w.heap.size ≤ g) (hr : w.heap.size ≤ r) (hf : Fr [g] w1 w2)
    (v0 v1 v2 : Value) : Fr [] w (((w2.setCell ⟨r, 0, none⟩ v0).setCell ⟨r, 1, none⟩ v1).setCell ⟨r, 2, none⟩ v2) :=
  (((h0.trans hf (by simp; exact hg)).setCell (.inr hr) _).setCell (.inr hr) _).setCell (.inr hr) _
set_option maxRecDepth 100000 in
set_option maxHeartbeats 1000000 in
theorem tToUTC (a b : Int) (p : Option Addr) (w : World) : Calls Tryz.prog 85 #[.agg (tcells a b p)] w (RetT w) := by
  have hT := ((Blk.new w 85 (tcells a b p)).alloc (.cells t0cells 85)).alloc (.cells utcCells 192)
  have hR := (Blk.new1 w (.cells (tcells a b p) 85) 85 t0cells).alloc (.cells utcCells 192)
  have hL := Blk.new2 w (.cells (tcells a b p) 85) (.cells t0cells 85) 192 utcCells
  have HS := Lib.hid (tsetLoc w.heap.size (w.heap.size + 2) true a b p _ hT (hL.at_ 0 _ rfl))
  have HR := Lib.hid hR
  clear hT hL hR
  go_enter Tryz.func85, Tryz.ntmps85
  go_wp2_with (go_at_call 79; refine (tUTC _).mono ?_; rintro e w1 ⟨rfl, rfl⟩)
  refine HS.out.mono ?_
  rintro e w2 ⟨rfl, ⟨a1, b1, p1, h1⟩, hf, hz⟩
  have hB2 := HR.out.fr hf (by simp)
  obtain ⟨d0, d1, d2, f0, f1, f2⟩ := timeFacts hB2
  obtain ⟨c0, c1, c2, -, -, -⟩ := timeFacts h1
  have hB3 := Lib.hid (((hB2.set_ 0 (.int .u64 a1)).set_ 1 (.int .i64 b1)).set_ 2 (.pointer p1))
  have hF := Lib.hid (hf)
  clear h1 hB2 hf hz
  go_wp2_with fail
  refine bodyPost_ret (v := .agg (tcells a1 b1 p1)) (results_cell_row rfl _ _ _ _ _ _ _ rfl hB3.out rfl rfl rfl) rfl ?_
  exact ⟨_, _, _, rfl, setRes ((((Fr.refl [] w).alloc _).alloc _).alloc _) (by simp) (by simp) hF.out _ _ _⟩
set_option maxRecDepth 100000 in
set_option maxHeartbeats 1000000 in
theorem tIn (a b : Int) (p : Option Addr) (l : Nat) (w : World) (hl : w.cell? ⟨l, 0, none⟩ = some (.bool false)) (hlt : l < w.heap.size) :
    Calls Tryz.prog 86 #[.agg (tcells a b p), .pointer (some ⟨l, 0, none⟩)] w (RetT w) := by
  have hT := (Blk.new w 85 (tcells a b p)).alloc (.cells t0cells 85)
  have hR := Blk.new1 w (.cells (tcells a b p) 85) 85 t0cells
  have hL := ((((Fr.refl [] w).alloc (.cells (tcells a b p) 85)).alloc (.cells t0cells 85)).cell (p := ⟨l, 0, none⟩) hlt (by simp)).trans hl
  have HS := Lib.hid (tsetLoc w.heap.size l false a b p _ hT hL)
  have HR := Lib.hid hR
  clear hT hL hR
  go_enter Tryz.func86, Tryz.ntmps86
  go_wp2_with fail
  refine HS.out.mono ?_
  rintro e w2 ⟨rfl, ⟨a1, b1, p1, h1⟩, hf, hz⟩
  have hB2 := HR.out.fr hf (by simp)
  obtain ⟨d0, d1, d2, f0, f1, f2⟩ := timeFacts hB2
  obtain ⟨c0, c1, c2, -, -, -⟩ := timeFacts h1
  have hB3 := Lib.hid (((hB2.set_ 0 (.int .u64 a1)).set_ 1 (.int .i64 b1)).set_ 2 (.pointer p1))
  have hF := Lib.hid (hf)
  clear h1 hB2 hf hz
  go_wp2_with fail
  refine bodyPost_ret (v := .agg (tcells a1 b1 p1)) (results_cell_row rfl _ _ _ _ _ _ _ rfl hB3.out rfl rfl rfl) rfl ?_
  exact ⟨_, _, _, rfl, setRes (((Fr.refl [] w).alloc _).alloc _) (by simp) (by simp) hF.out _ _ _⟩
def RetBq (w : World) (e : Ending) (w' : World) : Prop := ∃ z : Bool, e = .returned (.bool z) ∧ w = w'
set_option maxRecDepth 100000 in
theorem tless (x y : Int) (w : World) : Calls Tryz.prog 112 #[.int .i64 x, .int .i64 y] w (RetBq w) := by
  go_enter Tryz.func112, Tryz.ntmps112
  go_wp2
  all_goals
    go_ret
    exact ⟨_, rfl, rfl⟩
set_option maxRecDepth 100000 in
set_option maxHeartbeats 1000000 in
theorem tRound (x : Int) (w : World) : Calls Tryz.prog 100 #[.int .i64 x, .int .i64 900000000000] w (RetI .i64 w) := by
  go_enter Tryz.func100, Tryz.ntmps100
  go_wp2_with (go_at_call 112; refine (tless _ _ _).mono ?_; rintro e w1 ⟨z, rfl, rfl⟩)
  all_goals
    go_ret
    exact ⟨_, rfl, rfl⟩
set_option maxRecDepth 100000 in
set_option maxHeartbeats 1000000 in
theorem tsubMono (x y : Int) (w : World) : Calls Tryz.prog 102 #[.int .i64 x, .int .i64 y] w (RetI .i64 w) := by
  go_enter Tryz.func102, Tryz.ntmps102
  go_wp2
  all_goals
    go_ret
    exact ⟨_, rfl, rfl⟩
set_option maxRecDepth 100000 in
set_option maxHeartbeats 1000000 in
theorem tIsZero (a b : Int) (p : Option Addr) (w : World) : Calls Tryz.prog 84 #[.agg (tcells a b p)] w (RetB w) := by
  go_enter Tryz.func84, Tryz.ntmps84
  go_wp2
  all_goals
    go_ret
    exact ⟨_, rfl, (Fr.refl [] w).alloc _⟩
end Go.Proofs.YtcodhjoiikdhmaaGreatDoor

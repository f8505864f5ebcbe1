/- Package time, part 4: addSec, Add, Equal, Before. -/
import Derived.Test.YtcodhjoiikdhmaaGreatDoorQt2
set_option linter.unusedVariables false
set_option linter.unusedSimpArgs false
namespace Go.Proofs.YtcodhjoiikdhmaaGreatDoor
open Go Go.RowKit
set_option maxRecDepth 100000 in
set_option maxHeartbeats 1000000 in
theorem taddSec (g : Nat) (a b x : Int) (p : Option Addr) (w : World) (h : Blk w g 85 (tcells a b p)) : Calls Tryz.prog 114 #[.pointer (some ⟨g, 0, none⟩), .int .i64 x] w (SetT g w) := by
  have HS := Lib.hid (tstripMono g a b p w h)
  obtain ⟨c0, c1, c2, f0, f1, f2⟩ := timeFacts h
  have H := Lib.hid h
  clear h
  go_enter Tryz.func114, Tryz.ntmps114
  go_wp2_with (first
    | (go_at_call 111; refine HS.out.mono ?_; rintro e w1 ⟨rfl, ⟨a1, b1, p1, h1⟩, hf, hz⟩; obtain ⟨c0, c1, c2, f0, f1, f2⟩ := timeFacts h1; have H1 := Lib.hid h1; have HF := Lib.hid hf; have HZ := Lib.hid hz; clear h1 hf hz)
    | fail)
  all_goals (first | go_end0 | (refine bodyPost_ret (results_none rfl _ _ _) rfl ?_))
  all_goals (first
    | exact ⟨rfl, ⟨_, _, p, H.out.set_ 0 _⟩, (Fr.refl _ w).setCell (.inl (by simp)) _, by simp⟩
    | exact ⟨rfl, ⟨_, _, p, H.out.set_ 1 _⟩, (Fr.refl _ w).setCell (.inl (by simp)) _, by simp⟩
    | exact ⟨rfl, ⟨_, _, _, H1.out.set_ 1 _⟩, HF.out.setCell (.inl (by simp)) _, by simpa using HZ.out⟩)
/-- Setting one of a time's cells. -/
theorem SetT.put {g : Nat} {w w1 : World} {a b : Int} {p : Option Addr} (h : Blk w1 g 85 (tcells a b p)) (hf : Fr [g] w w1) (hz : w1.heap.size = w.heap.size) (z : Int) :
    (∃ (a b : Int) (p : Option Addr), Blk (w1.setCell ⟨g, 0, none⟩ (.int .u64 z)) g 85 (tcells a b p)) ∧ Fr [g] w (w1.setCell ⟨g, 0, none⟩ (.int .u64 z)) :=
  ⟨⟨_, _, p, h.set_ 0 _⟩, hf.setCell (.inl (by simp)) _⟩
set_option maxRecDepth 100000 in
/-- The result's block, into which a time was stored, is handed back. -/
theorem retT3 {fn : Func} {q : Tmp} {act : Act} {w w1 : World} {r : Nat} {x y : Int} {p : Option Addr} (h : fn.results = #[.cell q 85]) (hp : act.tmps.getD q undef = .pointer (some ⟨r, 0, none⟩)) (hd : act.defers = [])
    (hB : Blk w1 r 85 t0cells) (hF : Fr [] w w1) (hr : w.heap.size ≤ r) :
    bodyPost Tryz.prog fn (RetT w) .ret act (((w1.setCell ⟨r, 0, none⟩ (.int .u64 x)).setCell ⟨r, 1, none⟩ (.int .i64 y)).setCell ⟨r, 2, none⟩ (.pointer p)) :=
  bodyPost_ret (v := .agg (tcells x y p)) (results_cell_row h _ _ _ _ _ _ _ hp (((hB.set_ 0 (.int .u64 x)).set_ 1 (.int .i64 y)).set_ 2 (.pointer p)) rfl rfl rfl) hd
    ⟨_, _, _, rfl, ((hF.setCell (.inr hr) _).setCell (.inr hr) _).setCell (.inr hr) _⟩
set_option maxRecDepth 100000 in
set_option maxHeartbeats 2000000 in
theorem tAdd (a b x : Int) (p : Option Addr) (w : World) : Calls Tryz.prog 105 #[.agg (tcells a b p), .int .i64 x] w (RetT w) := by
  have hT : ∀ z, Blk ((w.alloc (.cells (tcells z b p) 85)).alloc (.cells t0cells 85)) w.heap.size 85 (tcells z b p) := fun z => (Blk.new w 85 (tcells z b p)).alloc (.cells t0cells 85)
  have HN := Lib.hid (tnsec _ a b p _ (hT a))
  have HA := Lib.hid (fun z x => taddSec _ z b x p _ (hT z))
  have HR := Lib.hid (fun z => Blk.new1 w (.cells (tcells z b p) 85) 85 t0cells)
  clear hT
  go_enter Tryz.func105, Tryz.ntmps105
  go_wp2_with (first
    | (go_at_call 104; refine HN.out.mono ?_; rintro e w1 ⟨z, rfl, rfl⟩)
    | (go_at_call 114; refine (HA.out _ _).mono ?_; rintro e w1 ⟨rfl, ⟨a1, b1, p1, h1⟩, hf, hz⟩; obtain ⟨c0, c1, c2, f0, f1, f2⟩ := timeFacts h1; obtain ⟨d0, d1, d2, g0, g1, g2⟩ := timeFacts ((HR.out _).fr hf (by simp)); have HB := Lib.hid ((HR.out _).fr hf (by simp)); have H1 := Lib.hid h1; have HF := Lib.hid ((((Fr.refl [] w).alloc _).alloc _).trans hf (by simp)); have HSM := Lib.hid (tstripMono _ a1 b1 p1 _ h1); clear h1 hf hz)
    | (go_at_call 111; refine HSM.out.mono ?_; rintro e w2 ⟨rfl, ⟨a2, b2, p2, h2⟩, hf2, hz2⟩; obtain ⟨c0, c1, c2, f0, f1, f2⟩ := timeFacts h2; obtain ⟨d0, d1, d2, g0, g1, g2⟩ := timeFacts (HB.out.fr hf2 (by simp)); have HB := Lib.hid (HB.out.fr hf2 (by simp)); have HF := Lib.hid (HF.out.trans hf2 (by simp)); clear h2 hf2 hz2)
    | fail)
  all_goals
    refine retT3 rfl rfl rfl ?_ ?_ (by simp)
    · first | exact HB.out | exact HB.out.far (by simp) _
    · first | exact HF.out | exact HF.out.setCell (.inr (by simp)) _
end Go.Proofs.YtcodhjoiikdhmaaGreatDoor

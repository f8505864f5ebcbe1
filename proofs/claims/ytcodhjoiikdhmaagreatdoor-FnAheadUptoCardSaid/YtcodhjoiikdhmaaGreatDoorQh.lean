/- The steps of reading a header: a field is taken from the buffer, and stored into the file's block. -/
import Derived.Test.YtcodhjoiikdhmaaGreatDoorQrb
import Derived.Test.YtcodhjoiikdhmaaGreatDoorQral
import Derived.Test.YtcodhjoiikdhmaaGreatDoorQs
import Derived.Test.YtcodhjoiikdhmaaGreatDoorQt5
import Derived.Great.Walk
import Derived.WalkMore
set_option linter.unusedVariables false
set_option linter.unusedSimpArgs false
namespace Go.Proofs.YtcodhjoiikdhmaaGreatDoor
open Go Go.RowKit
open Zp
theorem rb16d (p : Addr) (g o n c : Nat) (l : List UInt8) (w : World) (h : RB w p g o n c l) (hl : 2 ≤ l.length) :
    Calls Tryz.prog 59 #[.pointer (some p)] w fun e w' => e = .returned (.int .u16 (num (l.take 2) : Int)) ∧ Nx w p g o n c 2 (l.drop 2) w' := by
  match l, h, hl with
  | b0 :: b1 :: l, h, _ => exact rb16 p g o n c b0 b1 l _ rfl w h
theorem rb32d (p : Addr) (g o n c : Nat) (l : List UInt8) (w : World) (h : RB w p g o n c l) (hl : 4 ≤ l.length) :
    Calls Tryz.prog 58 #[.pointer (some p)] w fun e w' => e = .returned (.int .u32 (num (l.take 4) : Int)) ∧ Nx w p g o n c 4 (l.drop 4) w' := by
  match l, h, hl with
  | b0 :: b1 :: b2 :: b3 :: l, h, _ => exact rb32 p g o n c b0 b1 b2 b3 l _ rfl w h
/-- A header of n bytes lies in the buffer g, k of them are read through the pointer at pb; the block f is filled. -/
structure HS (w0 : World) (f pb g n : Nat) (t : TypeId) (hd : List UInt8) (k : Nat) (cells : Array Value) (w : World) : Prop where
  rb : RB w ⟨pb, 0, none⟩ g k (n - k) (n - k) (hd.drop k)
  blk : Blk w f t cells
  fr : Fr [f, pb] w0 w
  fg : f ≠ g
  fp : f ≠ pb
  gl : g < w.heap.size
  size : w0.heap.size = w.heap.size
namespace HS
variable {w0 w w' : World} {f pb g n k m : Nat} {t : TypeId} {hd : List UInt8} {cells : Array Value}
theorem call (h : HS w0 f pb g n t hd k cells w) (hn : Nx w ⟨pb, 0, none⟩ g k (n - k) (n - k) m ((hd.drop k).drop m) w') : HS w0 f pb g n t hd (k + m) cells w' :=
  ⟨by
    have := hn.nx
    rw [List.drop_drop, Nat.sub_sub] at this
    exact this, h.blk.fr hn.fr (by simpa using h.fp), h.fr.trans hn.fr (by simp), h.fg, h.fp, by rw [hn.size]; exact h.gl, by rw [hn.size]; exact h.size⟩
theorem put (h : HS w0 f pb g n t hd k cells w) (i : Nat) (v : Value) : HS w0 f pb g n t hd k (cells.setIfInBounds i v) (w.setCell ⟨f, i, none⟩ v) := by
  refine ⟨⟨?_, ?_, h.rb.rd.far (fun e => h.fg e.symm) _, h.rb.len, h.rb.cap, h.rb.ne⟩, h.blk.set_ i v, h.fr.setCell (.inl (by simp)) v, h.fg, h.fp, by simpa [World.setCell] using h.gl, by simpa [World.setCell] using h.size⟩
  · obtain ⟨a, h1, h2⟩ := h.rb.cell
    exact ⟨a, (World.cell?_setCell_far w ⟨f, i, none⟩ ⟨pb, 0, none⟩ v (by simpa using h.fp)).trans h1, h2⟩
  · simpa using h.rb.free
theorem drewN (h : HS w0 f pb g n t hd k cells w) (j : Nat) : HS w0 f pb g n t hd k cells (w.drewN j) :=
  ⟨⟨h.rb.cell, h.rb.free, h.rb.rd, h.rb.len, h.rb.cap, h.rb.ne⟩, h.blk, h.fr.drewN j, h.fg, h.fp, h.gl, h.size⟩
end HS
end Go.Proofs.YtcodhjoiikdhmaaGreatDoor

/- readDirectoryHeader over a bufio.Reader. -/
namespace Go.Proofs.YtcodhjoiikdhmaaGreatDoor
open Go Go.RowKit
open Zp
theorem BufR.lt4 {w : World} {q gb b r : Nat} {s : ByteArray} {pos : Nat} (h : BufR w q gb b r s pos) : q < w.heap.size ∧ gb < w.heap.size ∧ b < w.heap.size ∧ r < w.heap.size := by
  obtain ⟨rdn, wn, off, lb, lr, cur, h⟩ := h
  exact ⟨Blk.lt h.hq, Blk.lt h.hgb, Blk.lt h.hb, Blk.lt h.hr⟩
set_option maxRecDepth 100000 in
set_option maxHeartbeats 2000000 in
theorem hdr_short (E : Errs) (q gb b r f pos : Nat) (s : ByteArray) (w : World) (hE : Env E w) (hB : BufR w q gb b r s pos) (hpos : pos ≤ s.size) (hs : s.size ≤ 4000000000) (hsh : s.size < pos + 46) :
    Calls Tryz.prog 65 #[.pointer (some ⟨f, 0, none⟩), .iface 138 (.pointer (some ⟨q, 0, none⟩))] w fun e w' =>
      (e = .returned (errv E.eof) ∨ e = .returned (errv E.unx)) ∧ BufR w' q gb b r s s.size ∧ Fr [q, gb, b] w w' := by
  have hlt := hB.lt4
  have HR := Lib.hid (readFull_buf E q gb b r w.heap.size 0 46 pos 46 149 s (zeros 46) (w.alloc (.cells (zeros 46) 149)) (hE.fr ((Fr.refl [] w).alloc _) (by simp) hB.h18.2) (hB.fr (S := []) ((Fr.refl [] w).alloc _) (by simp) (by simp) (by simp) (by simp))
    (Blk.new _ _ _) (by rw [zeros_size]; omega) (by omega) (by omega) (by omega) hB.h18.2 hpos hs)
  clear hE hB
  have hal : ∀ (ρ : Operand → Value) (W : World), (execOp ρ { dst := some 5, op := .alloc 149, type := 0, pos := "reader.go:283", after := #[], guard := none }).run Tryz.prog W = .ok (.value (.pointer (some ⟨W.heap.size, 0, none⟩))) (W.alloc (.cells (zeros 46) 149)) := fun ρ W => by kernel_rfl
  go_enter Tryz.func65, Tryz.ntmps65
  go_wp2_with fail
  apply wp_scope_straight
  apply wp_seq_k; intro K hK
  refine wp_region_list ?_
  change wpList _ _ _ [_] _ _
  refine Go.Great.wpList_runTo rfl (some 5) rfl _ _ (hal _ _) ?_
  go_wp2_with fail
  refine HR.out.mono ?_
  rintro e w1 h
  cases h with
  | all _ h _ _ _ => exact absurd h (by omega)
  | part _ j h hp hr hf =>
    have HBR := Lib.hid hr
    have HF := Lib.hid (((Fr.refl [q, gb, b] w).alloc _).trans hf (by simp))
    clear hr hf
    go_wp2_with fail
    rw [Exit.noGoto_ret]
    go_ret
    exact ⟨.inr rfl, HBR.out, HF.out⟩

  | end_ _ h hp hr hf =>
    have HBR := Lib.hid hr
    have HF := Lib.hid (((Fr.refl [q, gb, b] w).alloc _).trans hf (by simp))
    clear hr hf
    go_wp2_with fail
    rw [Exit.noGoto_ret]
    go_ret
    exact ⟨.inl rfl, HBR.out, HF.out⟩

end Go.Proofs.YtcodhjoiikdhmaaGreatDoor

/- readDirectoryHeader: a wrong signature. -/
namespace Go.Proofs.YtcodhjoiikdhmaaGreatDoor
open Go Go.RowKit
open Zp
theorem RB.start {w1 : World} {g n : Nat} {t t' : TypeId} {cur : Array Value} {hd : List UInt8} (h : Blk w1 g t (spl cur 0 hd)) (hl : hd.length = n) (hc : n ≤ cur.size) :
    RB (w1.alloc (.cells #[.slice (some ⟨g, 0, none⟩) n n] t')) ⟨w1.heap.size, 0, none⟩ g 0 n n hd := by
  have hB := Blk.new w1 t' #[.slice (some ⟨g, 0, none⟩) n n]
  exact ⟨⟨_, hB.at_ 0 _ rfl, fun _ => rfl⟩, hB.frozen 0, Rd.spl (h.alloc _) (by omega), hl, Nat.le_refl _, Nat.ne_of_lt h.lt⟩
set_option maxRecDepth 100000 in
set_option maxHeartbeats 2000000 in
theorem hdr_sig (E : Errs) (q gb b r f pos : Nat) (s : ByteArray) (w : World) (hE : Env E w) (hB : BufR w q gb b r s pos) (hpos : pos + 46 ≤ s.size) (hs : s.size ≤ 4000000000) (hsig : num ((s.data.toList.drop pos).take 4) ≠ 33639248) :
    Calls Tryz.prog 65 #[.pointer (some ⟨f, 0, none⟩), .iface 138 (.pointer (some ⟨q, 0, none⟩))] w fun e w' =>
      e = .returned (errv E.fmt) ∧ BufR w' q gb b r s (pos + 46) ∧ Fr [q, gb, b] w w' := by
  have hlt := hB.lt4
  have hE18 := hB.h18
  have HE := Lib.hid hE
  have HR := Lib.hid (readFull_buf E q gb b r w.heap.size 0 46 pos 46 149 s (zeros 46) (w.alloc (.cells (zeros 46) 149)) (hE.fr ((Fr.refl [] w).alloc _) (by simp) hB.h18.2) (hB.fr (S := []) ((Fr.refl [] w).alloc _) (by simp) (by simp) (by simp) (by simp))
    (Blk.new _ _ _) (by rw [zeros_size]; omega) (by omega) (by omega) (by omega) hB.h18.2 (by omega) hs)
  clear hE hB
  have hal : ∀ (ρ : Operand → Value) (W : World), (execOp ρ { dst := some 5, op := .alloc 149, type := 0, pos := "reader.go:283", after := #[], guard := none }).run Tryz.prog W = .ok (.value (.pointer (some ⟨W.heap.size, 0, none⟩))) (W.alloc (.cells (zeros 46) 149)) := fun ρ W => by kernel_rfl
  go_enter Tryz.func65, Tryz.ntmps65
  go_wp2_with fail
  apply wp_scope_straight
  apply wp_seq_k; intro K hK
  refine wp_region_list ?_
  change wpList _ _ _ [_] _ _
  refine Go.Great.wpList_runTo rfl (some 5) rfl _ _ (hal _ _) ?_
  go_wp2_with fail
  refine HR.out.mono ?_
  rintro e w1 h
  cases h with
  | part _ j h hp hr hf => exact absurd h (by omega)
  | end_ _ h hp hr hf => exact absurd hp (by omega)
  | all _ h hb hr hf =>
    have HBR := Lib.hid hr
    have HF := Lib.hid (((Fr.refl [q, gb, b] w).alloc _).trans hf (by simp))
    have hl : ((s.data.toList.drop pos).take 46).length = 46 := by rw [List.length_take, List.length_drop, ← Lib.size_eq]; omega
    have H32 := Lib.hid (rb32d _ _ _ _ _ _ _ (RB.start (t' := 124) hb hl (by rw [zeros_size]; omega)) (by omega))
    have hx : num (((s.data.toList.drop pos).take 46).take 4) ≠ 33639248 := by rw [List.take_take]; exact hsig
    have HE1 := Lib.hid (fun w' (hw : Fr [w1.heap.size] (w1.alloc (.cells #[.slice (some ⟨w.heap.size, 0, none⟩) 46 46] 124)) w') => ((HE.out.fr HF.out (by simp; omega) hE18.2).fr ((Fr.refl [w1.heap.size] w1).alloc (.cells #[.slice (some ⟨w.heap.size, 0, none⟩) 46 46] 124)) (by have := HF.out.size; simp; omega) (by have := HF.out.size; omega)).fr hw (by have := HF.out.size; simp; omega) (by have := HF.out.size; simp; omega))
    have hq1 := Lib.hid hr.lt4
    obtain ⟨x, hxe⟩ : ∃ x, num (((s.data.toList.drop pos).take 46).take 4) = x := ⟨_, rfl⟩
    rw [hxe] at hx
    clear hb hr hf
    go_wp2_with fail
    rw [hxe] at H32
    refine H32.out.mono ?_
    rintro e w2 ⟨rfl, hn⟩
    have hEr := HE1.out _ hn.fr
    have x1 := hEr.fmt
    have hne : ((x : Int) == 33639248) = false := by simp; omega
    have HBR2 := Lib.hid ((HBR.out.fr (S := []) ((Fr.refl [] w1).alloc _) (by simp) (by simp) (by simp) (by simp)).fr hn.fr (by have := hq1.out; simp; omega) (by have := hq1.out; simp; omega) (by have := hq1.out; simp; omega) (by have := hq1.out; simp; omega))
    have HF2 := Lib.hid ((HF.out.alloc _).trans hn.fr (by have := HF.out.size; simp; omega))
    clear hn hEr
    go_wp2_with fail
    rw [Exit.noGoto_ret]
    go_ret
    exact ⟨rfl, HBR2.out, HF2.out⟩
end Go.Proofs.YtcodhjoiikdhmaaGreatDoor

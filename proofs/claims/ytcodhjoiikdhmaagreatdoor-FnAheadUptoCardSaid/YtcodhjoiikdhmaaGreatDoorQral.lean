/- io.ReadAtLeast, io.ReadFull over a bufio.Reader. -/
import Derived.Test.YtcodhjoiikdhmaaGreatDoorQbr
set_option linter.unusedVariables false
set_option linter.unusedSimpArgs false
namespace Go.Proofs.YtcodhjoiikdhmaaGreatDoor
open Go Go.RowKit
theorem take_take_drop (l : List UInt8) (pos j k : Nat) : (l.drop pos).take j ++ (l.drop (pos + j)).take k = (l.drop pos).take (j + k) := by
  rw [List.take_add, List.drop_drop]
def RAL (E : Errs) (q gb b r g o : Nat) (t : TypeId) (s : ByteArray) (pos N : Nat) (cur : Array Value) (w : World) (v6 v7 : Value) (wr : World) : Prop :=
  ∃ j : Nat, j ≤ N ∧ pos + j ≤ s.size ∧ v6 = .int .i64 (j : Int) ∧ (v7 = .nilIface ∨ (v7 = errv E.eof ∧ pos + j = s.size ∧ j < N)) ∧ Blk wr g t (spl cur o ((s.data.toList.drop pos).take j)) ∧ BufR wr q gb b r s (pos + j) ∧ Fr [q, gb, b, g] w wr
/-- What ReadFull comes to. -/
inductive RdF (E : Errs) (q gb b r g o : Nat) (t : TypeId) (s : ByteArray) (pos N : Nat) (cur : Array Value) (w : World) : Ending → World → Prop
  | all (w' : World) (h : pos + N ≤ s.size) (hb : Blk w' g t (spl cur o ((s.data.toList.drop pos).take N))) (hr : BufR w' q gb b r s (pos + N)) (hf : Fr [q, gb, b, g] w w') :
      RdF E q gb b r g o t s pos N cur w (.returned (.tuple #[.int .i64 (N : Int), .nilIface])) w'
  | part (w' : World) (j : Nat) (h : s.size < pos + N) (hp : pos < s.size) (hr : BufR w' q gb b r s s.size) (hf : Fr [q, gb, b, g] w w') :
      RdF E q gb b r g o t s pos N cur w (.returned (.tuple #[.int .i64 (j : Int), errv E.unx])) w'
  | end_ (w' : World) (h : 0 < N) (hp : pos = s.size) (hr : BufR w' q gb b r s s.size) (hf : Fr [q, gb, b, g] w w') :
      RdF E q gb b r g o t s pos N cur w (.returned (.tuple #[.int .i64 0, errv E.eof])) w'
set_option maxRecDepth 100000 in
set_option maxHeartbeats 4000000 in
theorem readAtLeast_buf (E : Errs) (q gb b r g o c pos N : Nat) (t : TypeId) (s : ByteArray) (cur : Array Value) (w : World) (hE : Env E w) (hB : BufR w q gb b r s pos)
    (hg : Blk w g t cur) (hfit : o + N ≤ cur.size) (hN : N ≤ 4000000) (hnc : N ≤ c) (hne : g ≠ q ∧ g ≠ gb ∧ g ≠ b ∧ g ≠ r) (hg18 : 11 ≤ g) (hpos : pos ≤ s.size) (hs : s.size ≤ 4000000000) :
    Calls Tryz.prog 90 #[.iface 138 (.pointer (some ⟨q, 0, none⟩)), .slice (some ⟨g, o, none⟩) N c, .int .i64 (N : Int)] w fun e w' => RdF E q gb b r g o t s pos N cur w e w' := by
  have he := fun w => eql_same E.eof w
  have hna : ∀ W, (nilAhead 347 138 (.pointer (some ⟨q, 0, none⟩)) "Read").run Tryz.prog W = .ok (some false) W := fun W => by kernel_rfl
  have hS : ∀ s ∈ [q, gb, b, g], 11 ≤ s := by have := hB.h18; simp; omega
  have hW := hB.h18.2
  have H0 := Lib.hid hB
  have HG := Lib.hid hg
  have HE := Lib.hid hE
  clear hB hg hE
  go_enter Tryz.func90, Tryz.ntmps90
  go_wp2_with fail
  go_loopw [6, 7, 8] (fun v6 v7 _ wr => RAL E q gb b r g o t s pos N cur w v6 v7 wr) (fun v6 v7 _ _ => 2 * (N - (intOf v6).toNat) + (match v7 with | .nilIface => 1 | _ => 0))
  case atStart => exact ⟨0, Nat.zero_le _, hpos, rfl, .inl rfl, by rw [List.take_zero, spl_nil]; exact HG.out, H0.out, Fr.refl _ _⟩
  case round =>
    obtain ⟨j, hj, hjs, rfl, hv, hb, hr, hf⟩ := hrel
    have HB := Lib.hid hb
    have HR := Lib.hid hr
    have HF := Lib.hid hf
    clear hb hr hf
    rcases hv with rfl | ⟨rfl, h1, h2⟩
    · by_cases hlt : j < N
      · have i1 : (j : Int) ≤ (N : Int) := by omega
        have i2 : (j : Int) ≤ (c : Int) := by omega
        have i3 : ¬ c = j := by omega
        have hrlt := HR.out
        by_cases hps : pos + j < s.size
        · have H := Lib.hid (fun m => bufRead_data q gb b r g (o + j) (N - j) (c - j) (pos + j) t s (spl cur o ((s.data.toList.drop pos).take j)) (wr.drewN m) (HR.out.fr (S := []) ((Fr.refl [] wr).drewN m) (by simp) (by simp) (by simp) (by simp)) (HB.out.drewN m) (by omega)
            (by rw [spl_size (by rw [List.length_take]; omega)]; omega) (by omega) hne hps hs)
          go_wp2_with fail
          go_region_held3 (fun _ => True) (trivial) ((go_at_call 155; refine (H.out _).mono ?_; rintro e w1 ⟨k, hk, rfl, hw⟩))
          go_wp2_with fail
          have hl : ((s.data.toList.drop pos).take j).length = j := by rw [List.length_take, List.length_drop, ← Lib.size_eq]; omega
          refine ⟨⟨j + k, by omega, by omega, rfl, .inl rfl, ?_, ?_, ?_⟩, by simp [intOf]; omega⟩
          · rw [← take_take_drop, ← spl_spl (by rw [hl]) (by rw [take_take_drop, List.length_take]; omega)]
            exact hw.dst
          · rw [← Nat.add_assoc]; exact hw.buf
          · exact (HF.out.drewN _).trans hw.fr (fun _ h => .inl h)
        · have hps' : pos + j = s.size := by omega
          have H := Lib.hid (fun m => bufRead_eof E q gb b r g (o + j) (N - j) (c - j) s (wr.drewN m) ((HE.out.fr HF.out hS hW).drewN m) ((hps' ▸ HR.out : BufR wr q gb b r s s.size).fr (S := []) ((Fr.refl [] wr).drewN m) (by simp) (by simp) (by simp) (by simp)) (by omega))
          have HP := Lib.hid hps'
          clear hps'
          go_wp2_with fail
          go_region_held3 (fun _ => True) (trivial) ((go_at_call 155; refine (H.out _).mono ?_; rintro e w1 ⟨rfl, hr1, hf1⟩))
          go_wp2_with fail
          refine ⟨⟨j, hj, hjs, rfl, .inr ⟨rfl, HP.out, hlt⟩, HB.out.fr ((Fr.refl _ wr).drewN _ |>.trans hf1 (fun _ h => .inl h)) (by simp; omega), (by rw [HP.out]; exact hr1), (HF.out.drewN _).trans hf1 (fun _ h => .inl (by simp at h ⊢; omega))⟩, by simp [intOf]⟩
      · go_wp2_with fail
        go_ret2
        obtain rfl : j = N := by omega
        exact RdF.all wr hjs HB.out HR.out HF.out
    · have hEr := HE.out.fr HF.out hS hW
      have x1 := hEr.eof
      have x2 := hEr.unx
      have HS := Lib.hid h1
      clear h1 hEr
      by_cases h0 : j = 0
      · subst h0
        go_wp2_with fail
        go_ret2
        exact RdF.end_ wr (by omega) (by have := HS.out; omega) (by have := HS.out; rw [← this]; exact HR.out) HF.out
      · go_wp2_with fail
        go_ret2
        exact RdF.part wr j (by have := HS.out; omega) (by have := HS.out; omega) (by have := HS.out; rw [← this]; exact HR.out) HF.out
set_option maxRecDepth 100000 in
theorem readFull_buf (E : Errs) (q gb b r g o c pos N : Nat) (t : TypeId) (s : ByteArray) (cur : Array Value) (w : World) (hE : Env E w) (hB : BufR w q gb b r s pos)
    (hg : Blk w g t cur) (hfit : o + N ≤ cur.size) (hN : N ≤ 4000000) (hnc : N ≤ c) (hne : g ≠ q ∧ g ≠ gb ∧ g ≠ b ∧ g ≠ r) (hg18 : 11 ≤ g) (hpos : pos ≤ s.size) (hs : s.size ≤ 4000000000) :
    Calls Tryz.prog 74 #[.iface 138 (.pointer (some ⟨q, 0, none⟩)), .slice (some ⟨g, o, none⟩) N c] w fun e w' => RdF E q gb b r g o t s pos N cur w e w' := by
  have H := Lib.hid (readAtLeast_buf E q gb b r g o c pos N t s cur w hE hB hg hfit hN hnc hne hg18 hpos hs)
  clear hE hB hg
  go_enter Tryz.func74, Tryz.ntmps74
  go_wp2_with fail
  refine H.out.mono ?_
  rintro e w1 h
  cases h <;> (go_wp2_with fail; go_ret2)
  · exact RdF.all _ ‹_› ‹_› ‹_› ‹_›
  · exact RdF.part _ _ ‹_› ‹_› ‹_› ‹_›
  · exact RdF.end_ _ ‹_› ‹_› ‹_› ‹_›
end Go.Proofs.YtcodhjoiikdhmaaGreatDoor

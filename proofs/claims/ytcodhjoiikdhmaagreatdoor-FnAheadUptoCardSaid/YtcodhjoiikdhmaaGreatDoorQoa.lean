/- findBodyOffset: where a file's content begins. -/
import Derived.Test.YtcodhjoiikdhmaaGreatDoorQnd
set_option linter.unusedVariables false
set_option linter.unusedSimpArgs false
namespace Go.Proofs.YtcodhjoiikdhmaaGreatDoor
open Go Go.RowKit
open Zp
set_option maxRecDepth 100000 in
set_option maxHeartbeats 4000000 in
theorem fbo_ok (w : World) (f r P : Nat) (s : ByteArray) (hr : StrR w r s) (h20 : w.cell? ⟨f, 20, none⟩ = some (strRd r)) (h21 : w.cell? ⟨f, 21, none⟩ = some (.int .i64 (P : Int))) (hfl : f < w.heap.size) (hs : s.size ≤ 4000000000) (hP : P + 30 ≤ s.size)
    (hsig : num ((s.data.toList.drop P).take 4) = 67324752) :
    Calls Tryz.prog 49 #[.pointer (some ⟨f, 0, none⟩)] w fun e w' => e = .returned (.tuple #[.int .i64 ((30 + num ((s.data.toList.drop (P + 26)).take 2) + num ((s.data.toList.drop (P + 28)).take 2) : Nat) : Int), .nilIface]) ∧ Fr [] w w' := by
  have HR := Lib.hid hr
  have HS := Lib.hid hsig
  have hF1 : Fr [] w (w.alloc (.cells (zeros 30) 122)) := (Fr.refl _ _).alloc _
  have c20 := (hF1.cell (p := ⟨f, 20, none⟩) hfl (by simp)).trans h20
  have c21 := (hF1.cell (p := ⟨f, 21, none⟩) hfl (by simp)).trans h21
  have q := readAt_full r w.heap.size 0 30 30 P s (zeros 30) 122 (w.alloc (.cells (zeros 30) 122)).drew ((Blk.alloc hr _).at_ 0 _ rfl) (Blk.new _ _ _).drew (by omega) (by rw [zeros_size]; omega) hP hs
  have HQ := Lib.hid q
  have i1 : (P : Int) ≤ 4000000000 := by omega
  clear q h20 h21 hr hsig hF1
  go_enter Tryz.func49, Tryz.ntmps49
  go_wp2_with fail
  rename_i K0 hK0 K hK
  rw [show (#[.int .u8 0, .int .u8 0, .int .u8 0, .int .u8 0, .int .u8 0, .int .u8 0, .int .u8 0, .int .u8 0, .int .u8 0, .int .u8 0, .int .u8 0, .int .u8 0, .int .u8 0, .int .u8 0, .int .u8 0, .int .u8 0, .int .u8 0, .int .u8 0, .int .u8 0, .int .u8 0, .int .u8 0, .int .u8 0, .int .u8 0, .int .u8 0, .int .u8 0, .int .u8 0, .int .u8 0, .int .u8 0, .int .u8 0, .int .u8 0] : Array Value) = zeros 30 from by kernel_rfl]
  have KS := Lib.hid (show ∀ cs, (((w.alloc (.cells (zeros 30) 122)).drew).setRow w.heap.size cs).cell? ⟨f, 20, none⟩ = some (strRd r) ∧ (((w.alloc (.cells (zeros 30) 122)).drew).setRow w.heap.size cs).cell? ⟨f, 21, none⟩ = some (.int .i64 (P : Int)) from fun cs => ⟨(cell_setRow_other _ w.heap.size cs ⟨f, 20, none⟩ (by show f ≠ w.heap.size; omega)).trans c20, (cell_setRow_other _ w.heap.size cs ⟨f, 21, none⟩ (by show f ≠ w.heap.size; omega)).trans c21⟩)
  go_region_held3 (fun w' => w'.cell? ⟨f, 20, none⟩ = some (strRd r) ∧ w'.cell? ⟨f, 21, none⟩ = some (.int .i64 (P : Int)))
    ((first | exact ⟨c20, c21⟩ | exact KS.out _ | assumption))
    ((first | (go_at_call 134; (with_reducible refine HQ.out.mono ?_); rintro e w2 ⟨rfl, rfl⟩)))
  have hb : Blk (((w.alloc (.cells (zeros 30) 122)).setRow w.heap.size (spl (zeros 30) 0 ((s.data.toList.drop P).take 30))).drew) w.heap.size 122 (spl (zeros 30) 0 ((s.data.toList.drop P).take 30)) := ((Blk.new w _ _).row _).drew
  have hF : Fr [] w (((w.alloc (.cells (zeros 30) 122)).setRow w.heap.size (spl (zeros 30) 0 ((s.data.toList.drop P).take 30))).drew) := (((Fr.refl _ _).alloc _).setRow (.inr (Nat.le_refl _)) _).drew
  generalize (((w.alloc (.cells (zeros 30) 122)).setRow w.heap.size (spl (zeros 30) 0 ((s.data.toList.drop P).take 30))).drew) = w2 at *
  obtain ⟨hd, hhd⟩ : ∃ hd, (s.data.toList.drop P).take 30 = hd := ⟨_, rfl⟩
  have hl : hd.length = 30 := by rw [← hhd, List.length_take, List.length_drop, ← Lib.size_eq]; omega
  rw [hhd] at hb
  have key : ∀ k n, k + n ≤ 30 → (hd.drop k).take n = (s.data.toList.drop (P + k)).take n := fun k n h => by
    rw [← hhd, List.drop_take, List.drop_drop, List.take_take, Nat.min_eq_left (by omega)]
  have e0 := Lib.hid (show num ((hd.drop 0).take 4) = 67324752 by rw [key 0 4 (by omega), Nat.add_zero]; exact HS.out)
  obtain ⟨n, hn⟩ : ∃ n, num ((hd.drop 26).take 2) = n := ⟨_, rfl⟩
  obtain ⟨x, hx⟩ : ∃ x, num ((hd.drop 28).take 2) = x := ⟨_, rfl⟩
  have hn6 : n < 65536 := by rw [← hn]; exact num_take2 _
  have hx6 : x < 65536 := by rw [← hx]; exact num_take2 _
  have hn' := hn
  have hx' := hx
  rw [key 26 2 (by omega)] at hn'
  rw [key 28 2 (by omega)] at hx'
  have EN := Lib.hid hn'
  have EX := Lib.hid hx'
  have e26 := Lib.hid hn
  have e28 := Lib.hid hx
  have HL := Lib.hid hl
  have R0 := Lib.hid (RB.start (t' := 124) hb hl (by rw [zeros_size]; omega))
  have HF := Lib.hid hF
  have hz := hb.lt
  clear c20 c21 HQ KS hb hF hhd key hn hx hn' hx' hl
  go_wp2_with fail
  refine (rb32d _ _ _ _ _ _ _ R0.out (by rw [HL.out]; decide)).mono ?_
  rintro e w3 ⟨rfl, hn⟩
  rw [show List.take 4 hd = List.take 4 (hd.drop 0) by rfl, e0.out]
  have R1 := Lib.hid hn
  obtain ⟨ad, ce, had⟩ := hn.nx.cell
  have fe := hn.nx.free
  have hadd := had (by decide)
  subst hadd
  clear hn had
  go_wp2_with fail
  have hsk := nx_of (m := 0) (k := 22) (t := (hd.drop 4).take 22) (l := (hd.drop 4).drop 22) (a := ⟨w.heap.size, 26, none⟩) (by rw [List.take_append_drop]; exact R1.out.nx) (by rw [List.length_take, List.length_drop, HL.out]; decide) (fun _ => rfl)
  have hsk2 : Nx w3 ⟨w2.heap.size, 0, none⟩ w.heap.size 4 26 26 22 (hd.drop 26) (w3.setCell ⟨w2.heap.size, 0, none⟩ (.slice (some ⟨w.heap.size, 26, none⟩) 4 4)) := by
    rw [List.drop_drop] at hsk
    exact hsk
  have R2 := Lib.hid hsk2
  clear hsk hsk2 ce fe
  refine (rb16d _ _ _ _ _ _ _ R2.out.nx (by rw [List.length_drop, HL.out]; decide)).mono ?_
  rintro e w4 ⟨rfl, hn⟩
  rw [e26.out]
  have hn2 : Nx (w3.setCell ⟨w2.heap.size, 0, none⟩ (.slice (some ⟨w.heap.size, 26, none⟩) 4 4)) ⟨w2.heap.size, 0, none⟩ w.heap.size 26 4 4 2 (hd.drop 28) w4 := by
    rw [List.drop_drop] at hn
    exact hn
  have R3 := Lib.hid hn2
  clear hn hn2
  go_wp2_with fail
  refine (rb16d _ _ _ _ _ _ _ R3.out.nx (by rw [List.length_drop, HL.out]; decide)).mono ?_
  rintro e w5 ⟨rfl, hn⟩
  rw [e28.out]
  have R4 := Lib.hid hn
  clear hn
  go_wp2_with fail
  go_ret2
  refine ⟨?_, ?_⟩
  · show Ending.returned (.tuple #[.int .i64 (30 + (n : Int) + (x : Int)), .nilIface]) = _
    rw [EN.out, EX.out, Int.natCast_add, Int.natCast_add]; rfl
  · exact (((HF.out.alloc (.cells #[.slice (some ⟨w.heap.size, 0, none⟩) 30 30] 124)).trans R1.out.fr (by simp; omega)).trans R2.out.fr (by simp; omega)).trans (R3.out.fr.trans R4.out.fr (by simp)) (by simp; omega)
end Go.Proofs.YtcodhjoiikdhmaaGreatDoor

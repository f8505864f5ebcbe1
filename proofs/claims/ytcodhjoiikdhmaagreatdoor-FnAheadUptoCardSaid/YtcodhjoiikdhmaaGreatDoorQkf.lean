/- readDirectoryEnd, whole. -/
import Derived.Test.YtcodhjoiikdhmaaGreatDoorQke
set_option linter.unusedVariables false
set_option linter.unusedSimpArgs false
namespace Go.Proofs.YtcodhjoiikdhmaaGreatDoor
open Go Go.RowKit
open Zp
set_option maxRecDepth 100000 in
set_option maxHeartbeats 4000000 in
theorem rde_bad (E : Errs) (w : World) (r : Nat) (s : ByteArray) (hE : Env E w) (hr : StrR w r s) (hw18 : 11 ≤ w.heap.size) (hs : s.size ≤ 4000000000) (hno : NoEnd s.data.toList) :
    Calls Tryz.prog 62 #[strRd r, .int .i64 (s.size : Int)] w fun e w' => e = .returned (.tuple #[.pointer none, .int .i64 0, errv E.fmt]) ∧ Fr [] w w' := by
  have HE := Lib.hid hE
  have HR := Lib.hid hr
  have HNO := Lib.hid hno
  obtain ⟨L, hL⟩ : ∃ L : Nat, L = 66560 := ⟨_, rfl⟩
  have hLi : (66560 : Int) = (L : Int) := by omega
  have HLi := Lib.hid hLi
  have HL := Lib.hid hL
  clear hE hr hno hL hLi
  go_enter Tryz.func62, Tryz.ntmps62
  go_wp2_with fail
  rw [HLi.out]
  refine rde_loop E _ w _ r w.heap.size 0 s HE.out HR.out hw18 hs (by omega) ⟨rfl, rfl, rfl, rfl, rfl, rfl, rfl⟩ ((Fr.refl [] w).alloc _) L HL.out (Blk.new _ _ _) _ ?_ ?_
  · intro n p i a' w' h1 h2 h3 h4 h5
    have := fs_no HNO.out h3
    omega
  · intro n a' w' h1 h2 h3 h4 h5 h6 h7
    refine bodyPost_ret (R := fun e w' => e = .returned (.tuple #[.pointer none, .int .i64 0, errv E.fmt]) ∧ Fr [] w w') (v := .tuple #[.pointer none, .int .i64 0, errv E.fmt]) ?_ h3 ⟨rfl, h7⟩
    rw [results_tmp3 rfl, h4, h5, h6]
set_option maxRecDepth 100000 in
set_option maxHeartbeats 4000000 in
theorem rde_any (E : Errs) (w : World) (r e B : Nat) (s : ByteArray) (T : By) (hE : Env E w) (hr : StrR w r s) (hw18 : 11 ≤ w.heap.size) (hs : s.size ≤ 4000000000) (hok : OkEnd s.data.toList e) (hT : s.data.toList.drop e = T)
    (n10 : num ((T.drop 10).take 2) ≠ 65535) (n12 : num ((T.drop 12).take 4) ≠ 4294967295) (n16 : num ((T.drop 16).take 4) ≠ 4294967295) (hbase : e = num ((T.drop 12).take 4) + num ((T.drop 16).take 4) + B) (R : Ending → World → Prop)
    (hQ : ∀ d a' w', a'.tmps.size = 211 → a'.defers = [] → slotOf a' 0 = strRd r → slotOf a' 1 = .int .i64 (s.size : Int) → slotOf a' 5 = .int .i64 (B : Int) → slotOf a' 15 = .pointer (some ⟨d, 0, none⟩) → DirEnd w T d w' → (rdeG 39).wp Tryz.prog (bodyPost Tryz.prog Tryz.f62 R) a' w') :
    Calls Tryz.prog 62 #[strRd r, .int .i64 (s.size : Int)] w R := by
  have HE := Lib.hid hE
  have HR := Lib.hid hr
  have HOK := Lib.hid hok
  have HT := Lib.hid hT
  have HQ := Lib.hid hQ
  have N10 := Lib.hid n10
  have N12 := Lib.hid n12
  have N16 := Lib.hid n16
  have HB := Lib.hid hbase
  obtain ⟨L, hL⟩ : ∃ L : Nat, L = 66560 := ⟨_, rfl⟩
  have hLi : (66560 : Int) = (L : Int) := by omega
  have HLi := Lib.hid hLi
  have HL := Lib.hid hL
  clear hE hr hok hT hQ n10 n12 n16 hbase hL hLi
  go_enter Tryz.func62, Tryz.ntmps62
  go_wp2_with fail
  rename_i K hK
  rw [HLi.out]
  have hlen : s.data.toList.length = s.size := (Lib.size_eq s).symm
  have hnear := HOK.out.near
  have hfits := HOK.out.fits
  rw [hlen] at hnear hfits
  refine rde_loop E _ w _ r w.heap.size 0 s HE.out HR.out hw18 hs (by omega) ⟨rfl, rfl, rfl, rfl, rfl, rfl, rfl⟩ ((Fr.refl [] w).alloc _) L HL.out (Blk.new _ _ _) _ ?_ ?_
  · intro n p i a' w' h1 h2 h3 h4 ⟨g, g1, g2, g3, g4, g5, g6⟩
    have hp := fs_ok HOK.out (by omega) h3
    have hpe : s.size - n + p = e := by omega
    have hTl : T.length = s.size - e := by rw [← HT.out, List.length_drop, hlen]
    refine hK _ _ (rde19 a' w' r s.size g p (n - p) e T h4.size h4.defers h4.s0 h4.s1 g3 (by rw [g4]; congr 1; omega) ?_ (by omega) g2 (by omega) (by omega) (by omega) hs ?_ N10.out N12.out N16.out B HB.out _ ?_)
    · have := g5.drop p
      rw [List.drop_drop, hpe, HT.out, Nat.zero_add] at this
      exact this
    · have e1 : (T.drop 20).take 2 = (s.data.toList.drop (e + 20)).take 2 := by rw [← HT.out, List.drop_drop]
      rw [e1]; omega
    · intro d a2 w2 k1 k2 k3 k4 k5 k6 k7
      exact HQ.out d a2 w2 k1 k2 k3 k4 k5 k6 ⟨Nat.le_trans g6.size k7.1, k7.2.1, g6.trans k7.2.2 (by simp)⟩
  · intro n a' w' h1 h2 h3 h4 h5 h6 h7
    exfalso
    have := fs_ok HOK.out (by omega) h2
    have := HL.out
    omega
set_option maxRecDepth 100000 in
theorem rde_ok (E : Errs) (w : World) (r e : Nat) (s : ByteArray) (T : By) (hE : Env E w) (hr : StrR w r s) (hw18 : 11 ≤ w.heap.size) (hs : s.size ≤ 4000000000) (hok : OkEnd s.data.toList e) (hT : s.data.toList.drop e = T)
    (n10 : num ((T.drop 10).take 2) ≠ 65535) (n12 : num ((T.drop 12).take 4) ≠ 4294967295) (n16 : num ((T.drop 16).take 4) ≠ 4294967295) (hbase : e = num ((T.drop 12).take 4) + num ((T.drop 16).take 4)) :
    Calls Tryz.prog 62 #[strRd r, .int .i64 (s.size : Int)] w fun e w' => ∃ d, e = .returned (.tuple #[.pointer (some ⟨d, 0, none⟩), .int .i64 0, .nilIface]) ∧ DirEnd w T d w' := by
  refine rde_any E w r e 0 s T hE hr hw18 hs hok hT n10 n12 n16 hbase _ ?_
  intro d a' w' h1 h2 h3 h4 h5 h6 h7
  refine rde39_0 a' w' r s.size d h1 h2 h3 h4 h5 h6 _ ?_
  intro a2 k1 k2 k3 k4
  refine bodyPost_ret (v := .tuple #[.pointer (some ⟨d, 0, none⟩), .int .i64 0, .nilIface]) ?_ k1 ⟨d, rfl, h7⟩
  rw [results_tmp3 rfl, k2, k3, k4]
end Go.Proofs.YtcodhjoiikdhmaaGreatDoor

/- FnExactRead: an archive is read as its comment and the headers of its files. -/
import Derived.Test.YtcodhjoiikdhmaaGreatDoorQya
import Derived.Test.YtcodhjoiikdhmaaGreatDoorQxe
set_option linter.unusedVariables false
set_option linter.unusedSimpArgs false
namespace Go.Proofs.YtcodhjoiikdhmaaGreatDoor
open Go Go.RowKit
open Zp
theorem readGood (E : Errs) (B0 : Nat) (w : World) (l : List Ent) (c X Y : By) (hW : WE E B0 w) (hall : ∀ e ∈ l, HdOk e.h ∧ e.data.length ≤ 1048576) (h1000 : l.length ≤ 1000) (hc : c.length ≤ 65535) (he : ends (X ++ archB l c ++ Y) = 1) (hX : X.length ≤ 1048576) (hY : Y.length ≤ 1000)
    (hb : X = [] ∨ EndAt (X ++ archB l c ++ Y) (filesB l).length) : Calls Tryz.prog 28 #[.string (bs (X ++ archB l c ++ Y))] w (ReadP w c l) := by
  have hT := arcT_of hall h1000 hc he hX hY hb
  have hpl := places_length l (X.length + (filesB l).length) 0
  rw [← hpl] at hT
  refine readOkC E B0 w _ c _ _ _ _ l hW hT hpl ?_
  intro k e hk
  obtain ⟨-, hp, hat, hok⟩ := parts_gen hall h1000 hc he hX hY hb hk
  exact ⟨hok, _, _, hp, hat.cen⟩
theorem readGood0 (E : Errs) (B0 : Nat) (w : World) (l : List Ent) (c : By) (hW : WE E B0 w) (hg : GoodP l c) : Calls Tryz.prog 28 #[.string (bs (archB l c))] w (ReadP w c l) := by
  obtain ⟨hall, h1000, hc, he⟩ := hg
  have h0 : archB l c = [] ++ archB l c ++ [] := by simp
  rw [h0]
  exact readGood E B0 w l c [] [] hW hall h1000 hc (by rw [← h0]; exact he) (by simp) (by simp) (.inl rfl)
theorem flags_ok {l : List Ent} (h : ∀ e ∈ l, HdOk e.h) : ∀ e ∈ l, 0 ≤ e.h.flags ∧ e.h.flags ≤ 65535 := fun e he => (h e he).2.2.1
set_option maxRecDepth 100000 in
set_option maxHeartbeats 8000000 in
theorem exactReadLaw (E : Errs) (B0 : Nat) (w : World) (l : List Ent) (c : By) (v : Value) (hW : WE E B0 w) (hv : SV w v l) (hM : ∀ e ∈ l, EntM e ∧ HdM e.h) (hc : c.length ≤ 9223372036854775807) :
    Calls Tryz.prog 13 #[v, .string (bs c)] w fun x w' => x = .returned (.bool true) ∧ Fr [] w w' := by
  have HFIT := Lib.hid (fits1C l (fun e he => (hM e he).1) v w hv)
  have HV := Lib.hid hv
  have HW := Lib.hid hW
  have HMM := Lib.hid hM
  clear hv hW hM
  go_enter Tryz.func13, Tryz.ntmps13
  go_wp2_with fail
  refine HFIT.out.mono ?_
  rintro x w1 ⟨b, rfl, hb, hf1⟩
  have HB := Lib.hid hb
  have HF1 := Lib.hid hf1
  clear hb hf1
  cases b with
  | false =>
    go_wp2_with fail
    go_ret
    exact ⟨rfl, HF1.out⟩
  | true =>
    by_cases hcc : c.length ≤ 2147483647
    case neg =>
      have i1 : 2147483647 < (c.length : Int) := by omega
      go_wp2_with fail
      go_ret
      exact ⟨rfl, HF1.out⟩
    have i1 : ¬ 2147483647 < (c.length : Int) := by omega
    have hfit := HB.out.1 (by first | rfl | trivial)
    have HI := Lib.hid (fun e (he : e ∈ l) => (HMM.out e he).2.i (hfit.2 e he))
    have hl31 := hfit.1
    clear hfit
    have hpos1 : 0 < w1.heap.size := by have := HF1.out.size; have := HW.out.h18; omega
    have HG := Lib.hid (goodC l HI.out c hcc v w1 (HV.out.fr HF1.out (by simp)) hpos1)
    go_wp2_with fail
    refine HG.out.mono ?_
    rintro x w2 ⟨b2, rfl, hb2, hf2⟩
    have HB2 := Lib.hid hb2
    have HF2 := Lib.hid (HF1.out.trans hf2 (by simp))
    clear hb2 hf2
    cases b2 with
    | false =>
      go_wp2_with fail
      go_ret
      exact ⟨rfl, HF2.out⟩
    | true =>
    have HGOOD := Lib.hid (HB2.out.1 (by first | rfl | trivial))
    clear HB2
    obtain ⟨s1, s2, e1, e2⟩ := goodArc HGOOD.out
    have h1000 := HGOOD.out.2.1
    have hok : ∀ e ∈ l, HdOk e.h := fun e he => (HGOOD.out.1 e he).1
    have HOK := Lib.hid hok
    have HAR := Lib.hid (archC l HI.out c v w2 (HV.out.fr HF2.out (by simp)) (by have := HF2.out.size; have := HW.out.h18; omega) (by omega) (by omega) (by omega) hcc)
    rw [archI_ok c hok] at HAR
    have HRG := Lib.hid (fun (w' : World) (hf : Fr [] w w') => readGood0 E B0 w' l c (HW.out.fr hf (by simp)) HGOOD.out)
    have HLI := Lib.hid (fun (w' : World) (hf : Fr [] w w') => listedC l HI.out (flags_ok HOK.out) hl31 v w' (HV.out.fr hf (by simp)))
    obtain ⟨X, hX⟩ : ∃ X, archB l c = X := ⟨_, rfl⟩
    rw [hX] at HAR HRG
    clear s1 s2 e1 e2 hok hX
    go_wp2_with fail
    refine HAR.out.mono ?_
    rintro x w3 ⟨rfl, hf3⟩
    have HF3 := Lib.hid (HF2.out.trans hf3 (by simp))
    clear hf3
    go_wp2_with fail
    refine (HRG.out _ HF3.out).mono ?_
    rintro x w4 ⟨v4, rfl, hh4, hf4⟩
    have HH4 := Lib.hid hh4
    have HF4 := Lib.hid (HF3.out.trans hf4 (by simp))
    clear hh4 hf4
    go_wp2_with fail
    refine (HLI.out _ HF4.out).mono ?_
    rintro x w5 ⟨v5, rfl, hh5, hf5⟩
    have HSA := Lib.hid (sameC (bs c) _ _ v4 v5 (l.map lh) w5 (HH4.out.fr hf5 (by simp)) hh5 (by rw [List.length_map]; exact hl31))
    have HF5 := Lib.hid (HF4.out.trans hf5 (by simp))
    clear hh5 hf5
    go_wp2_with fail
    refine HSA.out.mono ?_
    rintro x w6 ⟨rfl, hf6⟩
    have HF6 := Lib.hid (HF5.out.trans hf6 (by simp))
    have HRD := Lib.hid (readsC E B0 w6 (HW.out.fr HF6.out (by simp)))
    clear hf6
    go_wp2_with fail
    refine HRD.out.mono ?_
    rintro x w7 ⟨rfl, hf7⟩
    go_wp2_with fail
    go_ret
    exact ⟨rfl, HF6.out.trans hf7 (by simp)⟩
end Go.Proofs.YtcodhjoiikdhmaaGreatDoor

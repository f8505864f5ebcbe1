/- FnCountSpoilt: a directory with another number of files than the end tells is not read. -/
import Derived.Test.YtcodhjoiikdhmaaGreatDoorQva
set_option linter.unusedVariables false
set_option linter.unusedSimpArgs false
namespace Go.Proofs.YtcodhjoiikdhmaaGreatDoor
open Go Go.RowKit
open Zp
theorem goodArc {l : List Ent} {c : By} (hg : GoodP l c) : (filesI l).length ≤ 1300000000 ∧ (dirI 0 l).length ≤ 1300000000 ∧ filesI l = filesB l ∧ dirI 0 l = dirB 0 l := by
  have hok : ∀ e ∈ l, HdOk e.h := fun e he => (hg.1 e he).1
  obtain ⟨s1, s2⟩ := size_small hg.1 hg.2.1
  exact ⟨s1, s2, filesI_ok hok, dirI_ok 0 hok⟩
theorem arcMiss {l : List Ent} {c : By} (hg : GoodP l c) (many : Nat) (hm : many ≤ 65534) (he : ends (filesB l ++ dirB 0 l ++ endB many (dirB 0 l).length (filesB l).length c) = 1) :
    ArcT (bs (filesB l ++ dirB 0 l ++ endB many (dirB 0 l).length (filesB l).length c)) c many (dirB 0 l).length (filesB l).length (places (filesB l).length 0 l) 0 := by
  obtain ⟨s1, s2, e1, e2⟩ := goodArc hg
  rw [e1] at s1
  rw [e2] at s2
  have hok : ∀ e ∈ l, HdOk e.h := fun e he => (hg.1 e he).1
  have hc := hg.2.2.1
  have h1000 := hg.2.1
  have hpl := places_length l (filesB l).length 0
  have hA : filesB l ++ dirB 0 l ++ endB many (dirB 0 l).length (filesB l).length c = (filesB l ++ dirB 0 l) ++ (endB many (dirB 0 l).length (filesB l).length c ++ []) := by simp
  refine ⟨⟨filesB l ++ dirB 0 l, [], (filesB l).length + (dirB 0 l).length, ?_, ?_, ?_, ?_, ?_⟩, ?_, ?_, hc, hm, ?_, .inl rfl⟩
  · rw [bs_list]; exact hA
  · rw [List.length_append]; omega
  · simp
  · rw [bs_list, Nat.zero_add]
    exact chain_at l _ (filesB l) (endB many (dirB 0 l).length (filesB l).length c) _ 0 (by simp) rfl hok (by omega)
  · rw [bs_list]
    exact end_at (A := filesB l ++ dirB 0 l) (Z := []) hA (by rw [List.length_append])
  · rw [bs_size, List.length_append, List.length_append, endB_length]; omega
  · rw [bs_list]; exact he
  · omega
set_option maxRecDepth 100000 in
set_option maxHeartbeats 8000000 in
theorem countLaw (E : Errs) (B0 : Nat) (w : World) (l : List Ent) (c : By) (k : Int) (v : Value) (hW : WE E B0 w) (hv : SV w v l) (hM : ∀ e ∈ l, EntM e ∧ HdM e.h) (hc : c.length ≤ 9223372036854775807) (hk : I64 k) :
    Calls Tryz.prog 12 #[v, .string (bs c), .int .i64 k] w fun x w' => x = .returned (.bool true) ∧ Fr [] w w' := by
  have HFIT := Lib.hid (fits1C l (fun e he => (hM e he).1) v w hv)
  have HV := Lib.hid hv
  have HW := Lib.hid hW
  have HMM := Lib.hid hM
  clear hv hW hM
  go_enter Tryz.func12, Tryz.ntmps12
  go_wp2_with fail
  refine HFIT.out.mono ?_
  rintro x w1 ⟨b, rfl, hb, hf1⟩
  have HB := Lib.hid hb
  have HF1 := Lib.hid hf1
  clear hb hf1
  cases b with
  | false =>
    go_wp2_with fail
    go_ret
    exact ⟨rfl, HF1.out⟩
  | true =>
    by_cases hcc : c.length ≤ 2147483647
    case neg =>
      have i1 : 2147483647 < (c.length : Int) := by omega
      go_wp2_with fail
      go_ret
      exact ⟨rfl, HF1.out⟩
    have i1 : ¬ 2147483647 < (c.length : Int) := by omega
    have hfit := HB.out.1 (by first | rfl | trivial)
    have HI := Lib.hid (fun e (he : e ∈ l) => (HMM.out e he).2.i (hfit.2 e he))
    have hl31 := hfit.1
    clear hfit
    have hpos1 : 0 < w1.heap.size := by have := HF1.out.size; have := HW.out.h18; omega
    have HG := Lib.hid (goodC l HI.out c hcc v w1 (HV.out.fr HF1.out (by simp)) hpos1)
    go_wp2_with fail
    refine HG.out.mono ?_
    rintro x w2 ⟨b2, rfl, hb2, hf2⟩
    have HB2 := Lib.hid hb2
    have HF2 := Lib.hid (HF1.out.trans hf2 (by simp))
    clear hb2 hf2
    cases b2 with
    | false =>
      go_wp2_with fail
      go_ret
      exact ⟨rfl, HF2.out⟩
    | true =>
    have HGOOD := Lib.hid (HB2.out.1 (by first | rfl | trivial))
    clear HB2
    have hsv := HV.out
    have HSV := Lib.hid (fun (w' : World) (hf : Fr [] w w') => HV.out.fr hf (by simp))
    obtain ⟨p, cap, rfl, hlc, hcm, -⟩ := hsv
    by_cases hk0 : k < 0
    · go_wp2_with fail
      go_ret
      exact ⟨rfl, HF2.out⟩
    have d1 : decide (k < 0) = false := decide_eq_false hk0
    by_cases hk1 : 65534 < k
    · go_wp2_with fail
      go_ret
      exact ⟨rfl, HF2.out⟩
    have d2 : decide (65534 < k) = false := decide_eq_false hk1
    obtain ⟨mn, rfl⟩ : ∃ mn : Nat, k = (mn : Int) := ⟨k.toNat, by omega⟩
    by_cases hkn : (mn : Int) = (l.length : Int)
    · go_wp2_with fail
      all_goals go_ret
      all_goals exact ⟨rfl, HF2.out⟩
    obtain ⟨s1, s2, e1, e2⟩ := goodArc HGOOD.out
    have HFI := Lib.hid (filesC l HI.out _ w2 (HSV.out w2 HF2.out) (by omega))
    have HDI := Lib.hid (fun (w' : World) (hf : Fr [] w w') => dirC l HI.out _ w' (HSV.out w' hf) (by omega) (by omega))
    rw [e1] at s1 HFI
    rw [e2] at s2 HDI
    have HEN := Lib.hid (fun (w' : World) (h0 : 0 < w'.heap.size) => endC (mn : Int) ((dirB 0 l).length : Int) ((filesB l).length : Int) c ⟨by omega, by omega⟩ ⟨by omega, by omega⟩ ⟨by omega, by omega⟩ hcc w' h0)
    rw [endI_ok] at HEN
    have HMI := Lib.hid (arcMiss HGOOD.out mn (by omega))
    have hel := endB_length mn (dirB 0 l).length (filesB l).length c
    obtain ⟨Ff, hFf⟩ : ∃ Ff, filesB l = Ff := ⟨_, rfl⟩
    obtain ⟨Dd, hDd⟩ : ∃ Dd, dirB 0 l = Dd := ⟨_, rfl⟩
    have HPL := Lib.hid (places_length l Ff.length 0)
    rw [hFf] at s1 HFI HEN HMI hel
    rw [hDd] at s2 HDI HEN HMI hel
    obtain ⟨Ee, hEe⟩ : ∃ Ee, endB mn Dd.length Ff.length c = Ee := ⟨_, rfl⟩
    rw [hEe] at HEN HMI hel
    clear e1 e2 hFf hDd hEe
    have q1 : ¬ 9223372036854775807 < Ff.length + Dd.length := by omega
    have q2 : ¬ 9223372036854775807 < Ff.length + Dd.length + Ee.length := by omega
    have hsz : (Ff ++ Dd ++ Ee).length ≤ 4000000000 := by have := HGOOD.out.2.2.1; rw [List.length_append, List.length_append]; omega
    clear hel
    go_wp2_with fail
    refine HFI.out.mono ?_
    rintro x w3 ⟨rfl, hf3⟩
    have HF3 := Lib.hid (HF2.out.trans hf3 (by simp))
    have HDI2 := Lib.hid (HDI.out w3 HF3.out)
    clear hf3
    go_wp2_with fail
    refine HDI2.out.mono ?_
    rintro x w4 ⟨rfl, hf4⟩
    have HF4 := Lib.hid (HF3.out.trans hf4 (by simp))
    clear hf4
    go_wp2_with fail
    refine (HEN.out w4 (by have := HF4.out.size; have := HW.out.h18; omega)).mono ?_
    rintro x w5 ⟨rfl, hf5⟩
    have HF5 := Lib.hid (HF4.out.trans hf5 (by simp))
    clear hf5
    go_wp2_with fail
    rw [bs_append, bs_append]
    obtain ⟨X, hX⟩ : ∃ X, Ff ++ Dd ++ Ee = X := ⟨_, rfl⟩
    rw [hX] at hsz HMI ⊢
    have hW5 := HW.out.fr HF5.out (by simp)
    have HW5 := Lib.hid hW5
    clear hX hW5 q1 q2
    refine (endsC (bs X) w5 (by rw [bs_size]; omega)).mono ?_
    rintro x w6 ⟨rfl, rfl⟩
    by_cases h1 : ends X = 1
    · have HR := Lib.hid (readBadC E B0 w6 (bs X) HW5.out (by rw [bs_size]; exact hsz) (nrMiss E B0 (bs X) c mn _ _ _ _ (HMI.out h1) (by rw [HPL.out]; omega)))
      have h1' : ((ends (bs X).data.toList : Nat) : Int) = 1 := by rw [bs_list, h1]; rfl
      rw [h1']
      clear h1'
      go_wp2_with fail
      refine HR.out.mono ?_
      rintro x w7 ⟨rfl, hf7⟩
      have hfo := fieldOk false ⟨#[]⟩ 0 0 none w7
      have HRD := Lib.hid (readsC E B0 w7 (HW5.out.fr hf7 (by simp)))
      have HF7 := Lib.hid (HF5.out.trans hf7 (by simp))
      clear hf7
      go_wp2_with fail
      refine HRD.out.mono ?_
      rintro x w8 ⟨rfl, hf8⟩
      go_wp2_with fail
      go_ret
      exact ⟨rfl, HF7.out.trans hf8 (by simp)⟩
    · obtain ⟨m, hm⟩ : ∃ m : Nat, ends (bs X).data.toList = m := ⟨_, rfl⟩
      have hm1 : ¬ (m : Int) = 1 := by rw [bs_list] at hm; omega
      have HRD := Lib.hid (readsC E B0 w6 HW5.out)
      rw [hm]
      clear hm
      go_wp2_with fail
      all_goals refine HRD.out.mono ?_
      all_goals rintro x w8 ⟨rfl, hf8⟩
      all_goals go_wp2_with fail
      all_goals go_ret
      all_goals exact ⟨rfl, HF5.out.trans hf8 (by simp)⟩
end Go.Proofs.YtcodhjoiikdhmaaGreatDoor

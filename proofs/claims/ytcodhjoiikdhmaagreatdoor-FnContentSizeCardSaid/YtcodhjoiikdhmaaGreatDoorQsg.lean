/- FnContentSize: a file whose size is told greater than its content is not read whole. -/
import Derived.Test.YtcodhjoiikdhmaaGreatDoorQqf
set_option linter.unusedVariables false
set_option linter.unusedSimpArgs false
namespace Go.Proofs.YtcodhjoiikdhmaaGreatDoor
open Go Go.RowKit
open Zp
set_option maxRecDepth 100000 in
set_option maxHeartbeats 8000000 in
theorem sizeLaw (E : Errs) (B0 : Nat) (w : World) (l : List Ent) (c : By) (k more : Int) (v : Value) (hW : WE E B0 w) (hv : SV w v l) (hM : ∀ e ∈ l, EntM e ∧ HdM e.h) (hc : c.length ≤ 9223372036854775807) (hk : I64 k) (hmo : I64 more) :
    Calls Tryz.prog 6 #[v, .string (bs c), .int .i64 k, .int .i64 more] w fun x w' => x = .returned (.bool true) ∧ Fr [] w w' := by
  have HFIT := Lib.hid (fits1C l (fun e he => (hM e he).1) v w hv)
  have HV := Lib.hid hv
  have HW := Lib.hid hW
  have HMM := Lib.hid hM
  clear hv hW hM
  go_enter Tryz.func6, Tryz.ntmps6
  go_wp2_with fail
  refine HFIT.out.mono ?_
  rintro x w1 ⟨b, rfl, hb, hf1⟩
  have HB := Lib.hid hb
  have HF1 := Lib.hid hf1
  clear hb hf1
  cases b with
  | false =>
    go_wp2_with fail
    go_ret
    exact ⟨rfl, HF1.out⟩
  | true =>
    by_cases hcc : c.length ≤ 2147483647
    case neg =>
      have i1 : 2147483647 < (c.length : Int) := by omega
      go_wp2_with fail
      go_ret
      exact ⟨rfl, HF1.out⟩
    have i1 : ¬ 2147483647 < (c.length : Int) := by omega
    have hfit := HB.out.1 (by first | rfl | trivial)
    have HI := Lib.hid (fun e (he : e ∈ l) => (HMM.out e he).2.i (hfit.2 e he))
    have HAS := Lib.hid (allStoredC l HI.out hfit.1 v w1 (HV.out.fr HF1.out (by simp)))
    have hl31 := hfit.1
    clear hfit
    go_wp2_with fail
    refine HAS.out.mono ?_
    rintro x w2 ⟨v2, rfl, hol, hf2⟩
    have HF2 := Lib.hid (HF1.out.trans hf2 (by simp))
    have HOL := Lib.hid hol
    obtain ⟨p, cap, rfl⟩ := hol.len
    obtain ⟨n, hn⟩ : ∃ n, (l.map storedE).length = n := ⟨_, rfl⟩
    have hnl : l.length = n := by rw [← hn, List.length_map]
    rw [hn] at HOL ⊢
    clear hf2 hol
    have HPOS1 := Lib.hid (show 0 < w1.heap.size by have := HF1.out.size; have := HW.out.h18; omega)
    by_cases hk0 : k < 0
    · go_wp2_with fail
      go_ret
      exact ⟨rfl, HF2.out⟩
    obtain ⟨kn, rfl⟩ : ∃ kn : Nat, k = (kn : Int) := ⟨k.toNat, by omega⟩
    have d1 : decide ((kn : Int) < 0) = false := decide_eq_false (by omega)
    by_cases hkn : (n : Int) ≤ (kn : Int)
    · go_wp2_with fail
      go_ret
      exact ⟨rfl, HF2.out⟩
    have d2 : decide (n ≤ kn) = false := decide_eq_false (by omega)
    by_cases hc1 : more < 1
    · go_wp2_with fail
      go_ret
      exact ⟨rfl, HF2.out⟩
    by_cases hc2 : 1048576 < more
    · go_wp2_with fail
      go_ret
      exact ⟨rfl, HF2.out⟩
    have d3 : decide (more < 1) = false := decide_eq_false hc1
    have d4 : decide (1048576 < more) = false := decide_eq_false hc2
    have hkl : kn < l.length := by omega
    obtain ⟨g, cap', hsl, hge, hgl, hnc, hcm⟩ := HOL.out.row (fun h => by rw [h] at hn; simp at hn; omega)
    rw [hn] at hsl hnc
    injection hsl with e1 e2 e3
    subst e1
    subst e3
    clear e2
    obtain ⟨e0, he0⟩ : ∃ e0, l[kn] = e0 := ⟨_, rfl⟩
    have hmk : (l.map storedE)[kn]? = some (storedE e0) := by rw [List.getElem?_map, List.getElem?_eq_getElem hkl, he0]; rfl
    have hei0 : EntI (storedE e0) := storedI (HI.out e0 (by rw [← he0]; exact List.getElem_mem hkl))
    have hd0 := hei0.data
    change e0.data.length ≤ 2147483647 at hd0
    have cJ : w2.cell? ⟨g, kn * 15 + 12, none⟩ = some (.int .i64 (e0.data.length : Int)) := HOL.out.range hmk 12 _ rfl
    have zJ : w2.frozen? ⟨g, kn * 15 + 12, none⟩ = false := HOL.out.frozen hn.symm _
    have hkn' : (kn : Int) < (n : Int) := by omega
    obtain ⟨e, hee⟩ : ∃ e : Ent, (⟨{ (storedE e0).h with size := (e0.data.length : Int) + more }, e0.data⟩ : Ent) = e := ⟨_, rfl⟩
    have hol3 := HOL.out.put (u := (.int .i64 ((e0.data.length : Int) + more))) hn.symm hmk (j := 12) (by omega) (e' := e) (by rw [← hee]; rfl)
    have HOL3 := Lib.hid hol3
    have HF3 := Lib.hid (HF2.out.setCell (p := ⟨g, kn * 15 + 12, none⟩) (.inr (Nat.le_trans HF1.out.size hge)) (.int .i64 ((e0.data.length : Int) + more)))
    have hgl3 : g < (w2.setCell ⟨g, kn * 15 + 12, none⟩ (.int .i64 ((e0.data.length : Int) + more))).heap.size := by simpa [World.setCell] using hgl
    clear hol3
    go_wp2_with fail
    clear cJ zJ HOL HF2 hgl
    obtain ⟨w3', hw3⟩ : ∃ w3', w2.setCell ⟨g, kn * 15 + 12, none⟩ (.int .i64 ((e0.data.length : Int) + more)) = w3' := ⟨_, rfl⟩
    rw [hw3] at HOL3 HF3 hgl3 ⊢
    clear hw3
    have hei : EntI e := by
      rw [← hee]
      obtain ⟨⟨h1, h2, h3, h4, h5, h6, h7, h8, h9, h10, h11, h12, h13⟩, hd⟩ := hei0
      exact ⟨⟨h1, h2, h3, h4, h5, h6, h7, h8, ⟨by show _ ≤ (e0.data.length : Int) + more; omega, by show (e0.data.length : Int) + more ≤ _; omega⟩, h10, h11, h12, h13⟩, hd⟩
    obtain ⟨l', hl'⟩ : ∃ l', (l.map storedE).set kn e = l' := ⟨_, rfl⟩
    have hln : l'.length = n := by rw [← hl', List.length_set]; exact hn
    have hle : l'[kn]? = some e := by rw [← hl', List.getElem?_set_self (by rw [List.length_map]; exact hkl)]
    have hEI : ∀ x ∈ l', EntI x := fun x hx => by
      rw [← hl'] at hx
      rcases List.mem_or_eq_of_mem_set hx with hx | hx
      · obtain ⟨y, hy, rfl⟩ := List.mem_map.1 hx
        exact storedI (HI.out y hy)
      · rw [hx]; exact hei
    rw [hl'] at HOL3
    clear hl' hei0
    have hem : e ∈ l' := List.mem_of_getElem? hle
    have HF2 := HF3
    have HOL := HOL3
    have hgl := hgl3
    clear HF3 HOL3 hgl3
    have HSV := Lib.hid (fun (w' : World) (hf : Fr [] w3' w') => HOL.out.sv.fr hf (by simp))
    have HPOS := Lib.hid (fun (w' : World) (hf : Fr [] w3' w') => (show 0 < w'.heap.size from by have := HF2.out.size; have := HW.out.h18; have := hf.size; omega))
    have HG := Lib.hid (fun (w' : World) (hf : Fr [] w3' w') => goodC l' hEI c hcc _ w' (HSV.out w' hf) (HPOS.out w' hf))
    have HD := Lib.hid (fun (w' : World) (hf : Fr [] w3' w') => dirsC l' hEI _ w' (HSV.out w' hf))
    have HR := Lib.hid (fun (w' : World) (hf : Fr [] w3' w') => cellsE (rangeAt_fr (HOL.out.range hle) hgl hf))
    have HS := Lib.hid (fun (w' : World) => simpleC e.h hei.hd w')
    have HEI := Lib.hid hEI
    have HEI1 := Lib.hid hei
    have HLE := Lib.hid hle
    clear hei hle hEI
    refine (HG.out _ (Fr.refl _ _)).mono ?_
    rintro x w3 ⟨b2, rfl, hb2, hf3⟩
    have HB2 := Lib.hid hb2
    have HF3 := Lib.hid hf3
    clear hb2 hf3
    cases b2 with
    | false =>
      go_wp2_with fail
      go_ret
      exact ⟨rfl, HF2.out.trans HF3.out (by simp)⟩
    | true =>
    have HGOOD := Lib.hid (HB2.out.1 (by first | rfl | trivial))
    clear HB2
    obtain ⟨c0, c1, c2, c3, c4, c5, c6, c7, c8, c9, c10, c11, c12, c13, c14⟩ := HR.out w3 HF3.out
    go_wp2_with fail
    clear c0 c1 c2 c3 c4 c5 c6 c7 c8 c9 c10 c11 c12 c13 c14
    refine (HS.out _).mono ?_
    rintro x w5 ⟨rfl, hf5⟩
    have HF5 := Lib.hid (HF3.out.trans hf5 (by simp))
    clear hf5
    by_cases hsim : (e.h.flags.tdiv 8).tmod 2 = 0
    case neg =>
      have d3 : decide ((e.h.flags.tdiv 8).tmod 2 = 0) = false := decide_eq_false hsim
      rw [d3]
      go_wp2_with fail
      go_ret
      exact ⟨rfl, HF2.out.trans HF5.out (by simp)⟩
    have d3 : decide ((e.h.flags.tdiv 8).tmod 2 = 0) = true := decide_eq_true hsim
    rw [d3]
    clear d3
    have HOK := Lib.hid (fun x (hx : x ∈ l') => (HGOOD.out.1 x hx).1)
    obtain ⟨s1, s2⟩ := size_small HGOOD.out.1 HGOOD.out.2.1
    have h1000 := HGOOD.out.2.1
    have HAR := Lib.hid (archC l' HEI.out c _ w5 (HSV.out w5 HF5.out) (HPOS.out w5 HF5.out) (by omega) (by omega) (by omega) hcc)
    rw [archI_ok c HOK.out] at HAR
    have HFK := Lib.hid (fileK_of HGOOD.out HLE.out)
    clear s1 s2
    go_wp2_with fail
    refine HAR.out.mono ?_
    rintro x w6 ⟨rfl, hf6⟩
    have HF6 := Lib.hid (HF5.out.trans hf6 (by simp))
    have hW6 := HW.out.fr (HF2.out.trans HF6.out (by simp)) (by simp)
    have HW6 := Lib.hid hW6
    obtain ⟨S, hS⟩ : ∃ S, bs (archB l' c) = S := ⟨_, rfl⟩
    rw [hS] at HFK ⊢
    clear hf6 hW6 hS
    have HCT := Lib.hid (contSize E B0 w6 S kn e HW6.out HFK.out (by rw [← hee]; rfl) (by rw [← hee]; rfl) (by rw [← hee]; show (e0.data.length : Int) < (e0.data.length : Int) + more; omega) hsim)
    clear HFK
    go_wp2_with fail
    refine HCT.out.mono ?_
    rintro x w7 ⟨X, m, hm0, rfl, hf7⟩
    have HF7 := Lib.hid (HF6.out.trans hf7 (by simp))
    have HRD := Lib.hid (readsC E B0 w7 (HW6.out.fr hf7 (by simp)))
    clear hf7
    go_wp2_with fail
    refine HRD.out.mono ?_
    rintro x w8 ⟨rfl, hf8⟩
    go_wp2_with fail
    go_ret
    refine ⟨?_, (HF2.out.trans HF7.out (by simp)).trans hf8 (by simp)⟩
    show Ending.returned (.bool (m != 0)) = _
    rw [show (m != 0) = true by simpa using hm0]
end Go.Proofs.YtcodhjoiikdhmaaGreatDoor

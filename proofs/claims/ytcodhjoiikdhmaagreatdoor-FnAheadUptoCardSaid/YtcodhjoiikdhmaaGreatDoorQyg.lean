/- FnAhead: what stands ahead of an archive is not looked at. -/
import Derived.Test.YtcodhjoiikdhmaaGreatDoorQya
set_option linter.unusedVariables false
set_option linter.unusedSimpArgs false
namespace Go.Proofs.YtcodhjoiikdhmaaGreatDoor
open Go Go.RowKit
namespace Zp
theorem num_inj : ∀ (l m : By), l.length = m.length → num l = num m → l = m
  | [], [], _, _ => rfl
  | [], _ :: _, h, _ => by simp at h
  | _ :: _, [], h, _ => by simp at h
  | a :: l, b :: m, h, hn => by
    simp only [num] at hn
    have h1 := a.toNat_lt
    have h2 := b.toNat_lt
    have h3 : a = b := UInt8.toNat_inj.1 (by omega)
    rw [h3, num_inj l m (by simpa using h) (by omega)]
theorem endAt_of {s : By} {F : Nat} (hF : F < s.length) (h : ¬ (F + 4 ≤ s.length ∧ (s.drop F).take 4 = sigC)) : EndAt s F := by
  refine ⟨hF, ?_⟩
  by_cases h1 : s.length < F + 46
  · exact .inl h1
  · refine .inr fun hn => h ⟨by omega, num_inj _ _ ?_ (by rw [hn]; rfl)⟩
    rw [List.length_take, List.length_drop, show sigC.length = 4 from rfl]
    omega
end Zp
open Zp
theorem ext4 (s : By) (p : Nat) : (bs s).extract p (p + 4) = bs ((s.drop p).take 4) := by
  apply ByteArray.ext
  rw [ByteArray.data_extract]
  show s.toArray.extract p (p + 4) = ((s.drop p).take 4).toArray
  rw [List.extract_toArray, List.extract_eq_take_drop, show p + 4 - p = 4 by omega]
theorem bs_tl (l : By) : (bs l).toList = l := by
  rw [ByteArray.toList_eq]
set_option maxRecDepth 100000 in
set_option maxHeartbeats 4000000 in
theorem atC (s : By) (p : Nat) (w : World) (hs : s.length ≤ 4000000000) (hp : p ≤ 4000000000) :
    Calls Tryz.prog 25 #[.string (bs s), .int .i64 (p : Int), .string ⟨#[80, 75, 1, 2]⟩] w (BoolP (p + 4 ≤ s.length ∧ (s.drop p).take 4 = sigC) w) := by
  have hsz := bs_size s
  have HX := Lib.hid (ext4 s p)
  obtain ⟨S, hS⟩ : ∃ S, bs s = S := ⟨_, rfl⟩
  rw [hS] at hsz HX ⊢
  clear hS
  have p0 : decide ((0 : Int) ≤ (p : Int)) = true := decide_eq_true (by omega)
  have i0 : IntKind.i64.wrap ((p : Int) + 4) = (p : Int) + 4 := IntWalk.i64_in _ (by omega)
  obtain ⟨z, hz⟩ : ∃ z, S.size = z := ⟨_, rfl⟩
  rw [hz] at hsz
  by_cases h : p + 4 ≤ z
  · have i1 : (p : Int) + 4 ≤ (z : Int) := by omega
    have i2 : decide ((p : Int) + 4 ≤ (z : Int)) = true := decide_eq_true i1
    go_enter Tryz.func25, Tryz.ntmps25
    go_wp2_with fail
    go_ret
    refine ⟨_, rfl, ?_, Fr.refl _ _⟩
    rw [HX.out, bs_tl, beq_iff_eq]
    exact ⟨fun h2 => ⟨by omega, h2⟩, fun h2 => h2.2⟩
  · have i1 : ¬ (p : Int) + 4 ≤ (z : Int) := by omega
    have i2 : decide ((p : Int) + 4 ≤ (z : Int)) = false := decide_eq_false i1
    go_enter Tryz.func25, Tryz.ntmps25
    go_wp2_with fail
    go_ret
    exact ⟨false, rfl, ⟨fun h => (by cases h), fun h2 => absurd h2.1 (by omega)⟩, Fr.refl _ _⟩
set_option maxRecDepth 100000 in
set_option maxHeartbeats 16000000 in
theorem aheadLaw (E : Errs) (B0 : Nat) (w : World) (l : List Ent) (c m : By) (k : Int) (v : Value) (hW : WE E B0 w) (hv : SV w v l) (hM : ∀ e ∈ l, EntM e ∧ HdM e.h) (hc : c.length ≤ 9223372036854775807) (hm : m.length ≤ 9223372036854775807) (hk : I64 k) (hbk : l.length ≤ 1048576 ∧ bulkL l ≤ 1048576) :
    Calls Tryz.prog 9 #[v, .string (bs c), .string (bs m), .int .i64 k] w fun x w' => x = .returned (.bool true) ∧ Fr [] w w' := by
  have HFIT := Lib.hid (fits1C l (fun e he => (hM e he).1) v w hv)
  have HV := Lib.hid hv
  have HW := Lib.hid hW
  have HMM := Lib.hid hM
  have HBK := Lib.hid hbk
  clear hv hW hM hbk
  go_enter Tryz.func9, Tryz.ntmps9
  go_wp2_with fail
  refine HFIT.out.mono ?_
  rintro x w1 ⟨b, rfl, hb, hf1⟩
  have HB := Lib.hid hb
  have HF1 := Lib.hid hf1
  clear hb hf1
  cases b with
  | false =>
    go_wp2_with fail
    go_ret
    exact ⟨rfl, HF1.out⟩
  | true =>
    by_cases hcc : c.length ≤ 2147483647
    case neg =>
      have i1 : 2147483647 < (c.length : Int) := by omega
      go_wp2_with fail
      go_ret
      exact ⟨rfl, HF1.out⟩
    have i1 : ¬ 2147483647 < (c.length : Int) := by omega
    by_cases hmm : m.length ≤ 2147483647
    case neg =>
      have i2 : 2147483647 < (m.length : Int) := by omega
      go_wp2_with fail
      go_ret
      exact ⟨rfl, HF1.out⟩
    have i2 : ¬ 2147483647 < (m.length : Int) := by omega
    have hfit := HB.out.1 (by first | rfl | trivial)
    have HI := Lib.hid (fun e (he : e ∈ l) => (HMM.out e he).2.i (hfit.2 e he))
    have HAS := Lib.hid (allStoredC l HI.out hfit.1 v w1 (HV.out.fr HF1.out (by simp)))
    have hl31 := hfit.1
    clear hfit
    go_wp2_with fail
    refine HAS.out.mono ?_
    rintro x w2 ⟨v2, rfl, hol, hf2⟩
    have HF2 := Lib.hid (HF1.out.trans hf2 (by simp))
    have HOL := Lib.hid hol
    obtain ⟨p, cap, rfl⟩ := hol.len
    obtain ⟨n, hn⟩ : ∃ n, (l.map storedE).length = n := ⟨_, rfl⟩
    have hnl : l.length = n := by rw [← hn, List.length_map]
    rw [hn] at HOL ⊢
    clear hf2 hol
    obtain ⟨l', hl'⟩ : ∃ l', l.map storedE = l' := ⟨_, rfl⟩
    have HL' := Lib.hid hl'
    have hEI : ∀ x ∈ l', EntI x := fun x hx => by
      rw [← hl'] at hx
      obtain ⟨y, hy, rfl⟩ := List.mem_map.1 hx
      exact storedI (HI.out y hy)
    have hb1 := filesI_bulk l'
    have hb2 := dirI_bulk l' 0
    have hbs := bulk_stored l
    rw [hl'] at HOL hn hbs
    have hb0 := HBK.out
    have HB1 := Lib.hid (show (filesI l').length ≤ 60000000 by omega)
    have HB2 := Lib.hid (show (dirI 0 l').length ≤ 60000000 by omega)
    clear hl' hb1 hb2 hbs hb0
    have HSV := Lib.hid (fun (w' : World) (hf : Fr [] w2 w') => HOL.out.sv.fr hf (by simp))
    have HPOS := Lib.hid (fun (w' : World) (hf : Fr [] w2 w') => (show 0 < w'.heap.size from by have := HF2.out.size; have := HW.out.h18; have := hf.size; omega))
    have HG := Lib.hid (fun (w' : World) (hf : Fr [] w2 w') => goodC l' hEI c hcc _ w' (HSV.out w' hf) (HPOS.out w' hf))
    have HD := Lib.hid (fun (w' : World) (hf : Fr [] w2 w') => dirsC l' hEI _ w' (HSV.out w' hf))
    have HEI := Lib.hid hEI
    clear hEI
    have HAR := Lib.hid (archC l' HEI.out c _ w2 (HSV.out w2 (Fr.refl _ _)) (HPOS.out w2 (Fr.refl _ _)) (by omega) (by have := HB1.out; omega) (by have := HB2.out; omega) hcc)
    have hXl : (archI l' c).length ≤ 2400000000 := by
      have := HB1.out; have := HB2.out
      rw [archI, List.length_append, List.length_append, endI_length]; omega
    obtain ⟨X, hX⟩ : ∃ X, archI l' c = X := ⟨_, rfl⟩
    have HX := Lib.hid hX
    rw [hX] at HAR hXl
    clear hX
    have q1 : ¬ 9223372036854775807 < m.length + X.length := by omega
    go_wp2_with fail
    refine HAR.out.mono ?_
    rintro x w3 ⟨rfl, hf3⟩
    have HF3 := Lib.hid hf3
    clear hf3
    go_wp2_with fail
    rw [bs_append]
    refine (HG.out _ HF3.out).mono ?_
    rintro x w4 ⟨b2, rfl, hb2, hf4⟩
    have HB3 := Lib.hid hb2
    have HF4 := Lib.hid (HF3.out.trans hf4 (by simp))
    clear hb2 hf4
    cases b2 with
    | false =>
      go_wp2_with fail
      go_ret
      exact ⟨rfl, HF2.out.trans HF4.out (by simp)⟩
    | true =>
    have HGOOD := Lib.hid (HB3.out.1 (by first | rfl | trivial))
    clear HB3
    go_wp2_with fail
    refine (HD.out _ HF4.out).mono ?_
    rintro x w5 ⟨b3, rfl, hb3, hf5⟩
    have HB3 := Lib.hid hb3
    have HF5 := Lib.hid (HF4.out.trans hf5 (by simp))
    clear hb3 hf5
    cases b3 with
    | false =>
      go_wp2_with fail
      go_ret
      exact ⟨rfl, HF2.out.trans HF5.out (by simp)⟩
    | true =>
    have HDIR := Lib.hid (HB3.out.1 (by first | rfl | trivial))
    clear HB3
    by_cases hm1 : m.length ≤ 1048576
    case neg =>
      have i3 : 1048576 < (m.length : Int) := by omega
      have d3 : decide (1048576 < m.length) = true := decide_eq_true (by omega)
      go_wp2_with fail
      go_ret
      exact ⟨rfl, HF2.out.trans HF5.out (by simp)⟩
    have i3 : ¬ 1048576 < (m.length : Int) := by omega
    have d3 : decide (1048576 < m.length) = false := decide_eq_false (by omega)
    have HM1 := Lib.hid hm1
    have HXA := Lib.hid (show archB l' c = X by rw [← archI_ok c (fun e he => (HGOOD.out.1 e he).1)]; exact HX.out)
    have hXF : filesI l' = filesB l' := filesI_ok (fun e he => (HGOOD.out.1 e he).1)
    have HXF := Lib.hid hXF
    have HFI := Lib.hid (fun (w' : World) (hf : Fr [] w2 w') => filesC l' HEI.out _ w' (HSV.out w' hf) (by have := HB1.out; omega))
    rw [hXF] at HFI
    clear hXF
    have HLI := Lib.hid (fun (w' : World) (hf : Fr [] w2 w') => listedC l' HEI.out (flags_ok fun e he => (HGOOD.out.1 e he).1) (by omega) _ w' (HSV.out w' hf))
    have HLL := Lib.hid (show (l'.map lh).length ≤ 2147483647 by rw [List.length_map]; omega)
    go_wp2_with fail
    refine (endsC (bs (m ++ X)) _ (by rw [bs_size, List.length_append]; omega)).mono ?_
    rintro x w6 ⟨rfl, rfl⟩
    by_cases h1 : ends (m ++ X) = 1
    case neg =>
      obtain ⟨z, hz⟩ : ∃ z : Nat, ends (bs (m ++ X)).data.toList = z := ⟨_, rfl⟩
      have hz1 : ¬ (z : Int) = 1 := by rw [bs_list] at hz; omega
      have hz2 : ((z : Int) != 1) = true := by simp; omega
      rw [hz]
      clear hz
      go_wp2_with fail
      all_goals go_ret
      all_goals exact ⟨rfl, HF2.out.trans HF5.out (by simp)⟩
    have h1' : ((ends (bs (m ++ X)).data.toList : Nat) : Int) = 1 := by rw [bs_list, h1]; rfl
    rw [h1']
    clear h1'
    have hFl : (filesB l').length ≤ 60000000 := by rw [← HXF.out]; exact HB1.out
    have hFX : (filesB l').length < (m ++ X).length := by
      rw [← HXA.out, List.length_append, archB, List.length_append, List.length_append, endB_length]; omega
    have HFX := Lib.hid hFX
    obtain ⟨Fl, hFe⟩ : ∃ Fl, filesB l' = Fl := ⟨_, rfl⟩
    have HFE := Lib.hid hFe
    rw [hFe] at hFl HFI
    clear hFe hFX
    go_wp2_with fail
    refine (HFI.out _ HF5.out).mono ?_
    rintro x w5 ⟨rfl, hf6⟩
    have HF6 := Lib.hid (HF5.out.trans hf6 (by simp))
    clear hf6
    go_wp2_with fail
    refine (atC (m ++ X) Fl.length w5 (by rw [List.length_append]; omega) (by omega)).mono ?_
    rintro x w6 ⟨b4, rfl, hb4, hf6⟩
    have HB4 := Lib.hid hb4
    have HF6 := Lib.hid (HF6.out.trans hf6 (by simp))
    clear hb4 hf6
    cases b4 with
    | true =>
      by_cases hm0 : m = []
      case neg =>
        have hmb : List.isEmpty m = false := by simpa using hm0
        go_wp2_with fail
        all_goals go_ret
        all_goals exact ⟨rfl, HF2.out.trans HF6.out (by simp)⟩
      have hmb : List.isEmpty m = true := by rw [hm0]; rfl
      have HBZ0 := Lib.hid (show m = [] ∨ EndAt (m ++ X) (filesB l').length from .inl hm0)
      clear hm0
      obtain ⟨S, hS⟩ : ∃ S, m ++ X = S := ⟨_, rfl⟩
      have HSS := Lib.hid hS
      have HS0 := Lib.hid (show m ++ archB l' c ++ [] = S by rw [HXA.out, List.append_nil]; exact hS)
      have HEN := Lib.hid (show ends S = 1 by rw [← hS]; exact h1)
      have HBZ := Lib.hid (show m = [] ∨ EndAt S (filesB l').length by rw [← hS]; exact HBZ0.out)
      clear HBZ0
      rw [hS]
      clear hS h1
      by_cases hk0 : k < 0
      · have d5 : decide (0 ≤ k) = false := decide_eq_false (by omega)
        have HRG := Lib.hid (readGood E B0 _ l' c m [] (HW.out.fr (HF2.out.trans HF6.out (by simp)) (by simp)) HGOOD.out.1 HGOOD.out.2.1 HGOOD.out.2.2.1 (by rw [HS0.out]; exact HEN.out) HM1.out (by simp) (by rw [HS0.out]; exact HBZ.out))
        rw [HS0.out] at HRG
        go_wp2_with fail
        refine HRG.out.mono ?_
        rintro x wa ⟨v4, rfl, hh4, hf4⟩
        have HH4 := Lib.hid hh4
        have HFA := Lib.hid (HF6.out.trans hf4 (by simp))
        clear hh4 hf4
        go_wp2_with fail
        refine (HLI.out _ HFA.out).mono ?_
        rintro x wb ⟨v5, rfl, hh5, hf5⟩
        have HSA := Lib.hid (sameC (bs c) _ _ v4 v5 (l'.map lh) wb (HH4.out.fr hf5 (by simp)) hh5 HLL.out)
        have HFB := Lib.hid (HFA.out.trans hf5 (by simp))
        clear hh5 hf5
        go_wp2_with fail
        refine HSA.out.mono ?_
        rintro x wc ⟨rfl, hf6⟩
        have HFC := Lib.hid (HFB.out.trans hf6 (by simp))
        have HRD := Lib.hid (readsC E B0 wc (HW.out.fr (HF2.out.trans HFC.out (by simp)) (by simp)))
        clear hf6
        go_wp2_with fail
        refine HRD.out.mono ?_
        rintro x wd ⟨rfl, hf7⟩
        go_wp2_with fail
        go_ret
        exact ⟨rfl, (HF2.out.trans HFC.out (by simp)).trans hf7 (by simp)⟩
      obtain ⟨kn, rfl⟩ : ∃ kn : Nat, k = (kn : Int) := ⟨k.toNat, by omega⟩
      have d5 : decide ((0 : Int) ≤ (kn : Int)) = true := decide_eq_true (by omega)
      by_cases hkn : (n : Int) ≤ (kn : Int)
      · have d6 : decide ((kn : Int) < (n : Int)) = false := decide_eq_false (by omega)
        have d7 : ¬ (kn : Int) < (n : Int) := by omega
        have d8 : decide (kn < n) = false := decide_eq_false (by omega)
        have HRG := Lib.hid (readGood E B0 _ l' c m [] (HW.out.fr (HF2.out.trans HF6.out (by simp)) (by simp)) HGOOD.out.1 HGOOD.out.2.1 HGOOD.out.2.2.1 (by rw [HS0.out]; exact HEN.out) HM1.out (by simp) (by rw [HS0.out]; exact HBZ.out))
        rw [HS0.out] at HRG
        go_wp2_with fail
        refine HRG.out.mono ?_
        rintro x wa ⟨v4, rfl, hh4, hf4⟩
        have HH4 := Lib.hid hh4
        have HFA := Lib.hid (HF6.out.trans hf4 (by simp))
        clear hh4 hf4
        go_wp2_with fail
        refine (HLI.out _ HFA.out).mono ?_
        rintro x wb ⟨v5, rfl, hh5, hf5⟩
        have HSA := Lib.hid (sameC (bs c) _ _ v4 v5 (l'.map lh) wb (HH4.out.fr hf5 (by simp)) hh5 HLL.out)
        have HFB := Lib.hid (HFA.out.trans hf5 (by simp))
        clear hh5 hf5
        go_wp2_with fail
        refine HSA.out.mono ?_
        rintro x wc ⟨rfl, hf6⟩
        have HFC := Lib.hid (HFB.out.trans hf6 (by simp))
        have HRD := Lib.hid (readsC E B0 wc (HW.out.fr (HF2.out.trans HFC.out (by simp)) (by simp)))
        clear hf6
        go_wp2_with fail
        refine HRD.out.mono ?_
        rintro x wd ⟨rfl, hf7⟩
        go_wp2_with fail
        go_ret
        exact ⟨rfl, (HF2.out.trans HFC.out (by simp)).trans hf7 (by simp)⟩
      have hkl : kn < l'.length := by omega
      have d6 : decide (kn < n) = true := decide_eq_true (by omega)
      have hkn' : (kn : Int) < (n : Int) := by omega
      obtain ⟨g, cap', hsl, hge, hgl, hnc, hcm⟩ := HOL.out.row (fun h => by rw [h] at hn; simp at hn; omega)
      rw [hn] at hsl hnc
      injection hsl with e1 e2 e3
      subst e1
      subst e3
      clear e2
      obtain ⟨e, he⟩ : ∃ e, l'[kn] = e := ⟨_, rfl⟩
      have hle : l'[kn]? = some e := by rw [List.getElem?_eq_getElem hkl, he]
      have hem : e ∈ l' := by rw [← he]; exact List.getElem_mem hkl
      obtain ⟨e0, he0, hee⟩ : ∃ e0, e0 ∈ l ∧ storedE e0 = e := by
        rw [← HL'.out] at hem
        exact List.mem_map.1 hem
      have HR := Lib.hid (fun (w' : World) (hf : Fr [] w2 w') => cellsE (rangeAt_fr (HOL.out.range hle) hgl hf))
      have HSI := Lib.hid (fun (w' : World) => simpleC e.h (HEI.out e hem).hd w')
      have HFK := Lib.hid (show FileK (bs S) kn e by rw [← HS0.out]; exact fileK_gen HGOOD.out.1 HGOOD.out.2.1 HGOOD.out.2.2.1 (by rw [HS0.out]; exact HEN.out) HM1.out (by simp) (by rw [HS0.out]; exact HBZ.out) hle)
      have HDE := Lib.hid (HDIR.out e hem)
      have HEE := Lib.hid hee
      clear hle he hem he0 hee
      obtain ⟨c0, c1, c2, c3, c4, c5, c6, c7, c8, c9, c10, c11, c12, c13, c14⟩ := HR.out _ HF6.out
      go_wp2_with fail
      clear c0 c1 c2 c3 c4 c5 c6 c7 c8 c9 c10 c11 c12 c13 c14
      refine (HSI.out _).mono ?_
      rintro x w7 ⟨rfl, hf7⟩
      have HF7 := Lib.hid (HF6.out.trans hf7 (by simp))
      clear hf7
      by_cases hsim : (e.h.flags.tdiv 8).tmod 2 = 0
      case neg =>
        have d9 : decide ((e.h.flags.tdiv 8).tmod 2 = 0) = false := decide_eq_false hsim
        rw [d9]
        clear d9
        have HRG := Lib.hid (readGood E B0 _ l' c m [] (HW.out.fr (HF2.out.trans HF7.out (by simp)) (by simp)) HGOOD.out.1 HGOOD.out.2.1 HGOOD.out.2.2.1 (by rw [HS0.out]; exact HEN.out) HM1.out (by simp) (by rw [HS0.out]; exact HBZ.out))
        rw [HS0.out] at HRG
        go_wp2_with fail
        refine HRG.out.mono ?_
        rintro x wa ⟨v4, rfl, hh4, hf4⟩
        have HH4 := Lib.hid hh4
        have HFA := Lib.hid (HF7.out.trans hf4 (by simp))
        clear hh4 hf4
        go_wp2_with fail
        refine (HLI.out _ HFA.out).mono ?_
        rintro x wb ⟨v5, rfl, hh5, hf5⟩
        have HSA := Lib.hid (sameC (bs c) _ _ v4 v5 (l'.map lh) wb (HH4.out.fr hf5 (by simp)) hh5 HLL.out)
        have HFB := Lib.hid (HFA.out.trans hf5 (by simp))
        clear hh5 hf5
        go_wp2_with fail
        refine HSA.out.mono ?_
        rintro x wc ⟨rfl, hf6⟩
        have HFC := Lib.hid (HFB.out.trans hf6 (by simp))
        have HRD := Lib.hid (readsC E B0 wc (HW.out.fr (HF2.out.trans HFC.out (by simp)) (by simp)))
        clear hf6
        go_wp2_with fail
        refine HRD.out.mono ?_
        rintro x wd ⟨rfl, hf7⟩
        go_wp2_with fail
        go_ret
        exact ⟨rfl, (HF2.out.trans HFC.out (by simp)).trans hf7 (by simp)⟩
      have d9 : decide ((e.h.flags.tdiv 8).tmod 2 = 0) = true := decide_eq_true hsim
      rw [d9]
      clear d9
      have HCT := Lib.hid (contExact E B0 w7 (bs S) kn e (HW.out.fr (HF2.out.trans HF7.out (by simp)) (by simp)) HFK.out (by rw [← HEE.out]; rfl) (by rw [← HEE.out]; rfl) (by rw [← HEE.out]; rfl) (by rw [← HEE.out]; exact .inr rfl) hsim HDE.out)
      clear HFK
      go_wp2_with fail
      refine HCT.out.mono ?_
      rintro x w8 ⟨rfl, hf8⟩
      have HF8 := Lib.hid (HF7.out.trans hf8 (by simp))
      have c14 := (HR.out w8 HF8.out).2.2.2.2.2.2.2.2.2.2.2.2.2.2
      clear hf8
      have HRG := Lib.hid (readGood E B0 _ l' c m [] (HW.out.fr (HF2.out.trans HF8.out (by simp)) (by simp)) HGOOD.out.1 HGOOD.out.2.1 HGOOD.out.2.2.1 (by rw [HS0.out]; exact HEN.out) HM1.out (by simp) (by rw [HS0.out]; exact HBZ.out))
      rw [HS0.out] at HRG
      go_wp2_with fail
      refine HRG.out.mono ?_
      rintro x wa ⟨v4, rfl, hh4, hf4⟩
      have HH4 := Lib.hid hh4
      have HFA := Lib.hid (HF8.out.trans hf4 (by simp))
      clear hh4 hf4
      go_wp2_with fail
      refine (HLI.out _ HFA.out).mono ?_
      rintro x wb ⟨v5, rfl, hh5, hf5⟩
      have HSA := Lib.hid (sameC (bs c) _ _ v4 v5 (l'.map lh) wb (HH4.out.fr hf5 (by simp)) hh5 HLL.out)
      have HFB := Lib.hid (HFA.out.trans hf5 (by simp))
      clear hh5 hf5
      go_wp2_with fail
      refine HSA.out.mono ?_
      rintro x wc ⟨rfl, hf6⟩
      have HFC := Lib.hid (HFB.out.trans hf6 (by simp))
      have HRD := Lib.hid (readsC E B0 wc (HW.out.fr (HF2.out.trans HFC.out (by simp)) (by simp)))
      clear hf6
      go_wp2_with fail
      refine HRD.out.mono ?_
      rintro x wd ⟨rfl, hf7⟩
      go_wp2_with fail
      go_ret
      exact ⟨rfl, (HF2.out.trans HFC.out (by simp)).trans hf7 (by simp)⟩
    | false =>
      have HBZ0 := Lib.hid (show m = [] ∨ EndAt (m ++ X) (filesB l').length from .inr (by
        rw [HFE.out] at HFX ⊢
        exact endAt_of HFX.out (fun h => by have := HB4.out.2 h; cases this)))
      obtain ⟨S, hS⟩ : ∃ S, m ++ X = S := ⟨_, rfl⟩
      have HSS := Lib.hid hS
      have HS0 := Lib.hid (show m ++ archB l' c ++ [] = S by rw [HXA.out, List.append_nil]; exact hS)
      have HEN := Lib.hid (show ends S = 1 by rw [← hS]; exact h1)
      have HBZ := Lib.hid (show m = [] ∨ EndAt S (filesB l').length by rw [← hS]; exact HBZ0.out)
      clear HBZ0
      rw [hS]
      clear hS h1
      by_cases hk0 : k < 0
      · have d5 : decide (0 ≤ k) = false := decide_eq_false (by omega)
        have HRG := Lib.hid (readGood E B0 _ l' c m [] (HW.out.fr (HF2.out.trans HF6.out (by simp)) (by simp)) HGOOD.out.1 HGOOD.out.2.1 HGOOD.out.2.2.1 (by rw [HS0.out]; exact HEN.out) HM1.out (by simp) (by rw [HS0.out]; exact HBZ.out))
        rw [HS0.out] at HRG
        go_wp2_with fail
        refine HRG.out.mono ?_
        rintro x wa ⟨v4, rfl, hh4, hf4⟩
        have HH4 := Lib.hid hh4
        have HFA := Lib.hid (HF6.out.trans hf4 (by simp))
        clear hh4 hf4
        go_wp2_with fail
        refine (HLI.out _ HFA.out).mono ?_
        rintro x wb ⟨v5, rfl, hh5, hf5⟩
        have HSA := Lib.hid (sameC (bs c) _ _ v4 v5 (l'.map lh) wb (HH4.out.fr hf5 (by simp)) hh5 HLL.out)
        have HFB := Lib.hid (HFA.out.trans hf5 (by simp))
        clear hh5 hf5
        go_wp2_with fail
        refine HSA.out.mono ?_
        rintro x wc ⟨rfl, hf6⟩
        have HFC := Lib.hid (HFB.out.trans hf6 (by simp))
        have HRD := Lib.hid (readsC E B0 wc (HW.out.fr (HF2.out.trans HFC.out (by simp)) (by simp)))
        clear hf6
        go_wp2_with fail
        refine HRD.out.mono ?_
        rintro x wd ⟨rfl, hf7⟩
        go_wp2_with fail
        go_ret
        exact ⟨rfl, (HF2.out.trans HFC.out (by simp)).trans hf7 (by simp)⟩
      obtain ⟨kn, rfl⟩ : ∃ kn : Nat, k = (kn : Int) := ⟨k.toNat, by omega⟩
      have d5 : decide ((0 : Int) ≤ (kn : Int)) = true := decide_eq_true (by omega)
      by_cases hkn : (n : Int) ≤ (kn : Int)
      · have d6 : decide ((kn : Int) < (n : Int)) = false := decide_eq_false (by omega)
        have d7 : ¬ (kn : Int) < (n : Int) := by omega
        have d8 : decide (kn < n) = false := decide_eq_false (by omega)
        have HRG := Lib.hid (readGood E B0 _ l' c m [] (HW.out.fr (HF2.out.trans HF6.out (by simp)) (by simp)) HGOOD.out.1 HGOOD.out.2.1 HGOOD.out.2.2.1 (by rw [HS0.out]; exact HEN.out) HM1.out (by simp) (by rw [HS0.out]; exact HBZ.out))
        rw [HS0.out] at HRG
        go_wp2_with fail
        refine HRG.out.mono ?_
        rintro x wa ⟨v4, rfl, hh4, hf4⟩
        have HH4 := Lib.hid hh4
        have HFA := Lib.hid (HF6.out.trans hf4 (by simp))
        clear hh4 hf4
        go_wp2_with fail
        refine (HLI.out _ HFA.out).mono ?_
        rintro x wb ⟨v5, rfl, hh5, hf5⟩
        have HSA := Lib.hid (sameC (bs c) _ _ v4 v5 (l'.map lh) wb (HH4.out.fr hf5 (by simp)) hh5 HLL.out)
        have HFB := Lib.hid (HFA.out.trans hf5 (by simp))
        clear hh5 hf5
        go_wp2_with fail
        refine HSA.out.mono ?_
        rintro x wc ⟨rfl, hf6⟩
        have HFC := Lib.hid (HFB.out.trans hf6 (by simp))
        have HRD := Lib.hid (readsC E B0 wc (HW.out.fr (HF2.out.trans HFC.out (by simp)) (by simp)))
        clear hf6
        go_wp2_with fail
        refine HRD.out.mono ?_
        rintro x wd ⟨rfl, hf7⟩
        go_wp2_with fail
        go_ret
        exact ⟨rfl, (HF2.out.trans HFC.out (by simp)).trans hf7 (by simp)⟩
      have hkl : kn < l'.length := by omega
      have d6 : decide (kn < n) = true := decide_eq_true (by omega)
      have hkn' : (kn : Int) < (n : Int) := by omega
      obtain ⟨g, cap', hsl, hge, hgl, hnc, hcm⟩ := HOL.out.row (fun h => by rw [h] at hn; simp at hn; omega)
      rw [hn] at hsl hnc
      injection hsl with e1 e2 e3
      subst e1
      subst e3
      clear e2
      obtain ⟨e, he⟩ : ∃ e, l'[kn] = e := ⟨_, rfl⟩
      have hle : l'[kn]? = some e := by rw [List.getElem?_eq_getElem hkl, he]
      have hem : e ∈ l' := by rw [← he]; exact List.getElem_mem hkl
      obtain ⟨e0, he0, hee⟩ : ∃ e0, e0 ∈ l ∧ storedE e0 = e := by
        rw [← HL'.out] at hem
        exact List.mem_map.1 hem
      have HR := Lib.hid (fun (w' : World) (hf : Fr [] w2 w') => cellsE (rangeAt_fr (HOL.out.range hle) hgl hf))
      have HSI := Lib.hid (fun (w' : World) => simpleC e.h (HEI.out e hem).hd w')
      have HFK := Lib.hid (show FileK (bs S) kn e by rw [← HS0.out]; exact fileK_gen HGOOD.out.1 HGOOD.out.2.1 HGOOD.out.2.2.1 (by rw [HS0.out]; exact HEN.out) HM1.out (by simp) (by rw [HS0.out]; exact HBZ.out) hle)
      have HDE := Lib.hid (HDIR.out e hem)
      have HEE := Lib.hid hee
      clear hle he hem he0 hee
      obtain ⟨c0, c1, c2, c3, c4, c5, c6, c7, c8, c9, c10, c11, c12, c13, c14⟩ := HR.out _ HF6.out
      go_wp2_with fail
      clear c0 c1 c2 c3 c4 c5 c6 c7 c8 c9 c10 c11 c12 c13 c14
      refine (HSI.out _).mono ?_
      rintro x w7 ⟨rfl, hf7⟩
      have HF7 := Lib.hid (HF6.out.trans hf7 (by simp))
      clear hf7
      by_cases hsim : (e.h.flags.tdiv 8).tmod 2 = 0
      case neg =>
        have d9 : decide ((e.h.flags.tdiv 8).tmod 2 = 0) = false := decide_eq_false hsim
        rw [d9]
        clear d9
        have HRG := Lib.hid (readGood E B0 _ l' c m [] (HW.out.fr (HF2.out.trans HF7.out (by simp)) (by simp)) HGOOD.out.1 HGOOD.out.2.1 HGOOD.out.2.2.1 (by rw [HS0.out]; exact HEN.out) HM1.out (by simp) (by rw [HS0.out]; exact HBZ.out))
        rw [HS0.out] at HRG
        go_wp2_with fail
        refine HRG.out.mono ?_
        rintro x wa ⟨v4, rfl, hh4, hf4⟩
        have HH4 := Lib.hid hh4
        have HFA := Lib.hid (HF7.out.trans hf4 (by simp))
        clear hh4 hf4
        go_wp2_with fail
        refine (HLI.out _ HFA.out).mono ?_
        rintro x wb ⟨v5, rfl, hh5, hf5⟩
        have HSA := Lib.hid (sameC (bs c) _ _ v4 v5 (l'.map lh) wb (HH4.out.fr hf5 (by simp)) hh5 HLL.out)
        have HFB := Lib.hid (HFA.out.trans hf5 (by simp))
        clear hh5 hf5
        go_wp2_with fail
        refine HSA.out.mono ?_
        rintro x wc ⟨rfl, hf6⟩
        have HFC := Lib.hid (HFB.out.trans hf6 (by simp))
        have HRD := Lib.hid (readsC E B0 wc (HW.out.fr (HF2.out.trans HFC.out (by simp)) (by simp)))
        clear hf6
        go_wp2_with fail
        refine HRD.out.mono ?_
        rintro x wd ⟨rfl, hf7⟩
        go_wp2_with fail
        go_ret
        exact ⟨rfl, (HF2.out.trans HFC.out (by simp)).trans hf7 (by simp)⟩
      have d9 : decide ((e.h.flags.tdiv 8).tmod 2 = 0) = true := decide_eq_true hsim
      rw [d9]
      clear d9
      have HCT := Lib.hid (contExact E B0 w7 (bs S) kn e (HW.out.fr (HF2.out.trans HF7.out (by simp)) (by simp)) HFK.out (by rw [← HEE.out]; rfl) (by rw [← HEE.out]; rfl) (by rw [← HEE.out]; rfl) (by rw [← HEE.out]; exact .inr rfl) hsim HDE.out)
      clear HFK
      go_wp2_with fail
      refine HCT.out.mono ?_
      rintro x w8 ⟨rfl, hf8⟩
      have HF8 := Lib.hid (HF7.out.trans hf8 (by simp))
      have c14 := (HR.out w8 HF8.out).2.2.2.2.2.2.2.2.2.2.2.2.2.2
      clear hf8
      have HRG := Lib.hid (readGood E B0 _ l' c m [] (HW.out.fr (HF2.out.trans HF8.out (by simp)) (by simp)) HGOOD.out.1 HGOOD.out.2.1 HGOOD.out.2.2.1 (by rw [HS0.out]; exact HEN.out) HM1.out (by simp) (by rw [HS0.out]; exact HBZ.out))
      rw [HS0.out] at HRG
      go_wp2_with fail
      refine HRG.out.mono ?_
      rintro x wa ⟨v4, rfl, hh4, hf4⟩
      have HH4 := Lib.hid hh4
      have HFA := Lib.hid (HF8.out.trans hf4 (by simp))
      clear hh4 hf4
      go_wp2_with fail
      refine (HLI.out _ HFA.out).mono ?_
      rintro x wb ⟨v5, rfl, hh5, hf5⟩
      have HSA := Lib.hid (sameC (bs c) _ _ v4 v5 (l'.map lh) wb (HH4.out.fr hf5 (by simp)) hh5 HLL.out)
      have HFB := Lib.hid (HFA.out.trans hf5 (by simp))
      clear hh5 hf5
      go_wp2_with fail
      refine HSA.out.mono ?_
      rintro x wc ⟨rfl, hf6⟩
      have HFC := Lib.hid (HFB.out.trans hf6 (by simp))
      have HRD := Lib.hid (readsC E B0 wc (HW.out.fr (HF2.out.trans HFC.out (by simp)) (by simp)))
      clear hf6
      go_wp2_with fail
      refine HRD.out.mono ?_
      rintro x wd ⟨rfl, hf7⟩
      go_wp2_with fail
      go_ret
      exact ⟨rfl, (HF2.out.trans HFC.out (by simp)).trans hf7 (by simp)⟩
end Go.Proofs.YtcodhjoiikdhmaaGreatDoor

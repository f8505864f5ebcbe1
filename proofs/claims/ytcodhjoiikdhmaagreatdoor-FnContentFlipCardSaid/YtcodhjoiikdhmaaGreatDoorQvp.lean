/- FnContentFlip: one bit of a stored content that is turned is told by the checksum. -/
import Derived.Test.YtcodhjoiikdhmaaGreatDoorQqf
import Derived.Test.YtcodhjoiikdhmaaGreatDoorQva
set_option linter.unusedVariables false
set_option linter.unusedSimpArgs false
namespace Go.Proofs.YtcodhjoiikdhmaaGreatDoor
open Go Go.RowKit
open Zp
theorem bitMask (n : Nat) (h : n ≤ 7) : ∃ y : UInt8, y ≠ 0 ∧ IntKind.u8.wrap (2 ^ n) = (y.toNat : Int) := by
  have h8 : n = 0 ∨ n = 1 ∨ n = 2 ∨ n = 3 ∨ n = 4 ∨ n = 5 ∨ n = 6 ∨ n = 7 := by omega
  rcases h8 with rfl | rfl | rfl | rfl | rfl | rfl | rfl | rfl
  · exact ⟨1, by decide, by decide⟩
  · exact ⟨2, by decide, by decide⟩
  · exact ⟨4, by decide, by decide⟩
  · exact ⟨8, by decide, by decide⟩
  · exact ⟨16, by decide, by decide⟩
  · exact ⟨32, by decide, by decide⟩
  · exact ⟨64, by decide, by decide⟩
  · exact ⟨128, by decide, by decide⟩
theorem xor_ne (x y : UInt8) (h : y ≠ 0) : x ^^^ y ≠ x := by
  intro h0
  apply h
  have : x ^^^ (x ^^^ y) = x ^^^ x := by rw [h0]
  simpa [← UInt8.xor_assoc] using this
theorem crc_turn (A B : By) (x y : UInt8) (h : y ≠ 0) : crcOf 0 (A ++ (x ^^^ y) :: B) ≠ crcOf 0 (A ++ x :: B) := by
  intro h0
  unfold crcOf at h0
  have h1 : upd (0 ^^^ 4294967295) (A ++ (x ^^^ y) :: B) = upd (0 ^^^ 4294967295) (A ++ x :: B) := by
    have := congrArg (· ^^^ 4294967295) h0
    simpa [Nat.xor_assoc] using this
  exact upd_byte (by decide) A B (xor_ne x y h) h1
set_option maxRecDepth 100000 in
set_option maxHeartbeats 8000000 in
theorem flipLaw (E : Errs) (B0 : Nat) (w : World) (l : List Ent) (c : By) (k at_ bit : Int) (v : Value) (hW : WE E B0 w) (hv : SV w v l) (hM : ∀ e ∈ l, EntM e ∧ HdM e.h) (hc : c.length ≤ 9223372036854775807) (hk : I64 k) (ha : I64 at_) (hbi : I64 bit) :
    Calls Tryz.prog 4 #[v, .string (bs c), .int .i64 k, .int .i64 at_, .int .i64 bit] w fun x w' => x = .returned (.bool true) ∧ Fr [] w w' := by
  have HFIT := Lib.hid (fits1C l (fun e he => (hM e he).1) v w hv)
  have HV := Lib.hid hv
  have HW := Lib.hid hW
  have HMM := Lib.hid hM
  clear hv hW hM
  go_enter Tryz.func4, Tryz.ntmps4
  go_wp2_with fail
  refine HFIT.out.mono ?_
  rintro x w1 ⟨b, rfl, hb, hf1⟩
  have HB := Lib.hid hb
  have HF1 := Lib.hid hf1
  clear hb hf1
  cases b with
  | false =>
    go_wp2_with fail
    go_ret
    exact ⟨rfl, HF1.out⟩
  | true =>
    by_cases hcc : c.length ≤ 2147483647
    case neg =>
      have i1 : 2147483647 < (c.length : Int) := by omega
      go_wp2_with fail
      go_ret
      exact ⟨rfl, HF1.out⟩
    have i1 : ¬ 2147483647 < (c.length : Int) := by omega
    have hfit := HB.out.1 (by first | rfl | trivial)
    have HI := Lib.hid (fun e (he : e ∈ l) => (HMM.out e he).2.i (hfit.2 e he))
    have HAS := Lib.hid (allStoredC l HI.out hfit.1 v w1 (HV.out.fr HF1.out (by simp)))
    have hl31 := hfit.1
    clear hfit
    go_wp2_with fail
    refine HAS.out.mono ?_
    rintro x w2 ⟨v2, rfl, hol, hf2⟩
    have HF2 := Lib.hid (HF1.out.trans hf2 (by simp))
    have HOL := Lib.hid hol
    obtain ⟨p, cap, rfl⟩ := hol.len
    obtain ⟨n, hn⟩ : ∃ n, (l.map storedE).length = n := ⟨_, rfl⟩
    have hnl : l.length = n := by rw [← hn, List.length_map]
    rw [hn] at HOL ⊢
    clear hf2 hol
    have HPOS1 := Lib.hid (show 0 < w1.heap.size by have := HF1.out.size; have := HW.out.h18; omega)
    by_cases hk0 : k < 0
    · go_wp2_with fail
      go_ret
      exact ⟨rfl, HF2.out⟩
    obtain ⟨kn, rfl⟩ : ∃ kn : Nat, k = (kn : Int) := ⟨k.toNat, by omega⟩
    have d1 : decide ((kn : Int) < 0) = false := decide_eq_false (by omega)
    by_cases hkn : (n : Int) ≤ (kn : Int)
    · go_wp2_with fail
      go_ret
      exact ⟨rfl, HF2.out⟩
    have d2 : decide (n ≤ kn) = false := decide_eq_false (by omega)
    by_cases ha0 : at_ < 0
    · go_wp2_with fail
      go_ret
      exact ⟨rfl, HF2.out⟩
    obtain ⟨an, rfl⟩ : ∃ an : Nat, at_ = (an : Int) := ⟨at_.toNat, by omega⟩
    have d3 : decide ((an : Int) < 0) = false := decide_eq_false (by omega)
    have hkl : kn < l.length := by omega
    have hkn' : (kn : Int) < (n : Int) := by omega
    obtain ⟨g, cap', hsl, hge, hgl, hnc, hcm⟩ := HOL.out.row (fun h => by rw [h] at hn; simp at hn; omega)
    rw [hn] at hsl hnc
    injection hsl with e1 e2 e3
    subst e1
    subst e3
    clear e2
    obtain ⟨e0, he0⟩ : ∃ e0, l[kn] = e0 := ⟨_, rfl⟩
    have hmk : (l.map storedE)[kn]? = some (storedE e0) := by rw [List.getElem?_map, List.getElem?_eq_getElem hkl, he0]; rfl
    have hei0 : EntI (storedE e0) := storedI (HI.out e0 (by rw [← he0]; exact List.getElem_mem hkl))
    have hd0 := hei0.data
    change e0.data.length ≤ 2147483647 at hd0
    obtain ⟨dn, hdn⟩ : ∃ dn, e0.data.length = dn := ⟨_, rfl⟩
    have cD : w2.cell? ⟨g, kn * 15 + 14, none⟩ = some (.string (bs e0.data)) := HOL.out.range hmk 14 _ rfl
    have cC : w2.cell? ⟨g, kn * 15 + 10, none⟩ = some (.int .i64 (crcOf 0 e0.data : Int)) := HOL.out.range hmk 10 _ rfl
    have hbz : (bs e0.data).size = dn := by rw [bs_size]; exact hdn
    by_cases hadn : (dn : Int) ≤ (an : Int)
    · go_wp2_with fail
      go_ret
      exact ⟨rfl, HF2.out⟩
    have d4 : decide (dn ≤ an) = false := decide_eq_false (by omega)
    by_cases hb0 : bit < 0
    · go_wp2_with fail
      go_ret
      exact ⟨rfl, HF2.out⟩
    obtain ⟨bn, rfl⟩ : ∃ bn : Nat, bit = (bn : Int) := ⟨bit.toNat, by omega⟩
    have d5 : decide ((bn : Int) < 0) = false := decide_eq_false (by omega)
    by_cases hb7 : (7 : Int) < (bn : Int)
    · go_wp2_with fail
      go_ret
      exact ⟨rfl, HF2.out⟩
    have d6 : decide ((7 : Int) < (bn : Int)) = false := decide_eq_false (by omega)
    by_cases hc0 : crcOf 0 e0.data = 0
    · have d7 : (((crcOf 0 e0.data : Nat) : Int) == 0) = true := by rw [hc0]; rfl
      go_wp2_with fail
      go_ret
      exact ⟨rfl, HF2.out⟩
    have d7 : (((crcOf 0 e0.data : Nat) : Int) == 0) = false := by rw [beq_eq_false_iff_ne]; omega
    obtain ⟨A, z, B, hAB, hAl⟩ : ∃ A z B, e0.data = A ++ z :: B ∧ A.length = an := by
      refine ⟨e0.data.take an, e0.data[an]'(by omega), e0.data.drop (an + 1), ?_, by rw [List.length_take]; omega⟩
      rw [← List.drop_eq_getElem_cons (by omega), List.take_append_drop]
    obtain ⟨y, hy0, hyw⟩ := bitMask bn (by omega)
    have HY := Lib.hid hy0
    have HAB := Lib.hid hAB
    have hzl : A.length + B.length ≤ 4000000000 := by
      have h0 := hd0
      rw [hAB, List.length_append, List.length_cons] at h0
      omega
    have HT := Lib.hid (fun (w' : World) => turnedC A B z y an hAl w' hzl)
    have HC := Lib.hid (fun (w' : World) (hf : Fr [] w2 w') => (show w'.cell? ⟨g, kn * 15 + 14, none⟩ = some (.string (bs (A ++ z :: B))) from by rw [← hAB]; exact (HOL.out.fr hf (by simp)).range hmk 14 _ rfl))
    have HZ := Lib.hid (fun (w' : World) (hf : Fr [] w2 w') => (HOL.out.fr hf (by simp)).frozen hn.symm (kn * 15 + 14))
    have HHN := Lib.hid hn
    have hAl' := hAl
    clear hy0 hAl hAB
    go_wp2_with fail
    clear hbz
    have cD' := HC.out w2 (Fr.refl _ _)
    have zD' := HZ.out w2 (Fr.refl _ _)
    clear cD cC
    go_region_with (go_at_call 22; (with_reducible refine (HT.out _).mono ?_); rintro e2 w4 ⟨rfl, hf4⟩; have HF4 := Lib.hid (((Fr.refl [] w2).drew).trans hf4 (by simp)); have cD4 := HC.out w4 HF4.out; have zD4 := HZ.out w4 HF4.out)
    obtain ⟨e, hee⟩ : ∃ e : Ent, (⟨(storedE e0).h, A ++ (z ^^^ y) :: B⟩ : Ent) = e := ⟨_, rfl⟩
    have hol3 := (HOL.out.fr HF4.out (by simp)).put (u := .string (bs (A ++ (z ^^^ y) :: B))) HHN.out.symm hmk (j := 14) (by omega) (e' := e) (by rw [← hee]; rfl)
    have HOL3 := Lib.hid hol3
    have HF3 := Lib.hid ((HF2.out.trans HF4.out (by simp)).setCell (p := ⟨g, kn * 15 + 14, none⟩) (.inr (Nat.le_trans HF1.out.size hge)) (.string (bs (A ++ (z ^^^ y) :: B))))
    have hgl3 : g < (w4.setCell ⟨g, kn * 15 + 14, none⟩ (.string (bs (A ++ (z ^^^ y) :: B)))).heap.size := by simpa [World.setCell] using Nat.lt_of_lt_of_le hgl HF4.out.size
    clear hol3
    have hel : e.data.length = e0.data.length := by
      rw [← hee, HAB.out]
      show (A ++ (z ^^^ y) :: B).length = _
      simp
    clear cD' zD' HF4 cD4 zD4 hf4 HOL HF2 hgl HT HC HZ
    obtain ⟨w3', hw3⟩ : ∃ w3', w4.setCell ⟨g, kn * 15 + 14, none⟩ (.string (bs (A ++ (z ^^^ y) :: B))) = w3' := ⟨_, rfl⟩
    rw [hw3] at HOL3 HF3 hgl3 ⊢
    clear hw3
    have hei : EntI e := by
      obtain ⟨hh, hd⟩ := hei0
      have hh' : HdI e.h := by rw [← hee]; exact hh
      exact ⟨hh', by rw [hel]; exact hd0⟩
    have hn := HHN.out
    obtain ⟨l', hl'⟩ : ∃ l', (l.map storedE).set kn e = l' := ⟨_, rfl⟩
    have hln : l'.length = n := by rw [← hl', List.length_set]; exact hn
    have hle : l'[kn]? = some e := by rw [← hl', List.getElem?_set_self (by rw [List.length_map]; exact hkl)]
    have hEI : ∀ x ∈ l', EntI x := fun x hx => by
      rw [← hl'] at hx
      rcases List.mem_or_eq_of_mem_set hx with hx | hx
      · obtain ⟨y, hy, rfl⟩ := List.mem_map.1 hx
        exact storedI (HI.out y hy)
      · rw [hx]; exact hei
    rw [hl'] at HOL3
    clear hl' hei0
    have hem : e ∈ l' := List.mem_of_getElem? hle
    have HF2 := HF3
    have HOL := HOL3
    have hgl := hgl3
    clear HF3 HOL3 hgl3
    have HSV := Lib.hid (fun (w' : World) (hf : Fr [] w3' w') => HOL.out.sv.fr hf (by simp))
    have HPOS := Lib.hid (fun (w' : World) (hf : Fr [] w3' w') => (show 0 < w'.heap.size from by have := HF2.out.size; have := HW.out.h18; have := hf.size; omega))
    have HG := Lib.hid (fun (w' : World) (hf : Fr [] w3' w') => goodC l' hEI c hcc _ w' (HSV.out w' hf) (HPOS.out w' hf))
    have HD := Lib.hid (fun (w' : World) (hf : Fr [] w3' w') => dirsC l' hEI _ w' (HSV.out w' hf))
    have HR := Lib.hid (fun (w' : World) (hf : Fr [] w3' w') => cellsE (rangeAt_fr (HOL.out.range hle) hgl hf))
    have HS := Lib.hid (fun (w' : World) => simpleC e.h hei.hd w')
    have HEI := Lib.hid hEI
    have HEI1 := Lib.hid hei
    have HLE := Lib.hid hle
    clear hei hle hEI
    go_wp2_with fail
    refine (HG.out _ (Fr.refl _ _)).mono ?_
    rintro x w3 ⟨b2, rfl, hb2, hf3⟩
    have HB2 := Lib.hid hb2
    have HF3 := Lib.hid hf3
    clear hb2 hf3
    cases b2 with
    | false =>
      go_wp2_with fail
      go_ret
      exact ⟨rfl, HF2.out.trans HF3.out (by simp)⟩
    | true =>
    have HGOOD := Lib.hid (HB2.out.1 (by first | rfl | trivial))
    clear HB2
    go_wp2_with fail
    refine (HD.out _ HF3.out).mono ?_
    rintro x w4 ⟨b3, rfl, hb3, hf4⟩
    have HB3 := Lib.hid hb3
    have HF4 := Lib.hid (HF3.out.trans hf4 (by simp))
    clear hb3 hf4
    cases b3 with
    | false =>
      go_wp2_with fail
      go_ret
      exact ⟨rfl, HF2.out.trans HF4.out (by simp)⟩
    | true =>
    have HDIR := Lib.hid (HB3.out.1 (by first | rfl | trivial))
    clear HB3
    obtain ⟨c0, c1, c2, c3, c4, c5, c6, c7, c8, c9, c10, c11, c12, c13, c14⟩ := HR.out w4 HF4.out
    go_wp2_with fail
    clear c0 c1 c2 c3 c4 c5 c6 c7 c8 c9 c10 c11 c12 c13 c14
    refine (HS.out _).mono ?_
    rintro x w5 ⟨rfl, hf5⟩
    have HF5 := Lib.hid (HF4.out.trans hf5 (by simp))
    clear hf5
    by_cases hsim : (e.h.flags.tdiv 8).tmod 2 = 0
    case neg =>
      have d3 : decide ((e.h.flags.tdiv 8).tmod 2 = 0) = false := decide_eq_false hsim
      rw [d3]
      go_wp2_with fail
      go_ret
      exact ⟨rfl, HF2.out.trans HF5.out (by simp)⟩
    have d3 : decide ((e.h.flags.tdiv 8).tmod 2 = 0) = true := decide_eq_true hsim
    rw [d3]
    clear d3
    have HOK := Lib.hid (fun x (hx : x ∈ l') => (HGOOD.out.1 x hx).1)
    obtain ⟨s1, s2⟩ := size_small HGOOD.out.1 HGOOD.out.2.1
    have h1000 := HGOOD.out.2.1
    have HAR := Lib.hid (archC l' HEI.out c _ w5 (HSV.out w5 HF5.out) (HPOS.out w5 HF5.out) (by omega) (by omega) (by omega) hcc)
    rw [archI_ok c HOK.out] at HAR
    have HFK := Lib.hid (fileK_of HGOOD.out HLE.out)
    clear s1 s2
    go_wp2_with fail
    refine HAR.out.mono ?_
    rintro x w6 ⟨rfl, hf6⟩
    have HF6 := Lib.hid (HF5.out.trans hf6 (by simp))
    have hW6 := HW.out.fr (HF2.out.trans HF6.out (by simp)) (by simp)
    have HW6 := Lib.hid hW6
    obtain ⟨S, hS⟩ : ∃ S, bs (archB l' c) = S := ⟨_, rfl⟩
    rw [hS] at HFK ⊢
    clear hf6 hW6 hS
    have hdne : e.data ≠ [] := by
      rw [← hee]
      show A ++ (z ^^^ y) :: B ≠ []
      simp
    have hns : slash (bs e.h.name) = false := by
      rw [Bool.eq_false_iff]
      intro h
      exact HDIR.out e hem ⟨(slash_iff _).1 h, hdne⟩
    have hcf := content_file E B0 w6 S kn e HW6.out HFK.out hns (by rw [← hee]; rfl) (simple_fl HFK.out.ok.2.2.1.1 hsim) (by rw [hel, ← hee]; rfl) (by rw [← hee]; show (e0.data.length : Int) ≤ (e0.data.length : Int); exact Int.le_refl _)
    rw [show endN e.data.length e.h.size.toNat (crcOf 0 e.data) e.h.crc.toNat = 3 by
      have he1 : e.h.size = (e0.data.length : Int) := by rw [← hee]; rfl
      have he2 : e.h.crc = (crcOf 0 e0.data : Int) := by rw [← hee]; rfl
      have he3 : crcOf 0 e.data ≠ crcOf 0 e0.data := by
        rw [← hee, HAB.out]
        exact crc_turn A B z y HY.out
      unfold endN
      rw [if_neg (by omega), if_pos (by rw [he2]; omega)]] at hcf
    have HCT := Lib.hid hcf
    clear HFK hcf hdne hns
    go_wp2_with fail
    refine HCT.out.mono ?_
    rintro x w7 ⟨rfl, hf7⟩
    go_wp2_with fail
    go_ret
    exact ⟨rfl, (HF2.out.trans HF6.out (by simp)).trans hf7 (by simp)⟩
end Go.Proofs.YtcodhjoiikdhmaaGreatDoor

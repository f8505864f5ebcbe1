/- FnCentralSpoilt: a directory with a header that is spoilt is not read. -/
import Derived.Test.YtcodhjoiikdhmaaGreatDoorQvb
import Derived.Test.YtcodhjoiikdhmaaGreatDoorQva
set_option linter.unusedVariables false
set_option linter.unusedSimpArgs false
namespace Go.Proofs.YtcodhjoiikdhmaaGreatDoor
open Go Go.RowKit
open Zp
theorem xor_ne {x y : UInt8} (h : y ≠ 0) : (x ^^^ y).toNat ≠ x.toNat := by
  intro e
  have h1 : x ^^^ y = x := UInt8.toNat_inj.1 e
  apply h
  have h2 : x ^^^ (x ^^^ y) = x ^^^ x := by rw [h1]
  simpa [← UInt8.xor_assoc] using h2
/-- A signature of which one byte is turned. -/
theorem sig_turned {a b : By} {x y : UInt8} {n : Nat} (h : sigC = a ++ x :: b) (hy : y ≠ 0) (Z : By) (hn : n = 33639248) : num ((a ++ (x ^^^ y) :: b ++ Z).take 4) ≠ n := by
  have hx := @xor_ne x y hy
  subst hn
  match a, h with
  | [], h =>
    simp [sigC] at h
    obtain ⟨rfl, rfl⟩ := h
    simp [num]
    simp at hx
    omega
  | [_], h =>
    simp [sigC] at h
    obtain ⟨rfl, rfl, rfl⟩ := h
    simp [num]
    simp at hx
    omega
  | [_, _], h =>
    simp [sigC] at h
    obtain ⟨rfl, rfl, rfl, rfl⟩ := h
    simp [num]
    simp at hx
    omega
  | [_, _, _], h =>
    simp [sigC] at h
    obtain ⟨rfl, rfl, rfl, rfl, rfl⟩ := h
    simp [num]
    simp at hx
    omega
  | _ :: _ :: _ :: _ :: _, h => simp [sigC] at h
theorem sig_split {n : Nat} (h : n ≤ 3) : ∃ (a b : By) (x : UInt8), sigC = a ++ x :: b ∧ a.length = n := by
  match n, h with
  | 0, _ => exact ⟨[], [75, 1, 2], 80, rfl, rfl⟩
  | 1, _ => exact ⟨[80], [1, 2], 75, rfl, rfl⟩
  | 2, _ => exact ⟨[80, 75], [2], 1, rfl, rfl⟩
  | 3, _ => exact ⟨[80, 75, 1], [], 2, rfl, rfl⟩
/-- The archive around the turned byte. -/
theorem arc_spoilt {l : List Ent} {c : By} (hg : GoodP l c) {k n : Nat} (hk : k < l.length) (hn : n ≤ 3) :
    ∃ (A B : By) (x : UInt8), archB l c = A ++ x :: B ∧ A.length = (filesB l).length + (dirB 0 (l.take k)).length + n ∧
      ∀ y : UInt8, y ≠ 0 → ends (A ++ (x ^^^ y) :: B) = 1 → ArcT (bs (A ++ (x ^^^ y) :: B)) c l.length (dirB 0 l).length (filesB l).length (places (filesB l).length 0 (l.take k)) := by
  obtain ⟨s1, s2, e1, e2⟩ := goodArc hg
  rw [e1] at s1
  rw [e2] at s2
  have hok : ∀ e ∈ l, HdOk e.h := fun e he => (hg.1 e he).1
  have hc := hg.2.2.1
  have h1000 := hg.2.1
  obtain ⟨a, b, x, hs, ha⟩ := sig_split hn
  obtain ⟨e, he⟩ : ∃ e, l[k] = e := ⟨_, rfl⟩
  have hl : l = l.take k ++ e :: l.drop (k + 1) := by rw [← he, ← drop_cons hk, List.take_append_drop]
  obtain ⟨R, hR⟩ : ∃ R, ∀ P, centralB e.h P = sigC ++ R P := ⟨fun P => le 2 e.h.creator.toNat ++ (le 2 e.h.reader.toNat ++ (fieldsB e.h ++ (le 2 e.h.name.length ++ (le 2 e.h.extra.length ++ (le 2 e.h.comment.length ++ (le 2 0 ++ (le 2 0 ++ (le 4 e.h.ext.toNat ++ (le 4 P ++ (e.h.name ++ (e.h.extra ++ e.h.comment))))))))))), fun P => by simp [centralB]⟩
  have hd : dirB 0 l = dirB 0 (l.take k) ++ (centralB e.h (filesB (l.take k)).length ++ dirB ((filesB (l.take k)).length + (localB e.h ++ e.data).length) (l.drop (k + 1))) := by
    conv => lhs; rw [hl, dirB_append, Nat.zero_add]
    rfl
  obtain ⟨T, hT⟩ : ∃ T, R (filesB (l.take k)).length ++ dirB ((filesB (l.take k)).length + (localB e.h ++ e.data).length) (l.drop (k + 1)) = T := ⟨_, rfl⟩
  have hd2 : dirB 0 l = dirB 0 (l.take k) ++ (a ++ x :: b ++ T) := by
    rw [hd, hR, hs, ← hT]; simp
  have hdl := congrArg List.length hd2
  simp only [List.length_append, List.length_cons] at hdl
  have hpl := places_length (l.take k) (filesB l).length 0
  refine ⟨filesB l ++ dirB 0 (l.take k) ++ a, b ++ T ++ endB l.length (dirB 0 l).length (filesB l).length c, x, ?_, by rw [List.length_append, List.length_append, ha], ?_⟩
  · obtain ⟨Ee, hEe⟩ : ∃ Ee, endB l.length (dirB 0 l).length (filesB l).length c = Ee := ⟨_, rfl⟩
    rw [archB, hEe, hd2]
    simp
  intro y hy hends
  have hA : filesB l ++ dirB 0 (l.take k) ++ a ++ (x ^^^ y) :: (b ++ T ++ endB l.length (dirB 0 l).length (filesB l).length c) = (filesB l ++ dirB 0 (l.take k) ++ a ++ (x ^^^ y) :: (b ++ T)) ++ (endB l.length (dirB 0 l).length (filesB l).length c ++ []) := by simp
  refine ⟨⟨filesB l ++ dirB 0 (l.take k) ++ a ++ (x ^^^ y) :: (b ++ T), [], (filesB l).length + (dirB 0 (l.take k)).length, ?_, ?_, by simp, ?_, ?_⟩, ?_, ?_, hc, by omega, ?_⟩
  · rw [bs_list]; exact hA
  · simp only [List.length_append, List.length_cons]; omega
  · rw [bs_list]
    have hle : (filesB (l.take k)).length ≤ (filesB l).length := by
      conv => rhs; rw [hl, filesB_append, List.length_append]
      omega
    exact chain_at (l.take k) _ (filesB l) (a ++ (x ^^^ y) :: (b ++ T ++ endB l.length (dirB 0 l).length (filesB l).length c)) _ 0 (by simp) rfl (fun e he => hok e (List.mem_of_mem_take he)) (by omega)
  · rw [bs_list]
    have hdr := drop_at0 (s := filesB l ++ dirB 0 (l.take k) ++ a ++ (x ^^^ y) :: (b ++ T ++ endB l.length (dirB 0 l).length (filesB l).length c)) (A := filesB l ++ dirB 0 (l.take k)) (X := a ++ (x ^^^ y) :: b ++ (T ++ endB l.length (dirB 0 l).length (filesB l).length c)) (p := (filesB l).length + (dirB 0 (l.take k)).length) (by simp) (by rw [List.length_append])
    refine ⟨?_, .inr ?_⟩
    · simp only [List.length_append, List.length_cons]; omega
    · rw [hdr]
      exact sig_turned hs hy _ rfl
  · rw [bs_size]
    simp only [List.length_append, List.length_cons, endB_length]
    omega
  · rw [bs_list]; exact hends
  · rw [hpl, List.length_take]; omega
end Go.Proofs.YtcodhjoiikdhmaaGreatDoor

/- FnCentralSpoilt: a directory with a header that is spoilt is not read (the law). -/
namespace Go.Proofs.YtcodhjoiikdhmaaGreatDoor
open Go Go.RowKit
open Zp
theorem sv_take {w : World} {g o n cap : Nat} {l : List Ent} (h : SV w (.slice (some ⟨g, o, none⟩) n cap) l) {k : Nat} (hk : k ≤ l.length) (hl : l ≠ []) : SV w (.slice (some ⟨g, o, none⟩) k cap) (l.take k) := by
  obtain ⟨p, cap', h1, h2, h3, h4⟩ := h
  injection h1 with e1 e2 e3
  subst e3
  obtain ⟨g', o', h5, h6, h7⟩ := h4 hl
  rw [← e1] at h5
  injection h5 with h5
  injection h5 with h5 h8
  subst h5
  subst h8
  refine ⟨_, cap, by rw [List.length_take, Nat.min_eq_left hk], by rw [List.length_take]; omega, h3, fun _ => ⟨g, o, rfl, h6, fun i e hi => ?_⟩⟩
  refine h7 i e ?_
  rw [List.getElem?_take] at hi
  split at hi
  · exact hi
  · cases hi
set_option maxRecDepth 100000 in
set_option maxHeartbeats 8000000 in
theorem spoiltLaw (E : Errs) (B0 : Nat) (w : World) (l : List Ent) (c : By) (k n : Int) (y : UInt8) (v : Value) (hW : WE E B0 w) (hv : SV w v l) (hM : ∀ e ∈ l, EntM e ∧ HdM e.h) (hc : c.length ≤ 9223372036854775807) (hk : I64 k) (hn : I64 n) :
    Calls Tryz.prog 11 #[v, .string (bs c), .int .i64 k, .int .i64 n, .int .u8 (y.toNat : Int)] w fun x w' => x = .returned (.bool true) ∧ Fr [] w w' := by
  have HFIT := Lib.hid (fits1C l (fun e he => (hM e he).1) v w hv)
  have HV := Lib.hid hv
  have HW := Lib.hid hW
  have HMM := Lib.hid hM
  clear hv hW hM
  go_enter Tryz.func11, Tryz.ntmps11
  go_wp2_with fail
  refine HFIT.out.mono ?_
  rintro x w1 ⟨b, rfl, hb, hf1⟩
  have HB := Lib.hid hb
  have HF1 := Lib.hid hf1
  clear hb hf1
  cases b with
  | false =>
    go_wp2_with fail
    go_ret
    exact ⟨rfl, HF1.out⟩
  | true =>
    by_cases hcc : c.length ≤ 2147483647
    case neg =>
      have i1 : 2147483647 < (c.length : Int) := by omega
      go_wp2_with fail
      go_ret
      exact ⟨rfl, HF1.out⟩
    have i1 : ¬ 2147483647 < (c.length : Int) := by omega
    have hfit := HB.out.1 (by first | rfl | trivial)
    have HI := Lib.hid (fun e (he : e ∈ l) => (HMM.out e he).2.i (hfit.2 e he))
    have hl31 := hfit.1
    clear hfit
    have hpos1 : 0 < w1.heap.size := by have := HF1.out.size; have := HW.out.h18; omega
    have HG := Lib.hid (goodC l HI.out c hcc v w1 (HV.out.fr HF1.out (by simp)) hpos1)
    go_wp2_with fail
    refine HG.out.mono ?_
    rintro x w2 ⟨b2, rfl, hb2, hf2⟩
    have HB2 := Lib.hid hb2
    have HF2 := Lib.hid (HF1.out.trans hf2 (by simp))
    clear hb2 hf2
    cases b2 with
    | false =>
      go_wp2_with fail
      go_ret
      exact ⟨rfl, HF2.out⟩
    | true =>
    have HGOOD := Lib.hid (HB2.out.1 (by first | rfl | trivial))
    clear HB2
    have hsv := HV.out
    have HSV := Lib.hid (fun (w' : World) (hf : Fr [] w w') => HV.out.fr hf (by simp))
    obtain ⟨p, cap, rfl, hlc, hcm, hpp⟩ := hsv
    have HPP := Lib.hid hpp
    clear hpp
    by_cases hk0 : k < 0
    · go_wp2_with fail
      go_ret
      exact ⟨rfl, HF2.out⟩
    obtain ⟨kn, rfl⟩ : ∃ kn : Nat, k = (kn : Int) := ⟨k.toNat, by omega⟩
    have d1 : decide ((kn : Int) < 0) = false := decide_eq_false (by omega)
    by_cases hkn : (l.length : Int) ≤ (kn : Int)
    · go_wp2_with fail
      go_ret
      exact ⟨rfl, HF2.out⟩
    have d2 : decide (l.length ≤ kn) = false := decide_eq_false (by omega)
    by_cases hn0 : n < 0
    · go_wp2_with fail
      go_ret
      exact ⟨rfl, HF2.out⟩
    obtain ⟨nn, rfl⟩ : ∃ nn : Nat, n = (nn : Int) := ⟨n.toNat, by omega⟩
    have d3 : decide ((nn : Int) < 0) = false := decide_eq_false (by omega)
    by_cases hn3 : 3 < (nn : Int)
    · go_wp2_with fail
      go_ret
      exact ⟨rfl, HF2.out⟩
    have d4 : decide (3 < (nn : Int)) = false := decide_eq_false (by omega)
    by_cases hy0 : (y.toNat : Int) = 0
    · go_wp2_with fail
      all_goals go_ret
      all_goals exact ⟨rfl, HF2.out⟩
    have hy : y ≠ 0 := fun h => hy0 (by rw [h]; rfl)
    have hkl : kn < l.length := by omega
    have hne : l ≠ [] := fun h => by rw [h] at hkl; simp at hkl
    obtain ⟨g, o, rfl, hg, hle⟩ := HPP.out hne
    obtain ⟨s1, s2, e1, e2⟩ := goodArc HGOOD.out
    have h1000 := HGOOD.out.2.1
    have h65 := HGOOD.out.2.2.1
    obtain ⟨A, B, x, hX, hAl, hMI⟩ := arc_spoilt HGOOD.out hkl (show nn ≤ 3 by omega)
    have hok : ∀ e ∈ l, HdOk e.h := fun e he => (HGOOD.out.1 e he).1
    have hokt : ∀ e ∈ l.take kn, HdOk e.h := fun e he => hok e (List.mem_of_mem_take he)
    have hdt : (dirB 0 (l.take kn)).length ≤ 1300000000 := by
      have h2 : dirB 0 l = dirB 0 (l.take kn) ++ dirB (0 + (filesB (l.take kn)).length) (l.drop kn) := by rw [← dirB_append, List.take_append_drop]
      have h3 := congrArg List.length h2
      rw [List.length_append, ← e2] at h3
      omega
    have hfl : (filesB (l.take kn)).length ≤ 1300000000 := by
      have h2 : filesB l = filesB (l.take kn) ++ filesB (l.drop kn) := by rw [← filesB_append, List.take_append_drop]
      have h3 := congrArg List.length h2
      rw [List.length_append, ← e1] at h3
      omega
    have HAR := Lib.hid (fun (w' : World) (hf : Fr [] w2 w') => archC l HI.out c _ w' (HSV.out w' (HF2.out.trans hf (by simp))) (by have := HF2.out.size; have := HW.out.h18; have := hf.size; omega) (by omega) (by omega) (by omega) hcc)
    rw [archI_ok c hok, hX] at HAR
    have HFI := Lib.hid (fun (w' : World) (hf : Fr [] w2 w') => filesC l HI.out _ w' (HSV.out w' (HF2.out.trans hf (by simp))) (by omega))
    rw [e1] at HFI s1
    have HDI := Lib.hid (fun (w' : World) (hf : Fr [] w2 w') => dirC (l.take kn) (fun e he => HI.out e (List.mem_of_mem_take he)) _ w' (sv_take (HSV.out w' (HF2.out.trans hf (by simp))) (Nat.le_of_lt hkl) hne) (by rw [filesI_ok hokt]; omega) (by rw [dirI_ok 0 hokt]; omega))
    rw [dirI_ok 0 hokt] at HDI
    have hXl := congrArg List.length hX
    rw [archB, List.length_append, List.length_append, List.length_append, List.length_cons, endB_length, ← e2] at hXl
    have HTU := Lib.hid (fun (w' : World) => turnedC A B x y _ hAl w' (by omega))
    simp only [Int.natCast_add] at HTU
    obtain ⟨Ff, hFf⟩ : ∃ Ff, filesB l = Ff := ⟨_, rfl⟩
    obtain ⟨Dk, hDk⟩ : ∃ Dk, dirB 0 (l.take kn) = Dk := ⟨_, rfl⟩
    have HPL := Lib.hid (places_length (l.take kn) Ff.length 0)
    rw [hFf] at s1 HFI HTU hMI hXl
    rw [hDk] at hdt HDI HTU
    have HMI := Lib.hid hMI
    have hsz : (A ++ (x ^^^ y) :: B).length ≤ 4000000000 := by rw [List.length_append, List.length_cons]; omega
    have i5 : IntKind.i64.wrap ((Ff.length : Int) + (Dk.length : Int)) = (Ff.length : Int) + (Dk.length : Int) := IntWalk.i64_in _ (by omega)
    have i6 : IntKind.i64.wrap ((Ff.length : Int) + (Dk.length : Int) + (nn : Int)) = (Ff.length : Int) + (Dk.length : Int) + (nn : Int) := IntWalk.i64_in _ (by omega)
    have i7 : (0 : Int) ≤ (kn : Int) := by omega
    have i8 : (kn : Int) ≤ (cap : Int) := by omega
    clear e1 e2 hFf hDk hX hMI hok hokt hXl hAl
    go_wp2_with fail
    have k1 : Fr [] w2 w2.drew := (Fr.refl [] w2).drew
    go_region_held3 (fun w' => Fr [] w2 w')
      ((first | exact kk | exact k1 | assumption))
      ((first
        | (go_at_call 21; (with_reducible refine (HAR.out _ (by assumption)).mono ?_); rintro e3 w4 ⟨rfl, hf4⟩; have kk := Fr.trans (S := []) (S' := []) (w := w2) (by assumption) hf4 (by simp))
        | (go_at_call 26; (with_reducible refine (HFI.out _ (by assumption)).mono ?_); rintro e3 w4 ⟨rfl, hf4⟩; have kk := Fr.trans (S := []) (S' := []) (w := w2) (by assumption) hf4 (by simp))
        | (go_at_call 30; (with_reducible refine (HDI.out _ (by assumption)).mono ?_); rintro e3 w4 ⟨rfl, hf4⟩; have kk := Fr.trans (S := []) (S' := []) (w := w2) (by assumption) hf4 (by simp))
        | (go_at_call 22; (with_reducible refine (HTU.out _).mono ?_); rintro e3 w4 ⟨rfl, hf4⟩; have kk := Fr.trans (S := []) (S' := []) (w := w2) (by assumption) hf4 (by simp))))
    have HM2 := Lib.hid (HMI.out y hy)
    have HF5 := Lib.hid (HF2.out.trans kk (by simp))
    have HW5 := Lib.hid (HW.out.fr HF5.out (by simp))
    clear HMI k1 kk i5 i6 HTU
    obtain ⟨X, hX⟩ : ∃ X, A ++ (x ^^^ y) :: B = X := ⟨_, rfl⟩
    rw [hX] at hsz HM2 ⊢
    clear hX
    go_wp2_with fail
    refine (endsC (bs X) w4 (by rw [bs_size]; omega)).mono ?_
    rintro x w6 ⟨rfl, rfl⟩
    by_cases h1 : ends X = 1
    · have HR := Lib.hid (readBadC E B0 w6 (bs X) HW5.out (by rw [bs_size]; exact hsz) (nrMiss E B0 (bs X) c l.length _ _ _ (HM2.out h1) (by rw [HPL.out, List.length_take]; omega)))
      have h1' : ((ends (bs X).data.toList : Nat) : Int) = 1 := by rw [bs_list, h1]; rfl
      rw [h1']
      clear h1'
      go_wp2_with fail
      refine HR.out.mono ?_
      rintro x w7 ⟨rfl, hf7⟩
      have hfo := fieldOk false ⟨#[]⟩ 0 0 none w7
      have HRD := Lib.hid (readsC E B0 w7 (HW5.out.fr hf7 (by simp)))
      have HF7 := Lib.hid (HF5.out.trans hf7 (by simp))
      clear hf7
      go_wp2_with fail
      refine HRD.out.mono ?_
      rintro x w8 ⟨rfl, hf8⟩
      go_wp2_with fail
      go_ret
      exact ⟨rfl, HF7.out.trans hf8 (by simp)⟩
    · obtain ⟨m, hm⟩ : ∃ m : Nat, ends (bs X).data.toList = m := ⟨_, rfl⟩
      have hm1 : ¬ (m : Int) = 1 := by rw [bs_list] at hm; omega
      have HRD := Lib.hid (readsC E B0 w6 HW5.out)
      rw [hm]
      clear hm
      go_wp2_with fail
      all_goals refine HRD.out.mono ?_
      all_goals rintro x w8 ⟨rfl, hf8⟩
      all_goals go_wp2_with fail
      all_goals go_ret
      all_goals exact ⟨rfl, HF5.out.trans hf8 (by simp)⟩
end Go.Proofs.YtcodhjoiikdhmaaGreatDoor

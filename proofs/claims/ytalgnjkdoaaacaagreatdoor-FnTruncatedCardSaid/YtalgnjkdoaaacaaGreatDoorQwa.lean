/- FnTruncated: the beginning of an archive alone is not read. -/
import Derived.Test.YtalgnjkdoaaacaaGreatDoorQxe0
set_option linter.unusedVariables false
set_option linter.unusedSimpArgs false
namespace Go.Proofs.YtalgnjkdoaaacaaGreatDoor
open Go Go.RowKit
open Zp
theorem occ_take {s : By} {n k : Nat} (h : occ (s.take n) k) : occ s k ∧ k + 4 ≤ n := by
  unfold occ at h ⊢
  have hl := congrArg List.length h
  rw [List.length_take, List.length_drop, List.length_take] at hl
  have h4 : sigE.length = 4 := rfl
  rw [h4] at hl
  refine ⟨?_, by omega⟩
  rw [List.drop_take, List.take_take, Nat.min_eq_left (by omega)] at h
  exact h
theorem noEnd_trunc {l : List Ent} {c : By} (hg : GoodP l c) {n : Nat} (hn : n < (archB l c).length) : NoEnd ((archB l c).take n) := by
  intro k hk hl
  obtain ⟨ho, hkn⟩ := occ_take hk
  have hc := hg.2.2.1
  have he := hg.2.2.2
  have hA : archB l c = (filesB l ++ dirB 0 l) ++ (endB l.length (dirB 0 l).length (filesB l).length c ++ []) := by simp [archB]
  have hok := okEnd_at hA rfl he hc (by simp)
  have hkq := hok.uniq k ho
  have hsz : (archB l c).length = (filesB l ++ dirB 0 l).length + (22 + c.length) := by
    rw [archB, List.length_append, endB_length]
  have hnum : num (((archB l c).drop (k + 20)).take 2) = c.length := by
    rw [hkq, drop_at hA rfl, eb20, num2 (by omega)]
  rw [List.length_take] at hl ⊢
  have h2 : (((archB l c).take n).drop (k + 20)).take 2 = ((archB l c).drop (k + 20)).take 2 := by
    rw [List.drop_take, List.take_take, Nat.min_eq_left (by omega)]
  rw [h2, hnum]
  omega
theorem bs_take (l : By) (n : Nat) : (bs l).extract 0 n = bs (l.take n) := by
  apply ByteArray.ext
  simp [bs, ByteArray.data_extract]
set_option maxRecDepth 100000 in
set_option maxHeartbeats 8000000 in
theorem truncLaw (E : Errs) (B0 : Nat) (w : World) (l : List Ent) (c : By) (n : Int) (v : Value) (hW : WE E B0 w) (hv : SV w v l) (hM : ∀ e ∈ l, EntM e ∧ HdM e.h) (hc : c.length ≤ 9223372036854775807) (hn : I64 n) :
    Calls Tryz.prog 3 #[v, .string (bs c), .int .i64 n] w fun x w' => x = .returned (.bool true) ∧ Fr [] w w' := by
  have HFIT := Lib.hid (fits1C l (fun e he => (hM e he).1) v w hv)
  have HV := Lib.hid hv
  have HW := Lib.hid hW
  have HMM := Lib.hid hM
  clear hv hW hM
  go_enter Tryz.func3, Tryz.ntmps3
  go_wp2_with fail
  refine HFIT.out.mono ?_
  rintro x w1 ⟨b, rfl, hb, hf1⟩
  have HB := Lib.hid hb
  have HF1 := Lib.hid hf1
  clear hb hf1
  cases b with
  | false =>
    go_wp2_with fail
    go_ret
    exact ⟨rfl, HF1.out⟩
  | true =>
    by_cases hcc : c.length ≤ 2147483647
    case neg =>
      have i1 : 2147483647 < (c.length : Int) := by omega
      go_wp2_with fail
      go_ret
      exact ⟨rfl, HF1.out⟩
    have i1 : ¬ 2147483647 < (c.length : Int) := by omega
    have hfit := HB.out.1 (by first | rfl | trivial)
    have HI := Lib.hid (fun e (he : e ∈ l) => (HMM.out e he).2.i (hfit.2 e he))
    have hl31 := hfit.1
    clear hfit
    have hpos1 : 0 < w1.heap.size := by have := HF1.out.size; have := HW.out.h18; omega
    have HG := Lib.hid (goodC l HI.out c hcc v w1 (HV.out.fr HF1.out (by simp)) hpos1)
    go_wp2_with fail
    refine HG.out.mono ?_
    rintro x w2 ⟨b2, rfl, hb2, hf2⟩
    have HB2 := Lib.hid hb2
    have HF2 := Lib.hid (HF1.out.trans hf2 (by simp))
    clear hb2 hf2
    cases b2 with
    | false =>
      go_wp2_with fail
      go_ret
      exact ⟨rfl, HF2.out⟩
    | true =>
    have HGOOD := Lib.hid (HB2.out.1 (by first | rfl | trivial))
    clear HB2
    obtain ⟨s1, s2, e1, e2⟩ := goodArc HGOOD.out
    have h1000 := HGOOD.out.2.1
    have hok : ∀ e ∈ l, HdOk e.h := fun e he => (HGOOD.out.1 e he).1
    have hcl := HGOOD.out.2.2.1
    have HAR := Lib.hid (archC l HI.out c v w2 (HV.out.fr HF2.out (by simp)) (by have := HF2.out.size; have := HW.out.h18; omega) (by omega) (by omega) (by omega) hcc)
    rw [archI_ok c hok] at HAR
    have hXl : (archB l c).length ≤ 4000000000 := by
      rw [archB, List.length_append, List.length_append, endB_length, ← e1, ← e2]; omega
    have HNO := Lib.hid (fun m (hm : m < (archB l c).length) => noEnd_trunc HGOOD.out hm)
    obtain ⟨X, hX⟩ : ∃ X, archB l c = X := ⟨_, rfl⟩
    rw [hX] at HAR hXl HNO
    clear s1 s2 e1 e2 hok hX
    go_wp2_with fail
    refine HAR.out.mono ?_
    rintro x w3 ⟨rfl, hf3⟩
    have HF3 := Lib.hid (HF2.out.trans hf3 (by simp))
    clear hf3
    have hXs := bs_size X
    by_cases hn0 : n < 0
    · go_wp2_with fail
      go_ret
      exact ⟨rfl, HF3.out⟩
    obtain ⟨nn, rfl⟩ : ∃ nn : Nat, n = (nn : Int) := ⟨n.toNat, by omega⟩
    have d1 : decide ((nn : Int) < 0) = false := decide_eq_false (by omega)
    obtain ⟨S, hS⟩ : ∃ S, bs X = S := ⟨_, rfl⟩
    have HEX := Lib.hid (bs_take X nn)
    rw [hS] at hXs HEX ⊢
    obtain ⟨z, hz⟩ : ∃ z, S.size = z := ⟨_, rfl⟩
    rw [hz] at hXs
    by_cases hn1 : (z : Int) ≤ (nn : Int)
    · have d2 : decide (z ≤ nn) = true := decide_eq_true (by omega)
      go_wp2_with fail
      all_goals go_ret
      all_goals exact ⟨rfl, HF3.out⟩
    have d2 : decide (z ≤ nn) = false := decide_eq_false (by omega)
    have i2 : (nn : Int) < (z : Int) := by omega
    have i3 : (nn : Int) ≤ (z : Int) := by omega
    have hsz : (bs (X.take nn)).size ≤ 4000000000 := by rw [bs_size, List.length_take]; omega
    have hW3 := HW.out.fr HF3.out (by simp)
    have HR := Lib.hid (readBadC E B0 w3 (bs (X.take nn)) hW3 hsz (nrNoEnd E B0 (bs (X.take nn)) hsz (by rw [bs_list]; exact HNO.out nn (by omega))))
    have HW3 := Lib.hid hW3
    have hex := HEX.out
    clear hW3
    go_wp2_with fail
    refine HR.out.mono ?_
    rintro x w4 ⟨rfl, hf4⟩
    have hfo := fieldOk false ⟨#[]⟩ 0 0 none w4
    have HRD := Lib.hid (readsC E B0 w4 (HW3.out.fr hf4 (by simp)))
    have HF4 := Lib.hid (HF3.out.trans hf4 (by simp))
    clear hf4
    go_wp2_with fail
    refine HRD.out.mono ?_
    rintro x w5 ⟨rfl, hf5⟩
    go_wp2_with fail
    go_ret
    exact ⟨rfl, HF4.out.trans hf5 (by simp)⟩
end Go.Proofs.YtalgnjkdoaaacaaGreatDoor

/- FnExactOffset: a file's content begins behind its local header. -/
import Derived.Test.YtalgnjkdoaaacaaGreatDoorQyr
import Derived.Test.YtalgnjkdoaaacaaGreatDoorQxe0
import Derived.Test.YtalgnjkdoaaacaaGreatDoorQqf
set_option linter.unusedVariables false
set_option linter.unusedSimpArgs false
namespace Go.Proofs.YtalgnjkdoaaacaaGreatDoor
open Go Go.RowKit
open Zp
set_option maxRecDepth 100000 in
set_option maxHeartbeats 4000000 in
theorem placeC (l : List Ent) (hI : ∀ e ∈ l, EntI e) (v : Value) (w : World) (hv : SV w v l) (kn : Nat) (e : Ent) (hk : l[kn]? = some e) (hL : (filesI (l.take kn)).length ≤ 4000000000) :
    Calls Tryz.prog 16 #[v, .int .i64 (kn : Int)] w fun x w' => x = .returned (.int .i64 (((filesI (l.take kn)).length + (localI e.h).length : Nat) : Int)) ∧ Fr [] w w' := by
  have hkl : kn < l.length := (List.getElem?_eq_some_iff.1 hk).1
  have hel : l[kn] = e := (List.getElem?_eq_some_iff.1 hk).2
  have hne : l ≠ [] := fun h => by rw [h] at hkl; simp at hkl
  have hem : e ∈ l := by rw [← hel]; exact List.getElem_mem hkl
  have hv' := hv
  obtain ⟨p, cap, rfl, hlc, hcm, hp⟩ := hv
  obtain ⟨g, o, rfl, hg, hle⟩ := hp hne
  have hei := hI e hem
  have HR := Lib.hid (fun (w' : World) (hf : Fr [] w w') => cellsE ((hle.fr hf hg (by simp)) kn e hk))
  have HRG := Lib.hid (hle kn e hk)
  have hst := sv_take hv' (Nat.le_of_lt hkl) hne
  have HFI := Lib.hid (fun (w' : World) (hf : Fr [] w w') => filesC (l.take kn) (fun x hx => hI x (List.mem_of_mem_take hx)) _ w' (hst.fr hf (by simp)) hL)
  have HLO := Lib.hid (fun (w' : World) => localC e.h hei.hd w')
  have hll := localI_length e.h
  have hnm := hei.hd.nm
  have hex := hei.hd.ex
  obtain ⟨Fl, hFl⟩ : ∃ Fl, filesI (l.take kn) = Fl := ⟨_, rfl⟩
  obtain ⟨Ll, hLl⟩ : ∃ Ll, localI e.h = Ll := ⟨_, rfl⟩
  rw [hFl] at HFI hL ⊢
  rw [hLl] at HLO hll ⊢
  obtain ⟨n, hn⟩ : ∃ n, l.length = n := ⟨_, rfl⟩
  rw [hn] at hlc hkl ⊢
  clear hle hst hp hFl hLl hv' hei
  have i1 : (0 : Int) ≤ (kn : Int) := by omega
  have i2 : (kn : Int) ≤ (cap : Int) := by omega
  have i3 : (kn : Int) < (n : Int) := by omega
  have q1 : ¬ 9223372036854775807 < Fl.length + Ll.length := by omega
  clear hll
  go_enter Tryz.func16, Tryz.ntmps16
  go_wp2_with fail
  have k1 := mkR (w0 := w) (rangeAt_fr HRG.out hg ((Fr.refl [] w).drew)) (show g < w.drew.heap.size from hg) ((Fr.refl [] w).drew)
  go_region_held3 (fun w' => w'.cell? ⟨g, o + kn * 15, none⟩ = some (.string (bs e.h.name)) ∧ w'.cell? ⟨g, o + kn * 15 + 1, none⟩ = some (.string (bs e.h.comment)) ∧ w'.cell? ⟨g, o + kn * 15 + 2, none⟩ = some (.string (bs e.h.extra)) ∧ w'.cell? ⟨g, o + kn * 15 + 3, none⟩ = some (.bool e.h.non) ∧ w'.cell? ⟨g, o + kn * 15 + 4, none⟩ = some (.int .i64 e.h.creator) ∧ w'.cell? ⟨g, o + kn * 15 + 5, none⟩ = some (.int .i64 e.h.reader) ∧ w'.cell? ⟨g, o + kn * 15 + 6, none⟩ = some (.int .i64 e.h.flags) ∧ w'.cell? ⟨g, o + kn * 15 + 7, none⟩ = some (.int .i64 e.h.method) ∧ w'.cell? ⟨g, o + kn * 15 + 8, none⟩ = some (.int .i64 e.h.time) ∧ w'.cell? ⟨g, o + kn * 15 + 9, none⟩ = some (.int .i64 e.h.date) ∧ w'.cell? ⟨g, o + kn * 15 + 10, none⟩ = some (.int .i64 e.h.crc) ∧ w'.cell? ⟨g, o + kn * 15 + 11, none⟩ = some (.int .i64 e.h.packed) ∧ w'.cell? ⟨g, o + kn * 15 + 12, none⟩ = some (.int .i64 e.h.size) ∧ w'.cell? ⟨g, o + kn * 15 + 13, none⟩ = some (.int .i64 e.h.ext) ∧ w'.cell? ⟨g, o + kn * 15 + 14, none⟩ = some (.string (bs e.data)) ∧ w'.rangeAt g (o + kn * 15) (entL e) ∧ g < w'.heap.size ∧ Fr [] w w')
    ((first | exact kk | exact k1 | assumption))
    ((first
      | (go_at_call 29; (with_reducible refine (HFI.out _ (frR (by assumption))).mono ?_); rintro e3 w4 ⟨rfl, hf4⟩; have kk := keepR (by assumption) hf4)
      | (go_at_call 39; (with_reducible refine (HLO.out _).mono ?_); rintro e3 w4 ⟨rfl, hf4⟩; have kk := keepR (by assumption) hf4)))
  have HK := Lib.hid (frR kk)
  clear k1 kk
  go_wp2_with fail
  go_ret
  exact ⟨by rw [Int.natCast_add]; rfl, HK.out⟩
set_option maxRecDepth 100000 in
set_option maxHeartbeats 8000000 in
theorem offsetLaw (E : Errs) (B0 : Nat) (w : World) (l : List Ent) (c : By) (k : Int) (v : Value) (hW : WE E B0 w) (hv : SV w v l) (hM : ∀ e ∈ l, EntM e ∧ HdM e.h) (hc : c.length ≤ 9223372036854775807) (hk : I64 k) :
    Calls Tryz.prog 4 #[v, .string (bs c), .int .i64 k] w fun x w' => x = .returned (.bool true) ∧ Fr [] w w' := by
  have HFIT := Lib.hid (fits1C l (fun e he => (hM e he).1) v w hv)
  have HV := Lib.hid hv
  have HW := Lib.hid hW
  have HMM := Lib.hid hM
  clear hW hM
  obtain ⟨p, cap, rfl, -⟩ := hv
  obtain ⟨n, hn⟩ : ∃ n, l.length = n := ⟨_, rfl⟩
  rw [hn] at HFIT HV ⊢
  go_enter Tryz.func4, Tryz.ntmps4
  go_wp2_with fail
  refine HFIT.out.mono ?_
  rintro x w1 ⟨b, rfl, hb, hf1⟩
  have HB := Lib.hid hb
  have HF1 := Lib.hid hf1
  clear hb hf1
  cases b with
  | false =>
    go_wp2_with fail
    go_ret
    exact ⟨rfl, HF1.out⟩
  | true =>
    by_cases hcc : c.length ≤ 2147483647
    case neg =>
      have i1 : 2147483647 < (c.length : Int) := by omega
      go_wp2_with fail
      go_ret
      exact ⟨rfl, HF1.out⟩
    have i1 : ¬ 2147483647 < (c.length : Int) := by omega
    have hfit := HB.out.1 (by first | rfl | trivial)
    have HI := Lib.hid (fun e (he : e ∈ l) => (HMM.out e he).2.i (hfit.2 e he))
    have hl31 := hfit.1
    clear hfit
    by_cases hk0 : k < 0
    · have d0 : decide (k < 0) = true := decide_eq_true hk0
      go_wp2_with fail
      go_ret
      exact ⟨rfl, HF1.out⟩
    obtain ⟨kn, rfl⟩ : ∃ kn : Nat, k = (kn : Int) := ⟨k.toNat, by omega⟩
    have d1 : decide ((kn : Int) < 0) = false := decide_eq_false (by omega)
    by_cases hkn : (n : Int) ≤ (kn : Int)
    · have d2 : decide (n ≤ kn) = true := decide_eq_true (by omega)
      go_wp2_with fail
      go_ret
      exact ⟨rfl, HF1.out⟩
    have d2 : decide (n ≤ kn) = false := decide_eq_false (by omega)
    have hkl : kn < l.length := by omega
    have hpos1 : 0 < w1.heap.size := by have := HF1.out.size; have := HW.out.h18; omega
    have HG := Lib.hid (goodC l HI.out c hcc _ w1 (HV.out.fr HF1.out (by simp)) hpos1)
    go_wp2_with fail
    refine HG.out.mono ?_
    rintro x w2 ⟨b2, rfl, hb2, hf2⟩
    have HB2 := Lib.hid hb2
    have HF2 := Lib.hid (HF1.out.trans hf2 (by simp))
    clear hb2 hf2
    cases b2 with
    | false =>
      go_wp2_with fail
      go_ret
      exact ⟨rfl, HF2.out⟩
    | true =>
    have HGOOD := Lib.hid (HB2.out.1 (by first | rfl | trivial))
    clear HB2
    obtain ⟨s1, s2, e1, e2⟩ := goodArc HGOOD.out
    have h1000 := HGOOD.out.2.1
    have hok : ∀ e ∈ l, HdOk e.h := fun e he => (HGOOD.out.1 e he).1
    obtain ⟨e, he⟩ : ∃ e, l[kn] = e := ⟨_, rfl⟩
    have hle : l[kn]? = some e := by rw [List.getElem?_eq_getElem hkl, he]
    have HAR := Lib.hid (archC l HI.out c _ w2 (HV.out.fr HF2.out (by simp)) (by have := HF2.out.size; have := HW.out.h18; omega) (by omega) (by omega) (by omega) hcc)
    rw [archI_ok c hok] at HAR
    have h0 : [] ++ archB l c ++ [] = archB l c := by simp
    obtain ⟨hT, hp, hat, hoke⟩ := parts_gen (X := []) (Y := []) HGOOD.out.1 h1000 HGOOD.out.2.2.1 (by rw [h0]; exact HGOOD.out.2.2.2) (by simp) (by simp) (.inl rfl) hle
    rw [h0] at hT hat
    have HOF := Lib.hid (fun (w' : World) (hf : Fr [] w w') => offset_file E B0 w' (bs (archB l c)) kn e c _ _ _ l _ _ _ (HW.out.fr hf (by simp)) hT hp hat)
    have htk : ∀ x ∈ l.take kn, HdOk x.h := fun x hx => hok x (List.mem_of_mem_take hx)
    have hfl : (filesB (l.take kn)).length ≤ 1300000000 := by
      have h2 : filesB l = filesB (l.take kn) ++ filesB (l.drop kn) := by rw [← filesB_append, List.take_append_drop]
      have h3 := congrArg List.length h2
      rw [List.length_append, ← e1] at h3
      omega
    have HPL := Lib.hid (fun (w' : World) (hf : Fr [] w w') => placeC l HI.out _ w' (HV.out.fr hf (by simp)) kn e hle (by rw [filesI_ok htk]; omega))
    rw [filesI_ok htk, localI_ok hoke] at HPL
    obtain ⟨Z, hZ⟩ : ∃ Z, (filesB (l.take kn)).length + (localB e.h).length = Z := ⟨_, rfl⟩
    have hZ2 : Z ≤ 4000000000 := by rw [← hZ, localB_length]; have := hoke.2.2.2.2.2.2.2.2.2.2.1; have := hoke.2.2.2.2.2.2.2.2.2.2.2.2; omega
    simp only [List.length_nil, Nat.add_zero, hZ] at HOF HPL
    obtain ⟨X, hX⟩ : ∃ X, archB l c = X := ⟨_, rfl⟩
    rw [hX] at HAR HOF
    clear s1 s2 e1 e2 hok hX hT hp hat hoke htk hfl hle he h0 hZ
    go_wp2_with fail
    refine HAR.out.mono ?_
    rintro x w3 ⟨rfl, hf3⟩
    have HF3 := Lib.hid (HF2.out.trans hf3 (by simp))
    clear hf3
    go_wp2_with fail
    refine (HOF.out _ HF3.out).mono ?_
    rintro x w4 ⟨rfl, hf4⟩
    have HF4 := Lib.hid (HF3.out.trans hf4 (by simp))
    clear hf4
    go_wp2_with fail
    refine (HPL.out _ HF4.out).mono ?_
    rintro x w5 ⟨rfl, hf5⟩
    have HF5 := Lib.hid (HF4.out.trans hf5 (by simp))
    have HRD := Lib.hid (readsC E B0 w5 (HW.out.fr HF5.out (by simp)))
    clear hf5
    go_wp2_with fail
    refine HRD.out.mono ?_
    rintro x w6 ⟨rfl, hf6⟩
    go_wp2_with fail
    go_ret
    exact ⟨rfl, HF5.out.trans hf6 (by simp)⟩
end Go.Proofs.YtalgnjkdoaaacaaGreatDoor

/- FnContentMethod: a file of a method other than 0 and 8 is not read. -/
import Derived.Test.YtcodhjoiikdhmaaGreatDoorQqf
import Derived.Test.YtcodhjoiikdhmaaGreatDoorQrr
set_option linter.unusedVariables false
set_option linter.unusedSimpArgs false
namespace Go.Proofs.YtcodhjoiikdhmaaGreatDoor
open Go Go.RowKit
open Zp
set_option maxRecDepth 100000 in
set_option maxHeartbeats 8000000 in
theorem methodLaw (E : Errs) (B0 : Nat) (w : World) (l : List Ent) (c : By) (k m : Int) (v : Value) (hW : WE E B0 w) (hv : SV w v l) (hM : ∀ e ∈ l, EntM e ∧ HdM e.h) (hc : c.length ≤ 9223372036854775807) (hk : I64 k) (hmi : I64 m) :
    Calls Tryz.prog 5 #[v, .string (bs c), .int .i64 k, .int .i64 m] w fun x w' => x = .returned (.bool true) ∧ Fr [] w w' := by
  have HFIT := Lib.hid (fits1C l (fun e he => (hM e he).1) v w hv)
  have HV := Lib.hid hv
  have HW := Lib.hid hW
  have HMM := Lib.hid hM
  clear hv hW hM
  go_enter Tryz.func5, Tryz.ntmps5
  go_wp2_with fail
  refine HFIT.out.mono ?_
  rintro x w1 ⟨b, rfl, hb, hf1⟩
  have HB := Lib.hid hb
  have HF1 := Lib.hid hf1
  clear hb hf1
  cases b with
  | false =>
    go_wp2_with fail
    go_ret
    exact ⟨rfl, HF1.out⟩
  | true =>
    by_cases hcc : c.length ≤ 2147483647
    case neg =>
      have i1 : 2147483647 < (c.length : Int) := by omega
      go_wp2_with fail
      go_ret
      exact ⟨rfl, HF1.out⟩
    have i1 : ¬ 2147483647 < (c.length : Int) := by omega
    have hfit := HB.out.1 (by first | rfl | trivial)
    have HI := Lib.hid (fun e (he : e ∈ l) => (HMM.out e he).2.i (hfit.2 e he))
    have HAS := Lib.hid (allStoredC l HI.out hfit.1 v w1 (HV.out.fr HF1.out (by simp)))
    have hl31 := hfit.1
    clear hfit
    go_wp2_with fail
    refine HAS.out.mono ?_
    rintro x w2 ⟨v2, rfl, hol, hf2⟩
    have HF2 := Lib.hid (HF1.out.trans hf2 (by simp))
    have HOL := Lib.hid hol
    obtain ⟨p, cap, rfl⟩ := hol.len
    obtain ⟨n, hn⟩ : ∃ n, (l.map storedE).length = n := ⟨_, rfl⟩
    have hnl : l.length = n := by rw [← hn, List.length_map]
    rw [hn] at HOL ⊢
    clear hf2 hol
    have HPOS1 := Lib.hid (show 0 < w1.heap.size by have := HF1.out.size; have := HW.out.h18; omega)
    by_cases hk0 : k < 0
    · go_wp2_with fail
      go_ret
      exact ⟨rfl, HF2.out⟩
    obtain ⟨kn, rfl⟩ : ∃ kn : Nat, k = (kn : Int) := ⟨k.toNat, by omega⟩
    have d1 : decide ((kn : Int) < 0) = false := decide_eq_false (by omega)
    by_cases hkn : (n : Int) ≤ (kn : Int)
    · go_wp2_with fail
      go_ret
      exact ⟨rfl, HF2.out⟩
    have d2 : decide (n ≤ kn) = false := decide_eq_false (by omega)
    by_cases hc1 : m < 1
    · go_wp2_with fail
      go_ret
      exact ⟨rfl, HF2.out⟩
    by_cases hc2 : 65535 < m
    · go_wp2_with fail
      go_ret
      exact ⟨rfl, HF2.out⟩
    by_cases hc3 : m = 8
    · go_wp2_with fail
      go_ret
      exact ⟨rfl, HF2.out⟩
    have d3 : decide (m < 1) = false := decide_eq_false hc1
    have d4 : decide (65535 < m) = false := decide_eq_false hc2
    have d5 : decide (m = 8) = false := decide_eq_false hc3
    have hkl : kn < l.length := by omega
    obtain ⟨g, cap', hsl, hge, hgl, hnc, hcm⟩ := HOL.out.row (fun h => by rw [h] at hn; simp at hn; omega)
    rw [hn] at hsl hnc
    injection hsl with e1 e2 e3
    subst e1
    subst e3
    clear e2
    obtain ⟨e0, he0⟩ : ∃ e0, l[kn] = e0 := ⟨_, rfl⟩
    have hmk : (l.map storedE)[kn]? = some (storedE e0) := by rw [List.getElem?_map, List.getElem?_eq_getElem hkl, he0]; rfl
    have hei0 : EntI (storedE e0) := storedI (HI.out e0 (by rw [← he0]; exact List.getElem_mem hkl))
    have hd0 := hei0.data
    change e0.data.length ≤ 2147483647 at hd0
    have cJ : w2.cell? ⟨g, kn * 15 + 7, none⟩ = some (.int .i64 0) := HOL.out.range hmk 7 _ rfl
    have zJ : w2.frozen? ⟨g, kn * 15 + 7, none⟩ = false := HOL.out.frozen hn.symm _
    have hkn' : (kn : Int) < (n : Int) := by omega
    obtain ⟨e, hee⟩ : ∃ e : Ent, (⟨{ (storedE e0).h with method := m }, e0.data⟩ : Ent) = e := ⟨_, rfl⟩
    have hol3 := HOL.out.put (u := (.int .i64 m)) hn.symm hmk (j := 7) (by omega) (e' := e) (by rw [← hee]; rfl)
    have HOL3 := Lib.hid hol3
    have HF3 := Lib.hid (HF2.out.setCell (p := ⟨g, kn * 15 + 7, none⟩) (.inr (Nat.le_trans HF1.out.size hge)) (.int .i64 m))
    have hgl3 : g < (w2.setCell ⟨g, kn * 15 + 7, none⟩ (.int .i64 m)).heap.size := by simpa [World.setCell] using hgl
    clear hol3
    go_wp2_with fail
    clear cJ zJ HOL HF2 hgl
    obtain ⟨w3', hw3⟩ : ∃ w3', w2.setCell ⟨g, kn * 15 + 7, none⟩ (.int .i64 m) = w3' := ⟨_, rfl⟩
    rw [hw3] at HOL3 HF3 hgl3 ⊢
    clear hw3
    have hei : EntI e := by
      rw [← hee]
      obtain ⟨⟨h1, h2, h3, h4, h5, h6, h7, h8, h9, h10, h11, h12, h13⟩, hd⟩ := hei0
      exact ⟨⟨h1, h2, h3, ⟨by show _ ≤ m; omega, by show m ≤ _; omega⟩, h5, h6, h7, h8, h9, h10, h11, h12, h13⟩, hd⟩
    obtain ⟨l', hl'⟩ : ∃ l', (l.map storedE).set kn e = l' := ⟨_, rfl⟩
    have hln : l'.length = n := by rw [← hl', List.length_set]; exact hn
    have hle : l'[kn]? = some e := by rw [← hl', List.getElem?_set_self (by rw [List.length_map]; exact hkl)]
    have hEI : ∀ x ∈ l', EntI x := fun x hx => by
      rw [← hl'] at hx
      rcases List.mem_or_eq_of_mem_set hx with hx | hx
      · obtain ⟨y, hy, rfl⟩ := List.mem_map.1 hx
        exact storedI (HI.out y hy)
      · rw [hx]; exact hei
    rw [hl'] at HOL3
    clear hl' hei0
    have hem : e ∈ l' := List.mem_of_getElem? hle
    have HF2 := HF3
    have HOL := HOL3
    have hgl := hgl3
    clear HF3 HOL3 hgl3
    have HSV := Lib.hid (fun (w' : World) (hf : Fr [] w3' w') => HOL.out.sv.fr hf (by simp))
    have HPOS := Lib.hid (fun (w' : World) (hf : Fr [] w3' w') => (show 0 < w'.heap.size from by have := HF2.out.size; have := HW.out.h18; have := hf.size; omega))
    have HG := Lib.hid (fun (w' : World) (hf : Fr [] w3' w') => goodC l' hEI c hcc _ w' (HSV.out w' hf) (HPOS.out w' hf))
    have HD := Lib.hid (fun (w' : World) (hf : Fr [] w3' w') => dirsC l' hEI _ w' (HSV.out w' hf))
    have HR := Lib.hid (fun (w' : World) (hf : Fr [] w3' w') => cellsE (rangeAt_fr (HOL.out.range hle) hgl hf))
    have HS := Lib.hid (fun (w' : World) => simpleC e.h hei.hd w')
    have HEI := Lib.hid hEI
    have HEI1 := Lib.hid hei
    have HLE := Lib.hid hle
    clear hei hle hEI
    have hi1 : ¬ (n : Int) ≤ (kn : Int) := by omega
    have hi2 : (0 : Int) ≤ (kn : Int) := by omega
    have hnm := HEI1.out.hd.nm
    rcases List.eq_nil_or_concat e.h.name with hnil | ⟨mm, b, hmb⟩
    · have HN := Lib.hid hnil
      clear hnil
      refine wp_region_held_drew (S := fun w' => w'.cell? ⟨g, kn * 15, none⟩ = some (.string (bs e.h.name)) ∧ Fr [] w3' w') (by kernel_rfl) ?_ (fun hHeld => ?_)
      · exact ⟨(HR.out _ ((Fr.refl [] w3').drew)).1, (Fr.refl [] w3').drew⟩
      refine take_w 0 ?vv1 rfl (by kernel_rfl) (by kernel_rfl) (by kernel_rfl) (fun _ _ _ h => h) (by rfl) ?hy1 (by assumption) ?rest1
      case hy1 => (intro w hSw; (try dsimp only at hSw); go_simp; try with_reducible rfl)
      try simp only [Act.put, List.setIfInBounds_toArray, List.set_cons_zero, List.set_cons_succ]
      refine take_w 1 ?vv2 rfl (by kernel_rfl) (by kernel_rfl) (by kernel_rfl) (fun _ _ _ h => h) (by rfl) ?hy2 (by assumption) ?rest2
      case hy2 => (intro w hSw; (try dsimp only at hSw); go_simp; try with_reducible rfl)
      try simp only [Act.put, List.setIfInBounds_toArray, List.set_cons_zero, List.set_cons_succ]
      refine call_r 2 rfl (by kernel_rfl) (by rfl) (fun K hK => ?_)
      go_simp
      refine ((HG.out _ hHeld.2).mono ?_)
      rintro e2 w4 ⟨b2, rfl, hb2, hf4⟩
      have HB2 := Lib.hid hb2
      have kk : w4.cell? ⟨g, kn * 15, none⟩ = some (.string (bs e.h.name)) ∧ Fr [] w3' w4 := ⟨(HR.out w4 (hHeld.2.trans hf4 (by simp))).1, hHeld.2.trans hf4 (by simp)⟩
      clear hHeld hf4 hb2
      refine hK.out _ _ ?_ (fun hHeld => ?_)
      · exact kk
      clear hK K
      try simp only [Act.put, List.setIfInBounds_toArray, List.set_cons_zero, List.set_cons_succ]
      cases b2 with
      | false =>
        refine take_w 3 ?vv3 rfl (by kernel_rfl) (by kernel_rfl) (by kernel_rfl) (fun _ _ _ h => h) (by rfl) ?hy3 (by assumption) ?rest3
        case hy3 => (intro w hSw; (try dsimp only at hSw); go_simp; try with_reducible rfl)
        try simp only [Act.put, List.setIfInBounds_toArray, List.set_cons_zero, List.set_cons_succ]
        refine take_w 4 ?vv4 rfl (by kernel_rfl) (by kernel_rfl) (by kernel_rfl) (fun _ _ _ h => h) (by rfl) ?hy4 (by assumption) ?rest4
        case hy4 => (intro w hSw; (try dsimp only at hSw); go_simp; try with_reducible rfl)
        try simp only [Act.put, List.setIfInBounds_toArray, List.set_cons_zero, List.set_cons_succ]
        refine take_u 5 rfl (by kernel_rfl) (by kernel_rfl) (by kernel_rfl) (fun _ _ _ h => h) (by rfl) (by assumption) ?_
        try simp only [Act.put, List.setIfInBounds_toArray, List.set_cons_zero, List.set_cons_succ]
        refine take_u 6 rfl (by kernel_rfl) (by kernel_rfl) (by kernel_rfl) (fun _ _ _ h => h) (by rfl) (by assumption) ?_
        try simp only [Act.put, List.setIfInBounds_toArray, List.set_cons_zero, List.set_cons_succ]
        refine take_u 7 rfl (by kernel_rfl) (by kernel_rfl) (by kernel_rfl) (fun _ _ _ h => h) (by rfl) (by assumption) ?_
        try simp only [Act.put, List.setIfInBounds_toArray, List.set_cons_zero, List.set_cons_succ]
        refine take_u 8 rfl (by kernel_rfl) (by kernel_rfl) (by kernel_rfl) (fun _ _ _ h => h) (by rfl) (by assumption) ?_
        try simp only [Act.put, List.setIfInBounds_toArray, List.set_cons_zero, List.set_cons_succ]
        refine take_u 9 rfl (by kernel_rfl) (by kernel_rfl) (by kernel_rfl) (fun _ _ _ h => h) (by rfl) (by assumption) ?_
        try simp only [Act.put, List.setIfInBounds_toArray, List.set_cons_zero, List.set_cons_succ]
        refine take_u 10 rfl (by kernel_rfl) (by kernel_rfl) (by kernel_rfl) (fun _ _ _ h => h) (by rfl) (by assumption) ?_
        try simp only [Act.put, List.setIfInBounds_toArray, List.set_cons_zero, List.set_cons_succ]
        refine take_u 11 rfl (by kernel_rfl) (by kernel_rfl) (by kernel_rfl) (fun _ _ _ h => h) (by rfl) (by assumption) ?_
        try simp only [Act.put, List.setIfInBounds_toArray, List.set_cons_zero, List.set_cons_succ]
        refine take_u 12 rfl (by kernel_rfl) (by kernel_rfl) (by kernel_rfl) (fun _ _ _ h => h) (by rfl) (by assumption) ?_
        try simp only [Act.put, List.setIfInBounds_toArray, List.set_cons_zero, List.set_cons_succ]
        refine take_u 13 rfl (by kernel_rfl) (by kernel_rfl) (by kernel_rfl) (fun _ _ _ h => h) (by rfl) (by assumption) ?_
        try simp only [Act.put, List.setIfInBounds_toArray, List.set_cons_zero, List.set_cons_succ]
        refine take_u 14 rfl (by kernel_rfl) (by kernel_rfl) (by kernel_rfl) (fun _ _ _ h => h) (by rfl) (by assumption) ?_
        try simp only [Act.put, List.setIfInBounds_toArray, List.set_cons_zero, List.set_cons_succ]
        refine take_u 15 rfl (by kernel_rfl) (by kernel_rfl) (by kernel_rfl) (fun _ _ _ h => h) (by rfl) (by assumption) ?_
        try simp only [Act.put, List.setIfInBounds_toArray, List.set_cons_zero, List.set_cons_succ]
        refine take_u 16 rfl (by kernel_rfl) (by kernel_rfl) (by kernel_rfl) (fun _ _ _ h => h) (by rfl) (by assumption) ?_
        try simp only [Act.put, List.setIfInBounds_toArray, List.set_cons_zero, List.set_cons_succ]
        refine take_u 17 rfl (by kernel_rfl) (by kernel_rfl) (by kernel_rfl) (fun _ _ _ h => h) (by rfl) (by assumption) ?_
        try simp only [Act.put, List.setIfInBounds_toArray, List.set_cons_zero, List.set_cons_succ]
        refine take_u 18 rfl (by kernel_rfl) (by kernel_rfl) (by kernel_rfl) (fun _ _ _ h => h) (by rfl) (by assumption) ?_
        try simp only [Act.put, List.setIfInBounds_toArray, List.set_cons_zero, List.set_cons_succ]
        refine take_u 19 rfl (by kernel_rfl) (by kernel_rfl) (by kernel_rfl) (fun _ _ _ h => h) (by rfl) (by assumption) ?_
        try simp only [Act.put, List.setIfInBounds_toArray, List.set_cons_zero, List.set_cons_succ]
        refine take_u 20 rfl (by kernel_rfl) (by kernel_rfl) (by kernel_rfl) (fun _ _ _ h => h) (by rfl) (by assumption) ?_
        try simp only [Act.put, List.setIfInBounds_toArray, List.set_cons_zero, List.set_cons_succ]
        refine take_u 21 rfl (by kernel_rfl) (by kernel_rfl) (by kernel_rfl) (fun _ _ _ h => h) (by rfl) (by assumption) ?_
        try simp only [Act.put, List.setIfInBounds_toArray, List.set_cons_zero, List.set_cons_succ]
        refine take_u 22 rfl (by kernel_rfl) (by kernel_rfl) (by kernel_rfl) (fun _ _ _ h => h) (by rfl) (by assumption) ?_
        try simp only [Act.put, List.setIfInBounds_toArray, List.set_cons_zero, List.set_cons_succ]
        refine take_u 23 rfl (by kernel_rfl) (by kernel_rfl) (by kernel_rfl) (fun _ _ _ h => h) (by rfl) (by assumption) ?_
        try simp only [Act.put, List.setIfInBounds_toArray, List.set_cons_zero, List.set_cons_succ]
        refine take_u 24 rfl (by kernel_rfl) (by kernel_rfl) (by kernel_rfl) (fun _ _ _ h => h) (by rfl) (by assumption) ?_
        try simp only [Act.put, List.setIfInBounds_toArray, List.set_cons_zero, List.set_cons_succ]
        refine take_u 25 rfl (by kernel_rfl) (by kernel_rfl) (by kernel_rfl) (fun _ _ _ h => h) (by rfl) (by assumption) ?_
        try simp only [Act.put, List.setIfInBounds_toArray, List.set_cons_zero, List.set_cons_succ]
        refine take_u 26 rfl (by kernel_rfl) (by kernel_rfl) (by kernel_rfl) (fun _ _ _ h => h) (by rfl) (by assumption) ?_
        try simp only [Act.put, List.setIfInBounds_toArray, List.set_cons_zero, List.set_cons_succ]
        refine take_u 27 rfl (by kernel_rfl) (by kernel_rfl) (by kernel_rfl) (fun _ _ _ h => h) (by rfl) (by assumption) ?_
        try simp only [Act.put, List.setIfInBounds_toArray, List.set_cons_zero, List.set_cons_succ]
        refine take_u 28 rfl (by kernel_rfl) (by kernel_rfl) (by kernel_rfl) (fun _ _ _ h => h) (by rfl) (by assumption) ?_
        try simp only [Act.put, List.setIfInBounds_toArray, List.set_cons_zero, List.set_cons_succ]
        refine take_u 29 rfl (by kernel_rfl) (by kernel_rfl) (by kernel_rfl) (fun _ _ _ h => h) (by rfl) (by assumption) ?_
        try simp only [Act.put, List.setIfInBounds_toArray, List.set_cons_zero, List.set_cons_succ]
        refine take_w 30 ?vv5 rfl (by kernel_rfl) (by kernel_rfl) (by kernel_rfl) (fun _ _ _ h => h) (by rfl) ?hy5 (by assumption) ?rest5
        case hy5 => (intro w hSw; (try dsimp only at hSw); go_simp; try with_reducible rfl)
        try simp only [Act.put, List.setIfInBounds_toArray, List.set_cons_zero, List.set_cons_succ]
        refine wpAnyH_done (by kernel_rfl) ?_ _
        go_wp2_with fail
        go_ret
        exact ⟨rfl, HF2.out.trans hHeld.2 (by simp)⟩
      | true =>
        refine take_w 3 ?vv6 rfl (by kernel_rfl) (by kernel_rfl) (by kernel_rfl) (fun _ _ _ h => h) (by rfl) ?hy6 (by assumption) ?rest6
        case hy6 => (intro w hSw; (try dsimp only at hSw); go_simp; try with_reducible rfl)
        try simp only [Act.put, List.setIfInBounds_toArray, List.set_cons_zero, List.set_cons_succ]
        refine take_w 4 ?vv7 rfl (by kernel_rfl) (by kernel_rfl) (by kernel_rfl) (fun _ _ _ h => h) (by rfl) ?hy7 (by assumption) ?rest7
        case hy7 => (intro w hSw; (try dsimp only at hSw); go_simp; try with_reducible rfl)
        try simp only [Act.put, List.setIfInBounds_toArray, List.set_cons_zero, List.set_cons_succ]
        refine take_w 5 ?vv8 rfl (by kernel_rfl) (by kernel_rfl) (by kernel_rfl) (fun _ _ _ h => h) (by rfl) ?hy8 (by assumption) ?rest8
        case hy8 => (intro w hSw; (try dsimp only at hSw); go_simp; try with_reducible rfl)
        try simp only [Act.put, List.setIfInBounds_toArray, List.set_cons_zero, List.set_cons_succ]
        refine take_w 6 ?vv9 rfl (by kernel_rfl) (by kernel_rfl) (by kernel_rfl) (fun _ _ _ h => h) (by rfl) ?hy9 (by assumption) ?rest9
        case hy9 => (intro w hSw; (try dsimp only at hSw); go_simp; try with_reducible rfl)
        try simp only [Act.put, List.setIfInBounds_toArray, List.set_cons_zero, List.set_cons_succ]
        refine take_w 7 ?vv10 rfl (by kernel_rfl) (by kernel_rfl) (by kernel_rfl) (fun _ _ _ h => h) (by rfl) ?hy10 (by assumption) ?rest10
        case hy10 => (intro w hSw; (try dsimp only at hSw); go_simp; try with_reducible rfl)
        try simp only [Act.put, List.setIfInBounds_toArray, List.set_cons_zero, List.set_cons_succ]
        refine take_w 8 ?vv11 rfl (by kernel_rfl) (by kernel_rfl) (by kernel_rfl) (fun _ _ _ h => h) (by rfl) ?hy11 (by assumption) ?rest11
        case hy11 => (intro w hSw; (try dsimp only at hSw); go_simp; try with_reducible rfl)
        try simp only [Act.put, List.setIfInBounds_toArray, List.set_cons_zero, List.set_cons_succ]
        refine take_w 9 ?vv12 rfl (by kernel_rfl) (by kernel_rfl) (by kernel_rfl) (fun _ _ _ h => h) (by rfl) ?hy12 (by assumption) ?rest12
        case hy12 => (intro w hSw; (try dsimp only at hSw); go_simp; try with_reducible rfl)
        try simp only [Act.put, List.setIfInBounds_toArray, List.set_cons_zero, List.set_cons_succ]
        refine take_w 10 ?vv13 rfl (by kernel_rfl) (by kernel_rfl) (by kernel_rfl) (fun _ _ _ h => h) (by rfl) ?hy13 (by assumption) ?rest13
        case hy13 => (intro w hSw; (try dsimp only at hSw); go_simp; try with_reducible rfl)
        try simp only [Act.put, List.setIfInBounds_toArray, List.set_cons_zero, List.set_cons_succ]
        refine take_w 11 (.bool false) rfl (by kernel_rfl) (by kernel_rfl) (by kernel_rfl) (fun _ _ _ h => h) (by rfl) ?hy14 (by assumption) ?rest14
        case hy14 => (intro w hSw; (try dsimp only at hSw); go_simp; exact HN.out)
        try simp only [Act.put, List.setIfInBounds_toArray, List.set_cons_zero, List.set_cons_succ]
        refine take_w 12 ?vv15 rfl (by kernel_rfl) (by kernel_rfl) (by kernel_rfl) (fun _ _ _ h => h) (by rfl) ?hy15 (by assumption) ?rest15
        case hy15 => (intro w hSw; (try dsimp only at hSw); go_simp; try with_reducible rfl)
        try simp only [Act.put, List.setIfInBounds_toArray, List.set_cons_zero, List.set_cons_succ]
        refine take_u 13 rfl (by kernel_rfl) (by kernel_rfl) (by kernel_rfl) (fun _ _ _ h => h) (by rfl) (by assumption) ?_
        try simp only [Act.put, List.setIfInBounds_toArray, List.set_cons_zero, List.set_cons_succ]
        refine take_u 14 rfl (by kernel_rfl) (by kernel_rfl) (by kernel_rfl) (fun _ _ _ h => h) (by rfl) (by assumption) ?_
        try simp only [Act.put, List.setIfInBounds_toArray, List.set_cons_zero, List.set_cons_succ]
        refine take_u 15 rfl (by kernel_rfl) (by kernel_rfl) (by kernel_rfl) (fun _ _ _ h => h) (by rfl) (by assumption) ?_
        try simp only [Act.put, List.setIfInBounds_toArray, List.set_cons_zero, List.set_cons_succ]
        refine take_u 16 rfl (by kernel_rfl) (by kernel_rfl) (by kernel_rfl) (fun _ _ _ h => h) (by rfl) (by assumption) ?_
        try simp only [Act.put, List.setIfInBounds_toArray, List.set_cons_zero, List.set_cons_succ]
        refine take_u 17 rfl (by kernel_rfl) (by kernel_rfl) (by kernel_rfl) (fun _ _ _ h => h) (by rfl) (by assumption) ?_
        try simp only [Act.put, List.setIfInBounds_toArray, List.set_cons_zero, List.set_cons_succ]
        refine take_u 18 rfl (by kernel_rfl) (by kernel_rfl) (by kernel_rfl) (fun _ _ _ h => h) (by rfl) (by assumption) ?_
        try simp only [Act.put, List.setIfInBounds_toArray, List.set_cons_zero, List.set_cons_succ]
        refine take_u 19 rfl (by kernel_rfl) (by kernel_rfl) (by kernel_rfl) (fun _ _ _ h => h) (by rfl) (by assumption) ?_
        try simp only [Act.put, List.setIfInBounds_toArray, List.set_cons_zero, List.set_cons_succ]
        refine take_u 20 rfl (by kernel_rfl) (by kernel_rfl) (by kernel_rfl) (fun _ _ _ h => h) (by rfl) (by assumption) ?_
        try simp only [Act.put, List.setIfInBounds_toArray, List.set_cons_zero, List.set_cons_succ]
        refine take_u 21 rfl (by kernel_rfl) (by kernel_rfl) (by kernel_rfl) (fun _ _ _ h => h) (by rfl) (by assumption) ?_
        try simp only [Act.put, List.setIfInBounds_toArray, List.set_cons_zero, List.set_cons_succ]
        refine take_u 22 rfl (by kernel_rfl) (by kernel_rfl) (by kernel_rfl) (fun _ _ _ h => h) (by rfl) (by assumption) ?_
        try simp only [Act.put, List.setIfInBounds_toArray, List.set_cons_zero, List.set_cons_succ]
        refine take_u 23 rfl (by kernel_rfl) (by kernel_rfl) (by kernel_rfl) (fun _ _ _ h => h) (by rfl) (by assumption) ?_
        try simp only [Act.put, List.setIfInBounds_toArray, List.set_cons_zero, List.set_cons_succ]
        refine take_u 24 rfl (by kernel_rfl) (by kernel_rfl) (by kernel_rfl) (fun _ _ _ h => h) (by rfl) (by assumption) ?_
        try simp only [Act.put, List.setIfInBounds_toArray, List.set_cons_zero, List.set_cons_succ]
        refine take_u 25 rfl (by kernel_rfl) (by kernel_rfl) (by kernel_rfl) (fun _ _ _ h => h) (by rfl) (by assumption) ?_
        try simp only [Act.put, List.setIfInBounds_toArray, List.set_cons_zero, List.set_cons_succ]
        refine take_u 26 rfl (by kernel_rfl) (by kernel_rfl) (by kernel_rfl) (fun _ _ _ h => h) (by rfl) (by assumption) ?_
        try simp only [Act.put, List.setIfInBounds_toArray, List.set_cons_zero, List.set_cons_succ]
        refine take_u 27 rfl (by kernel_rfl) (by kernel_rfl) (by kernel_rfl) (fun _ _ _ h => h) (by rfl) (by assumption) ?_
        try simp only [Act.put, List.setIfInBounds_toArray, List.set_cons_zero, List.set_cons_succ]
        refine take_u 28 rfl (by kernel_rfl) (by kernel_rfl) (by kernel_rfl) (fun _ _ _ h => h) (by rfl) (by assumption) ?_
        try simp only [Act.put, List.setIfInBounds_toArray, List.set_cons_zero, List.set_cons_succ]
        refine take_w 29 ?vv16 rfl (by kernel_rfl) (by kernel_rfl) (by kernel_rfl) (fun _ _ _ h => h) (by rfl) ?hy16 (by assumption) ?rest16
        case hy16 => (intro w hSw; (try dsimp only at hSw); go_simp; try with_reducible rfl)
        try simp only [Act.put, List.setIfInBounds_toArray, List.set_cons_zero, List.set_cons_succ]
        refine take_w 30 ?vv17 rfl (by kernel_rfl) (by kernel_rfl) (by kernel_rfl) (fun _ _ _ h => h) (by rfl) ?hy17 (by assumption) ?rest17
        case hy17 => (intro w hSw; (try dsimp only at hSw); go_simp; try with_reducible rfl)
        try simp only [Act.put, List.setIfInBounds_toArray, List.set_cons_zero, List.set_cons_succ]
        refine wpAnyH_done (by kernel_rfl) ?_ _
        have HGOOD := Lib.hid (HB2.out.1 (by first | rfl | trivial))
        have HF5 := Lib.hid hHeld.2
        have HNS := Lib.hid (show slash (bs e.h.name) = false by rw [Bool.eq_false_iff]; intro h; have h := (slash_iff _).1 h; rw [slashL, HN.out] at h; cases h)
        clear hHeld HB2 kk
        have HOK := Lib.hid (fun x (hx : x ∈ l') => (HGOOD.out.1 x hx).1)
        obtain ⟨s1, s2⟩ := size_small HGOOD.out.1 HGOOD.out.2.1
        have h1000 := HGOOD.out.2.1
        have HAR := Lib.hid (archC l' HEI.out c _ w4 (HSV.out w4 HF5.out) (HPOS.out w4 HF5.out) (by omega) (by omega) (by omega) hcc)
        rw [archI_ok c HOK.out] at HAR
        have HFK := Lib.hid (fileK_of HGOOD.out HLE.out)
        clear s1 s2
        go_wp2_with fail
        refine HAR.out.mono ?_
        rintro x w6 ⟨rfl, hf6⟩
        have HF6 := Lib.hid (HF5.out.trans hf6 (by simp))
        have hW6 := HW.out.fr (HF2.out.trans HF6.out (by simp)) (by simp)
        have HW6 := Lib.hid hW6
        obtain ⟨S, hS⟩ : ∃ S, bs (archB l' c) = S := ⟨_, rfl⟩
        rw [hS] at HFK ⊢
        clear hf6 hW6 hS
        have HCT := Lib.hid (content_alg E B0 w6 S kn e HW6.out HFK.out HNS.out (by rw [← hee]; show m ≠ 0; omega) (by rw [← hee]; rfl))
        clear HFK
        go_wp2_with fail
        refine HCT.out.mono ?_
        rintro x w7 ⟨rfl, hf7⟩
        have HF7 := Lib.hid (HF6.out.trans hf7 (by simp))
        have HRD := Lib.hid (readsC E B0 w7 (HW6.out.fr hf7 (by simp)))
        clear hf7
        go_wp2_with fail
        refine HRD.out.mono ?_
        rintro x w8 ⟨rfl, hf8⟩
        go_wp2_with fail
        go_ret
        exact ⟨rfl, (HF2.out.trans HF7.out (by simp)).trans hf8 (by simp)⟩
    · rw [List.concat_eq_append] at hmb
      have hl1 : e.h.name.length = mm.length + 1 := by rw [hmb]; simp
      have HMB := Lib.hid hmb
      have hi3 : (0 : Int) < (e.h.name.length : Int) := by omega
      have hlt2 : e.h.name.length - 1 < (bs e.h.name).size := by show _ < e.h.name.toArray.size; simp; omega
      have HSL := Lib.hid (show slashL e.h.name ↔ b = 47 by rw [slashL, hmb]; simp)
      have HGET := Lib.hid (show ∀ (h : mm.length < (bs e.h.name).size), (bs e.h.name)[mm.length] = b from by
        intro h
        show e.h.name.toArray[mm.length] = b
        simp [hmb])
      have hwr : IntKind.i64.wrap (mm.length : Int) = (mm.length : Int) := IntWalk.i64_in _ (by omega)
      have hi4 : (0 : Int) ≤ (mm.length : Int) ∧ (mm.length : Int) < (mm.length : Int) + 1 := by omega
      clear hmb
      by_cases hb47 : b = 47
      · have HB47 := Lib.hid hb47
        clear hb47
        refine wp_region_held_drew (S := fun w' => w'.cell? ⟨g, kn * 15, none⟩ = some (.string (bs e.h.name)) ∧ Fr [] w3' w') (by kernel_rfl) ?_ (fun hHeld => ?_)
        · exact ⟨(HR.out _ ((Fr.refl [] w3').drew)).1, (Fr.refl [] w3').drew⟩
        refine take_w 0 ?vv18 rfl (by kernel_rfl) (by kernel_rfl) (by kernel_rfl) (fun _ _ _ h => h) (by rfl) ?hy18 (by assumption) ?rest18
        case hy18 => (intro w hSw; (try dsimp only at hSw); go_simp; try with_reducible rfl)
        try simp only [Act.put, List.setIfInBounds_toArray, List.set_cons_zero, List.set_cons_succ]
        refine take_w 1 ?vv19 rfl (by kernel_rfl) (by kernel_rfl) (by kernel_rfl) (fun _ _ _ h => h) (by rfl) ?hy19 (by assumption) ?rest19
        case hy19 => (intro w hSw; (try dsimp only at hSw); go_simp; try with_reducible rfl)
        try simp only [Act.put, List.setIfInBounds_toArray, List.set_cons_zero, List.set_cons_succ]
        refine call_r 2 rfl (by kernel_rfl) (by rfl) (fun K hK => ?_)
        go_simp
        refine ((HG.out _ hHeld.2).mono ?_)
        rintro e2 w4 ⟨b2, rfl, hb2, hf4⟩
        have HB2 := Lib.hid hb2
        have kk : w4.cell? ⟨g, kn * 15, none⟩ = some (.string (bs e.h.name)) ∧ Fr [] w3' w4 := ⟨(HR.out w4 (hHeld.2.trans hf4 (by simp))).1, hHeld.2.trans hf4 (by simp)⟩
        clear hHeld hf4 hb2
        refine hK.out _ _ ?_ (fun hHeld => ?_)
        · exact kk
        clear hK K
        try simp only [Act.put, List.setIfInBounds_toArray, List.set_cons_zero, List.set_cons_succ]
        cases b2 with
        | false =>
          refine take_w 3 ?vv20 rfl (by kernel_rfl) (by kernel_rfl) (by kernel_rfl) (fun _ _ _ h => h) (by rfl) ?hy20 (by assumption) ?rest20
          case hy20 => (intro w hSw; (try dsimp only at hSw); go_simp; try with_reducible rfl)
          try simp only [Act.put, List.setIfInBounds_toArray, List.set_cons_zero, List.set_cons_succ]
          refine take_w 4 ?vv21 rfl (by kernel_rfl) (by kernel_rfl) (by kernel_rfl) (fun _ _ _ h => h) (by rfl) ?hy21 (by assumption) ?rest21
          case hy21 => (intro w hSw; (try dsimp only at hSw); go_simp; try with_reducible rfl)
          try simp only [Act.put, List.setIfInBounds_toArray, List.set_cons_zero, List.set_cons_succ]
          refine take_u 5 rfl (by kernel_rfl) (by kernel_rfl) (by kernel_rfl) (fun _ _ _ h => h) (by rfl) (by assumption) ?_
          try simp only [Act.put, List.setIfInBounds_toArray, List.set_cons_zero, List.set_cons_succ]
          refine take_u 6 rfl (by kernel_rfl) (by kernel_rfl) (by kernel_rfl) (fun _ _ _ h => h) (by rfl) (by assumption) ?_
          try simp only [Act.put, List.setIfInBounds_toArray, List.set_cons_zero, List.set_cons_succ]
          refine take_u 7 rfl (by kernel_rfl) (by kernel_rfl) (by kernel_rfl) (fun _ _ _ h => h) (by rfl) (by assumption) ?_
          try simp only [Act.put, List.setIfInBounds_toArray, List.set_cons_zero, List.set_cons_succ]
          refine take_u 8 rfl (by kernel_rfl) (by kernel_rfl) (by kernel_rfl) (fun _ _ _ h => h) (by rfl) (by assumption) ?_
          try simp only [Act.put, List.setIfInBounds_toArray, List.set_cons_zero, List.set_cons_succ]
          refine take_u 9 rfl (by kernel_rfl) (by kernel_rfl) (by kernel_rfl) (fun _ _ _ h => h) (by rfl) (by assumption) ?_
          try simp only [Act.put, List.setIfInBounds_toArray, List.set_cons_zero, List.set_cons_succ]
          refine take_u 10 rfl (by kernel_rfl) (by kernel_rfl) (by kernel_rfl) (fun _ _ _ h => h) (by rfl) (by assumption) ?_
          try simp only [Act.put, List.setIfInBounds_toArray, List.set_cons_zero, List.set_cons_succ]
          refine take_u 11 rfl (by kernel_rfl) (by kernel_rfl) (by kernel_rfl) (fun _ _ _ h => h) (by rfl) (by assumption) ?_
          try simp only [Act.put, List.setIfInBounds_toArray, List.set_cons_zero, List.set_cons_succ]
          refine take_u 12 rfl (by kernel_rfl) (by kernel_rfl) (by kernel_rfl) (fun _ _ _ h => h) (by rfl) (by assumption) ?_
          try simp only [Act.put, List.setIfInBounds_toArray, List.set_cons_zero, List.set_cons_succ]
          refine take_u 13 rfl (by kernel_rfl) (by kernel_rfl) (by kernel_rfl) (fun _ _ _ h => h) (by rfl) (by assumption) ?_
          try simp only [Act.put, List.setIfInBounds_toArray, List.set_cons_zero, List.set_cons_succ]
          refine take_u 14 rfl (by kernel_rfl) (by kernel_rfl) (by kernel_rfl) (fun _ _ _ h => h) (by rfl) (by assumption) ?_
          try simp only [Act.put, List.setIfInBounds_toArray, List.set_cons_zero, List.set_cons_succ]
          refine take_u 15 rfl (by kernel_rfl) (by kernel_rfl) (by kernel_rfl) (fun _ _ _ h => h) (by rfl) (by assumption) ?_
          try simp only [Act.put, List.setIfInBounds_toArray, List.set_cons_zero, List.set_cons_succ]
          refine take_u 16 rfl (by kernel_rfl) (by kernel_rfl) (by kernel_rfl) (fun _ _ _ h => h) (by rfl) (by assumption) ?_
          try simp only [Act.put, List.setIfInBounds_toArray, List.set_cons_zero, List.set_cons_succ]
          refine take_u 17 rfl (by kernel_rfl) (by kernel_rfl) (by kernel_rfl) (fun _ _ _ h => h) (by rfl) (by assumption) ?_
          try simp only [Act.put, List.setIfInBounds_toArray, List.set_cons_zero, List.set_cons_succ]
          refine take_u 18 rfl (by kernel_rfl) (by kernel_rfl) (by kernel_rfl) (fun _ _ _ h => h) (by rfl) (by assumption) ?_
          try simp only [Act.put, List.setIfInBounds_toArray, List.set_cons_zero, List.set_cons_succ]
          refine take_u 19 rfl (by kernel_rfl) (by kernel_rfl) (by kernel_rfl) (fun _ _ _ h => h) (by rfl) (by assumption) ?_
          try simp only [Act.put, List.setIfInBounds_toArray, List.set_cons_zero, List.set_cons_succ]
          refine take_u 20 rfl (by kernel_rfl) (by kernel_rfl) (by kernel_rfl) (fun _ _ _ h => h) (by rfl) (by assumption) ?_
          try simp only [Act.put, List.setIfInBounds_toArray, List.set_cons_zero, List.set_cons_succ]
          refine take_u 21 rfl (by kernel_rfl) (by kernel_rfl) (by kernel_rfl) (fun _ _ _ h => h) (by rfl) (by assumption) ?_
          try simp only [Act.put, List.setIfInBounds_toArray, List.set_cons_zero, List.set_cons_succ]
          refine take_u 22 rfl (by kernel_rfl) (by kernel_rfl) (by kernel_rfl) (fun _ _ _ h => h) (by rfl) (by assumption) ?_
          try simp only [Act.put, List.setIfInBounds_toArray, List.set_cons_zero, List.set_cons_succ]
          refine take_u 23 rfl (by kernel_rfl) (by kernel_rfl) (by kernel_rfl) (fun _ _ _ h => h) (by rfl) (by assumption) ?_
          try simp only [Act.put, List.setIfInBounds_toArray, List.set_cons_zero, List.set_cons_succ]
          refine take_u 24 rfl (by kernel_rfl) (by kernel_rfl) (by kernel_rfl) (fun _ _ _ h => h) (by rfl) (by assumption) ?_
          try simp only [Act.put, List.setIfInBounds_toArray, List.set_cons_zero, List.set_cons_succ]
          refine take_u 25 rfl (by kernel_rfl) (by kernel_rfl) (by kernel_rfl) (fun _ _ _ h => h) (by rfl) (by assumption) ?_
          try simp only [Act.put, List.setIfInBounds_toArray, List.set_cons_zero, List.set_cons_succ]
          refine take_u 26 rfl (by kernel_rfl) (by kernel_rfl) (by kernel_rfl) (fun _ _ _ h => h) (by rfl) (by assumption) ?_
          try simp only [Act.put, List.setIfInBounds_toArray, List.set_cons_zero, List.set_cons_succ]
          refine take_u 27 rfl (by kernel_rfl) (by kernel_rfl) (by kernel_rfl) (fun _ _ _ h => h) (by rfl) (by assumption) ?_
          try simp only [Act.put, List.setIfInBounds_toArray, List.set_cons_zero, List.set_cons_succ]
          refine take_u 28 rfl (by kernel_rfl) (by kernel_rfl) (by kernel_rfl) (fun _ _ _ h => h) (by rfl) (by assumption) ?_
          try simp only [Act.put, List.setIfInBounds_toArray, List.set_cons_zero, List.set_cons_succ]
          refine take_u 29 rfl (by kernel_rfl) (by kernel_rfl) (by kernel_rfl) (fun _ _ _ h => h) (by rfl) (by assumption) ?_
          try simp only [Act.put, List.setIfInBounds_toArray, List.set_cons_zero, List.set_cons_succ]
          refine take_w 30 ?vv22 rfl (by kernel_rfl) (by kernel_rfl) (by kernel_rfl) (fun _ _ _ h => h) (by rfl) ?hy22 (by assumption) ?rest22
          case hy22 => (intro w hSw; (try dsimp only at hSw); go_simp; try with_reducible rfl)
          try simp only [Act.put, List.setIfInBounds_toArray, List.set_cons_zero, List.set_cons_succ]
          refine wpAnyH_done (by kernel_rfl) ?_ _
          go_wp2_with fail
          go_ret
          exact ⟨rfl, HF2.out.trans hHeld.2 (by simp)⟩
        | true =>
          refine take_w 3 ?vv23 rfl (by kernel_rfl) (by kernel_rfl) (by kernel_rfl) (fun _ _ _ h => h) (by rfl) ?hy23 (by assumption) ?rest23
          case hy23 => (intro w hSw; (try dsimp only at hSw); go_simp; try with_reducible rfl)
          try simp only [Act.put, List.setIfInBounds_toArray, List.set_cons_zero, List.set_cons_succ]
          refine take_w 4 ?vv24 rfl (by kernel_rfl) (by kernel_rfl) (by kernel_rfl) (fun _ _ _ h => h) (by rfl) ?hy24 (by assumption) ?rest24
          case hy24 => (intro w hSw; (try dsimp only at hSw); go_simp; try with_reducible rfl)
          try simp only [Act.put, List.setIfInBounds_toArray, List.set_cons_zero, List.set_cons_succ]
          refine take_w 5 ?vv25 rfl (by kernel_rfl) (by kernel_rfl) (by kernel_rfl) (fun _ _ _ h => h) (by rfl) ?hy25 (by assumption) ?rest25
          case hy25 => (intro w hSw; (try dsimp only at hSw); go_simp; try with_reducible rfl)
          try simp only [Act.put, List.setIfInBounds_toArray, List.set_cons_zero, List.set_cons_succ]
          refine take_w 6 ?vv26 rfl (by kernel_rfl) (by kernel_rfl) (by kernel_rfl) (fun _ _ _ h => h) (by rfl) ?hy26 (by assumption) ?rest26
          case hy26 => (intro w hSw; (try dsimp only at hSw); go_simp; try with_reducible rfl)
          try simp only [Act.put, List.setIfInBounds_toArray, List.set_cons_zero, List.set_cons_succ]
          refine take_w 7 ?vv27 rfl (by kernel_rfl) (by kernel_rfl) (by kernel_rfl) (fun _ _ _ h => h) (by rfl) ?hy27 (by assumption) ?rest27
          case hy27 => (intro w hSw; (try dsimp only at hSw); go_simp; try with_reducible rfl)
          try simp only [Act.put, List.setIfInBounds_toArray, List.set_cons_zero, List.set_cons_succ]
          refine take_w 8 ?vv28 rfl (by kernel_rfl) (by kernel_rfl) (by kernel_rfl) (fun _ _ _ h => h) (by rfl) ?hy28 (by assumption) ?rest28
          case hy28 => (intro w hSw; (try dsimp only at hSw); go_simp; try with_reducible rfl)
          try simp only [Act.put, List.setIfInBounds_toArray, List.set_cons_zero, List.set_cons_succ]
          refine take_w 9 ?vv29 rfl (by kernel_rfl) (by kernel_rfl) (by kernel_rfl) (fun _ _ _ h => h) (by rfl) ?hy29 (by assumption) ?rest29
          case hy29 => (intro w hSw; (try dsimp only at hSw); go_simp; try with_reducible rfl)
          try simp only [Act.put, List.setIfInBounds_toArray, List.set_cons_zero, List.set_cons_succ]
          refine take_w 10 ?vv30 rfl (by kernel_rfl) (by kernel_rfl) (by kernel_rfl) (fun _ _ _ h => h) (by rfl) ?hy30 (by assumption) ?rest30
          case hy30 => (intro w hSw; (try dsimp only at hSw); go_simp; try with_reducible rfl)
          try simp only [Act.put, List.setIfInBounds_toArray, List.set_cons_zero, List.set_cons_succ]
          refine take_w 11 (.bool true) rfl (by kernel_rfl) (by kernel_rfl) (by kernel_rfl) (fun _ _ _ h => h) (by rfl) ?hy31 (by assumption) ?rest31
          case hy31 => (intro w hSw; (try dsimp only at hSw); go_simp; (intro h0; rw [h0] at hl1; cases hl1))
          try simp only [Act.put, List.setIfInBounds_toArray, List.set_cons_zero, List.set_cons_succ]
          refine take_w 12 ?vv32 rfl (by kernel_rfl) (by kernel_rfl) (by kernel_rfl) (fun _ _ _ h => h) (by rfl) ?hy32 (by assumption) ?rest32
          case hy32 => (intro w hSw; (try dsimp only at hSw); go_simp; try with_reducible rfl)
          try simp only [Act.put, List.setIfInBounds_toArray, List.set_cons_zero, List.set_cons_succ]
          refine take_w 13 ?vv33 rfl (by kernel_rfl) (by kernel_rfl) (by kernel_rfl) (fun _ _ _ h => h) (by rfl) ?hy33 (by assumption) ?rest33
          case hy33 => (intro w hSw; (try dsimp only at hSw); go_simp; try with_reducible rfl)
          try simp only [Act.put, List.setIfInBounds_toArray, List.set_cons_zero, List.set_cons_succ]
          refine take_w 14 ?vv34 rfl (by kernel_rfl) (by kernel_rfl) (by kernel_rfl) (fun _ _ _ h => h) (by rfl) ?hy34 (by assumption) ?rest34
          case hy34 => (intro w hSw; (try dsimp only at hSw); go_simp; try with_reducible rfl)
          try simp only [Act.put, List.setIfInBounds_toArray, List.set_cons_zero, List.set_cons_succ]
          refine take_w 15 ?vv35 rfl (by kernel_rfl) (by kernel_rfl) (by kernel_rfl) (fun _ _ _ h => h) (by rfl) ?hy35 (by assumption) ?rest35
          case hy35 => (intro w hSw; (try dsimp only at hSw); go_simp; try with_reducible rfl)
          try simp only [Act.put, List.setIfInBounds_toArray, List.set_cons_zero, List.set_cons_succ]
          refine take_w 16 ?vv36 rfl (by kernel_rfl) (by kernel_rfl) (by kernel_rfl) (fun _ _ _ h => h) (by rfl) ?hy36 (by assumption) ?rest36
          case hy36 => (intro w hSw; (try dsimp only at hSw); go_simp; try with_reducible rfl)
          try simp only [Act.put, List.setIfInBounds_toArray, List.set_cons_zero, List.set_cons_succ]
          refine take_w 17 ?vv37 rfl (by kernel_rfl) (by kernel_rfl) (by kernel_rfl) (fun _ _ _ h => h) (by rfl) ?hy37 (by assumption) ?rest37
          case hy37 => (intro w hSw; (try dsimp only at hSw); go_simp; try with_reducible rfl)
          try simp only [Act.put, List.setIfInBounds_toArray, List.set_cons_zero, List.set_cons_succ]
          refine take_w 18 ?vv38 rfl (by kernel_rfl) (by kernel_rfl) (by kernel_rfl) (fun _ _ _ h => h) (by rfl) ?hy38 (by assumption) ?rest38
          case hy38 => (intro w hSw; (try dsimp only at hSw); go_simp; try with_reducible rfl)
          try simp only [Act.put, List.setIfInBounds_toArray, List.set_cons_zero, List.set_cons_succ]
          refine take_w 19 ?vv39 rfl (by kernel_rfl) (by kernel_rfl) (by kernel_rfl) (fun _ _ _ h => h) (by rfl) ?hy39 (by assumption) ?rest39
          case hy39 => (intro w hSw; (try dsimp only at hSw); go_simp; try with_reducible rfl)
          try simp only [Act.put, List.setIfInBounds_toArray, List.set_cons_zero, List.set_cons_succ]
          refine take_w 20 ?vv40 rfl (by kernel_rfl) (by kernel_rfl) (by kernel_rfl) (fun _ _ _ h => h) (by rfl) ?hy40 (by assumption) ?rest40
          case hy40 => (intro w hSw; (try dsimp only at hSw); go_simp; try with_reducible rfl)
          try simp only [Act.put, List.setIfInBounds_toArray, List.set_cons_zero, List.set_cons_succ]
          refine take_w 21 ?vv41 rfl (by kernel_rfl) (by kernel_rfl) (by kernel_rfl) (fun _ _ _ h => h) (by rfl) ?hy41 (by assumption) ?rest41
          case hy41 => (intro w hSw; (try dsimp only at hSw); go_simp; try with_reducible rfl)
          try simp only [Act.put, List.setIfInBounds_toArray, List.set_cons_zero, List.set_cons_succ]
          refine take_w 22 ?vv42 rfl (by kernel_rfl) (by kernel_rfl) (by kernel_rfl) (fun _ _ _ h => h) (by rfl) ?hy42 (by assumption) ?rest42
          case hy42 => (intro w hSw; (try dsimp only at hSw); go_simp; try with_reducible rfl)
          try simp only [Act.put, List.setIfInBounds_toArray, List.set_cons_zero, List.set_cons_succ]
          refine take_w 23 ?vv43 rfl (by kernel_rfl) (by kernel_rfl) (by kernel_rfl) (fun _ _ _ h => h) (by rfl) ?hy43 (by assumption) ?rest43
          case hy43 => (intro w hSw; (try dsimp only at hSw); go_simp; try with_reducible rfl)
          try simp only [Act.put, List.setIfInBounds_toArray, List.set_cons_zero, List.set_cons_succ]
          refine take_w 24 ?vv44 rfl (by kernel_rfl) (by kernel_rfl) (by kernel_rfl) (fun _ _ _ h => h) (by rfl) ?hy44 (by assumption) ?rest44
          case hy44 => (intro w hSw; (try dsimp only at hSw); go_simp; try with_reducible rfl)
          try simp only [Act.put, List.setIfInBounds_toArray, List.set_cons_zero, List.set_cons_succ]
          refine take_w 25 ?vv45 rfl (by kernel_rfl) (by kernel_rfl) (by kernel_rfl) (fun _ _ _ h => h) (by rfl) ?hy45 (by assumption) ?rest45
          case hy45 => (intro w hSw; (try dsimp only at hSw); go_simp; try with_reducible rfl)
          try simp only [Act.put, List.setIfInBounds_toArray, List.set_cons_zero, List.set_cons_succ]
          refine take_w 26 ?vv46 rfl (by kernel_rfl) (by kernel_rfl) (by kernel_rfl) (fun _ _ _ h => h) (by rfl) ?hy46 (by assumption) ?rest46
          case hy46 => (intro w hSw; (try dsimp only at hSw); go_simp; try with_reducible rfl)
          try simp only [Act.put, List.setIfInBounds_toArray, List.set_cons_zero, List.set_cons_succ]
          refine take_w 27 (.int .u8 ((b.toNat : Nat) : Int)) rfl (by kernel_rfl) (by kernel_rfl) (by kernel_rfl) (fun _ _ _ h => h) (by rfl) ?hy47 (by assumption) ?rest47
          case hy47 => (intro w hSw; (try dsimp only at hSw); go_simp; rw [HGET.out])
          try simp only [Act.put, List.setIfInBounds_toArray, List.set_cons_zero, List.set_cons_succ]
          refine take_w 28 (.bool true) rfl (by kernel_rfl) (by kernel_rfl) (by kernel_rfl) (fun _ _ _ h => h) (by rfl) ?hy48 (by assumption) ?rest48
          case hy48 => (intro w hSw; (try dsimp only at hSw); go_simp; (rw [HB47.out]; rfl))
          try simp only [Act.put, List.setIfInBounds_toArray, List.set_cons_zero, List.set_cons_succ]
          refine take_w 29 ?vv49 rfl (by kernel_rfl) (by kernel_rfl) (by kernel_rfl) (fun _ _ _ h => h) (by rfl) ?hy49 (by assumption) ?rest49
          case hy49 => (intro w hSw; (try dsimp only at hSw); go_simp; try with_reducible rfl)
          try simp only [Act.put, List.setIfInBounds_toArray, List.set_cons_zero, List.set_cons_succ]
          refine take_w 30 ?vv50 rfl (by kernel_rfl) (by kernel_rfl) (by kernel_rfl) (fun _ _ _ h => h) (by rfl) ?hy50 (by assumption) ?rest50
          case hy50 => (intro w hSw; (try dsimp only at hSw); go_simp; try with_reducible rfl)
          try simp only [Act.put, List.setIfInBounds_toArray, List.set_cons_zero, List.set_cons_succ]
          refine wpAnyH_done (by kernel_rfl) ?_ _
          go_wp2_with fail
          go_ret
          exact ⟨rfl, HF2.out.trans hHeld.2 (by simp)⟩
      · have HB47 := Lib.hid hb47
        clear hb47
        refine wp_region_held_drew (S := fun w' => w'.cell? ⟨g, kn * 15, none⟩ = some (.string (bs e.h.name)) ∧ Fr [] w3' w') (by kernel_rfl) ?_ (fun hHeld => ?_)
        · exact ⟨(HR.out _ ((Fr.refl [] w3').drew)).1, (Fr.refl [] w3').drew⟩
        refine take_w 0 ?vv51 rfl (by kernel_rfl) (by kernel_rfl) (by kernel_rfl) (fun _ _ _ h => h) (by rfl) ?hy51 (by assumption) ?rest51
        case hy51 => (intro w hSw; (try dsimp only at hSw); go_simp; try with_reducible rfl)
        try simp only [Act.put, List.setIfInBounds_toArray, List.set_cons_zero, List.set_cons_succ]
        refine take_w 1 ?vv52 rfl (by kernel_rfl) (by kernel_rfl) (by kernel_rfl) (fun _ _ _ h => h) (by rfl) ?hy52 (by assumption) ?rest52
        case hy52 => (intro w hSw; (try dsimp only at hSw); go_simp; try with_reducible rfl)
        try simp only [Act.put, List.setIfInBounds_toArray, List.set_cons_zero, List.set_cons_succ]
        refine call_r 2 rfl (by kernel_rfl) (by rfl) (fun K hK => ?_)
        go_simp
        refine ((HG.out _ hHeld.2).mono ?_)
        rintro e2 w4 ⟨b2, rfl, hb2, hf4⟩
        have HB2 := Lib.hid hb2
        have kk : w4.cell? ⟨g, kn * 15, none⟩ = some (.string (bs e.h.name)) ∧ Fr [] w3' w4 := ⟨(HR.out w4 (hHeld.2.trans hf4 (by simp))).1, hHeld.2.trans hf4 (by simp)⟩
        clear hHeld hf4 hb2
        refine hK.out _ _ ?_ (fun hHeld => ?_)
        · exact kk
        clear hK K
        try simp only [Act.put, List.setIfInBounds_toArray, List.set_cons_zero, List.set_cons_succ]
        cases b2 with
        | false =>
          refine take_w 3 ?vv53 rfl (by kernel_rfl) (by kernel_rfl) (by kernel_rfl) (fun _ _ _ h => h) (by rfl) ?hy53 (by assumption) ?rest53
          case hy53 => (intro w hSw; (try dsimp only at hSw); go_simp; try with_reducible rfl)
          try simp only [Act.put, List.setIfInBounds_toArray, List.set_cons_zero, List.set_cons_succ]
          refine take_w 4 ?vv54 rfl (by kernel_rfl) (by kernel_rfl) (by kernel_rfl) (fun _ _ _ h => h) (by rfl) ?hy54 (by assumption) ?rest54
          case hy54 => (intro w hSw; (try dsimp only at hSw); go_simp; try with_reducible rfl)
          try simp only [Act.put, List.setIfInBounds_toArray, List.set_cons_zero, List.set_cons_succ]
          refine take_u 5 rfl (by kernel_rfl) (by kernel_rfl) (by kernel_rfl) (fun _ _ _ h => h) (by rfl) (by assumption) ?_
          try simp only [Act.put, List.setIfInBounds_toArray, List.set_cons_zero, List.set_cons_succ]
          refine take_u 6 rfl (by kernel_rfl) (by kernel_rfl) (by kernel_rfl) (fun _ _ _ h => h) (by rfl) (by assumption) ?_
          try simp only [Act.put, List.setIfInBounds_toArray, List.set_cons_zero, List.set_cons_succ]
          refine take_u 7 rfl (by kernel_rfl) (by kernel_rfl) (by kernel_rfl) (fun _ _ _ h => h) (by rfl) (by assumption) ?_
          try simp only [Act.put, List.setIfInBounds_toArray, List.set_cons_zero, List.set_cons_succ]
          refine take_u 8 rfl (by kernel_rfl) (by kernel_rfl) (by kernel_rfl) (fun _ _ _ h => h) (by rfl) (by assumption) ?_
          try simp only [Act.put, List.setIfInBounds_toArray, List.set_cons_zero, List.set_cons_succ]
          refine take_u 9 rfl (by kernel_rfl) (by kernel_rfl) (by kernel_rfl) (fun _ _ _ h => h) (by rfl) (by assumption) ?_
          try simp only [Act.put, List.setIfInBounds_toArray, List.set_cons_zero, List.set_cons_succ]
          refine take_u 10 rfl (by kernel_rfl) (by kernel_rfl) (by kernel_rfl) (fun _ _ _ h => h) (by rfl) (by assumption) ?_
          try simp only [Act.put, List.setIfInBounds_toArray, List.set_cons_zero, List.set_cons_succ]
          refine take_u 11 rfl (by kernel_rfl) (by kernel_rfl) (by kernel_rfl) (fun _ _ _ h => h) (by rfl) (by assumption) ?_
          try simp only [Act.put, List.setIfInBounds_toArray, List.set_cons_zero, List.set_cons_succ]
          refine take_u 12 rfl (by kernel_rfl) (by kernel_rfl) (by kernel_rfl) (fun _ _ _ h => h) (by rfl) (by assumption) ?_
          try simp only [Act.put, List.setIfInBounds_toArray, List.set_cons_zero, List.set_cons_succ]
          refine take_u 13 rfl (by kernel_rfl) (by kernel_rfl) (by kernel_rfl) (fun _ _ _ h => h) (by rfl) (by assumption) ?_
          try simp only [Act.put, List.setIfInBounds_toArray, List.set_cons_zero, List.set_cons_succ]
          refine take_u 14 rfl (by kernel_rfl) (by kernel_rfl) (by kernel_rfl) (fun _ _ _ h => h) (by rfl) (by assumption) ?_
          try simp only [Act.put, List.setIfInBounds_toArray, List.set_cons_zero, List.set_cons_succ]
          refine take_u 15 rfl (by kernel_rfl) (by kernel_rfl) (by kernel_rfl) (fun _ _ _ h => h) (by rfl) (by assumption) ?_
          try simp only [Act.put, List.setIfInBounds_toArray, List.set_cons_zero, List.set_cons_succ]
          refine take_u 16 rfl (by kernel_rfl) (by kernel_rfl) (by kernel_rfl) (fun _ _ _ h => h) (by rfl) (by assumption) ?_
          try simp only [Act.put, List.setIfInBounds_toArray, List.set_cons_zero, List.set_cons_succ]
          refine take_u 17 rfl (by kernel_rfl) (by kernel_rfl) (by kernel_rfl) (fun _ _ _ h => h) (by rfl) (by assumption) ?_
          try simp only [Act.put, List.setIfInBounds_toArray, List.set_cons_zero, List.set_cons_succ]
          refine take_u 18 rfl (by kernel_rfl) (by kernel_rfl) (by kernel_rfl) (fun _ _ _ h => h) (by rfl) (by assumption) ?_
          try simp only [Act.put, List.setIfInBounds_toArray, List.set_cons_zero, List.set_cons_succ]
          refine take_u 19 rfl (by kernel_rfl) (by kernel_rfl) (by kernel_rfl) (fun _ _ _ h => h) (by rfl) (by assumption) ?_
          try simp only [Act.put, List.setIfInBounds_toArray, List.set_cons_zero, List.set_cons_succ]
          refine take_u 20 rfl (by kernel_rfl) (by kernel_rfl) (by kernel_rfl) (fun _ _ _ h => h) (by rfl) (by assumption) ?_
          try simp only [Act.put, List.setIfInBounds_toArray, List.set_cons_zero, List.set_cons_succ]
          refine take_u 21 rfl (by kernel_rfl) (by kernel_rfl) (by kernel_rfl) (fun _ _ _ h => h) (by rfl) (by assumption) ?_
          try simp only [Act.put, List.setIfInBounds_toArray, List.set_cons_zero, List.set_cons_succ]
          refine take_u 22 rfl (by kernel_rfl) (by kernel_rfl) (by kernel_rfl) (fun _ _ _ h => h) (by rfl) (by assumption) ?_
          try simp only [Act.put, List.setIfInBounds_toArray, List.set_cons_zero, List.set_cons_succ]
          refine take_u 23 rfl (by kernel_rfl) (by kernel_rfl) (by kernel_rfl) (fun _ _ _ h => h) (by rfl) (by assumption) ?_
          try simp only [Act.put, List.setIfInBounds_toArray, List.set_cons_zero, List.set_cons_succ]
          refine take_u 24 rfl (by kernel_rfl) (by kernel_rfl) (by kernel_rfl) (fun _ _ _ h => h) (by rfl) (by assumption) ?_
          try simp only [Act.put, List.setIfInBounds_toArray, List.set_cons_zero, List.set_cons_succ]
          refine take_u 25 rfl (by kernel_rfl) (by kernel_rfl) (by kernel_rfl) (fun _ _ _ h => h) (by rfl) (by assumption) ?_
          try simp only [Act.put, List.setIfInBounds_toArray, List.set_cons_zero, List.set_cons_succ]
          refine take_u 26 rfl (by kernel_rfl) (by kernel_rfl) (by kernel_rfl) (fun _ _ _ h => h) (by rfl) (by assumption) ?_
          try simp only [Act.put, List.setIfInBounds_toArray, List.set_cons_zero, List.set_cons_succ]
          refine take_u 27 rfl (by kernel_rfl) (by kernel_rfl) (by kernel_rfl) (fun _ _ _ h => h) (by rfl) (by assumption) ?_
          try simp only [Act.put, List.setIfInBounds_toArray, List.set_cons_zero, List.set_cons_succ]
          refine take_u 28 rfl (by kernel_rfl) (by kernel_rfl) (by kernel_rfl) (fun _ _ _ h => h) (by rfl) (by assumption) ?_
          try simp only [Act.put, List.setIfInBounds_toArray, List.set_cons_zero, List.set_cons_succ]
          refine take_u 29 rfl (by kernel_rfl) (by kernel_rfl) (by kernel_rfl) (fun _ _ _ h => h) (by rfl) (by assumption) ?_
          try simp only [Act.put, List.setIfInBounds_toArray, List.set_cons_zero, List.set_cons_succ]
          refine take_w 30 ?vv55 rfl (by kernel_rfl) (by kernel_rfl) (by kernel_rfl) (fun _ _ _ h => h) (by rfl) ?hy55 (by assumption) ?rest55
          case hy55 => (intro w hSw; (try dsimp only at hSw); go_simp; try with_reducible rfl)
          try simp only [Act.put, List.setIfInBounds_toArray, List.set_cons_zero, List.set_cons_succ]
          refine wpAnyH_done (by kernel_rfl) ?_ _
          go_wp2_with fail
          go_ret
          exact ⟨rfl, HF2.out.trans hHeld.2 (by simp)⟩
        | true =>
          refine take_w 3 ?vv56 rfl (by kernel_rfl) (by kernel_rfl) (by kernel_rfl) (fun _ _ _ h => h) (by rfl) ?hy56 (by assumption) ?rest56
          case hy56 => (intro w hSw; (try dsimp only at hSw); go_simp; try with_reducible rfl)
          try simp only [Act.put, List.setIfInBounds_toArray, List.set_cons_zero, List.set_cons_succ]
          refine take_w 4 ?vv57 rfl (by kernel_rfl) (by kernel_rfl) (by kernel_rfl) (fun _ _ _ h => h) (by rfl) ?hy57 (by assumption) ?rest57
          case hy57 => (intro w hSw; (try dsimp only at hSw); go_simp; try with_reducible rfl)
          try simp only [Act.put, List.setIfInBounds_toArray, List.set_cons_zero, List.set_cons_succ]
          refine take_w 5 ?vv58 rfl (by kernel_rfl) (by kernel_rfl) (by kernel_rfl) (fun _ _ _ h => h) (by rfl) ?hy58 (by assumption) ?rest58
          case hy58 => (intro w hSw; (try dsimp only at hSw); go_simp; try with_reducible rfl)
          try simp only [Act.put, List.setIfInBounds_toArray, List.set_cons_zero, List.set_cons_succ]
          refine take_w 6 ?vv59 rfl (by kernel_rfl) (by kernel_rfl) (by kernel_rfl) (fun _ _ _ h => h) (by rfl) ?hy59 (by assumption) ?rest59
          case hy59 => (intro w hSw; (try dsimp only at hSw); go_simp; try with_reducible rfl)
          try simp only [Act.put, List.setIfInBounds_toArray, List.set_cons_zero, List.set_cons_succ]
          refine take_w 7 ?vv60 rfl (by kernel_rfl) (by kernel_rfl) (by kernel_rfl) (fun _ _ _ h => h) (by rfl) ?hy60 (by assumption) ?rest60
          case hy60 => (intro w hSw; (try dsimp only at hSw); go_simp; try with_reducible rfl)
          try simp only [Act.put, List.setIfInBounds_toArray, List.set_cons_zero, List.set_cons_succ]
          refine take_w 8 ?vv61 rfl (by kernel_rfl) (by kernel_rfl) (by kernel_rfl) (fun _ _ _ h => h) (by rfl) ?hy61 (by assumption) ?rest61
          case hy61 => (intro w hSw; (try dsimp only at hSw); go_simp; try with_reducible rfl)
          try simp only [Act.put, List.setIfInBounds_toArray, List.set_cons_zero, List.set_cons_succ]
          refine take_w 9 ?vv62 rfl (by kernel_rfl) (by kernel_rfl) (by kernel_rfl) (fun _ _ _ h => h) (by rfl) ?hy62 (by assumption) ?rest62
          case hy62 => (intro w hSw; (try dsimp only at hSw); go_simp; try with_reducible rfl)
          try simp only [Act.put, List.setIfInBounds_toArray, List.set_cons_zero, List.set_cons_succ]
          refine take_w 10 ?vv63 rfl (by kernel_rfl) (by kernel_rfl) (by kernel_rfl) (fun _ _ _ h => h) (by rfl) ?hy63 (by assumption) ?rest63
          case hy63 => (intro w hSw; (try dsimp only at hSw); go_simp; try with_reducible rfl)
          try simp only [Act.put, List.setIfInBounds_toArray, List.set_cons_zero, List.set_cons_succ]
          refine take_w 11 (.bool true) rfl (by kernel_rfl) (by kernel_rfl) (by kernel_rfl) (fun _ _ _ h => h) (by rfl) ?hy64 (by assumption) ?rest64
          case hy64 => (intro w hSw; (try dsimp only at hSw); go_simp; (intro h0; rw [h0] at hl1; cases hl1))
          try simp only [Act.put, List.setIfInBounds_toArray, List.set_cons_zero, List.set_cons_succ]
          refine take_w 12 ?vv65 rfl (by kernel_rfl) (by kernel_rfl) (by kernel_rfl) (fun _ _ _ h => h) (by rfl) ?hy65 (by assumption) ?rest65
          case hy65 => (intro w hSw; (try dsimp only at hSw); go_simp; try with_reducible rfl)
          try simp only [Act.put, List.setIfInBounds_toArray, List.set_cons_zero, List.set_cons_succ]
          refine take_w 13 ?vv66 rfl (by kernel_rfl) (by kernel_rfl) (by kernel_rfl) (fun _ _ _ h => h) (by rfl) ?hy66 (by assumption) ?rest66
          case hy66 => (intro w hSw; (try dsimp only at hSw); go_simp; try with_reducible rfl)
          try simp only [Act.put, List.setIfInBounds_toArray, List.set_cons_zero, List.set_cons_succ]
          refine take_w 14 ?vv67 rfl (by kernel_rfl) (by kernel_rfl) (by kernel_rfl) (fun _ _ _ h => h) (by rfl) ?hy67 (by assumption) ?rest67
          case hy67 => (intro w hSw; (try dsimp only at hSw); go_simp; try with_reducible rfl)
          try simp only [Act.put, List.setIfInBounds_toArray, List.set_cons_zero, List.set_cons_succ]
          refine take_w 15 ?vv68 rfl (by kernel_rfl) (by kernel_rfl) (by kernel_rfl) (fun _ _ _ h => h) (by rfl) ?hy68 (by assumption) ?rest68
          case hy68 => (intro w hSw; (try dsimp only at hSw); go_simp; try with_reducible rfl)
          try simp only [Act.put, List.setIfInBounds_toArray, List.set_cons_zero, List.set_cons_succ]
          refine take_w 16 ?vv69 rfl (by kernel_rfl) (by kernel_rfl) (by kernel_rfl) (fun _ _ _ h => h) (by rfl) ?hy69 (by assumption) ?rest69
          case hy69 => (intro w hSw; (try dsimp only at hSw); go_simp; try with_reducible rfl)
          try simp only [Act.put, List.setIfInBounds_toArray, List.set_cons_zero, List.set_cons_succ]
          refine take_w 17 ?vv70 rfl (by kernel_rfl) (by kernel_rfl) (by kernel_rfl) (fun _ _ _ h => h) (by rfl) ?hy70 (by assumption) ?rest70
          case hy70 => (intro w hSw; (try dsimp only at hSw); go_simp; try with_reducible rfl)
          try simp only [Act.put, List.setIfInBounds_toArray, List.set_cons_zero, List.set_cons_succ]
          refine take_w 18 ?vv71 rfl (by kernel_rfl) (by kernel_rfl) (by kernel_rfl) (fun _ _ _ h => h) (by rfl) ?hy71 (by assumption) ?rest71
          case hy71 => (intro w hSw; (try dsimp only at hSw); go_simp; try with_reducible rfl)
          try simp only [Act.put, List.setIfInBounds_toArray, List.set_cons_zero, List.set_cons_succ]
          refine take_w 19 ?vv72 rfl (by kernel_rfl) (by kernel_rfl) (by kernel_rfl) (fun _ _ _ h => h) (by rfl) ?hy72 (by assumption) ?rest72
          case hy72 => (intro w hSw; (try dsimp only at hSw); go_simp; try with_reducible rfl)
          try simp only [Act.put, List.setIfInBounds_toArray, List.set_cons_zero, List.set_cons_succ]
          refine take_w 20 ?vv73 rfl (by kernel_rfl) (by kernel_rfl) (by kernel_rfl) (fun _ _ _ h => h) (by rfl) ?hy73 (by assumption) ?rest73
          case hy73 => (intro w hSw; (try dsimp only at hSw); go_simp; try with_reducible rfl)
          try simp only [Act.put, List.setIfInBounds_toArray, List.set_cons_zero, List.set_cons_succ]
          refine take_w 21 ?vv74 rfl (by kernel_rfl) (by kernel_rfl) (by kernel_rfl) (fun _ _ _ h => h) (by rfl) ?hy74 (by assumption) ?rest74
          case hy74 => (intro w hSw; (try dsimp only at hSw); go_simp; try with_reducible rfl)
          try simp only [Act.put, List.setIfInBounds_toArray, List.set_cons_zero, List.set_cons_succ]
          refine take_w 22 ?vv75 rfl (by kernel_rfl) (by kernel_rfl) (by kernel_rfl) (fun _ _ _ h => h) (by rfl) ?hy75 (by assumption) ?rest75
          case hy75 => (intro w hSw; (try dsimp only at hSw); go_simp; try with_reducible rfl)
          try simp only [Act.put, List.setIfInBounds_toArray, List.set_cons_zero, List.set_cons_succ]
          refine take_w 23 ?vv76 rfl (by kernel_rfl) (by kernel_rfl) (by kernel_rfl) (fun _ _ _ h => h) (by rfl) ?hy76 (by assumption) ?rest76
          case hy76 => (intro w hSw; (try dsimp only at hSw); go_simp; try with_reducible rfl)
          try simp only [Act.put, List.setIfInBounds_toArray, List.set_cons_zero, List.set_cons_succ]
          refine take_w 24 ?vv77 rfl (by kernel_rfl) (by kernel_rfl) (by kernel_rfl) (fun _ _ _ h => h) (by rfl) ?hy77 (by assumption) ?rest77
          case hy77 => (intro w hSw; (try dsimp only at hSw); go_simp; try with_reducible rfl)
          try simp only [Act.put, List.setIfInBounds_toArray, List.set_cons_zero, List.set_cons_succ]
          refine take_w 25 ?vv78 rfl (by kernel_rfl) (by kernel_rfl) (by kernel_rfl) (fun _ _ _ h => h) (by rfl) ?hy78 (by assumption) ?rest78
          case hy78 => (intro w hSw; (try dsimp only at hSw); go_simp; try with_reducible rfl)
          try simp only [Act.put, List.setIfInBounds_toArray, List.set_cons_zero, List.set_cons_succ]
          refine take_w 26 ?vv79 rfl (by kernel_rfl) (by kernel_rfl) (by kernel_rfl) (fun _ _ _ h => h) (by rfl) ?hy79 (by assumption) ?rest79
          case hy79 => (intro w hSw; (try dsimp only at hSw); go_simp; try with_reducible rfl)
          try simp only [Act.put, List.setIfInBounds_toArray, List.set_cons_zero, List.set_cons_succ]
          refine take_w 27 (.int .u8 ((b.toNat : Nat) : Int)) rfl (by kernel_rfl) (by kernel_rfl) (by kernel_rfl) (fun _ _ _ h => h) (by rfl) ?hy80 (by assumption) ?rest80
          case hy80 => (intro w hSw; (try dsimp only at hSw); go_simp; rw [HGET.out])
          try simp only [Act.put, List.setIfInBounds_toArray, List.set_cons_zero, List.set_cons_succ]
          refine take_w 28 (.bool false) rfl (by kernel_rfl) (by kernel_rfl) (by kernel_rfl) (fun _ _ _ h => h) (by rfl) ?hy81 (by assumption) ?rest81
          case hy81 => (intro w hSw; (try dsimp only at hSw); go_simp; (intro h0; exact HB47.out (u47 h0)))
          try simp only [Act.put, List.setIfInBounds_toArray, List.set_cons_zero, List.set_cons_succ]
          refine take_w 29 ?vv82 rfl (by kernel_rfl) (by kernel_rfl) (by kernel_rfl) (fun _ _ _ h => h) (by rfl) ?hy82 (by assumption) ?rest82
          case hy82 => (intro w hSw; (try dsimp only at hSw); go_simp; try with_reducible rfl)
          try simp only [Act.put, List.setIfInBounds_toArray, List.set_cons_zero, List.set_cons_succ]
          refine take_w 30 ?vv83 rfl (by kernel_rfl) (by kernel_rfl) (by kernel_rfl) (fun _ _ _ h => h) (by rfl) ?hy83 (by assumption) ?rest83
          case hy83 => (intro w hSw; (try dsimp only at hSw); go_simp; try with_reducible rfl)
          try simp only [Act.put, List.setIfInBounds_toArray, List.set_cons_zero, List.set_cons_succ]
          refine wpAnyH_done (by kernel_rfl) ?_ _
          have HGOOD := Lib.hid (HB2.out.1 (by first | rfl | trivial))
          have HF5 := Lib.hid hHeld.2
          have HNS := Lib.hid (show slash (bs e.h.name) = false by rw [Bool.eq_false_iff]; intro h; have h := (slash_iff _).1 h; exact absurd (HSL.out.1 h) HB47.out)
          clear hHeld HB2 kk
          have HOK := Lib.hid (fun x (hx : x ∈ l') => (HGOOD.out.1 x hx).1)
          obtain ⟨s1, s2⟩ := size_small HGOOD.out.1 HGOOD.out.2.1
          have h1000 := HGOOD.out.2.1
          have HAR := Lib.hid (archC l' HEI.out c _ w4 (HSV.out w4 HF5.out) (HPOS.out w4 HF5.out) (by omega) (by omega) (by omega) hcc)
          rw [archI_ok c HOK.out] at HAR
          have HFK := Lib.hid (fileK_of HGOOD.out HLE.out)
          clear s1 s2
          go_wp2_with fail
          refine HAR.out.mono ?_
          rintro x w6 ⟨rfl, hf6⟩
          have HF6 := Lib.hid (HF5.out.trans hf6 (by simp))
          have hW6 := HW.out.fr (HF2.out.trans HF6.out (by simp)) (by simp)
          have HW6 := Lib.hid hW6
          obtain ⟨S, hS⟩ : ∃ S, bs (archB l' c) = S := ⟨_, rfl⟩
          rw [hS] at HFK ⊢
          clear hf6 hW6 hS
          have HCT := Lib.hid (content_alg E B0 w6 S kn e HW6.out HFK.out HNS.out (by rw [← hee]; show m ≠ 0; omega) (by rw [← hee]; rfl))
          clear HFK
          go_wp2_with fail
          refine HCT.out.mono ?_
          rintro x w7 ⟨rfl, hf7⟩
          have HF7 := Lib.hid (HF6.out.trans hf7 (by simp))
          have HRD := Lib.hid (readsC E B0 w7 (HW6.out.fr hf7 (by simp)))
          clear hf7
          go_wp2_with fail
          refine HRD.out.mono ?_
          rintro x w8 ⟨rfl, hf8⟩
          go_wp2_with fail
          go_ret
          exact ⟨rfl, (HF2.out.trans HF7.out (by simp)).trans hf8 (by simp)⟩
end Go.Proofs.YtcodhjoiikdhmaaGreatDoor

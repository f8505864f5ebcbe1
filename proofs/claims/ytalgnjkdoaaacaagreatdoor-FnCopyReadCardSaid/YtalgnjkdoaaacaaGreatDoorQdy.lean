/- FnCopyRead: the law. -/
import Derived.Test.YtalgnjkdoaaacaaGreatDoorQdx
set_option linter.unusedVariables false
set_option linter.unusedSimpArgs false
namespace Go.Proofs.YtalgnjkdoaaacaaGreatDoor
open Go Go.RowKit
open Zp
set_option maxRecDepth 100000 in
set_option maxHeartbeats 8000000 in
theorem cpr4 (E : Errs) (B0 : Nat) (w0 w : World) (a : Act) (l : List Ent) (c : By) (p2 : Option Addr) (n cap2 base : Nat) (hs : a.tmps.size = 201) (hd : a.defers = []) (h0 : slotOf a 0 = .slice p2 n cap2) (h1 : slotOf a 1 = .string (bs c))
    (hn : l.length = n) (hO : OL w base (.slice p2 n cap2) l) (hW : WE E B0 w0) (hbase : w0.heap.size ≤ base) (hF : Fr [] w0 w) (hI : ∀ e ∈ l, EntI e) (hcc : c.length ≤ 2147483647) (hl31 : n ≤ 2147483647) :
    (cprFrom 4).wp Tryz.prog (RQ (LawR w0)) a w := by
  have HOL := Lib.hid hO
  have HW := Lib.hid hW
  have HI := Lib.hid hI
  have HN := Lib.hid hn
  have HF0 := Lib.hid hF
  rw [frame201 hs hd, h0, h1]
  clear hO hW hI hn hF hs hd h0 h1
  conv => arg 2; whnf
  go_upto_block 0 with fail
  rename_i K hK
  have HK := Lib.hid (fun a w (h : (cprFrom 11).wp Tryz.prog _ a w) => hK a w (wp_code (c := cprFrom 11) (by kernel_rfl) h))
  clear hK
  refine wp_block ?_
  go_loopw [29] (fun v29 wr => ∃ (q : Nat), q ≤ n ∧ v29 = .int .i64 (q : Int) ∧ OL wr base (.slice p2 n cap2) ((l.take q).map packE ++ l.drop q) ∧ (∀ e ∈ l.take q, (e.h.flags.tdiv 8).tmod 2 = 0) ∧ Fr [] w0 wr) (fun v29 _ => n - (intOf v29).toNat)
  case atStart => exact ⟨0, by omega, rfl, by simpa using HOL.out, by simp, HF0.out⟩
  case round =>
    obtain ⟨q, hq, rfl, hol, hall, hf⟩ := hrel
    have HO := Lib.hid hol
    have HF := Lib.hid hf
    have HALL := Lib.hid hall
    clear hol hf hall
    by_cases hlt : q < n
    · have hql : q < l.length := by have := HN.out; omega
      obtain ⟨e, he⟩ : ∃ e, l[q] = e := ⟨_, rfl⟩
      have hqe : l[q]? = some e := by rw [List.getElem?_eq_getElem hql, he]
      have hem : e ∈ l := by rw [← he]; exact List.getElem_mem hql
      have hlq : ((l.take q).map packE ++ l.drop q).length = n := by have := HN.out; rw [List.length_append, List.length_map, List.length_take, List.length_drop]; omega
      obtain ⟨g2, cap', hsl, hge, hgl, hnc, hcm⟩ := HO.out.row (fun h => by rw [h] at hlq; simp at hlq; omega)
      injection hsl with x1 x2 x3
      subst x1
      subst x3
      clear x2
      have hrg := cellsE (HO.out.range (get_pack hqe))
      obtain ⟨c0, c1, c2, c3, c4, c5, c6, c7, c8, c9, c10, c11, c12, c13, c14⟩ := hrg
      have z11 : wr.frozen? ⟨g2, q * 15 + 11, none⟩ = false := HO.out.frozen hlq.symm (q * 15 + 11)
      have hput := HO.out.put hlq.symm (get_pack hqe) (j := 11) (e' := packE e) (u := .int .i64 (e.data.length : Int)) (by omega) rfl
      have hfp : Fr [] w0 (wr.setCell ⟨g2, q * 15 + 11, none⟩ (.int .i64 (e.data.length : Int))) := HF.out.setCell (.inr (by show w0.heap.size ≤ g2; omega)) _
      obtain ⟨d0, d1, d2, d3, d4, d5, d6, d7, d8, d9, d10, d11, d12, d13, d14⟩ := cellsE (hput.range (k := q) (e := packE e) (by rw [List.getElem?_set_self (by rw [hlq]; exact hlt)]))
      have HP := Lib.hid hput
      have HFP := Lib.hid hfp
      have HS := Lib.hid (simpleC (packE e).h (packI (HI.out e hem)).hd (wr.setCell ⟨g2, q * 15 + 11, none⟩ (.int .i64 (e.data.length : Int))))
      have i3 : (q : Int) < (n : Int) := by omega
      clear hput hfp hlq he
      go_wp2_with fail
      clear c0 c1 c2 c3 c4 c5 c6 c7 c8 c9 c10 c11 c12 c13 c14 d0 d1 d2 d3 d4 d5 d6 d7 d8 d9 d10 d11 d12 d13 d14 z11
      refine HS.out.mono ?_
      rintro x w2 ⟨rfl, hf2⟩
      have HF2 := Lib.hid (HFP.out.trans hf2 (by simp))
      have HP2 := Lib.hid (HP.out.fr hf2 (by simp))
      clear hf2 HS HP HFP
      by_cases hsim : (e.h.flags.tdiv 8).tmod 2 = 0
      case neg =>
        have d3 : decide (((packE e).h.flags.tdiv 8).tmod 2 = 0) = false := decide_eq_false hsim
        rw [d3]
        go_wp2_with fail
        exact ⟨rfl, rfl, HF2.out⟩
      have d3 : decide (((packE e).h.flags.tdiv 8).tmod 2 = 0) = true := decide_eq_true hsim
      rw [d3]
      clear d3
      go_wp2_with fail
      refine ⟨⟨q + 1, by omega, by rw [Int.natCast_add]; rfl, by rw [← set_pack hqe]; exact HP2.out, ?_, HF2.out⟩, by simp [intOf]; omega⟩
      intro y hy
      rw [List.take_add_one, hqe] at hy
      rcases List.mem_append.1 hy with h | h
      · exact HALL.out y h
      · have : y = e := by simpa using h
        rw [this]; exact hsim
    · obtain rfl : q = n := by omega
      have i1 : ¬ (q : Int) < (q : Int) := by omega
      have htd : (l.take q).map packE ++ l.drop q = l.map packE := by have := HN.out; rw [List.take_of_length_le (by omega), List.drop_of_length_le (by omega), List.append_nil]
      have htl : l.take q = l := List.take_of_length_le (by have := HN.out; omega)
      have ho := HO.out
      have ha := HALL.out
      rw [htd] at ho
      rw [htl] at ha
      have hEI : ∀ x ∈ l.map packE, EntI x := fun x hx => by
        obtain ⟨y, hy, rfl⟩ := List.mem_map.1 hx
        exact packI (HI.out y hy)
      have hPK : ∀ x ∈ l.map packE, x.h.packed = x.data.length := fun x hx => by
        obtain ⟨y, hy, rfl⟩ := List.mem_map.1 hx
        rfl
      have hSM : ∀ x ∈ l.map packE, (x.h.flags.tdiv 8).tmod 2 = 0 := fun x hx => by
        obtain ⟨y, hy, rfl⟩ := List.mem_map.1 hx
        exact ha y hy
      have HEI := Lib.hid hEI
      have HPK := Lib.hid hPK
      have HSM := Lib.hid hSM
      have HSV := Lib.hid ho.sv
      clear ho ha htd htl hEI hPK hSM
      go_wp2_with fail
      refine HK.out _ _ (wp_rq (cpr11 E B0 _ wr (l.map packE) c (.slice p2 q cap2) rfl rfl rfl rfl (HW.out.fr HF.out (by simp)) HSV.out HEI.out hcc HPK.out HSM.out) ?_)
      rintro a' w' ⟨q1, q2, q3⟩
      exact ⟨q1, q2, HF.out.trans q3 (by simp)⟩
set_option maxRecDepth 100000 in
set_option maxHeartbeats 8000000 in
theorem copyLaw (E : Errs) (B0 : Nat) (w : World) (l : List Ent) (c : By) (v : Value) (hW : WE E B0 w) (hv : SV w v l) (hM : ∀ e ∈ l, EntM e ∧ HdM e.h) (hc : c.length ≤ 9223372036854775807) :
    Calls Tryz.prog 6 #[v, .string (bs c)] w fun x w' => x = .returned (.bool true) ∧ Fr [] w w' := by
  obtain ⟨i0, hi0, hz0⟩ := Option.map_eq_some_iff.1 infoEnt2
  simp only [Prod.mk.injEq] at hz0
  obtain ⟨hz1, hz2, hz3⟩ := hz0
  obtain ⟨z0, hz4, hz5⟩ := Option.map_eq_some_iff.1 hz1
  have HI0 := Lib.hid (And.intro hi0 (And.intro hz4 (And.intro hz2 (And.intro hz3 hz5))))
  clear hi0 hz1 hz2 hz3 hz4 hz5
  have HFIT := Lib.hid (fits1C l (fun e he => (hM e he).1) v w hv)
  have HV := Lib.hid hv
  have HW := Lib.hid hW
  have HMM := Lib.hid hM
  clear hW hM
  obtain ⟨p, cap, rfl, -⟩ := hv
  obtain ⟨n, hn⟩ : ∃ n, l.length = n := ⟨_, rfl⟩
  rw [hn] at HFIT HV ⊢
  go_enter Tryz.func6, Tryz.ntmps6
  go_wp2_with fail
  refine HFIT.out.mono ?_
  rintro x w1 ⟨b, rfl, hb, hf1⟩
  have HB := Lib.hid hb
  have HF1 := Lib.hid hf1
  clear hb hf1
  cases b with
  | false =>
    go_wp2_with fail
    go_ret
    exact ⟨rfl, HF1.out⟩
  | true =>
    by_cases hcc : c.length ≤ 2147483647
    case neg =>
      have i1 : 2147483647 < (c.length : Int) := by omega
      go_wp2_with fail
      go_ret
      exact ⟨rfl, HF1.out⟩
    have i1 : ¬ 2147483647 < (c.length : Int) := by omega
    have hfit := HB.out.1 (by first | rfl | trivial)
    have HI := Lib.hid (fun e (he : e ∈ l) => (HMM.out e he).2.i (hfit.2 e he))
    have hl31 := hfit.1
    clear hfit
    have h0 : (w1.alloc (.cells #[] 38)).ownsRow w1.heap.size 38 15 (.slice (some ⟨w1.heap.size, 0, none⟩) 0 0) 0 [] :=
      ⟨rfl, .inr ⟨w1.heap.size, 0, #[], rfl, Nat.le_refl _, Blk.new w1 _ _, Nat.le_refl _, by unfold maxLen; omega, rfl, rfl⟩⟩
    have H0 := Lib.hid h0
    clear h0
    have FIN : ∀ a' w', LawR w a' w' → bodyPost Tryz.prog Tryz.f6 (fun x w' => x = .returned (.bool true) ∧ Fr [] w w') .ret a' w' := by
      rintro a' w' ⟨q1, q2, q3⟩
      refine bodyPost_ret (v := .bool true) ?_ q1 ⟨rfl, q3⟩
      rw [results_tmp rfl]
      show Result.ok (slotOf a' 4) w' = _
      rw [q2]
    have HFIN := Lib.hid FIN
    clear FIN
    have key : ∀ (a : Act) (w4 : World) (p2 : Option Addr) (cap2 : Nat), a.tmps.size = 201 → a.defers = [] → slotOf a 0 = .slice p2 n cap2 → slotOf a 1 = .string (bs c) → OL w4 w1.heap.size (.slice p2 n cap2) l → Fr [] w w4 → (cprFrom 4).wp Tryz.prog (RQ (LawR w)) a w4 := by
      intro a w4 p2 cap2 h1 h2 h3 h4 h5 h6
      exact cpr4 E B0 w w4 a l c p2 n cap2 w1.heap.size h1 h2 h3 h4 hn h5 HW.out HF1.out.size h6 HI.out hcc (by omega)
    have KEY := Lib.hid key
    clear key
    go_upto_region 3 with fail
    rename_i K hK
    have HK := Lib.hid (fun a w1 (h : (cprFrom 4).wp Tryz.prog _ a w1) => hK a w1 (wp_rq (wp_code (c := cprFrom 4) (by kernel_rfl) h) HFIN.out))
    clear hK
    by_cases hn0 : n = 0
    · subst hn0
      have hl0 : l = [] := List.length_eq_zero_iff.1 hn
      subst hl0
      cases p with
      | none =>
        go_wp2_with (at_builtin; refine wpList_append_own_nil rfl _ _ 22 rfl w1.heap.size 38 i0 15 Tryz.underlying22 HI0.out.1 _ 0 _ [] rfl H0.out rfl ?_)
        exact HK.out _ _ (KEY.out _ _ _ _ rfl rfl rfl rfl H0.out (HF1.out.alloc _))
      | some ad =>
        go_wp2_with (at_builtin; refine wpList_append_own _ rfl _ _ 22 rfl w1.heap.size 38 i0 z0 15 152 Tryz.underlying22 HI0.out.1 HI0.out.2.1 HI0.out.2.2.1 HI0.out.2.2.2.1 HI0.out.2.2.2.2 (by decide) (.slice (some ⟨w1.heap.size, 0, none⟩) 0 0) 0 [] rfl H0.out ad 0 _ [] rfl rfl (by intro j u hj; simp at hj) (by intro u hu; simp at hu) (by unfold maxLen; omega) (by omega) (by rw [World.size_alloc]; omega) ?_; intro v' w4 hown4 hgrow4 hv4; have HO4 := Lib.hid hown4; have HG4 := Lib.hid hgrow4; clear hown4 hgrow4 hv4; obtain ⟨p2, cap2, rfl⟩ := OL.len (l := []) (w := w4) (base := w1.heap.size) (v := v') HO4.out)
        have hf5 := Fr.of_grown HG4.out (S := [w1.heap.size]) (fun g hg => .inl (by simpa [Value.ownBlock] using hg.symm))
        exact HK.out _ _ (KEY.out _ _ _ _ rfl rfl rfl rfl HO4.out ((HF1.out.alloc _).trans hf5 (fun g hg => .inr (by have := HF1.out.size; simp at hg; omega))))
    have hlne : l ≠ [] := fun h => by rw [h] at hn; simp at hn; omega
    have hv1 := HV.out
    obtain ⟨p', cap', heq, hcap, hmax, hp⟩ := hv1
    obtain ⟨g, o, hpe, hg, hle⟩ := hp hlne
    injection heq with e1 e2 e3
    subst e1
    subst hpe
    clear e2 e3 hp
    have HNW := Lib.hid (fun (w' : World) (hf : Fr [] w w') => (show ∀ j u, (l.flatMap entL)[j]? = some u → w'.cell? ((⟨g, o, none⟩ : Addr).add j) = some u from fun j u hj => by
      have hj2 := (List.getElem?_eq_some_iff.1 hj).1
      rw [flat_length] at hj2
      have hi : j / 15 < l.length := by omega
      have hfl := flat_get l (j / 15) (j % 15) l[j / 15] (List.getElem?_eq_getElem hi) (by omega)
      rw [show j / 15 * 15 + j % 15 = j by omega] at hfl
      have := (hle.fr hf hg (by simp)) (j / 15) _ (List.getElem?_eq_getElem hi) (j % 15) u (by rw [← hfl]; exact hj)
      rw [Addr.add_lit]
      rw [show o + j / 15 * 15 + j % 15 = o + j by omega] at this
      exact this))
    have HON := Lib.hid (show ∀ u ∈ l.flatMap entL, u.oneCell' = true from fun u hu => by
      obtain ⟨e, -, he⟩ := List.mem_flatMap.1 hu
      exact ones_of e u he)
    clear hle
    go_wp2_with (at_builtin; refine wpList_append_own _ rfl _ _ 22 rfl w1.heap.size 38 i0 z0 15 152 Tryz.underlying22 HI0.out.1 HI0.out.2.1 HI0.out.2.2.1 HI0.out.2.2.2.1 HI0.out.2.2.2.2 (by decide) (.slice (some ⟨w1.heap.size, 0, none⟩) 0 0) 0 [] rfl H0.out ⟨g, o, none⟩ n _ (l.flatMap entL) rfl (by rw [flat_length, hn]) (HNW.out _ (HF1.out.alloc _)) HON.out (by unfold maxLen; omega) (by omega) (by rw [World.size_alloc]; omega) ?_; intro v' w4 hown4 hgrow4 hv4; have HO4 := Lib.hid hown4; have HG4 := Lib.hid hgrow4; clear hown4 hgrow4 hv4; have HOL := Lib.hid (show OL w4 w1.heap.size v' l from by unfold OL; rw [hn]; have := HO4.out; rw [Nat.zero_add, List.nil_append] at this; exact this); obtain ⟨g2, cap2, hsl, hge, hgl, hnc, hcm⟩ := HOL.out.row hlne; rw [hn] at hsl hnc; subst hsl)
    have hf5 := Fr.of_grown HG4.out (S := [w1.heap.size]) (fun g hg => .inl (by simpa [Value.ownBlock] using hg.symm))
    exact HK.out _ _ (KEY.out _ _ _ _ rfl rfl rfl rfl HOL.out ((HF1.out.alloc _).trans hf5 (fun g hg => .inr (by have := HF1.out.size; simp at hg; omega))))
end Go.Proofs.YtalgnjkdoaaacaaGreatDoor

/- FnWriteLocal: what is written tells its names ahead of its contents, in order. -/
import Derived.Test.YtalgnjkdoaaacaaGreatDoorQfc1
import Derived.Test.YtalgnjkdoaaacaaGreatDoorQdx
set_option linter.unusedVariables false
set_option linter.unusedSimpArgs false
namespace Go.Proofs.YtalgnjkdoaaacaaGreatDoor
open Go Go.RowKit
open Zp
noncomputable def wloFrom (n : Nat) : Code := ((Tryz.f7.body.bind (sufHead n))).getD .skip
set_option maxRecDepth 100000 in
theorem frame147 {a : Act} (hs : a.tmps.size = 147) (hd : a.defers = []) : a = ⟨#[slotOf a 0, slotOf a 1, slotOf a 2, slotOf a 3, slotOf a 4, slotOf a 5, slotOf a 6, slotOf a 7, slotOf a 8, slotOf a 9, slotOf a 10, slotOf a 11, slotOf a 12, slotOf a 13, slotOf a 14, slotOf a 15, slotOf a 16, slotOf a 17, slotOf a 18, slotOf a 19, slotOf a 20, slotOf a 21, slotOf a 22, slotOf a 23, slotOf a 24, slotOf a 25, slotOf a 26, slotOf a 27, slotOf a 28, slotOf a 29, slotOf a 30, slotOf a 31, slotOf a 32, slotOf a 33, slotOf a 34, slotOf a 35, slotOf a 36, slotOf a 37, slotOf a 38, slotOf a 39, slotOf a 40, slotOf a 41, slotOf a 42, slotOf a 43, slotOf a 44, slotOf a 45, slotOf a 46, slotOf a 47, slotOf a 48, slotOf a 49, slotOf a 50, slotOf a 51, slotOf a 52, slotOf a 53, slotOf a 54, slotOf a 55, slotOf a 56, slotOf a 57, slotOf a 58, slotOf a 59, slotOf a 60, slotOf a 61, slotOf a 62, slotOf a 63, slotOf a 64, slotOf a 65, slotOf a 66, slotOf a 67, slotOf a 68, slotOf a 69, slotOf a 70, slotOf a 71, slotOf a 72, slotOf a 73, slotOf a 74, slotOf a 75, slotOf a 76, slotOf a 77, slotOf a 78, slotOf a 79, slotOf a 80, slotOf a 81, slotOf a 82, slotOf a 83, slotOf a 84, slotOf a 85, slotOf a 86, slotOf a 87, slotOf a 88, slotOf a 89, slotOf a 90, slotOf a 91, slotOf a 92, slotOf a 93, slotOf a 94, slotOf a 95, slotOf a 96, slotOf a 97, slotOf a 98, slotOf a 99, slotOf a 100, slotOf a 101, slotOf a 102, slotOf a 103, slotOf a 104, slotOf a 105, slotOf a 106, slotOf a 107, slotOf a 108, slotOf a 109, slotOf a 110, slotOf a 111, slotOf a 112, slotOf a 113, slotOf a 114, slotOf a 115, slotOf a 116, slotOf a 117, slotOf a 118, slotOf a 119, slotOf a 120, slotOf a 121, slotOf a 122, slotOf a 123, slotOf a 124, slotOf a 125, slotOf a 126, slotOf a 127, slotOf a 128, slotOf a 129, slotOf a 130, slotOf a 131, slotOf a 132, slotOf a 133, slotOf a 134, slotOf a 135, slotOf a 136, slotOf a 137, slotOf a 138, slotOf a 139, slotOf a 140, slotOf a 141, slotOf a 142, slotOf a 143, slotOf a 144, slotOf a 145, slotOf a 146], []⟩ := frame_of hs hd
/-- What the laws on writing ask of an entry. -/
def WGd (e : Ent) : Prop := e.h.name.length ≤ 60000 ∧ e.h.comment.length ≤ 60000 ∧ e.data.length ≤ 1048576 ∧ 0 ≤ e.h.ext ∧ e.h.ext ≤ 4294967295
theorem wok_of {l : List Ent} (hK : ∀ e ∈ l, WGd e) (hd : DirOk l) : ∀ e ∈ l, WOk e := fun e he => by
  obtain ⟨h1, h2, h3, h4, h5⟩ := hK e he
  refine ⟨h1, h2, h3, h4, h5, fun hs => ?_⟩
  by_cases h : e.data = []
  · exact h
  · exact absurd ⟨(slash_iff _).1 hs, h⟩ (hd e he)
set_option maxRecDepth 100000 in
set_option maxHeartbeats 16000000 in
theorem wlo9 (E : Errs) (B0 : Nat) (a : Act) (w : World) (l : List Ent) (c : By) (v : Value) (hs : a.tmps.size = 147) (hd : a.defers = []) (h0 : slotOf a 0 = v) (h1 : slotOf a 1 = .string (bs c))
    (hW : WE E B0 w) (hv : SV w v l) (hI : ∀ e ∈ l, EntI e) (hcc : c.length ≤ 2147483647) (hl31 : l.length ≤ 2147483647) (hK : ∀ e ∈ l, WGd e) :
    (wloFrom 9).wp Tryz.prog (RQ (LawR w)) a w := by
  have HV := Lib.hid hv
  have HW := Lib.hid hW
  have HI := Lib.hid hI
  have HK := Lib.hid hK
  have HDC := Lib.hid (dirsC l HI.out v w hv)
  obtain ⟨pv, cv, rfl⟩ : ∃ pv cv, v = .slice pv l.length cv := by obtain ⟨p, cap, h, -⟩ := hv; exact ⟨p, cap, h⟩
  obtain ⟨n, hn⟩ : ∃ n, l.length = n := ⟨_, rfl⟩
  have HN := Lib.hid hn
  rw [hn] at h0 HV HDC hl31
  rw [frame147 hs hd, h0, h1]
  clear hv hW hI hK hs hd h0 h1 hn
  conv => arg 2; whnf
  by_cases h1000 : n ≤ 1000
  case neg =>
    have i1 : 1000 < (n : Int) := by omega
    go_wp2_with fail
    exact ⟨rfl, rfl, Fr.refl _ _⟩
  have i1 : ¬ 1000 < (n : Int) := by omega
  by_cases hc6 : c.length ≤ 65535
  case neg =>
    have i2 : 65535 < (c.length : Int) := by omega
    go_wp2_with fail
    exact ⟨rfl, rfl, Fr.refl _ _⟩
  have i2 : ¬ 65535 < (c.length : Int) := by omega
  go_wp2_with fail
  refine HDC.out.mono ?_
  rintro x w3 ⟨b3, rfl, hb3, hf3⟩
  have HB3 := Lib.hid hb3
  have HF3 := Lib.hid hf3
  clear hb3 hf3
  cases b3 with
  | false =>
    go_wp2_with fail
    exact ⟨rfl, rfl, HF3.out⟩
  | true =>
  have HWO := Lib.hid (wok_of HK.out (HB3.out.1 (by first | rfl | trivial)))
  clear HB3
  have HWC := Lib.hid (writeC w3 l c _ (HV.out.fr HF3.out (by simp)) (HW.out.fr HF3.out (by simp)).ut (HW.out.fr HF3.out (by simp)).h18 (by have := HN.out; omega) hc6 HWO.out)
  go_wp2_with fail
  refine HWC.out.mono ?_
  rintro x w4 ⟨fls, hfl, rfl, hf4⟩
  have HFL := Lib.hid hfl
  have HF4 := Lib.hid (HF3.out.trans hf4 (by simp))
  have hGok := wList_ok HWO.out hfl
  have hGl := wList_length hfl
  have HGOK := Lib.hid hGok
  have hg1000 : (wList l fls).length ≤ 1000 := by rw [hGl, HN.out]; omega
  have hsz := garch_size hGok hg1000 hc6
  have HEN := Lib.hid (fun (w' : World) => endsC (bs (garch (wList l fls) c)) w' (by rw [bs_size]; omega))
  rw [bs_list] at HEN
  clear hfl hf4 hGok
  go_wp2_with fail
  refine (HEN.out _).mono ?_
  rintro x w5 ⟨rfl, hw5⟩
  rw [hw5]
  clear hw5 w5
  by_cases hen : ends (garch (wList l fls) c) = 1
  case neg =>
    have i3 : (ends (garch (wList l fls) c) : Int) ≠ 1 := by omega
    go_wp2_with fail
    exact ⟨rfl, rfl, HF4.out⟩
  have HENE := Lib.hid hen
  rw [hen]
  have HSC := Lib.hid (scanS (wList l fls) c w4 HGOK.out hg1000 hc6 (fun k h _ => scan_last hen k h))
  have HOF := Lib.hid (fun (w' : World) (hf : Fr [] w w') (k : Nat) (g : GEnt) (hk : (wList l fls)[k]? = some g) => offset_file E B0 w' (bs (garch (wList l fls) c)) k ⟨g.h, g.data⟩ c _ _ _ [] _ _ 0 (HW.out.fr hf (by simp)) (garcT HGOK.out hg1000 hc6 hen) (gat (Z := []) HGOK.out hg1000 hk).1 (gatK HGOK.out hg1000 hk))
  obtain ⟨X, hX⟩ : ∃ X, bs (garch (wList l fls) c) = X := ⟨_, rfl⟩
  rw [hX] at HSC HOF
  obtain ⟨G, hG⟩ : ∃ G, wList l fls = G := ⟨_, rfl⟩
  rw [hG] at HSC HOF HGOK hGl
  rw [hX]
  have HPL := Lib.hid (fun (k : Nat) (g : GEnt) (hk : G[k]? = some g) => (show (gfiles (G.take k)).length + 30 + g.h.name.length + g.h.extra.length ≤ 1400000000 from by
    have h1 := (gat (Z := endB G.length (gdir 0 G).length (gfiles G).length c) HGOK.out (by rw [← hG]; exact hg1000) hk).2.2.1.fits
    rw [← garch_eq, ← hG] at h1
    rw [← hG]
    have := hsz.2
    omega))
  have HMO := Lib.hid (fun (j : Nat) (g : GEnt) (hj : G[j]? = some g) => (show (gfiles (G.take j)).length < (gfiles (G.take (j + 1))).length from by
    have h1 := gone_length (HGOK.out g (List.mem_of_getElem? hj))
    rw [List.take_add_one, hj, Option.toList_some, gfiles_snoc, List.length_append]
    omega))
  clear hen hX hG hsz hg1000 HENE HEN
  go_wp2_with fail
  refine HSC.out.mono ?_
  rintro x w5 ⟨v5, rfl, hrr, hf5⟩
  have HF45 := Lib.hid hf5
  have HF5 := Lib.hid (HF4.out.trans hf5 (by simp))
  have HRR := Lib.hid hrr
  obtain ⟨p5, c5, hv5⟩ := hrr.len
  have hgn : G.length = n := by rw [hGl, HN.out]
  rw [hgn] at hv5
  subst hv5
  clear hf5 hrr
  go_wp2_with fail
  go_loopw [105] (fun v105 wr => ∃ k : Nat, k ≤ n ∧ v105 = .int .i64 (k : Int) ∧ Fr [] w5 wr) (fun v105 _ => n - (intOf v105).toNat)
  case atStart => exact ⟨0, by omega, rfl, Fr.refl _ _⟩
  case round =>
    obtain ⟨k, hk, rfl, hf⟩ := hrel
    have HF := Lib.hid hf
    clear hf
    by_cases hlt : k < n
    · have hkl : k < G.length := by omega
      obtain ⟨g, hg⟩ : ∃ g, G[k] = g := ⟨_, rfl⟩
      have hgk : G[k]? = some g := by rw [List.getElem?_eq_getElem hkl, hg]
      have HO := Lib.hid (fun (w' : World) (hf : Fr [] w5 w') => HOF.out w' (HF5.out.trans hf (by simp)) k g hgk)
      obtain ⟨gr, capr, hsr, hgr⟩ := HRR.out.row (fun h => by rw [h] at hkl; simp at hkl)
      injection hsr with q1 q2 q3
      subst q1
      clear q2 q3
      have HRG := Lib.hid (fun (w' : World) (hf : Fr [] w5 w') => rangeAt_fr (HRR.out.range hgk) hgr hf)
      have i3 : (k : Int) < (n : Int) := by omega
      have r5 := HRG.out wr HF.out
      obtain ⟨c0, c1, c2, c3, c4, c5', c6, c7, c8, c9, c10, c11, c12, c13, c14, c15⟩ := cellsRec r5
      clear r5 hg
      go_wp2_with fail
      clear c0 c1 c2 c3 c4 c5' c6 c7 c8 c9 c10 c11 c12 c13 c14 c15
      have hpl := HPL.out k g hgk
      obtain ⟨P, hP⟩ : ∃ P, (gfiles (G.take k)).length = P := ⟨_, rfl⟩
      have HPE := Lib.hid hP
      rw [hP] at hpl
      have hE := Blk.new wr 50 (recL g P).toArray
      have hfA : Fr [] w5 (wr.alloc (.cells (recL g P).toArray 50)) := HF.out.alloc _
      rw [hP]
      refine (HO.out _ hfA).mono ?_
      rintro x w9 ⟨rfl, hf9⟩
      have HF9 := Lib.hid (hfA.trans hf9 (by simp))
      have hE9 := hE.fr hf9 (by simp)
      have c14 := hE9.at_ 14 (.int .i64 (P : Int)) rfl
      have c0 := hE9.at_ 0 (.string (bs g.h.name)) rfl
      have hnsz := bs_size g.h.name
      rw [hP]
      obtain ⟨at_, hat⟩ : ∃ x, P + 0 + (localB g.h).length = x := ⟨_, rfl⟩
      have hal : P + 30 + g.h.name.length ≤ at_ ∧ at_ ≤ 1400000000 := by rw [← hat, localB_length]; omega
      have hat' : P + 0 + (localB (⟨g.h, g.data⟩ : Ent).h).length = at_ := hat
      rw [hat']
      obtain ⟨nl, hnl⟩ : ∃ x, g.h.name.length = x := ⟨_, rfl⟩
      rw [hnl] at hnsz hal
      obtain ⟨b1, hb1⟩ : ∃ x, P + 30 = x := ⟨_, rfl⟩
      obtain ⟨b2, hb2⟩ : ∃ x, b1 + nl = x := ⟨_, rfl⟩
      have y1 : IntKind.i64.wrap ((P : Int) + 30) = (b1 : Int) := by rw [IntWalk.i64_in _ (by omega)]; omega
      have y2 : IntKind.i64.wrap ((b1 : Int) + (nl : Int)) = (b2 : Int) := by rw [IntWalk.i64_in _ (by omega)]; omega
      have y3 : decide ((at_ : Int) < (b2 : Int)) = false := decide_eq_false (by omega)
      have y4 : ¬ (at_ : Int) < (b2 : Int) := by omega
      by_cases hk0 : k = 0
      · have d0 : decide ((0 : Int) < (k : Int)) = false := decide_eq_false (by omega)
        have d1 : ¬ (0 : Int) < (k : Int) := by omega
        clear hE hfA hf9 hE9 hat hat' hal hnl hb1 hb2 hP hpl
        go_upto_region 21 with fail
        go_quiet (fail)
        go_wp2_with fail
        exact ⟨⟨k + 1, by omega, by first | (rw [Int.natCast_add]; rfl) | (congr 1; omega), HF9.out.drewN _⟩, by simp [intOf]; omega⟩
      · obtain ⟨j, hj⟩ : ∃ j, k = j + 1 := ⟨k - 1, by omega⟩
        have hjl : j < G.length := by omega
        have hgj : G[j]? = some G[j] := List.getElem?_eq_getElem hjl
        have hmo := HMO.out j G[j] hgj
        rw [← hj, hP] at hmo
        have e14 : w9.cell? ⟨gr, j * 16 + 14, none⟩ = some (.int .i64 ((gfiles (G.take j)).length : Int)) := (rangeAt_fr (HRR.out.range hgj) hgr HF9.out) 14 _ rfl
        obtain ⟨Pj, hPj⟩ : ∃ x, (gfiles (G.take j)).length = x := ⟨_, rfl⟩
        rw [hPj] at hmo e14
        have d0 : decide ((0 : Int) < (k : Int)) = true := decide_eq_true (by omega)
        have d1 : (0 : Int) < (k : Int) := by omega
        have y5 : IntKind.i64.wrap ((k : Int) - 1) = (j : Int) := by rw [IntWalk.i64_in _ (by omega)]; omega
        have y6 : decide ((P : Int) ≤ (Pj : Int)) = false := decide_eq_false (by omega)
        have y11 : (k : Int) - 1 = (j : Int) := by omega
        have d2 : decide (0 < k) = true := decide_eq_true (by omega)
        have d3 : decide (P ≤ Pj) = false := decide_eq_false (by omega)
        have y7 : (j : Int) < (n : Int) := by omega
        have y8 : (0 : Int) ≤ (j : Int) := by omega
        have y9 : (n : Int) ≤ 9223372036854775807 := by omega
        have y10 : n ≤ 9223372036854775807 := by omega
        clear hE hfA hf9 hE9 hat hat' hal hnl hb1 hb2 hP hpl hj hgj hPj hmo
        go_upto_region 21 with fail
        go_quiet (fail)
        go_wp2_with fail
        exact ⟨⟨k + 1, by omega, by rw [Int.natCast_add]; rfl, HF9.out.drewN _⟩, by simp [intOf]; omega⟩
    · obtain rfl : k = n := by omega
      have i3 : ¬ (k : Int) < (k : Int) := by omega
      have HWR := Lib.hid (writesC wr (HW.out.fr (HF5.out.trans HF.out (by simp)) (by simp)).ut (HW.out.fr (HF5.out.trans HF.out (by simp)) (by simp)).h18)
      go_wp2_with fail
      refine HWR.out.mono ?_
      rintro x w11 ⟨rfl, hf11⟩
      have HF11 := Lib.hid ((HF5.out.trans HF.out (by simp)).trans hf11 (by simp))
      clear hf11
      go_wp2_with fail
      exact ⟨rfl, rfl, HF11.out⟩
end Go.Proofs.YtalgnjkdoaaacaaGreatDoor

/- FnWriteLocal: the law. -/
namespace Go.Proofs.YtalgnjkdoaaacaaGreatDoor
open Go Go.RowKit
open Zp
set_option maxRecDepth 100000 in
set_option maxHeartbeats 16000000 in
theorem wloLaw (E : Errs) (B0 : Nat) (w : World) (l : List Ent) (c : By) (v : Value) (hW : WE E B0 w) (hv : SV w v l) (hM : ∀ e ∈ l, EntM e ∧ HdM e.h) (hc : c.length ≤ 9223372036854775807) :
    Calls Tryz.prog 7 #[v, .string (bs c)] w fun x w' => x = .returned (.bool true) ∧ Fr [] w w' := by
  have HFIT := Lib.hid (fits1C l (fun e he => (hM e he).1) v w hv)
  have HV := Lib.hid hv
  have HW := Lib.hid hW
  have HMM := Lib.hid hM
  clear hW hM
  obtain ⟨p, cap, rfl, hlc, hcm, hp⟩ := hv
  have HP := Lib.hid hp
  clear hp
  obtain ⟨n, hn⟩ : ∃ n, l.length = n := ⟨_, rfl⟩
  have HN := Lib.hid hn
  rw [hn] at HFIT HV hlc ⊢
  clear hn
  go_enter Tryz.func7, Tryz.ntmps7
  go_wp2_with fail
  refine HFIT.out.mono ?_
  rintro x w1 ⟨b, rfl, hb, hf1⟩
  have HB := Lib.hid hb
  have HF1 := Lib.hid hf1
  clear hb hf1
  cases b with
  | false =>
    go_wp2_with fail
    go_ret
    exact ⟨rfl, HF1.out⟩
  | true =>
    by_cases hcc : c.length ≤ 2147483647
    case neg =>
      have i1 : 2147483647 < (c.length : Int) := by omega
      go_wp2_with fail
      go_ret
      exact ⟨rfl, HF1.out⟩
    have i1 : ¬ 2147483647 < (c.length : Int) := by omega
    have hfit := HB.out.1 (by first | rfl | trivial)
    have HI := Lib.hid (fun e (he : e ∈ l) => (HMM.out e he).2.i (hfit.2 e he))
    have hl31 := hfit.1
    rw [HN.out] at hl31
    clear hfit
    have FIN : ∀ a' w', LawR w a' w' → bodyPost Tryz.prog Tryz.f7 (fun x w' => x = .returned (.bool true) ∧ Fr [] w w') .ret a' w' := by
      rintro a' w' ⟨q1, q2, q3⟩
      refine bodyPost_ret (v := .bool true) ?_ q1 ⟨rfl, q3⟩
      rw [results_tmp rfl]
      show Result.ok (slotOf a' 4) w' = _
      rw [q2]
    have HFIN := Lib.hid FIN
    clear FIN
    go_upto_block 0 with fail
    rename_i K hK
    have HK := Lib.hid (fun a w1 (h : (wloFrom 9).wp Tryz.prog _ a w1) => hK a w1 (wp_rq (wp_code (c := wloFrom 9) (by kernel_rfl) h) HFIN.out))
    clear hK
    refine wp_block ?_
    go_loopw [26] (fun vk wr => ∃ k : Nat, k ≤ n ∧ vk = .int .i64 (k : Int) ∧ (∀ e ∈ l.take k, WGd e) ∧ Fr [] w wr) (fun vk _ => n - (intOf vk).toNat)
    case atStart => exact ⟨0, by omega, rfl, by simp, HF1.out⟩
    case round =>
      obtain ⟨k, hk, rfl, hall, hf⟩ := hrel
      have HF := Lib.hid hf
      have HALL := Lib.hid hall
      clear hf hall
      by_cases hlt : k < n
      · have hkl : k < l.length := by rw [HN.out]; exact hlt
        obtain ⟨e, he⟩ : ∃ e, l[k] = e := ⟨_, rfl⟩
        have hle : l[k]? = some e := by rw [List.getElem?_eq_getElem hkl, he]
        obtain ⟨g, o, rfl, hg, hles⟩ := HP.out (fun h => by rw [h] at hkl; simp at hkl)
        obtain ⟨c0, c1, c2, c3, c4, c5, c6, c7, c8, c9, c10, c11, c12, c13, c14⟩ := cellsE ((hles.fr HF.out hg (by simp)) k e hle)
        have i2 : (k : Int) < (n : Int) := by omega
        have s1 := bs_size e.h.name
        have s2 := bs_size e.h.comment
        have s3 := bs_size e.data
        clear hles he
        by_cases h1 : e.h.name.length ≤ 60000
        case neg =>
          have i3 : 60000 < (e.h.name.length : Int) := by omega
          go_wp2_with fail
          exact HFIN.out _ _ ⟨rfl, rfl, HF.out.alloc _⟩
        have i3 : ¬ 60000 < (e.h.name.length : Int) := by omega
        by_cases h2 : e.h.comment.length ≤ 60000
        case neg =>
          have i4 : 60000 < (e.h.comment.length : Int) := by omega
          go_wp2_with fail
          exact HFIN.out _ _ ⟨rfl, rfl, HF.out.alloc _⟩
        have i4 : ¬ 60000 < (e.h.comment.length : Int) := by omega
        by_cases h3 : e.data.length ≤ 1048576
        case neg =>
          have i5 : 1048576 < (e.data.length : Int) := by omega
          go_wp2_with fail
          exact HFIN.out _ _ ⟨rfl, rfl, HF.out.alloc _⟩
        have i5 : ¬ 1048576 < (e.data.length : Int) := by omega
        by_cases h4 : 0 ≤ e.h.ext
        case neg =>
          have i6 : e.h.ext < 0 := by omega
          go_wp2_with fail
          exact HFIN.out _ _ ⟨rfl, rfl, HF.out.alloc _⟩
        have i6 : ¬ e.h.ext < 0 := by omega
        by_cases h5 : e.h.ext ≤ 4294967295
        case neg =>
          have i7 : 4294967295 < e.h.ext := by omega
          go_wp2_with fail
          exact HFIN.out _ _ ⟨rfl, rfl, HF.out.alloc _⟩
        have i7 : ¬ 4294967295 < e.h.ext := by omega
        go_wp2_with fail
        refine ⟨⟨k + 1, by omega, by rw [Int.natCast_add]; rfl, ?_, HF.out.alloc _⟩, by simp [intOf]; omega⟩
        intro y hy
        rw [List.take_add_one, hle] at hy
        rcases List.mem_append.1 hy with h | h
        · exact HALL.out y h
        · have : y = e := by simpa using h
          rw [this]; exact ⟨h1, h2, h3, h4, h5⟩
      · obtain rfl : k = n := by omega
        have i2 : ¬ (k : Int) < (k : Int) := by omega
        have hKK : ∀ e ∈ l, WGd e := by
          have := HALL.out
          rw [List.take_of_length_le (by rw [HN.out]; omega)] at this
          exact this
        have HKK := Lib.hid hKK
        clear hKK
        go_wp2_with fail
        refine HK.out _ _ (wp_rq (wlo9 E B0 _ wr l c (.slice p k cap) rfl rfl rfl rfl (HW.out.fr HF.out (by simp)) (HV.out.fr HF.out (by simp)) HI.out hcc (by rw [HN.out]; exact hl31) HKK.out) ?_)
        rintro a' w' ⟨q1, q2, q3⟩
        exact ⟨q1, q2, HF.out.trans q3 (by simp)⟩
end Go.Proofs.YtalgnjkdoaaacaaGreatDoor

/- FnRawRead: what is written as it is is read back as it is. -/
import Derived.Test.YtalgnjkdoaaacaaGreatDoorQfc1
import Derived.Test.YtalgnjkdoaaacaaGreatDoorQdx
set_option linter.unusedVariables false
set_option linter.unusedSimpArgs false
namespace Go.Proofs.YtalgnjkdoaaacaaGreatDoor
open Go Go.RowKit
open Zp
noncomputable def rrdFrom (n : Nat) : Code := ((Tryz.f8.body.bind (sufHead n))).getD .skip
set_option maxRecDepth 100000 in
theorem frame187 {a : Act} (hs : a.tmps.size = 187) (hd : a.defers = []) : a = ⟨#[slotOf a 0, slotOf a 1, slotOf a 2, slotOf a 3, slotOf a 4, slotOf a 5, slotOf a 6, slotOf a 7, slotOf a 8, slotOf a 9, slotOf a 10, slotOf a 11, slotOf a 12, slotOf a 13, slotOf a 14, slotOf a 15, slotOf a 16, slotOf a 17, slotOf a 18, slotOf a 19, slotOf a 20, slotOf a 21, slotOf a 22, slotOf a 23, slotOf a 24, slotOf a 25, slotOf a 26, slotOf a 27, slotOf a 28, slotOf a 29, slotOf a 30, slotOf a 31, slotOf a 32, slotOf a 33, slotOf a 34, slotOf a 35, slotOf a 36, slotOf a 37, slotOf a 38, slotOf a 39, slotOf a 40, slotOf a 41, slotOf a 42, slotOf a 43, slotOf a 44, slotOf a 45, slotOf a 46, slotOf a 47, slotOf a 48, slotOf a 49, slotOf a 50, slotOf a 51, slotOf a 52, slotOf a 53, slotOf a 54, slotOf a 55, slotOf a 56, slotOf a 57, slotOf a 58, slotOf a 59, slotOf a 60, slotOf a 61, slotOf a 62, slotOf a 63, slotOf a 64, slotOf a 65, slotOf a 66, slotOf a 67, slotOf a 68, slotOf a 69, slotOf a 70, slotOf a 71, slotOf a 72, slotOf a 73, slotOf a 74, slotOf a 75, slotOf a 76, slotOf a 77, slotOf a 78, slotOf a 79, slotOf a 80, slotOf a 81, slotOf a 82, slotOf a 83, slotOf a 84, slotOf a 85, slotOf a 86, slotOf a 87, slotOf a 88, slotOf a 89, slotOf a 90, slotOf a 91, slotOf a 92, slotOf a 93, slotOf a 94, slotOf a 95, slotOf a 96, slotOf a 97, slotOf a 98, slotOf a 99, slotOf a 100, slotOf a 101, slotOf a 102, slotOf a 103, slotOf a 104, slotOf a 105, slotOf a 106, slotOf a 107, slotOf a 108, slotOf a 109, slotOf a 110, slotOf a 111, slotOf a 112, slotOf a 113, slotOf a 114, slotOf a 115, slotOf a 116, slotOf a 117, slotOf a 118, slotOf a 119, slotOf a 120, slotOf a 121, slotOf a 122, slotOf a 123, slotOf a 124, slotOf a 125, slotOf a 126, slotOf a 127, slotOf a 128, slotOf a 129, slotOf a 130, slotOf a 131, slotOf a 132, slotOf a 133, slotOf a 134, slotOf a 135, slotOf a 136, slotOf a 137, slotOf a 138, slotOf a 139, slotOf a 140, slotOf a 141, slotOf a 142, slotOf a 143, slotOf a 144, slotOf a 145, slotOf a 146, slotOf a 147, slotOf a 148, slotOf a 149, slotOf a 150, slotOf a 151, slotOf a 152, slotOf a 153, slotOf a 154, slotOf a 155, slotOf a 156, slotOf a 157, slotOf a 158, slotOf a 159, slotOf a 160, slotOf a 161, slotOf a 162, slotOf a 163, slotOf a 164, slotOf a 165, slotOf a 166, slotOf a 167, slotOf a 168, slotOf a 169, slotOf a 170, slotOf a 171, slotOf a 172, slotOf a 173, slotOf a 174, slotOf a 175, slotOf a 176, slotOf a 177, slotOf a 178, slotOf a 179, slotOf a 180, slotOf a 181, slotOf a 182, slotOf a 183, slotOf a 184, slotOf a 185, slotOf a 186], []⟩ := frame_of hs hd
set_option maxRecDepth 100000 in
set_option maxHeartbeats 16000000 in
theorem rrd11 (E : Errs) (B0 : Nat) (a : Act) (w : World) (l : List Ent) (c : By) (v : Value) (hs : a.tmps.size = 187) (hd : a.defers = []) (h0 : slotOf a 0 = v) (h1 : slotOf a 1 = .string (bs c))
    (hW : WE E B0 w) (hv : SV w v l) (hI : ∀ e ∈ l, EntI e) (hcc : c.length ≤ 2147483647) (hl31 : l.length ≤ 2147483647) (hpk : ∀ e ∈ l, e.h.packed = e.data.length) (hok : ∀ e ∈ l, HdOk e.h ∧ e.data.length ≤ 1048576) (hsim : ∀ e ∈ l, (e.h.flags.tdiv 8).tmod 2 = 0) :
    (rrdFrom 11).wp Tryz.prog (RQ (LawR w)) a w := by
  have HV := Lib.hid hv
  have HW := Lib.hid hW
  have HI := Lib.hid hI
  have HPK := Lib.hid hpk
  have HOK := Lib.hid hok
  have HSIM := Lib.hid hsim
  have HDC := Lib.hid (dirsC l HI.out v w hv)
  obtain ⟨pv, cv, rfl, hlcv, hcvm, hpv⟩ := hv
  have HPV := Lib.hid hpv
  obtain ⟨n, hn⟩ : ∃ n, l.length = n := ⟨_, rfl⟩
  have HN := Lib.hid hn
  rw [hn] at h0 HV HDC hl31
  rw [frame187 hs hd, h0, h1]
  clear hW hI hpk hok hsim hs hd h0 h1 hn hpv hlcv hcvm
  conv => arg 2; whnf
  by_cases h1000 : n ≤ 1000
  case neg =>
    have i1 : 1000 < (n : Int) := by omega
    go_wp2_with fail
    exact ⟨rfl, rfl, Fr.refl _ _⟩
  have i1 : ¬ 1000 < (n : Int) := by omega
  by_cases hc6 : c.length ≤ 65535
  case neg =>
    have i2 : 65535 < (c.length : Int) := by omega
    go_wp2_with fail
    exact ⟨rfl, rfl, Fr.refl _ _⟩
  have i2 : ¬ 65535 < (c.length : Int) := by omega
  go_wp2_with fail
  refine HDC.out.mono ?_
  rintro x w3 ⟨b3, rfl, hb3, hf3⟩
  have HB3 := Lib.hid hb3
  have HF3 := Lib.hid hf3
  clear hb3 hf3
  cases b3 with
  | false =>
    go_wp2_with fail
    exact ⟨rfl, rfl, HF3.out⟩
  | true =>
  have HDIR := Lib.hid (HB3.out.1 (by first | rfl | trivial))
  clear HB3
  obtain ⟨s1, s2⟩ := size_small HOK.out (by rw [HN.out]; exact h1000)
  rw [filesI_ok (fun e he => (HOK.out e he).1)] at s1
  rw [dirI_ok 0 (fun e he => (HOK.out e he).1)] at s2
  have hsz : (archB l c).length ≤ 4000000000 := by
    rw [archB, List.length_append, List.length_append, endB_length]
    omega
  have HWR := Lib.hid (writeRawC w3 l c _ (HV.out.fr HF3.out (by simp)) (by rw [HN.out]; exact h1000) hc6 (fun e he => by
    refine ⟨(HOK.out e he).1, HPK.out e he, ?_, fun hs => ?_⟩
    · have h1 := simple_fl (HOK.out e he).1.2.2.1.1 (HSIM.out e he)
      have := (HOK.out e he).1.2.2.1.1
      omega
    · by_cases hd : e.data = []
      · exact hd
      · exact absurd ⟨(slash_iff _).1 hs, hd⟩ (HDIR.out e he)) (by have := HN.out; omega))
  go_wp2_with fail
  refine HWR.out.mono ?_
  rintro x w4 ⟨rfl, hf4⟩
  have HF4 := Lib.hid (HF3.out.trans hf4 (by simp))
  clear hf4
  have HEN := Lib.hid (fun (w' : World) => endsC (bs (archB l c)) w' (by rw [bs_size]; omega))
  rw [bs_list] at HEN
  go_wp2_with fail
  refine (HEN.out _).mono ?_
  rintro x w5 ⟨rfl, hw5⟩
  rw [hw5]
  clear hw5 w5
  by_cases hen : ends (archB l c) = 1
  case neg =>
    have i3 : (ends (archB l c) : Int) ≠ 1 := by omega
    go_wp2_with fail
    exact ⟨rfl, rfl, HF4.out⟩
  have HGOOD := Lib.hid (show GoodP l c from ⟨HOK.out, by rw [HN.out]; exact h1000, hc6, hen⟩)
  rw [hen]
  have HRG := Lib.hid (fun (w' : World) (hf : Fr [] w w') => readGood0 E B0 w' l c (HW.out.fr hf (by simp)) HGOOD.out)
  have HFK := Lib.hid (fun (k : Nat) (e : Ent) (hk : l[k]? = some e) => fileK_of HGOOD.out hk)
  obtain ⟨X, hX⟩ : ∃ X, bs (archB l c) = X := ⟨_, rfl⟩
  rw [hX] at HRG HFK
  rw [hX]
  clear hen hX hsz s1 s2 HEN
  go_wp2_with fail
  refine (HRG.out _ HF4.out).mono ?_
  rintro x w6 ⟨v6, rfl, hh6, hf6⟩
  obtain ⟨p6, c6, hv6⟩ := hh6.len
  subst hv6
  have HH6 := Lib.hid hh6
  have HF46 := Lib.hid hf6
  have HF6 := Lib.hid (HF4.out.trans hf6 (by simp))
  clear hf6 hh6
  rw [List.length_map, HN.out] at HH6 ⊢
  go_wp2_with fail
  obtain ⟨w8, hw8⟩ : ∃ w8, w6.alloc (.cells #[.bool true, .string (bs c), .slice p6 n c6] 28) = w8 := ⟨_, rfl⟩
  have hf8 : Fr [] w6 w8 := by rw [← hw8]; exact (Fr.refl [] w6).alloc _
  rw [hw8]
  have HF8 := Lib.hid (HF6.out.trans hf8 (by simp))
  have HH8 := Lib.hid (HH6.out.fr hf8 (by simp))
  clear hw8 hf8
  go_loopw [116] (fun v116 wr => ∃ k : Nat, k ≤ n ∧ v116 = .int .i64 (k : Int) ∧ Fr [] w8 wr) (fun v116 _ => n - (intOf v116).toNat)
  case atStart => exact ⟨0, by omega, rfl, Fr.refl _ _⟩
  case round =>
    obtain ⟨k, hk, rfl, hf⟩ := hrel
    have HF := Lib.hid hf
    clear hf
    by_cases hlt : k < n
    · have hkl : k < l.length := by have := HN.out; omega
      obtain ⟨e, he⟩ : ∃ e, l[k] = e := ⟨_, rfl⟩
      have hle : l[k]? = some e := by rw [List.getElem?_eq_getElem hkl, he]
      have hem : e ∈ l := by rw [← he]; exact List.getElem_mem hkl
      have HRW := Lib.hid (fun (w' : World) (hf : Fr [] w8 w') => raw_file E B0 w' X k e (HW.out.fr (HF8.out.trans hf (by simp)) (by simp)) (HFK.out k e hle) (HPK.out e hem))
      have hne : l.map lh ≠ [] := fun h => by have := congrArg List.length h; simp at this; rw [this] at hkl; simp at hkl
      obtain ⟨g6, cap6, hs6, -, hg6, -, -⟩ := HH8.out.row hne
      injection hs6 with q1 q2 q3
      subst q1
      clear q2 q3
      obtain ⟨gv, ov, hpe, hgv, hlev⟩ := HPV.out (fun h => by rw [h] at hkl; simp at hkl)
      subst hpe
      have hlm : (l.map lh)[k]? = some (lh e) := by rw [List.getElem?_map, hle]; rfl
      have HR6 := Lib.hid (fun (w' : World) (hf : Fr [] w8 w') => rangeAt_fr (HH8.out.range hlm) hg6 hf)
      have HRV := Lib.hid (fun (w' : World) (hf : Fr [] w8 w') => (hlev.fr (HF8.out.trans hf (by simp)) hgv (by simp)) k e hle)
      have hr6 := HR6.out wr HF.out
      obtain ⟨a0, a1, a2, a3, a4, a5, a6, a7, a8, a9, a10, a11, a12, a13⟩ := cellsH hr6
      have i3 : (k : Int) < (n : Int) := by omega
      clear he hle hem hne hlm hlev hr6
      go_wp2_with fail
      clear a0 a1 a2 a3 a4 a5 a6 a7 a8 a9 a10 a11 a12 a13
      have hE := Blk.new wr 36 (hdL (lh e)).toArray
      have hfA : Fr [] w8 (wr.alloc (.cells (hdL (lh e)).toArray 36)) := HF.out.alloc _
      refine (HRW.out _ hfA).mono ?_
      rintro x w9 ⟨rfl, hf9⟩
      have HF9 := Lib.hid (hfA.trans hf9 (by simp))
      have hE9 := hE.fr hf9 (by simp)
      obtain ⟨c0, c1, c2, c3, c4, c5, c6', c7, c8, c9, c10, c11, c12, c13, c14⟩ := cellsE (HRV.out w9 HF9.out)
      have d14 := fun o => (cellsE (HRV.out (w9.alloc o) (HF9.out.alloc o))).2.2.2.2.2.2.2.2.2.2.2.2.2.2
      have b0 : ∀ o, (w9.alloc o).cell? ⟨wr.heap.size, 0, none⟩ = some (.string (bs e.h.name)) := fun o => (hE9.alloc o).at_ 0 _ rfl
      have b1 : ∀ o, (w9.alloc o).cell? ⟨wr.heap.size, 1, none⟩ = some (.string (bs e.h.comment)) := fun o => (hE9.alloc o).at_ 1 _ rfl
      have b7 : ∀ o, (w9.alloc o).cell? ⟨wr.heap.size, 7, none⟩ = some (.int .i64 e.h.method) := fun o => (hE9.alloc o).at_ 7 _ rfl
      have b10 : ∀ o, (w9.alloc o).cell? ⟨wr.heap.size, 10, none⟩ = some (.int .i64 e.h.crc) := fun o => (hE9.alloc o).at_ 10 _ rfl
      have b11 : ∀ o, (w9.alloc o).cell? ⟨wr.heap.size, 11, none⟩ = some (.int .i64 e.h.packed) := fun o => (hE9.alloc o).at_ 11 _ rfl
      have b12 : ∀ o, (w9.alloc o).cell? ⟨wr.heap.size, 12, none⟩ = some (.int .i64 e.h.size) := fun o => (hE9.alloc o).at_ 12 _ rfl
      clear hE hfA hf9 hE9
      go_wp2_with fail
      exact ⟨⟨k + 1, by omega, by rw [Int.natCast_add]; rfl, HF9.out.alloc _⟩, by simp [intOf]; omega⟩
    · obtain rfl : k = n := by omega
      have i3 : ¬ (k : Int) < (k : Int) := by omega
      have HWR2 := Lib.hid (writesC wr (HW.out.fr (HF8.out.trans HF.out (by simp)) (by simp)).ut (HW.out.fr (HF8.out.trans HF.out (by simp)) (by simp)).h18)
      go_wp2_with fail
      refine HWR2.out.mono ?_
      rintro x w11 ⟨rfl, hf11⟩
      have HF11 := Lib.hid ((HF8.out.trans HF.out (by simp)).trans hf11 (by simp))
      clear hf11
      go_wp2_with fail
      exact ⟨rfl, rfl, HF11.out⟩
end Go.Proofs.YtalgnjkdoaaacaaGreatDoor

/- FnRawRead: the law. -/
namespace Go.Proofs.YtalgnjkdoaaacaaGreatDoor
open Go Go.RowKit
open Zp
set_option maxRecDepth 100000 in
set_option maxHeartbeats 8000000 in
theorem rrd4 (E : Errs) (B0 : Nat) (w0 w : World) (a : Act) (l : List Ent) (c : By) (p2 : Option Addr) (n cap2 base : Nat) (hs : a.tmps.size = 187) (hd : a.defers = []) (h0 : slotOf a 0 = .slice p2 n cap2) (h1 : slotOf a 1 = .string (bs c))
    (hn : l.length = n) (hO : OL w base (.slice p2 n cap2) l) (hW : WE E B0 w0) (hbase : w0.heap.size ≤ base) (hF : Fr [] w0 w) (hI : ∀ e ∈ l, EntI e) (hcc : c.length ≤ 2147483647) (hl31 : n ≤ 2147483647) :
    (rrdFrom 4).wp Tryz.prog (RQ (LawR w0)) a w := by
  have HOL := Lib.hid hO
  have HW := Lib.hid hW
  have HI := Lib.hid hI
  have HN := Lib.hid hn
  have HF0 := Lib.hid hF
  rw [frame187 hs hd, h0, h1]
  clear hO hW hI hn hF hs hd h0 h1
  conv => arg 2; whnf
  go_upto_block 0 with fail
  rename_i K hK
  have HK := Lib.hid (fun a w (h : (rrdFrom 11).wp Tryz.prog _ a w) => hK a w (wp_code (c := rrdFrom 11) (by kernel_rfl) h))
  clear hK
  refine wp_block ?_
  go_loopw [27] (fun v27 wr => ∃ (q : Nat), q ≤ n ∧ v27 = .int .i64 (q : Int) ∧ OL wr base (.slice p2 n cap2) ((l.take q).map packE ++ l.drop q) ∧ (∀ e ∈ l.take q, (HdOk (packE e).h ∧ e.data.length ≤ 1048576) ∧ (e.h.flags.tdiv 8).tmod 2 = 0) ∧ Fr [] w0 wr) (fun v27 _ => n - (intOf v27).toNat)
  case atStart => exact ⟨0, by omega, rfl, by simpa using HOL.out, by simp, HF0.out⟩
  case round =>
    obtain ⟨q, hq, rfl, hol, hall, hf⟩ := hrel
    have HO := Lib.hid hol
    have HF := Lib.hid hf
    have HALL := Lib.hid hall
    clear hol hf hall
    by_cases hlt : q < n
    · have hql : q < l.length := by have := HN.out; omega
      obtain ⟨e, he⟩ : ∃ e, l[q] = e := ⟨_, rfl⟩
      have hqe : l[q]? = some e := by rw [List.getElem?_eq_getElem hql, he]
      have hem : e ∈ l := by rw [← he]; exact List.getElem_mem hql
      have hlq : ((l.take q).map packE ++ l.drop q).length = n := by have := HN.out; rw [List.length_append, List.length_map, List.length_take, List.length_drop]; omega
      obtain ⟨g2, cap', hsl, hge, hgl, hnc, hcm⟩ := HO.out.row (fun h => by rw [h] at hlq; simp at hlq; omega)
      injection hsl with x1 x2 x3
      subst x1
      subst x3
      clear x2
      have hrg := cellsE (HO.out.range (get_pack hqe))
      obtain ⟨c0, c1, c2, c3, c4, c5, c6, c7, c8, c9, c10, c11, c12, c13, c14⟩ := hrg
      have z11 : wr.frozen? ⟨g2, q * 15 + 11, none⟩ = false := HO.out.frozen hlq.symm (q * 15 + 11)
      have hput := HO.out.put hlq.symm (get_pack hqe) (j := 11) (e' := packE e) (u := .int .i64 (e.data.length : Int)) (by omega) rfl
      have hfp : Fr [] w0 (wr.setCell ⟨g2, q * 15 + 11, none⟩ (.int .i64 (e.data.length : Int))) := HF.out.setCell (.inr (by show w0.heap.size ≤ g2; omega)) _
      obtain ⟨d0, d1, d2, d3, d4, d5, d6, d7, d8, d9, d10, d11, d12, d13, d14⟩ := cellsE (hput.range (k := q) (e := packE e) (by rw [List.getElem?_set_self (by rw [hlq]; exact hlt)]))
      have HP := Lib.hid hput
      have HFP := Lib.hid hfp
      have HO1 := Lib.hid (fun (w' : World) => hokC (packE e).h (packI (HI.out e hem)).hd w')
      have HS := Lib.hid (fun (w' : World) => simpleC (packE e).h (packI (HI.out e hem)).hd w')
      have HGE := Lib.hid (fun (w' : World) (hf : Fr [] (wr.setCell ⟨g2, q * 15 + 11, none⟩ (.int .i64 (e.data.length : Int))) w') => cellsE (((HP.out.fr hf (by simp)) : OL w' base _ _).range (k := q) (e := packE e) (by rw [List.getElem?_set_self (by rw [hlq]; exact hlt)])))
      have i3 : (q : Int) < (n : Int) := by omega
      clear hput hfp hlq he
      go_wp2_with fail
      clear c0 c1 c2 c3 c4 c5 c6 c7 c8 c9 c10 c11 c12 c13 c14 d0 d1 d2 d3 d4 d5 d6 d7 d8 d9 d10 d11 d12 d13 d14 z11
      refine (HO1.out _).mono ?_
      rintro x w2 ⟨b, rfl, hb, hf2⟩
      have HB := Lib.hid hb
      have HF2 := Lib.hid (HFP.out.trans hf2 (by simp))
      have HP2 := Lib.hid (HP.out.fr hf2 (by simp))
      have HFF := Lib.hid hf2
      clear hb hf2
      cases b with
      | false =>
        go_wp2_with fail
        exact ⟨rfl, rfl, HF2.out⟩
      | true =>
      have hok := HB.out.1 (by first | rfl | trivial)
      obtain ⟨d0, d1, d2, d3, d4, d5, d6, d7, d8, d9, d10, d11, d12, d13, d14⟩ := HGE.out w2 HFF.out
      go_wp2_with fail
      clear d0 d1 d2 d3 d4 d5 d6 d7 d8 d9 d10 d11 d12 d13 d14
      refine (HS.out _).mono ?_
      rintro x w3 ⟨rfl, hf3⟩
      have HF3 := Lib.hid (HF2.out.trans hf3 (by simp))
      have HP3 := Lib.hid (HP2.out.fr hf3 (by simp))
      have d14 := (HGE.out w3 (HFF.out.trans hf3 (by simp))).2.2.2.2.2.2.2.2.2.2.2.2.2.2
      clear hf3 HS HP HFP
      by_cases hsim : (e.h.flags.tdiv 8).tmod 2 = 0
      case neg =>
        have d3 : decide (((packE e).h.flags.tdiv 8).tmod 2 = 0) = false := decide_eq_false hsim
        rw [d3]
        go_wp2_with fail
        exact ⟨rfl, rfl, HF3.out⟩
      have d3 : decide (((packE e).h.flags.tdiv 8).tmod 2 = 0) = true := decide_eq_true hsim
      rw [d3]
      clear d3
      have hds : (bs (packE e).data).size = e.data.length := bs_size e.data
      by_cases hdl : e.data.length ≤ 1048576
      case neg =>
        have i4 : 1048576 < (e.data.length : Int) := by omega
        go_wp2_with fail
        exact ⟨rfl, rfl, HF3.out⟩
      have i4 : ¬ 1048576 < (e.data.length : Int) := by omega
      go_wp2_with fail
      refine ⟨⟨q + 1, by omega, by rw [Int.natCast_add]; rfl, by rw [← set_pack hqe]; exact HP3.out, ?_, HF3.out⟩, by simp [intOf]; omega⟩
      intro y hy
      rw [List.take_add_one, hqe] at hy
      rcases List.mem_append.1 hy with h | h
      · exact HALL.out y h
      · have : y = e := by simpa using h
        rw [this]; exact ⟨⟨hok, hdl⟩, hsim⟩
    · obtain rfl : q = n := by omega
      have i1 : ¬ (q : Int) < (q : Int) := by omega
      have htd : (l.take q).map packE ++ l.drop q = l.map packE := by have := HN.out; rw [List.take_of_length_le (by omega), List.drop_of_length_le (by omega), List.append_nil]
      have htl : l.take q = l := List.take_of_length_le (by have := HN.out; omega)
      have ho := HO.out
      have ha := HALL.out
      rw [htd] at ho
      rw [htl] at ha
      have hEI : ∀ x ∈ l.map packE, EntI x := fun x hx => by
        obtain ⟨y, hy, rfl⟩ := List.mem_map.1 hx
        exact packI (HI.out y hy)
      have hPK : ∀ x ∈ l.map packE, x.h.packed = x.data.length := fun x hx => by
        obtain ⟨y, hy, rfl⟩ := List.mem_map.1 hx
        rfl
      have hSM : ∀ x ∈ l.map packE, (x.h.flags.tdiv 8).tmod 2 = 0 := fun x hx => by
        obtain ⟨y, hy, rfl⟩ := List.mem_map.1 hx
        exact (ha y hy).2
      have hOK : ∀ x ∈ l.map packE, HdOk x.h ∧ x.data.length ≤ 1048576 := fun x hx => by
        obtain ⟨y, hy, rfl⟩ := List.mem_map.1 hx
        exact (ha y hy).1
      have HOK := Lib.hid hOK
      have HEI := Lib.hid hEI
      have HPK := Lib.hid hPK
      have HSM := Lib.hid hSM
      have HSV := Lib.hid ho.sv
      clear ho ha htd htl hEI hPK hSM
      go_wp2_with fail
      refine HK.out _ _ (wp_rq (rrd11 E B0 _ wr (l.map packE) c (.slice p2 q cap2) rfl rfl rfl rfl (HW.out.fr HF.out (by simp)) HSV.out HEI.out hcc (by rw [List.length_map, HN.out]; exact hl31) HPK.out HOK.out HSM.out) ?_)
      rintro a' w' ⟨q1, q2, q3⟩
      exact ⟨q1, q2, HF.out.trans q3 (by simp)⟩
set_option maxRecDepth 100000 in
set_option maxHeartbeats 8000000 in
theorem rawReadLaw (E : Errs) (B0 : Nat) (w : World) (l : List Ent) (c : By) (v : Value) (hW : WE E B0 w) (hv : SV w v l) (hM : ∀ e ∈ l, EntM e ∧ HdM e.h) (hc : c.length ≤ 9223372036854775807) :
    Calls Tryz.prog 8 #[v, .string (bs c)] w fun x w' => x = .returned (.bool true) ∧ Fr [] w w' := by
  obtain ⟨i0, hi0, hz0⟩ := Option.map_eq_some_iff.1 infoEnt2
  simp only [Prod.mk.injEq] at hz0
  obtain ⟨hz1, hz2, hz3⟩ := hz0
  obtain ⟨z0, hz4, hz5⟩ := Option.map_eq_some_iff.1 hz1
  have HI0 := Lib.hid (And.intro hi0 (And.intro hz4 (And.intro hz2 (And.intro hz3 hz5))))
  clear hi0 hz1 hz2 hz3 hz4 hz5
  have HFIT := Lib.hid (fits1C l (fun e he => (hM e he).1) v w hv)
  have HV := Lib.hid hv
  have HW := Lib.hid hW
  have HMM := Lib.hid hM
  clear hW hM
  obtain ⟨p, cap, rfl, -⟩ := hv
  obtain ⟨n, hn⟩ : ∃ n, l.length = n := ⟨_, rfl⟩
  rw [hn] at HFIT HV ⊢
  go_enter Tryz.func8, Tryz.ntmps8
  go_wp2_with fail
  refine HFIT.out.mono ?_
  rintro x w1 ⟨b, rfl, hb, hf1⟩
  have HB := Lib.hid hb
  have HF1 := Lib.hid hf1
  clear hb hf1
  cases b with
  | false =>
    go_wp2_with fail
    go_ret
    exact ⟨rfl, HF1.out⟩
  | true =>
    by_cases hcc : c.length ≤ 2147483647
    case neg =>
      have i1 : 2147483647 < (c.length : Int) := by omega
      go_wp2_with fail
      go_ret
      exact ⟨rfl, HF1.out⟩
    have i1 : ¬ 2147483647 < (c.length : Int) := by omega
    have hfit := HB.out.1 (by first | rfl | trivial)
    have HI := Lib.hid (fun e (he : e ∈ l) => (HMM.out e he).2.i (hfit.2 e he))
    have hl31 := hfit.1
    clear hfit
    have h0 : (w1.alloc (.cells #[] 38)).ownsRow w1.heap.size 38 15 (.slice (some ⟨w1.heap.size, 0, none⟩) 0 0) 0 [] :=
      ⟨rfl, .inr ⟨w1.heap.size, 0, #[], rfl, Nat.le_refl _, Blk.new w1 _ _, Nat.le_refl _, by unfold maxLen; omega, rfl, rfl⟩⟩
    have H0 := Lib.hid h0
    clear h0
    have FIN : ∀ a' w', LawR w a' w' → bodyPost Tryz.prog Tryz.f8 (fun x w' => x = .returned (.bool true) ∧ Fr [] w w') .ret a' w' := by
      rintro a' w' ⟨q1, q2, q3⟩
      refine bodyPost_ret (v := .bool true) ?_ q1 ⟨rfl, q3⟩
      rw [results_tmp rfl]
      show Result.ok (slotOf a' 4) w' = _
      rw [q2]
    have HFIN := Lib.hid FIN
    clear FIN
    have key : ∀ (a : Act) (w4 : World) (p2 : Option Addr) (cap2 : Nat), a.tmps.size = 187 → a.defers = [] → slotOf a 0 = .slice p2 n cap2 → slotOf a 1 = .string (bs c) → OL w4 w1.heap.size (.slice p2 n cap2) l → Fr [] w w4 → (rrdFrom 4).wp Tryz.prog (RQ (LawR w)) a w4 := by
      intro a w4 p2 cap2 h1 h2 h3 h4 h5 h6
      exact rrd4 E B0 w w4 a l c p2 n cap2 w1.heap.size h1 h2 h3 h4 hn h5 HW.out HF1.out.size h6 HI.out hcc (by omega)
    have KEY := Lib.hid key
    clear key
    go_upto_region 3 with fail
    rename_i K hK
    have HK := Lib.hid (fun a w1 (h : (rrdFrom 4).wp Tryz.prog _ a w1) => hK a w1 (wp_rq (wp_code (c := rrdFrom 4) (by kernel_rfl) h) HFIN.out))
    clear hK
    by_cases hn0 : n = 0
    · subst hn0
      have hl0 : l = [] := List.length_eq_zero_iff.1 hn
      subst hl0
      cases p with
      | none =>
        go_wp2_with (at_builtin; refine wpList_append_own_nil rfl _ _ 22 rfl w1.heap.size 38 i0 15 Tryz.underlying22 HI0.out.1 _ 0 _ [] rfl H0.out rfl ?_)
        exact HK.out _ _ (KEY.out _ _ _ _ rfl rfl rfl rfl H0.out (HF1.out.alloc _))
      | some ad =>
        go_wp2_with (at_builtin; refine wpList_append_own _ rfl _ _ 22 rfl w1.heap.size 38 i0 z0 15 152 Tryz.underlying22 HI0.out.1 HI0.out.2.1 HI0.out.2.2.1 HI0.out.2.2.2.1 HI0.out.2.2.2.2 (by decide) (.slice (some ⟨w1.heap.size, 0, none⟩) 0 0) 0 [] rfl H0.out ad 0 _ [] rfl rfl (by intro j u hj; simp at hj) (by intro u hu; simp at hu) (by unfold maxLen; omega) (by omega) (by rw [World.size_alloc]; omega) ?_; intro v' w4 hown4 hgrow4 hv4; have HO4 := Lib.hid hown4; have HG4 := Lib.hid hgrow4; clear hown4 hgrow4 hv4; obtain ⟨p2, cap2, rfl⟩ := OL.len (l := []) (w := w4) (base := w1.heap.size) (v := v') HO4.out)
        have hf5 := Fr.of_grown HG4.out (S := [w1.heap.size]) (fun g hg => .inl (by simpa [Value.ownBlock] using hg.symm))
        exact HK.out _ _ (KEY.out _ _ _ _ rfl rfl rfl rfl HO4.out ((HF1.out.alloc _).trans hf5 (fun g hg => .inr (by have := HF1.out.size; simp at hg; omega))))
    have hlne : l ≠ [] := fun h => by rw [h] at hn; simp at hn; omega
    have hv1 := HV.out
    obtain ⟨p', cap', heq, hcap, hmax, hp⟩ := hv1
    obtain ⟨g, o, hpe, hg, hle⟩ := hp hlne
    injection heq with e1 e2 e3
    subst e1
    subst hpe
    clear e2 e3 hp
    have HNW := Lib.hid (fun (w' : World) (hf : Fr [] w w') => (show ∀ j u, (l.flatMap entL)[j]? = some u → w'.cell? ((⟨g, o, none⟩ : Addr).add j) = some u from fun j u hj => by
      have hj2 := (List.getElem?_eq_some_iff.1 hj).1
      rw [flat_length] at hj2
      have hi : j / 15 < l.length := by omega
      have hfl := flat_get l (j / 15) (j % 15) l[j / 15] (List.getElem?_eq_getElem hi) (by omega)
      rw [show j / 15 * 15 + j % 15 = j by omega] at hfl
      have := (hle.fr hf hg (by simp)) (j / 15) _ (List.getElem?_eq_getElem hi) (j % 15) u (by rw [← hfl]; exact hj)
      rw [Addr.add_lit]
      rw [show o + j / 15 * 15 + j % 15 = o + j by omega] at this
      exact this))
    have HON := Lib.hid (show ∀ u ∈ l.flatMap entL, u.oneCell' = true from fun u hu => by
      obtain ⟨e, -, he⟩ := List.mem_flatMap.1 hu
      exact ones_of e u he)
    clear hle
    go_wp2_with (at_builtin; refine wpList_append_own _ rfl _ _ 22 rfl w1.heap.size 38 i0 z0 15 152 Tryz.underlying22 HI0.out.1 HI0.out.2.1 HI0.out.2.2.1 HI0.out.2.2.2.1 HI0.out.2.2.2.2 (by decide) (.slice (some ⟨w1.heap.size, 0, none⟩) 0 0) 0 [] rfl H0.out ⟨g, o, none⟩ n _ (l.flatMap entL) rfl (by rw [flat_length, hn]) (HNW.out _ (HF1.out.alloc _)) HON.out (by unfold maxLen; omega) (by omega) (by rw [World.size_alloc]; omega) ?_; intro v' w4 hown4 hgrow4 hv4; have HO4 := Lib.hid hown4; have HG4 := Lib.hid hgrow4; clear hown4 hgrow4 hv4; have HOL := Lib.hid (show OL w4 w1.heap.size v' l from by unfold OL; rw [hn]; have := HO4.out; rw [Nat.zero_add, List.nil_append] at this; exact this); obtain ⟨g2, cap2, hsl, hge, hgl, hnc, hcm⟩ := HOL.out.row hlne; rw [hn] at hsl hnc; subst hsl)
    have hf5 := Fr.of_grown HG4.out (S := [w1.heap.size]) (fun g hg => .inl (by simpa [Value.ownBlock] using hg.symm))
    exact HK.out _ _ (KEY.out _ _ _ _ rfl rfl rfl rfl HOL.out ((HF1.out.alloc _).trans hf5 (fun g hg => .inr (by have := HF1.out.size; simp at hg; omega))))
end Go.Proofs.YtalgnjkdoaaacaaGreatDoor

/- impl.Content of a file with a data descriptor. -/
import Derived.Test.YtalgnjkdoaaacaaGreatDoorQqa
import Derived.Test.YtalgnjkdoaaacaaGreatDoorQfj
import Derived.Test.YtalgnjkdoaaacaaGreatDoorQec
import Derived.Test.YtalgnjkdoaaacaaGreatDoorQes
import Derived.Test.YtalgnjkdoaaacaaGreatDoorQyb
import Derived.Test.YtalgnjkdoaaacaaGreatDoorQfe
import Derived.Test.YtalgnjkdoaaacaaGreatDoorQff
set_option linter.unusedVariables false
set_option linter.unusedSimpArgs false
namespace Go.Proofs.YtalgnjkdoaaacaaGreatDoor
open Go Go.RowKit
open Zp
/-- The k-th file of an archive, with a data descriptor of 16 bytes. -/
structure FileD (s : ByteArray) (k : Nat) (e : Ent) : Prop where
  ex : ∃ (c : By) (D F : Nat) (PS : List Nat) (l : List Ent) (p P B : Nat), ArcT s c PS.length D F PS B ∧ PS[k]? = some p ∧ AtK s.data.toList l c e p P B ∧
    bodyAt s.data.toList (P + B) + e.data.length + 16 ≤ s.size ∧ num ((s.data.toList.drop (bodyAt s.data.toList (P + B) + e.data.length)).take 4) = 134695760 ∧ num ((s.data.toList.drop (bodyAt s.data.toList (P + B) + e.data.length + 4)).take 4) = crcOf 0 e.data ∧ bodyAt s.data.toList (P + B) + e.data.length ≤ 3000000000
  ok : HdOk e.h
set_option maxRecDepth 100000 in
set_option maxHeartbeats 4000000 in
theorem content_fileD (E : Errs) (B0 : Nat) (w : World) (s : ByteArray) (k : Nat) (e : Ent) (hW : WE E B0 w) (h : FileD s k e) (hns : slash ⟨e.h.name.toArray⟩ = false) (hm0 : e.h.method = 0) (hfl : e.h.flags / 8 % 2 = 1) (hpk : e.h.packed = e.data.length) (hsz : e.h.size = e.data.length) (hcr : e.h.crc = crcOf 0 e.data) :
    Calls Tryz.prog 27 #[.string s, .int .i64 (k : Int)] w fun x w' => x = .returned (.tuple #[.string ⟨e.data.toArray⟩, .int .i64 0]) ∧ Fr [] w w' := by
  obtain ⟨⟨c, D, F, PS, l, p, P, B, ha, hk, ⟨hcen, hl1, hl2, hl3, hl4, hl5⟩, ht1, ht2, ht3, ht4⟩, hok⟩ := h
  obtain ⟨o1, o2, o3, o4, o5, o6, ⟨o7, o8⟩, ⟨o9, o10⟩, ⟨o11, o12⟩, o13, o14, o15, o16⟩ := hok
  have hs := ha.size
  have hsl : s.data.toList.length = s.size := (Lib.size_eq s).symm
  have h18 := hW.h18
  have HF := Lib.hid (file_ok E B0 w s c PS.length D F PS k p B hW ha rfl hk)
  have HW := Lib.hid hW
  have HC := Lib.hid hcen
  have HL1 := Lib.hid hl1
  have HL2 := Lib.hid hl2
  have HL3 := Lib.hid hl3
  have HL4 := Lib.hid hl4
  have HL5 := Lib.hid hl5
  have HT1 := Lib.hid ht1
  have HT2 := Lib.hid ht2
  have HT3 := Lib.hid ht3
  have HT4 := Lib.hid ht4
  have hpn : e.h.packed.toNat = e.data.length := by omega
  have hszn : e.h.size.toNat = e.data.length := by omega
  have hcrn : e.h.crc.toNat = crcOf 0 e.data := by omega
  clear hW ha hk hcen hl1 hl2 hl3 hl4 hl5 ht1 ht2 ht3 ht4
  go_enter Tryz.func27, Tryz.ntmps27
  go_wp2_with fail
  refine HF.out.mono ?_
  rintro x w1 ⟨f, z, r, U, rfl, hfa, hr, ⟨v, cm, hz⟩, g1, g2, g3, hf1⟩
  have hFC := fc_of hfa HC.out hz
  have hW1 := HW.out.fr hf1 (by simp)
  have HO := Lib.hid (open_fileD E w1 f z r (P + B) _ _ _ _ _ _ s hW1.env hW1.h18 hFC hr hs (by have := HL1.out; omega) HL2.out (by show e.h.name.toArray.size ≤ _; simp; omega) hns (by omega) (by have := o3.1; omega) (by have := o3.2; omega) (by rw [hpn]; exact HT4.out))
  have HFC := Lib.hid hFC
  have HW1 := Lib.hid hW1
  have HR := Lib.hid hr
  have HF1 := Lib.hid hf1
  clear hfa hz hFC hW1 hr hf1
  go_wp2_with fail
  refine HO.out.mono ?_
  rintro x w2 hO
  rw [hpn] at hO
  obtain ⟨k', h', b', d', rfl, y1, y2, y3, y7, y4, y5, y6, y8, y9, y10, b1, b2, b3, b4, hf2⟩ := hO
  have lf := HFC.out.lf
  have lr := HR.out.lt
  have hz1 := HF1.out.size
  have hz0 := HW.out.eb.le
  have hW2 := HW1.out.fr hf2 (by simp)
  have c12' := (HFC.out.fr hf2 (by simp) (by simp)).c12
  have c16' := (HFC.out.fr hf2 (by simp) (by simp)).c16
  rw [hcrn] at c12'
  rw [hszn] at c16'
  have HA := Lib.hid (all_fileD E B0 w2 k' h' b' r f (bodyAt s.data.toList (P + B)) e.data.length d' (bodyAt s.data.toList (P + B) + e.data.length) s e.data hW2.env hW2.eb ⟨by omega, by omega, by omega, by omega⟩
    ⟨b1, b2, b3, Blk.fr HR.out hf2 (by simp), c12', c16', Nat.lt_of_lt_of_le lf hf2.size⟩ b4 ⟨y8, y9, by omega, by omega, y10⟩ HT1.out HT2.out HT3.out
    ⟨y4, y5, by omega, by omega, y6, by omega, by omega, by omega, by omega⟩ hs (by have := HT1.out; omega) (by omega) HL5.out)
  have HF2 := Lib.hid hf2
  clear b1 b2 b3 b4 hf2 hW2 c12' c16'
  go_wp2_with fail
  refine HA.out.mono ?_
  rintro x w3 ⟨rfl, hf3⟩
  have HF3 := Lib.hid hf3
  clear hf3
  go_wp2_with fail
  go_ret2
  exact ⟨rfl, ((HF1.out.trans HF2.out (by simp)).trans HF3.out (by simp; omega))⟩
end Go.Proofs.YtalgnjkdoaaacaaGreatDoor

/- A written file stands in its archive with its data descriptor. -/
namespace Go.Proofs.YtalgnjkdoaaacaaGreatDoor
open Go Go.RowKit
open Zp
theorem gfileD {l : List GEnt} {c : By} {k : Nat} {e : GEnt} (hall : ∀ e ∈ l, GOk e) (h1000 : l.length ≤ 1000) (hc : c.length ≤ 65535) (he : ends (garch l c) = 1) (hk : l[k]? = some e) (m : Nat) (ht : e.tail = ddB (crcOf 0 e.data) m m) : FileD (bs (garch l c)) k ⟨e.h, e.data⟩ := by
  have hK := gfileK hall h1000 hc he hk
  obtain ⟨h1, h2, h3, h4⟩ := gat (Z := endB l.length (gdir 0 l).length (gfiles l).length c) hall h1000 hk
  have hgs := garch_size hall h1000 hc
  refine ⟨⟨c, _, _, _, [], _, _, 0, garcT hall h1000 hc he, (gat (Z := []) hall h1000 hk).1, gatK hall h1000 hk, ?_⟩, hK.ok⟩
  have hsz : (bs (garch l c)).size = (gfiles l ++ (gdir 0 l ++ endB l.length (gdir 0 l).length (gfiles l).length c)).length := by
    rw [Lib.size_eq, bs_list, garch_eq]
  rw [hsz, bs_list, garch_eq]
  rw [garch_eq] at hgs
  generalize gfiles l ++ (gdir 0 l ++ endB l.length (gdir 0 l).length (gfiles l).length c) = S at *
  have hfit := h3.fits
  have hb : bodyAt S (gfiles (l.take k)).length = (gfiles (l.take k)).length + 30 + e.h.name.length + e.h.extra.length := by
    rw [bodyAt, h3.f26, h3.f28]; omega
  have htl : e.tail.length = 16 := by rw [ht]; simp [ddB, le_length]
  have htt := h3.tail
  rw [htl, ht] at htt
  simp only [Nat.add_zero]
  rw [hb]
  show _ + e.data.length + 16 ≤ _ ∧ _ ∧ _ ∧ _ + e.data.length ≤ _
  generalize (gfiles (l.take k)).length + 30 + e.h.name.length + e.h.extra.length + e.data.length = T at *
  have hcl := crcOf_lt 0 (by omega) e.data
  have e4 : (S.drop T).take 4 = le 4 134695760 := by
    have := congrArg (List.take 4) htt
    rw [List.take_take] at this
    exact this
  have e8 : (S.drop (T + 4)).take 4 = le 4 (crcOf 0 e.data) := by
    have := congrArg (fun x => (x.drop 4).take 4) htt
    simp only [List.drop_take, List.drop_drop, List.take_take] at this
    exact this
  refine ⟨by omega, ?_, ?_, by omega⟩
  · show num ((S.drop T).take 4) = _
    rw [e4]; exact num_le_of (by decide)
  · show num ((S.drop (T + 4)).take 4) = _
    rw [e8]; exact num_le_of (by omega)
end Go.Proofs.YtalgnjkdoaaacaaGreatDoor

/- impl.Content of what impl.Write wrote. -/
namespace Go.Proofs.YtalgnjkdoaaacaaGreatDoor
open Go Go.RowKit
open Zp
theorem contentW (E : Errs) (B0 : Nat) (w : World) {l : List Ent} {fls : List Nat} {c : By} {k : Nat} {e : Ent} (hW : WE E B0 w) (hWO : ∀ e ∈ l, WOk e) (hfl : FlOk l.length fls) (h1000 : l.length ≤ 1000) (hc : c.length ≤ 65535) (he : ends (garch (wList l fls) c) = 1) (hk : l[k]? = some e) :
    Calls Tryz.prog 27 #[.string (bs (garch (wList l fls) c)), .int .i64 (k : Int)] w fun x w' => x = .returned (.tuple #[.string (bs e.data), .int .i64 0]) ∧ Fr [] w w' := by
  obtain ⟨f, hf, hg⟩ := wList_get hfl hk
  have hall := wList_ok hWO hfl
  have hl1 : (wList l fls).length ≤ 1000 := by rw [wList_length hfl]; exact h1000
  have hWk := hWO e (List.mem_of_getElem? hk)
  cases hs : slash (bs e.h.name) with
  | true =>
    have hd := hWk.dr hs
    have hE : wEnt e f = ⟨wHd e f 0 0, wHd e f 0 0, [], []⟩ := if_pos hs
    rw [hE] at hg
    have h := content_dir E B0 w _ k _ hW (gfileK hall hl1 hc he hg) hs 0 (by rfl)
    rw [hd]
    exact h
  | false =>
    have hE : wEnt e f = ⟨wHd e (f + 8) (crcOf 0 e.data) e.data.length, wHd e (f + 8) 0 0, e.data, ddB (crcOf 0 e.data) e.data.length e.data.length⟩ := if_neg (by rw [hs]; decide)
    rw [hE] at hg
    have h := content_fileD E B0 w _ k ⟨wHd e (f + 8) (crcOf 0 e.data) e.data.length, e.data⟩ hW (gfileD hall hl1 hc he hg e.data.length rfl) hs rfl (by show ((f + 8 : Nat) : Int) / 8 % 2 = 1; rcases hf with rfl | rfl <;> rfl) rfl rfl rfl
    exact h
end Go.Proofs.YtalgnjkdoaaacaaGreatDoor

/- impl.Read of what impl.Write wrote. -/
namespace Go.Proofs.YtalgnjkdoaaacaaGreatDoor
open Go Go.RowKit
open Zp
/-- What Read tells of a written file. -/
def gEnt (g : GEnt) : Ent := ⟨g.h, g.data⟩
theorem readG (E : Errs) (B0 : Nat) (w : World) (l : List GEnt) (c : By) (hW : WE E B0 w) (hall : ∀ e ∈ l, GOk e) (h1000 : l.length ≤ 1000) (hc : c.length ≤ 65535) (he : ends (garch l c) = 1) :
    Calls Tryz.prog 13 #[.string (bs (garch l c))] w (ReadP w c (l.map gEnt)) := by
  have hT := garcT hall h1000 hc he
  have hpl := gplaces_length l (gfiles l).length 0
  refine readOkC E B0 w _ c _ _ _ _ _ hW hT (by rw [hpl, List.length_map]) ?_
  intro k e hk
  rw [List.getElem?_map] at hk
  obtain ⟨g, hg, rfl⟩ := Option.map_eq_some_iff.1 hk
  exact ⟨(hall g (List.mem_of_getElem? hg)).ok, _, _, (gat (Z := []) hall h1000 hg).1, (gatK hall h1000 hg).cen⟩
theorem wList_hd {l : List Ent} {fls : List Nat} (hWO : ∀ e ∈ l, WOk e) (hfl : FlOk l.length fls) {k : Nat} {e : Ent} (hk : l[k]? = some e) :
    ∃ g, ((wList l fls).map gEnt)[k]? = some (gEnt g) ∧ g.h.name = e.h.name ∧ g.h.comment = e.h.comment ∧ g.h.size = e.data.length := by
  obtain ⟨f, hf, hg⟩ := wList_get hfl hk
  obtain ⟨h1, h2, h3, h4⟩ := wEnt_data (hWO e (List.mem_of_getElem? hk)) f
  exact ⟨_, by rw [List.getElem?_map, hg]; rfl, h3, h4, h2⟩
end Go.Proofs.YtalgnjkdoaaacaaGreatDoor

/- FnWriteRead: what is written is read back. -/
namespace Go.Proofs.YtalgnjkdoaaacaaGreatDoor
open Go Go.RowKit
open Zp
noncomputable def wreFrom (n : Nat) : Code := ((Tryz.f9.body.bind (sufHead n))).getD .skip
set_option maxRecDepth 100000 in
theorem frame165 {a : Act} (hs : a.tmps.size = 165) (hd : a.defers = []) : a = ⟨#[slotOf a 0, slotOf a 1, slotOf a 2, slotOf a 3, slotOf a 4, slotOf a 5, slotOf a 6, slotOf a 7, slotOf a 8, slotOf a 9, slotOf a 10, slotOf a 11, slotOf a 12, slotOf a 13, slotOf a 14, slotOf a 15, slotOf a 16, slotOf a 17, slotOf a 18, slotOf a 19, slotOf a 20, slotOf a 21, slotOf a 22, slotOf a 23, slotOf a 24, slotOf a 25, slotOf a 26, slotOf a 27, slotOf a 28, slotOf a 29, slotOf a 30, slotOf a 31, slotOf a 32, slotOf a 33, slotOf a 34, slotOf a 35, slotOf a 36, slotOf a 37, slotOf a 38, slotOf a 39, slotOf a 40, slotOf a 41, slotOf a 42, slotOf a 43, slotOf a 44, slotOf a 45, slotOf a 46, slotOf a 47, slotOf a 48, slotOf a 49, slotOf a 50, slotOf a 51, slotOf a 52, slotOf a 53, slotOf a 54, slotOf a 55, slotOf a 56, slotOf a 57, slotOf a 58, slotOf a 59, slotOf a 60, slotOf a 61, slotOf a 62, slotOf a 63, slotOf a 64, slotOf a 65, slotOf a 66, slotOf a 67, slotOf a 68, slotOf a 69, slotOf a 70, slotOf a 71, slotOf a 72, slotOf a 73, slotOf a 74, slotOf a 75, slotOf a 76, slotOf a 77, slotOf a 78, slotOf a 79, slotOf a 80, slotOf a 81, slotOf a 82, slotOf a 83, slotOf a 84, slotOf a 85, slotOf a 86, slotOf a 87, slotOf a 88, slotOf a 89, slotOf a 90, slotOf a 91, slotOf a 92, slotOf a 93, slotOf a 94, slotOf a 95, slotOf a 96, slotOf a 97, slotOf a 98, slotOf a 99, slotOf a 100, slotOf a 101, slotOf a 102, slotOf a 103, slotOf a 104, slotOf a 105, slotOf a 106, slotOf a 107, slotOf a 108, slotOf a 109, slotOf a 110, slotOf a 111, slotOf a 112, slotOf a 113, slotOf a 114, slotOf a 115, slotOf a 116, slotOf a 117, slotOf a 118, slotOf a 119, slotOf a 120, slotOf a 121, slotOf a 122, slotOf a 123, slotOf a 124, slotOf a 125, slotOf a 126, slotOf a 127, slotOf a 128, slotOf a 129, slotOf a 130, slotOf a 131, slotOf a 132, slotOf a 133, slotOf a 134, slotOf a 135, slotOf a 136, slotOf a 137, slotOf a 138, slotOf a 139, slotOf a 140, slotOf a 141, slotOf a 142, slotOf a 143, slotOf a 144, slotOf a 145, slotOf a 146, slotOf a 147, slotOf a 148, slotOf a 149, slotOf a 150, slotOf a 151, slotOf a 152, slotOf a 153, slotOf a 154, slotOf a 155, slotOf a 156, slotOf a 157, slotOf a 158, slotOf a 159, slotOf a 160, slotOf a 161, slotOf a 162, slotOf a 163, slotOf a 164], []⟩ := frame_of hs hd
set_option maxRecDepth 100000 in
set_option maxHeartbeats 16000000 in
theorem wre9 (E : Errs) (B0 : Nat) (a : Act) (w : World) (l : List Ent) (c : By) (v : Value) (hs : a.tmps.size = 165) (hd : a.defers = []) (h0 : slotOf a 0 = v) (h1 : slotOf a 1 = .string (bs c))
    (hW : WE E B0 w) (hv : SV w v l) (hI : ∀ e ∈ l, EntI e) (hcc : c.length ≤ 2147483647) (hl31 : l.length ≤ 2147483647) (hK : ∀ e ∈ l, WGd e) :
    (wreFrom 9).wp Tryz.prog (RQ (LawR w)) a w := by
  have HV := Lib.hid hv
  have HW := Lib.hid hW
  have HI := Lib.hid hI
  have HK := Lib.hid hK
  have HDC := Lib.hid (dirsC l HI.out v w hv)
  obtain ⟨pv, cv, rfl⟩ : ∃ pv cv, v = .slice pv l.length cv := by obtain ⟨p, cap, h, -⟩ := hv; exact ⟨p, cap, h⟩
  obtain ⟨n, hn⟩ : ∃ n, l.length = n := ⟨_, rfl⟩
  have HN := Lib.hid hn
  rw [hn] at h0 HV HDC hl31
  rw [frame165 hs hd, h0, h1]
  clear hv hW hI hK hs hd h0 h1 hn
  conv => arg 2; whnf
  by_cases h1000 : n ≤ 1000
  case neg =>
    have i1 : 1000 < (n : Int) := by omega
    go_wp2_with fail
    exact ⟨rfl, rfl, Fr.refl _ _⟩
  have i1 : ¬ 1000 < (n : Int) := by omega
  by_cases hc6 : c.length ≤ 65535
  case neg =>
    have i2 : 65535 < (c.length : Int) := by omega
    go_wp2_with fail
    exact ⟨rfl, rfl, Fr.refl _ _⟩
  have i2 : ¬ 65535 < (c.length : Int) := by omega
  go_wp2_with fail
  refine HDC.out.mono ?_
  rintro x w3 ⟨b3, rfl, hb3, hf3⟩
  have HB3 := Lib.hid hb3
  have HF3 := Lib.hid hf3
  clear hb3 hf3
  cases b3 with
  | false =>
    go_wp2_with fail
    exact ⟨rfl, rfl, HF3.out⟩
  | true =>
  have HWO := Lib.hid (wok_of HK.out (HB3.out.1 (by first | rfl | trivial)))
  clear HB3
  have HWC := Lib.hid (writeC w3 l c _ (HV.out.fr HF3.out (by simp)) (HW.out.fr HF3.out (by simp)).ut (HW.out.fr HF3.out (by simp)).h18 (by have := HN.out; omega) hc6 HWO.out)
  go_wp2_with fail
  refine HWC.out.mono ?_
  rintro x w4 ⟨fls, hfl, rfl, hf4⟩
  have HFL := Lib.hid hfl
  have HF4 := Lib.hid (HF3.out.trans hf4 (by simp))
  have hGok := wList_ok HWO.out hfl
  have hGl := wList_length hfl
  have HGOK := Lib.hid hGok
  have hg1000 : (wList l fls).length ≤ 1000 := by rw [hGl, HN.out]; omega
  have hsz := garch_size hGok hg1000 hc6
  have HEN := Lib.hid (fun (w' : World) => endsC (bs (garch (wList l fls) c)) w' (by rw [bs_size]; omega))
  rw [bs_list] at HEN
  clear hfl hf4 hGok
  go_wp2_with fail
  refine (HEN.out _).mono ?_
  rintro x w5 ⟨rfl, hw5⟩
  rw [hw5]
  clear hw5 w5
  by_cases hen : ends (garch (wList l fls) c) = 1
  case neg =>
    have i3 : (ends (garch (wList l fls) c) : Int) ≠ 1 := by omega
    go_wp2_with fail
    exact ⟨rfl, rfl, HF4.out⟩
  have HENE := Lib.hid hen
  rw [hen]
  have HRG := Lib.hid (fun (w' : World) (hf : Fr [] w w') => readG E B0 w' (wList l fls) c (HW.out.fr hf (by simp)) HGOK.out hg1000 hc6 hen)
  have HCW := Lib.hid (fun (w' : World) (hf : Fr [] w w') (k : Nat) (e : Ent) (hk : l[k]? = some e) => contentW E B0 w' (k := k) (HW.out.fr hf (by simp)) HWO.out HFL.out (by rw [HN.out]; exact h1000) hc6 hen hk)
  have HHD := Lib.hid (fun (k : Nat) (e : Ent) (hk : l[k]? = some e) => wList_hd HWO.out HFL.out hk)
  have hml : (((wList l fls).map gEnt).map lh).length = n := by rw [List.length_map, List.length_map, hGl, HN.out]
  obtain ⟨X, hX⟩ : ∃ X, bs (garch (wList l fls) c) = X := ⟨_, rfl⟩
  rw [hX] at HRG HCW
  rw [hX]
  obtain ⟨M, hM⟩ : ∃ M, (wList l fls).map gEnt = M := ⟨_, rfl⟩
  rw [hM] at HRG HHD hml
  clear hen hX hM hsz hg1000 hGl HENE HEN
  go_wp2_with fail
  refine (HRG.out _ HF4.out).mono ?_
  rintro x w6 ⟨v6, rfl, hh6, hf6⟩
  obtain ⟨p6, c6, hv6⟩ := hh6.len
  subst hv6
  have HH6 := Lib.hid hh6
  have HF46 := Lib.hid hf6
  have HF6 := Lib.hid (HF4.out.trans hf6 (by simp))
  clear hf6 hh6
  rw [hml]
  go_wp2_with fail
  obtain ⟨w8, hw8⟩ : ∃ w8, w6.alloc (.cells #[.bool true, .string (bs c), .slice p6 n c6] 28) = w8 := ⟨_, rfl⟩
  have hf8 : Fr [] w6 w8 := by rw [← hw8]; exact (Fr.refl [] w6).alloc _
  rw [hw8]
  have HF8 := Lib.hid (HF6.out.trans hf8 (by simp))
  have HH8 := Lib.hid (HH6.out.fr hf8 (by simp))
  clear hw8 hf8
  go_loopw [108] (fun v108 wr => ∃ k : Nat, k ≤ n ∧ v108 = .int .i64 (k : Int) ∧ Fr [] w8 wr) (fun v108 _ => n - (intOf v108).toNat)
  case atStart => exact ⟨0, by omega, rfl, Fr.refl _ _⟩
  case round =>
    obtain ⟨k, hk, rfl, hf⟩ := hrel
    have HF := Lib.hid hf
    clear hf
    by_cases hlt : k < n
    · have hkl : k < l.length := by have := HN.out; omega
      obtain ⟨e, he⟩ : ∃ e, l[k] = e := ⟨_, rfl⟩
      have hle : l[k]? = some e := by rw [List.getElem?_eq_getElem hkl, he]
      have hem : e ∈ l := by rw [← he]; exact List.getElem_mem hkl
      have HRW := Lib.hid (fun (w' : World) (hf : Fr [] w8 w') => HCW.out w' (HF8.out.trans hf (by simp)) k e hle)
      obtain ⟨g, hmk, hg1, hg2, hg3⟩ := HHD.out k e hle
      have hne : M.map lh ≠ [] := fun h => by rw [h] at hml; simp at hml; omega
      obtain ⟨g6, cap6, hs6, -, hg6, -, -⟩ := HH8.out.row hne
      injection hs6 with q1 q2 q3
      subst q1
      clear q2 q3
      obtain ⟨px, cx, hpx, -, -, hpy⟩ := HV.out
      obtain ⟨gv, ov, hpe', hgv, hlev⟩ := hpy (fun h => by rw [h] at hkl; simp at hkl)
      injection hpx with q1 q2 q3
      have hpe := q1.trans hpe'
      clear q1 q2 q3 hpe' hpy
      subst hpe
      have hlm : (M.map lh)[k]? = some (lh (gEnt g)) := by rw [List.getElem?_map, hmk]; rfl
      have HR6 := Lib.hid (fun (w' : World) (hf : Fr [] w8 w') => rangeAt_fr (HH8.out.range hlm) hg6 hf)
      have HRV := Lib.hid (fun (w' : World) (hf : Fr [] w8 w') => (hlev.fr (HF8.out.trans hf (by simp)) hgv (by simp)) k e hle)
      have hr6 := HR6.out wr HF.out
      obtain ⟨a0, a1, a2, a3, a4, a5, a6, a7, a8, a9, a10, a11, a12, a13⟩ := cellsH hr6
      have i3 : (k : Int) < (n : Int) := by omega
      clear he hle hem hne hlm hlev hr6
      go_wp2_with fail
      clear a0 a1 a2 a3 a4 a5 a6 a7 a8 a9 a10 a11 a12 a13
      have hE := Blk.new wr 36 (hdL (lh (gEnt g))).toArray
      have hfA : Fr [] w8 (wr.alloc (.cells (hdL (lh (gEnt g))).toArray 36)) := HF.out.alloc _
      refine (HRW.out _ hfA).mono ?_
      rintro x w9 ⟨rfl, hf9⟩
      have HF9 := Lib.hid (hfA.trans hf9 (by simp))
      have hE9 := hE.fr hf9 (by simp)
      obtain ⟨c0, c1, c2, c3, c4, c5, c6', c7, c8, c9, c10, c11, c12, c13, c14⟩ := cellsE (HRV.out w9 HF9.out)
      have b0 : w9.cell? ⟨wr.heap.size, 0, none⟩ = some (.string (bs e.h.name)) := hE9.at_ 0 _ (by rw [← hg1]; rfl)
      have b1 : w9.cell? ⟨wr.heap.size, 1, none⟩ = some (.string (bs e.h.comment)) := hE9.at_ 1 _ (by rw [← hg2]; rfl)
      have b12 : w9.cell? ⟨wr.heap.size, 12, none⟩ = some (.int .i64 (e.data.length : Int)) := hE9.at_ 12 _ (by rw [← hg3]; rfl)
      have hdz := bs_size e.data
      have hn9 : (n : Int) ≤ 9223372036854775807 := by omega
      have hk9 : (0 : Int) ≤ (k : Int) := by omega
      have z1 : ((e.data.length : Int) != (e.data.length : Int)) = false := by simp
      clear hE hfA hf9 hE9
      go_upto_region 21 with fail
      go_quiet (fail)
      go_wp2_with fail
      exact ⟨⟨k + 1, by omega, by rw [Int.natCast_add]; rfl, HF9.out.drewN _⟩, by simp [intOf]; omega⟩
    · obtain rfl : k = n := by omega
      have i3 : ¬ (k : Int) < (k : Int) := by omega
      have HWR2 := Lib.hid (writesC wr (HW.out.fr (HF8.out.trans HF.out (by simp)) (by simp)).ut (HW.out.fr (HF8.out.trans HF.out (by simp)) (by simp)).h18)
      go_wp2_with fail
      refine HWR2.out.mono ?_
      rintro x w11 ⟨rfl, hf11⟩
      have HF11 := Lib.hid ((HF8.out.trans HF.out (by simp)).trans hf11 (by simp))
      clear hf11
      go_wp2_with fail
      exact ⟨rfl, rfl, HF11.out⟩
end Go.Proofs.YtalgnjkdoaaacaaGreatDoor

/- FnWriteRead: the law. -/
namespace Go.Proofs.YtalgnjkdoaaacaaGreatDoor
open Go Go.RowKit
open Zp
set_option maxRecDepth 100000 in
set_option maxHeartbeats 16000000 in
theorem wreLaw (E : Errs) (B0 : Nat) (w : World) (l : List Ent) (c : By) (v : Value) (hW : WE E B0 w) (hv : SV w v l) (hM : ∀ e ∈ l, EntM e ∧ HdM e.h) (hc : c.length ≤ 9223372036854775807) :
    Calls Tryz.prog 9 #[v, .string (bs c)] w fun x w' => x = .returned (.bool true) ∧ Fr [] w w' := by
  have HFIT := Lib.hid (fits1C l (fun e he => (hM e he).1) v w hv)
  have HV := Lib.hid hv
  have HW := Lib.hid hW
  have HMM := Lib.hid hM
  clear hW hM
  obtain ⟨p, cap, rfl, hlc, hcm, hp⟩ := hv
  have HP := Lib.hid hp
  clear hp
  obtain ⟨n, hn⟩ : ∃ n, l.length = n := ⟨_, rfl⟩
  have HN := Lib.hid hn
  rw [hn] at HFIT HV hlc ⊢
  clear hn
  go_enter Tryz.func9, Tryz.ntmps9
  go_wp2_with fail
  refine HFIT.out.mono ?_
  rintro x w1 ⟨b, rfl, hb, hf1⟩
  have HB := Lib.hid hb
  have HF1 := Lib.hid hf1
  clear hb hf1
  cases b with
  | false =>
    go_wp2_with fail
    go_ret
    exact ⟨rfl, HF1.out⟩
  | true =>
    by_cases hcc : c.length ≤ 2147483647
    case neg =>
      have i1 : 2147483647 < (c.length : Int) := by omega
      go_wp2_with fail
      go_ret
      exact ⟨rfl, HF1.out⟩
    have i1 : ¬ 2147483647 < (c.length : Int) := by omega
    have hfit := HB.out.1 (by first | rfl | trivial)
    have HI := Lib.hid (fun e (he : e ∈ l) => (HMM.out e he).2.i (hfit.2 e he))
    have hl31 := hfit.1
    rw [HN.out] at hl31
    clear hfit
    have FIN : ∀ a' w', LawR w a' w' → bodyPost Tryz.prog Tryz.f9 (fun x w' => x = .returned (.bool true) ∧ Fr [] w w') .ret a' w' := by
      rintro a' w' ⟨q1, q2, q3⟩
      refine bodyPost_ret (v := .bool true) ?_ q1 ⟨rfl, q3⟩
      rw [results_tmp rfl]
      show Result.ok (slotOf a' 4) w' = _
      rw [q2]
    have HFIN := Lib.hid FIN
    clear FIN
    go_upto_block 0 with fail
    rename_i K hK
    have HK := Lib.hid (fun a w1 (h : (wreFrom 9).wp Tryz.prog _ a w1) => hK a w1 (wp_rq (wp_code (c := wreFrom 9) (by kernel_rfl) h) HFIN.out))
    clear hK
    refine wp_block ?_
    go_loopw [24] (fun vk wr => ∃ k : Nat, k ≤ n ∧ vk = .int .i64 (k : Int) ∧ (∀ e ∈ l.take k, WGd e) ∧ Fr [] w wr) (fun vk _ => n - (intOf vk).toNat)
    case atStart => exact ⟨0, by omega, rfl, by simp, HF1.out⟩
    case round =>
      obtain ⟨k, hk, rfl, hall, hf⟩ := hrel
      have HF := Lib.hid hf
      have HALL := Lib.hid hall
      clear hf hall
      by_cases hlt : k < n
      · have hkl : k < l.length := by rw [HN.out]; exact hlt
        obtain ⟨e, he⟩ : ∃ e, l[k] = e := ⟨_, rfl⟩
        have hle : l[k]? = some e := by rw [List.getElem?_eq_getElem hkl, he]
        obtain ⟨g, o, rfl, hg, hles⟩ := HP.out (fun h => by rw [h] at hkl; simp at hkl)
        obtain ⟨c0, c1, c2, c3, c4, c5, c6, c7, c8, c9, c10, c11, c12, c13, c14⟩ := cellsE ((hles.fr HF.out hg (by simp)) k e hle)
        have i2 : (k : Int) < (n : Int) := by omega
        have s1 := bs_size e.h.name
        have s2 := bs_size e.h.comment
        have s3 := bs_size e.data
        clear hles he
        by_cases h1 : e.h.name.length ≤ 60000
        case neg =>
          have i3 : 60000 < (e.h.name.length : Int) := by omega
          go_wp2_with fail
          exact HFIN.out _ _ ⟨rfl, rfl, HF.out.alloc _⟩
        have i3 : ¬ 60000 < (e.h.name.length : Int) := by omega
        by_cases h2 : e.h.comment.length ≤ 60000
        case neg =>
          have i4 : 60000 < (e.h.comment.length : Int) := by omega
          go_wp2_with fail
          exact HFIN.out _ _ ⟨rfl, rfl, HF.out.alloc _⟩
        have i4 : ¬ 60000 < (e.h.comment.length : Int) := by omega
        by_cases h3 : e.data.length ≤ 1048576
        case neg =>
          have i5 : 1048576 < (e.data.length : Int) := by omega
          go_wp2_with fail
          exact HFIN.out _ _ ⟨rfl, rfl, HF.out.alloc _⟩
        have i5 : ¬ 1048576 < (e.data.length : Int) := by omega
        by_cases h4 : 0 ≤ e.h.ext
        case neg =>
          have i6 : e.h.ext < 0 := by omega
          go_wp2_with fail
          exact HFIN.out _ _ ⟨rfl, rfl, HF.out.alloc _⟩
        have i6 : ¬ e.h.ext < 0 := by omega
        by_cases h5 : e.h.ext ≤ 4294967295
        case neg =>
          have i7 : 4294967295 < e.h.ext := by omega
          go_wp2_with fail
          exact HFIN.out _ _ ⟨rfl, rfl, HF.out.alloc _⟩
        have i7 : ¬ 4294967295 < e.h.ext := by omega
        go_wp2_with fail
        refine ⟨⟨k + 1, by omega, by rw [Int.natCast_add]; rfl, ?_, HF.out.alloc _⟩, by simp [intOf]; omega⟩
        intro y hy
        rw [List.take_add_one, hle] at hy
        rcases List.mem_append.1 hy with h | h
        · exact HALL.out y h
        · have : y = e := by simpa using h
          rw [this]; exact ⟨h1, h2, h3, h4, h5⟩
      · obtain rfl : k = n := by omega
        have i2 : ¬ (k : Int) < (k : Int) := by omega
        have hKK : ∀ e ∈ l, WGd e := by
          have := HALL.out
          rw [List.take_of_length_le (by rw [HN.out]; omega)] at this
          exact this
        have HKK := Lib.hid hKK
        clear hKK
        go_wp2_with fail
        refine HK.out _ _ (wp_rq (wre9 E B0 _ wr l c (.slice p k cap) rfl rfl rfl rfl (HW.out.fr HF.out (by simp)) (HV.out.fr HF.out (by simp)) HI.out hcc (by rw [HN.out]; exact hl31) HKK.out) ?_)
        rintro a' w' ⟨q1, q2, q3⟩
        exact ⟨q1, q2, HF.out.trans q3 (by simp)⟩
end Go.Proofs.YtalgnjkdoaaacaaGreatDoor

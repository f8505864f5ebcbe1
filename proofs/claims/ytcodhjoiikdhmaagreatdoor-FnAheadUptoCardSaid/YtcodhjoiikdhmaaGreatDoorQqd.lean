/- impl.file. -/
import Derived.Test.YtcodhjoiikdhmaaGreatDoorQqa
import Derived.Test.YtcodhjoiikdhmaaGreatDoorQap
set_option linter.unusedVariables false
set_option linter.unusedSimpArgs false
namespace Go.Proofs.YtcodhjoiikdhmaaGreatDoor
open Go Go.RowKit
open Zp
/-- What all calls stand on. -/
structure WE (E : Errs) (B0 : Nat) (w : World) : Prop where
  env : Env E w
  ut : UT w
  eb : EB E B0 w
theorem WE.h18 {E : Errs} {B0 : Nat} {w : World} (h : WE E B0 w) : 11 ≤ w.heap.size := Nat.le_trans h.eb.b18 h.eb.le
theorem WE.fr {E : Errs} {B0 : Nat} {w w' : World} {S : List Nat} (h : WE E B0 w) (hf : Fr S w w') (hS : ∀ s ∈ S, B0 ≤ s) : WE E B0 w' :=
  ⟨h.env.fr hf (fun s hs => Nat.le_trans h.eb.b18 (hS s hs)) h.h18, h.ut.fr hf (fun s hs => Nat.le_trans h.eb.b18 (hS s hs)) h.h18, h.eb.fr hf hS⟩
/-- A text whose end has been found. -/
structure ArcT (s : ByteArray) (c : By) (many D F : Nat) (PS : List Nat) (B : Nat) : Prop where
  ex : ∃ (A Z : By) (qe : Nat), s.data.toList = A ++ (endB many D F c ++ Z) ∧ A.length = B + D + F ∧ Z.length ≤ 1000 ∧ Chain s.data.toList (B + F) PS qe ∧ EndAt s.data.toList qe
  size : s.size ≤ 4000000000
  ends : ends s.data.toList = 1
  com : c.length ≤ 65535
  many : many ≤ 65534
  len : PS.length ≤ 65535
  base : B = 0 ∨ EndAt s.data.toList F
theorem nr_t (E : Errs) (B0 : Nat) (w : World) (r : Nat) (s : ByteArray) (c : By) (many D F : Nat) (PS : List Nat) (B : Nat) (hW : WE E B0 w) (h : ArcT s c many D F PS B) (hrr : B0 ≤ r) (hr : StrR w r s) :
    Calls Tryz.prog 40 #[strRd r, .int .i64 (s.size : Int)] w (NRp E w r s ⟨c.toArray⟩ 0 0 (many : Int) (c.length : Int) many D F PS B) := by
  obtain ⟨A, Z, qe, h1, h2, h3, h4, h5⟩ := h.ex
  exact nr_gen E B0 w r s A c Z many D F PS qe B hW.env hW.ut hW.eb hrr hr h.size h1 h2 h.base h.ends h.com h3 h.many h4 h5 h.len
set_option maxRecDepth 100000 in
theorem newStr (w : World) (s : ByteArray) : Calls Tryz.prog 41 #[.string s] w fun e w' => e = .returned (.pointer (some ⟨w.heap.size, 0, none⟩)) ∧ StrR w' w.heap.size s ∧ Fr [] w w' := by
  go_enter Tryz.func41, Tryz.ntmps41
  go_wp2_with fail
  go_ret
  exact ⟨rfl, Blk.new _ _ _, (Fr.refl _ _).alloc _⟩
theorem own_cell {w : World} {base : Nat} {e : TypeId} {v u : Value} {n k : Nat} {xs : List Value} (h : w.ownsRow base e 1 v n xs) (hk : xs[k]? = some u) :
    ∃ g cap, v = .slice (some ⟨g, 0, none⟩) n cap ∧ base ≤ g ∧ w.cell? ⟨g, k, none⟩ = some u ∧ n ≤ cap ∧ cap ≤ maxLen := by
  have hlt : k < xs.length := (List.getElem?_eq_some_iff.1 hk).1
  rcases h.2 with ⟨_, h0⟩ | ⟨g, cap, cur, rfl, h1, h2, h3, h4, h5, h6⟩
  · have := h.1
    omega
  · refine ⟨g, cap, rfl, h1, ?_, h3, h4⟩
    have := h.cells (g := g) rfl k u hk
    rwa [Addr.add_lit, Nat.zero_add] at this
set_option maxRecDepth 100000 in
set_option maxHeartbeats 4000000 in
theorem file_ok (E : Errs) (B0 : Nat) (w : World) (s : ByteArray) (c : By) (many D F : Nat) (PS : List Nat) (k p B : Nat) (hW : WE E B0 w) (h : ArcT s c many D F PS B) (hm : PS.length = many) (hk : PS[k]? = some p) :
    Calls Tryz.prog 35 #[.string s, .int .i64 (k : Int)] w fun e w' => ∃ f z r U, e = .returned (.tuple #[.pointer (some ⟨f, 0, none⟩), .int .i64 0]) ∧ FileAt s.data.toList U z r f p B w' ∧ StrR w' r s ∧ (∃ v cm, Blk w' z 78 (rdC r v cm B)) ∧ w.heap.size ≤ r ∧ w.heap.size ≤ z ∧ w.heap.size ≤ U ∧ Fr [] w w' := by
  have hs := h.size
  have hk1 : k < many := by rw [← hm]; exact (List.getElem?_eq_some_iff.1 hk).1
  have hm4 := h.many
  have HW := Lib.hid hW
  have HH := Lib.hid h
  have HK := Lib.hid hk
  have HM := Lib.hid hm
  clear hW h hk hm
  go_enter Tryz.func35, Tryz.ntmps35
  go_wp2_with fail
  refine (newStr w s).mono ?_
  rintro e w1 ⟨rfl, hr1, hf1⟩
  have HN := Lib.hid (nr_t E B0 w1 w.heap.size s c many D F PS B (HW.out.fr hf1 (by simp)) HH.out HW.out.eb.le hr1)
  have HR1 := Lib.hid hr1
  have HF1 := Lib.hid hf1
  clear hr1 hf1
  go_wp2_with fail
  refine HN.out.mono ?_
  rintro e w2 ⟨xe, U, d, q, gb, b, fs, pos', hxe, rfl, hI⟩
  rw [if_pos HM.out]
  obtain ⟨v, hrd, hown⟩ := hI.rd
  have hlr := HR1.out.lt
  have hlen := hI.len
  have hlen2 := HM.out
  have hkf : k < fs.length := by omega
  have hfk : fs[k]? = some fs[k] := List.getElem?_eq_getElem _
  have hfile := hI.files k _ p hfk HK.out
  obtain ⟨g, cap, rfl, hge, hcell, hnc, hcm⟩ := own_cell hown (k := k) (u := .pointer (some ⟨fs[k], 0, none⟩)) (by rw [fptrs, List.getElem?_map, hfk]; rfl)
  have c1 := hrd.at_ 1 _ rfl
  have hnew := hI.new
  rw [World.size_alloc] at hnew
  have HRD := Lib.hid hrd
  have HFI := Lib.hid hfile
  have HF2 := Lib.hid ((HF1.out.alloc (.cells rd0 78)).trans hI.fr (by have := HF1.out.size; simp; omega))
  have HR2 := Lib.hid (Blk.fr (Blk.alloc HR1.out (.cells rd0 78)) hI.fr (by simp; omega))
  have hzz := HF1.out.size
  have hki : (k : Int) < (fs.length : Int) := by omega
  have hki0 : ¬ ((fs.length : Int) ≤ (k : Int)) := by omega
  generalize fs[k] = f at *
  clear hI hrd hown hfile hfk HN HR1
  go_wp2_with fail
  go_ret2
  exact ⟨f, w1.heap.size, w.heap.size, U, rfl, HFI.out, HR2.out, ⟨_, _, HRD.out⟩, Nat.le_refl _, hzz, by omega, HF2.out⟩
end Go.Proofs.YtcodhjoiikdhmaaGreatDoor

/- impl.Content. -/
namespace Go.Proofs.YtcodhjoiikdhmaaGreatDoor
open Go Go.RowKit
open Zp
theorem fc_of {s : ByteArray} {U z r f p P B : Nat} {w : World} {h : Hd} {v : Value} {cm : ByteArray} (hF : FileAt s.data.toList U z r f p B w) (hc : CentralAt s.data.toList p h P) (hz : Blk w z 78 (rdC r v cm B)) :
    FC w f z r (P + B) ⟨h.name.toArray⟩ h.flags.toNat h.method.toNat h.packed.toNat h.size.toNat h.crc.toNat := by
  obtain ⟨v1, q1, v2, q2, ad, db, m0, m1, mp, _, _, hb, _⟩ := hF
  have c0 := hb.at_ 0 _ rfl
  have c5 := hb.at_ 5 _ rfl
  have c6 := hb.at_ 6 _ rfl
  have c12 := hb.at_ 12 _ rfl
  have c15 := hb.at_ 15 _ rfl
  have c16 := hb.at_ 16 _ rfl
  have c19 := hb.at_ 19 _ rfl
  have c20 := hb.at_ 20 _ rfl
  have c21 := hb.at_ 21 _ rfl
  rw [hc.f28, hc.nm] at c0
  rw [hc.f8] at c5
  rw [hc.f10] at c6
  rw [hc.f16] at c12
  rw [hc.f20] at c15
  rw [hc.f24] at c16
  rw [hc.f42, ← Int.natCast_add] at c21
  exact ⟨c0, c5, c6, c12, c15, c16, c19, c20, c21, hz.at_ 3 _ rfl, hb.lt, hz.lt⟩
def endN (pk sz cd crc : Nat) : Int := if pk ≠ sz then 4 else if crc ≠ 0 ∧ cd ≠ crc then 3 else 0
theorem faultN_end {E : Errs} {B0 : Nat} {w : World} (h : EB E B0 w) (pk sz cd crc : Nat) : faultN E (endErr E pk sz cd crc) = endN pk sz cd crc := by
  obtain ⟨h1, h2, h3, h4, h5, h6, h7, h8, h9, h10, h11, h12, h13, h14⟩ := h.ne
  unfold faultN endErr endN
  by_cases a : pk ≠ sz
  · simp [a, h1, h7, h8, h12]
  · by_cases b : crc ≠ 0 ∧ cd ≠ crc
    · rw [if_neg a, if_pos b, if_neg a, if_pos b]
      simp [h5, h6, h13]
    · rw [if_neg a, if_neg b, if_neg a, if_neg b]
      simp
/-- The k-th file of an archive. -/
structure FileK (s : ByteArray) (k : Nat) (e : Ent) : Prop where
  ex : ∃ (c : By) (D F : Nat) (PS : List Nat) (l : List Ent) (p P B : Nat), ArcT s c PS.length D F PS B ∧ PS[k]? = some p ∧ AtK s.data.toList l c e p P B
  ok : HdOk e.h
set_option maxRecDepth 100000 in
set_option maxHeartbeats 4000000 in
theorem content_file (E : Errs) (B0 : Nat) (w : World) (s : ByteArray) (k : Nat) (e : Ent) (hW : WE E B0 w) (h : FileK s k e) (hns : slash ⟨e.h.name.toArray⟩ = false) (hm0 : e.h.method = 0) (hfl : e.h.flags / 8 % 2 = 0) (hpk : e.h.packed = e.data.length) (hsz : e.h.packed ≤ e.h.size) :
    Calls Tryz.prog 20 #[.string s, .int .i64 (k : Int)] w fun x w' => x = .returned (.tuple #[.string ⟨e.data.toArray⟩, .int .i64 (endN e.data.length e.h.size.toNat (crcOf 0 e.data) e.h.crc.toNat)]) ∧ Fr [] w w' := by
  obtain ⟨⟨c, D, F, PS, l, p, P, B, ha, hk, hcen, hl1, hl2, hl3, hl4, hl5⟩, hok⟩ := h
  obtain ⟨o1, o2, o3, o4, o5, o6, ⟨o7, o8⟩, ⟨o9, o10⟩, ⟨o11, o12⟩, o13, o14, o15, o16⟩ := hok
  have hs := ha.size
  have hsl : s.data.toList.length = s.size := (Lib.size_eq s).symm
  have h18 := hW.h18
  have HF := Lib.hid (file_ok E B0 w s c PS.length D F PS k p B hW ha rfl hk)
  have HW := Lib.hid hW
  have HC := Lib.hid hcen
  have HL1 := Lib.hid hl1
  have HL2 := Lib.hid hl2
  have HL3 := Lib.hid hl3
  have HL4 := Lib.hid hl4
  have HL5 := Lib.hid hl5
  clear hW ha hk hcen hl1 hl2 hl3 hl4 hl5
  go_enter Tryz.func20, Tryz.ntmps20
  go_wp2_with fail
  refine HF.out.mono ?_
  rintro x w1 ⟨f, z, r, U, rfl, hfa, hr, ⟨v, cm, hz⟩, g1, g2, g3, hf1⟩
  have hFC := fc_of hfa HC.out hz
  have hW1 := HW.out.fr hf1 (by simp)
  have HO := Lib.hid (open_file E w1 f z r (P + B) _ _ _ _ _ _ s hW1.env hW1.h18 hFC hr hs (by have := HL1.out; omega) HL2.out (by show e.h.name.toArray.size ≤ _; simp; omega) hns (by have := o4.2; omega) (.inr (by omega)) (by have := o3.2; omega) (by have := HL4.out; have := HL3.out; omega))
  have HFC := Lib.hid hFC
  have HW1 := Lib.hid hW1
  have HR := Lib.hid hr
  have HF1 := Lib.hid hf1
  clear hfa hz hFC hW1 hr hf1
  go_wp2_with fail
  refine HO.out.mono ?_
  rintro x w2 hO
  rw [OpenP, if_pos (show e.h.method.toNat = 0 by omega)] at hO
  obtain ⟨k', h', b', rfl, y1, y2, y3, y4, y5, y6, b1, b2, b3, hf2⟩ := hO
  have lf := HFC.out.lf
  have lr := HR.out.lt
  have hz1 := HF1.out.size
  have hz0 := HW.out.eb.le
  have hW2 := HW1.out.fr hf2 (by simp)
  have HA := Lib.hid (all_file E B0 w2 k' h' b' r f (bodyAt s.data.toList (P + B)) e.h.packed.toNat s e.h.size.toNat e.h.crc.toNat hW2.env hW2.eb ⟨by omega, by omega, by omega⟩
    ⟨b1, b2, b3, Blk.fr HR.out hf2 (by simp), (HFC.out.fr hf2 (by simp) (by simp)).c12, (HFC.out.fr hf2 (by simp) (by simp)).c16, Nat.lt_of_lt_of_le lf hf2.size⟩
    ⟨y4, y5, by omega, by omega, y6, by omega, by omega, by omega, by omega⟩ hs (by have := HL4.out; have := HL3.out; omega) (by omega) (by omega) (by omega) e.data (by rw [show e.h.packed.toNat = e.data.length by omega]; exact HL5.out))
  have HF2 := Lib.hid hf2
  have HN := Lib.hid (faultN_end hW2.eb e.h.packed.toNat e.h.size.toNat (crcOf 0 e.data) e.h.crc.toNat)
  clear b1 b2 b3 hf2 hW2
  go_wp2_with fail
  refine HA.out.mono ?_
  rintro x w3 ⟨rfl, hf3⟩
  rw [HN.out, show e.h.packed.toNat = e.data.length by omega]
  have HF3 := Lib.hid hf3
  clear hf3
  go_wp2_with fail
  go_ret2
  exact ⟨rfl, ((HF1.out.trans HF2.out (by simp)).trans HF3.out (by simp; omega))⟩
set_option maxRecDepth 100000 in
set_option maxHeartbeats 4000000 in
theorem content_alg (E : Errs) (B0 : Nat) (w : World) (s : ByteArray) (k : Nat) (e : Ent) (hW : WE E B0 w) (h : FileK s k e) (hns : slash ⟨e.h.name.toArray⟩ = false) (hm0 : e.h.method ≠ 0) (hpk : e.h.packed = e.data.length) :
    Calls Tryz.prog 20 #[.string s, .int .i64 (k : Int)] w fun x w' => x = .returned (.tuple #[.string ⟨#[]⟩, .int .i64 2]) ∧ Fr [] w w' := by
  obtain ⟨⟨c, D, F, PS, l, p, P, B, ha, hk, hcen, hl1, hl2, hl3, hl4, hl5⟩, hok⟩ := h
  obtain ⟨o1, o2, o3, o4, o5, o6, ⟨o7, o8⟩, ⟨o9, o10⟩, ⟨o11, o12⟩, o13, o14, o15, o16⟩ := hok
  have o40 := o4.1
  have hs := ha.size
  have hsl : s.data.toList.length = s.size := (Lib.size_eq s).symm
  have h18 := hW.h18
  have HF := Lib.hid (file_ok E B0 w s c PS.length D F PS k p B hW ha rfl hk)
  have HW := Lib.hid hW
  have HC := Lib.hid hcen
  have HL1 := Lib.hid hl1
  have HL2 := Lib.hid hl2
  have HL3 := Lib.hid hl3
  have HL4 := Lib.hid hl4
  clear hW ha hk hcen hl1 hl2 hl3 hl4 hl5
  go_enter Tryz.func20, Tryz.ntmps20
  go_wp2_with fail
  refine HF.out.mono ?_
  rintro x w1 ⟨f, z, r, U, rfl, hfa, hr, ⟨v, cm, hz⟩, g1, g2, g3, hf1⟩
  have hFC := fc_of hfa HC.out hz
  have hW1 := HW.out.fr hf1 (by simp)
  have HO := Lib.hid (open_file E w1 f z r (P + B) _ _ _ _ _ _ s hW1.env hW1.h18 hFC hr hs (by have := HL1.out; omega) HL2.out (by show e.h.name.toArray.size ≤ _; simp; omega) hns (by have := o4.2; omega) (.inl (by omega)) (by have := o3.2; omega) (by have := HL4.out; have := HL3.out; omega))
  have HW1 := Lib.hid hW1
  have HF1 := Lib.hid hf1
  clear hfa hz hFC hW1 hr hf1
  go_wp2_with fail
  refine HO.out.mono ?_
  rintro x w2 hO
  rw [OpenP, if_neg (show ¬ e.h.method.toNat = 0 by omega)] at hO
  obtain ⟨rfl, hf2⟩ := hO
  have hW2 := HW1.out.fr hf2 (by simp)
  have HA := Lib.hid (faultOf_alg E B0 w2 hW2.env hW2.eb)
  have HF2 := Lib.hid hf2
  clear hf2 hW2
  go_wp2_with fail
  refine HA.out.mono ?_
  rintro x w3 ⟨rfl, rfl⟩
  go_wp2_with fail
  go_ret2
  exact ⟨rfl, HF1.out.trans HF2.out (by simp)⟩
set_option maxRecDepth 100000 in
set_option maxHeartbeats 4000000 in
theorem content_dir (E : Errs) (B0 : Nat) (w : World) (s : ByteArray) (k : Nat) (e : Ent) (hW : WE E B0 w) (h : FileK s k e) (hns : slash ⟨e.h.name.toArray⟩ = true) (n : Int) (hn : n = if e.h.size = 0 then 0 else 1) :
    Calls Tryz.prog 20 #[.string s, .int .i64 (k : Int)] w fun x w' => x = .returned (.tuple #[.string ⟨#[]⟩, .int .i64 n]) ∧ Fr [] w w' := by
  have HNN := Lib.hid hn
  clear hn
  obtain ⟨⟨c, D, F, PS, l, p, P, B, ha, hk, hcen, hl1, hl2, hl3, hl4, hl5⟩, hok⟩ := h
  obtain ⟨o1, o2, o3, o4, o5, o6, ⟨o7, o8⟩, ⟨o9, o10⟩, ⟨o11, o12⟩, o13, o14, o15, o16⟩ := hok
  have hs := ha.size
  have hsl : s.data.toList.length = s.size := (Lib.size_eq s).symm
  have h18 := hW.h18
  have HF := Lib.hid (file_ok E B0 w s c PS.length D F PS k p B hW ha rfl hk)
  have HW := Lib.hid hW
  have HC := Lib.hid hcen
  have HL1 := Lib.hid hl1
  have HL2 := Lib.hid hl2
  clear hW ha hk hcen hl1 hl2 hl3 hl4 hl5
  go_enter Tryz.func20, Tryz.ntmps20
  go_wp2_with fail
  refine HF.out.mono ?_
  rintro x w1 ⟨f, z, r, U, rfl, hfa, hr, ⟨v, cm, hz⟩, g1, g2, g3, hf1⟩
  have hFC := fc_of hfa HC.out hz
  have hW1 := HW.out.fr hf1 (by simp)
  have HO := Lib.hid (open_dir E w1 f z r (P + B) _ _ _ _ _ _ s hW1.env hW1.h18 hFC hr hs (by have := HL1.out; omega) HL2.out (by show e.h.name.toArray.size ≤ _; simp; omega) hns (by omega))
  have HW1 := Lib.hid hW1
  have HF1 := Lib.hid hf1
  clear hfa hz hFC hW1 hr hf1
  go_wp2_with fail
  refine HO.out.mono ?_
  rintro x w2 ⟨d, rfl, y1, b1, hf2⟩
  have hW2 := HW1.out.fr hf2 (by simp)
  have HA := Lib.hid (all_dir E B0 w2 d (e.h.size.toNat = 0) hW2.env hW2.eb b1)
  have HF2 := Lib.hid hf2
  clear hf2 hW2 b1
  go_wp2_with fail
  refine HA.out.mono ?_
  rintro x w3 ⟨rfl, hf3⟩
  have hq : (if e.h.size.toNat = 0 then (0 : Int) else 1) = n := by
    rw [HNN.out]
    by_cases q : e.h.size = 0
    · rw [if_pos q, if_pos (by omega)]
    · rw [if_neg q, if_neg (by omega)]
  rw [hq]
  have HF3 := Lib.hid hf3
  clear hf3 hq
  go_wp2_with fail
  go_ret2
  exact ⟨rfl, ((HF1.out.trans HF2.out (by simp)).trans HF3.out (by simp))⟩
end Go.Proofs.YtcodhjoiikdhmaaGreatDoor

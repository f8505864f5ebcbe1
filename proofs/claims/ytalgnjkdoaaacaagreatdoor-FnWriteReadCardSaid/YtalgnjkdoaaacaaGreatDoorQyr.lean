/- impl.all over an io.SectionReader. -/
import Derived.Test.YtalgnjkdoaaacaaGreatDoorQap
import Derived.Test.YtalgnjkdoaaacaaGreatDoorQkf
import Derived.Test.YtalgnjkdoaaacaaGreatDoorQqa
set_option linter.unusedVariables false
set_option linter.unusedSimpArgs false
namespace Go.Proofs.YtalgnjkdoaaacaaGreatDoor
open Go Go.RowKit
open Zp
/-- The loop's state: j bytes are read. -/
structure AS (w0 : World) (b r q pk : Nat) (s : ByteArray) (D : By) (j : Nat) (v : Value) (w : World) : Prop where
  b_ : Blk w b 198 #[strRd r, .int .i64 (q : Int), .int .i64 ((q + j : Nat) : Int), .int .i64 ((q + pk : Nat) : Int), .int .i64 (pk : Int)]
  ob : OB w w0.heap.size (w0.heap.size + 1) v (D.take j)
  bg : ∃ cur, Blk w (w0.heap.size + 1) 5 cur ∧ cur.size = 512
  fr : Fr [b] w0 w
set_option maxRecDepth 100000 in
set_option maxHeartbeats 4000000 in
theorem all_sec (E : Errs) (B0 : Nat) (w : World) (b r q pk : Nat) (s : ByteArray) (hE : Env E w) (hEB : EB E B0 w) (hB : B0 ≤ b) (hb : Blk w b 198 #[strRd r, .int .i64 (q : Int), .int .i64 (q : Int), .int .i64 ((q + pk : Nat) : Int), .int .i64 (pk : Int)]) (hr : StrR w r s)
    (hne : b ≠ r) (hs : s.size ≤ 4000000000) (hq : q + pk ≤ s.size) (D : By) (hD : (s.data.toList.drop q).take pk = D) :
    Calls Tryz.prog 41 #[secV b] w fun e w' => e = .returned (.tuple #[.string ⟨D.toArray⟩, .int .i64 0]) ∧ Fr [b] w w' := by
  have hmk : ∀ w, (Instr.makeSlice 76 (.int .i64 512) (.int .i64 512)).run Tryz.prog w = .ok (.slice (some ⟨w.heap.size, 0, none⟩) 512 512) (w.alloc (.cells (zeros 512) 5)) := fun w => run_makeBytes 512 512 (Nat.le_refl _) (by decide) w
  have hmk1 := hmk (w.alloc (.cells #[] 5))
  have ho : OB ((w.alloc (.cells #[] 5)).alloc (.cells (zeros 512) 5)) w.heap.size (w.heap.size + 1) (.slice (some ⟨w.heap.size, 0, none⟩) 0 0) (D.take 0) := ⟨w.heap.size, 0, #[], rfl, Nat.le_refl _, by omega, (Blk.new w _ _).alloc _, Nat.le_refl _, by unfold maxLen; omega, rfl, rfl⟩
  have hbg : Blk ((w.alloc (.cells #[] 5)).alloc (.cells (zeros 512) 5)) (w.heap.size + 1) 5 (zeros 512) := by
    have := Blk.new (w.alloc (.cells #[] 5)) 5 (zeros 512)
    rw [World.size_alloc] at this
    exact this
  have hf0 : Fr [b] w ((w.alloc (.cells #[] 5)).alloc (.cells (zeros 512) 5)) := ((Fr.refl _ _).alloc _).alloc _
  have HA := Lib.hid (show AS w b r q pk s D 0 (.slice (some ⟨w.heap.size, 0, none⟩) 0 0) ((w.alloc (.cells #[] 5)).alloc (.cells (zeros 512) 5)) from ⟨(hb.alloc _).alloc _, ho, ⟨_, hbg, zeros_size _⟩, hf0⟩)
  have HE := Lib.hid hE
  have HEB := Lib.hid hEB
  have HK := Lib.hid hb
  have HSR := Lib.hid hr
  clear ho hbg hf0 hE hEB hb hr
  go_enter Tryz.func41, Tryz.ntmps41
  go_wp2_with fail
  go_loopw [4] (fun v4 wr => ∃ j : Nat, j ≤ pk ∧ AS w b r q pk s D j v4 wr) (fun v4 _ => pk - slLen v4)
  case atStart => exact ⟨0, by omega, HA.out⟩
  case round =>
    obtain ⟨j, hj, hal⟩ := hrel
    obtain ⟨hck, hob, ⟨cur, hbg, hcs⟩, hfr⟩ := hal
    have lb := HK.out.lt
    have lr := Blk.lt HSR.out
    have hrr : StrR wr r s := Blk.fr HSR.out hfr (by simp; omega)
    by_cases hlt : j < pk
    · obtain ⟨kk, hkk⟩ : ∃ kk, min 512 (q + pk - (q + j)) = kk := ⟨_, rfl⟩
      have hk1 : kk ≤ 512 := by omega
      have hk2 : j + kk ≤ pk := by omega
      have hk3 : 0 < kk := by omega
      obtain ⟨l, hl0⟩ : ∃ l, (s.data.toList.drop (q + j)).take kk = l := ⟨_, rfl⟩
      have HQ := Lib.hid (secRead_fr b r (w.heap.size + 1) 0 512 512 q (q + j) (q + pk) pk kk s cur 5 wr hck hrr hbg (by omega) (by omega) (by omega) (by omega) hq hs (by omega) hkk.symm)
      rw [hl0] at HQ
      have HO := Lib.hid hob
      have HF := Lib.hid hfr
      have HKK := Lib.hid hkk
      have HL0 := Lib.hid hl0
      clear hck hob hbg hfr hkk hl0 hrr
      have hll : l.length = kk := by rw [← HL0.out, List.length_take, List.length_drop, ← Lib.size_eq]; omega
      have hDl : D.length = pk := by rw [← hD, List.length_take, List.length_drop, ← Lib.size_eq]; omega
      have hjl : (D.take j).length = j := by rw [List.length_take]; omega
      go_wp2_with fail
      refine HQ.out.mono ?_
      rintro e w2 ⟨rfl, hbg2, hck2, hf2⟩
      have hz2 := HF.out.size
      have hz3 := hf2.size
      obtain ⟨v', w3, hrun, ho3, g', hg1, hg2, hf3⟩ := append_b w2 w.heap.size (w.heap.size + 1) u4 (D.take j) l (w.heap.size + 1) 0 512 (HO.out.fr hf2 (by simp; omega)) (Rd.spl hbg2 (by omega)) (by omega) (by omega) hbg2.lt
      rw [hll] at hrun
      have hf4 : Fr [b] w w3 := (HF.out.trans hf2 (by simp)).trans hf3 (by simp; omega)
      have hu4 : slLen u4 = j := by
        obtain ⟨_, _, e, _⟩ := HO.out.rd
        rw [e]; exact hjl
      have hT : D.take (j + kk) = D.take j ++ l := by rw [List.take_add, ← HL0.out, ← hD, List.drop_take, List.drop_drop, List.take_take, List.take_take, Nat.min_eq_left (by omega), Nat.min_eq_left (by omega)]
      have HT := Lib.hid hT
      clear hT
      have hb18 := HEB.out.b18
      have x1 := (HE.out.fr hf4 (by simp; omega) (Nat.le_trans hb18 HEB.out.le)).eof
      have x2 := nil_eql E.eof w3
      have HF4 := Lib.hid hf4
      have hbg3 : Blk w3 (w.heap.size + 1) 5 (spl cur 0 l) := hbg2.fr hf3 (by simp; omega)
      have HBG3 := Lib.hid hbg3
      have HCK3 := Lib.hid (hck2.fr hf3 (by simp; omega))
      clear hf4 hbg3
      have HO3 := Lib.hid ho3
      have hkc : (kk : Int) ≤ 512 := by omega
      clear hck2 hbg2 hf2 ho3 hf3 HQ HO hmk hmk1 HA
      go_wp2_with (at_builtin; refine wpList_append_run rfl _ _ 76 rfl _ _ _ _ rfl rfl hrun ?_)
      have hv' : slLen v' = j + kk := by
        obtain ⟨_, _, e, _⟩ := HO3.out.rd
        rw [e]; show (D.take j ++ l).length = _; rw [List.length_append]; omega
      refine ⟨⟨j + kk, by omega, ?_, ?_, ⟨_, HBG3.out, by rw [spl_size (by omega)]; exact hcs⟩, HF4.out⟩, by omega⟩
      · rw [← Nat.add_assoc]
        exact HCK3.out
      · rw [HT.out]
        exact HO3.out
    · obtain rfl : j = pk := by omega
      have hDl : D.length = j := by rw [← hD, List.length_take, List.length_drop, ← Lib.size_eq]; omega
      have hDt : D.take j = D := List.take_of_length_le (by omega)
      rw [hDt] at hob
      have hb18 := HEB.out.b18
      have h18 : 14 ≤ w.heap.size := Nat.le_trans hb18 HEB.out.le
      have hsz1 := hfr.size
      have hEr := HE.out.fr hfr (by simp; omega) h18
      have HQ := Lib.hid (secRead_eof E b (.slice (some ⟨w.heap.size + 1, 0, none⟩) 512 512) (strRd r) q (q + j) (q + j) j wr hEr hck (Nat.le_refl _))
      have HO := Lib.hid hob
      have HF := Lib.hid hfr
      have HBG := Lib.hid hbg
      clear hck hob hfr hbg hEr hmk hmk1 HA hrr
      go_wp2_with fail
      refine HQ.out.mono ?_
      rintro e w2 ⟨rfl, hf2⟩
      obtain ⟨v', w3, hrun, ho3, g', hg1, hg2, hf3⟩ := append_b w2 w.heap.size (w.heap.size + 1) u4 D [] (w.heap.size + 1) 0 512 (HO.out.fr hf2 (by simp)) (fun i b hi => by simp at hi) (by simp; omega) (by have := hf2.size; omega) (HBG.out.fr hf2 (by simp)).lt
      rw [List.append_nil] at ho3
      rw [List.length_nil] at hrun
      have hf4 : Fr [b] w w3 := (HF.out.trans hf2 (by simp)).trans hf3 (by simp; omega)
      have hE3 := HE.out.fr hf4 (by simp; omega) h18
      have x1 := hE3.eof
      have hcv := ho3.str
      obtain ⟨gv, cv, rfl, -⟩ := ho3.rd
      have HF4 := Lib.hid hf4
      clear hf2 hf3 hf4 hE3 ho3 HQ HO HBG hDl hDt
      have t1 := eql_same' E.eof w3
      go_wp2_with (at_builtin; refine wpList_append_run rfl _ _ 76 rfl _ _ _ _ rfl rfl hrun ?_)
      go_ret2
      exact ⟨rfl, HF4.out⟩
end Go.Proofs.YtalgnjkdoaaacaaGreatDoor

/- impl.Raw, impl.Offset of a file of an archive. -/
namespace Go.Proofs.YtalgnjkdoaaacaaGreatDoor
open Go Go.RowKit
open Zp
set_option maxRecDepth 100000 in
set_option maxHeartbeats 4000000 in
theorem openRaw_ok (E : Errs) (w : World) (f z r P : Nat) (nm : ByteArray) (fl m pk sz crc : Nat) (s : ByteArray) (hF : FC w f z r P nm fl m pk sz crc) (hr : StrR w r s) (hs : s.size ≤ 4000000000) (hP : P + 30 ≤ s.size) (hsig : num ((s.data.toList.drop P).take 4) = 67324752) (hpk : bodyAt s.data.toList P + pk ≤ 4000000000) :
    Calls Tryz.prog 40 #[.pointer (some ⟨f, 0, none⟩)] w fun e w' => ∃ b, e = .returned (.tuple #[secV b, .nilIface]) ∧ w.heap.size ≤ b ∧
      Blk w' b 198 #[strRd r, .int .i64 ((bodyAt s.data.toList P : Nat) : Int), .int .i64 ((bodyAt s.data.toList P : Nat) : Int), .int .i64 ((bodyAt s.data.toList P + pk : Nat) : Int), .int .i64 (pk : Int)] ∧ Fr [] w w' := by
  have HFB := Lib.hid (fbo_ok w f r P s hr hF.c20 hF.c21 hF.lf hs hP hsig)
  have HC := Lib.hid hF
  clear hr hF hsig
  obtain ⟨q, hq0⟩ : ∃ q : Nat, bodyAt s.data.toList P = q := ⟨_, rfl⟩
  rw [hq0] at hpk ⊢
  unfold bodyAt at hq0
  go_enter Tryz.func40, Tryz.ntmps40
  go_wp2_with fail
  refine HFB.out.mono ?_
  rintro e w1 ⟨rfl, hf⟩
  have h1 := HC.out.fr hf (by simp) (by simp)
  have c20 := h1.c20
  have c21 := h1.c21
  have c15 := h1.c15
  have HF := Lib.hid hf
  have H1 := Lib.hid h1
  clear hf h1
  generalize num ((s.data.toList.drop (P + 26)).take 2) = n at hq0 ⊢
  generalize num ((s.data.toList.drop (P + 28)).take 2) = x at hq0 ⊢
  have hqi : IntKind.i64.wrap ((P : Int) + (30 + (n : Int) + (x : Int))) = (q : Int) := by rw [show ((P : Int) + (30 + (n : Int) + (x : Int))) = (q : Int) by omega]; exact IntWalk.i64_in _ (by omega)
  have hpi : IntKind.i64.wrap (pk : Int) = (pk : Int) := IntWalk.i64_in _ (by omega)
  have HQ := Lib.hid (newSection_any r q pk (by omega) w1.drew)
  go_wp2_with fail
  go_region_held3 (fun w' => w'.cell? ⟨f, 20, none⟩ = some (strRd r) ∧ w'.cell? ⟨f, 21, none⟩ = some (.int .i64 (P : Int)) ∧ w'.cell? ⟨f, 15, none⟩ = some (.int .u64 (pk : Int)))
    ((first | exact ⟨c20, c21, c15⟩ | exact KS.out | assumption))
    ((first | (go_at_call 63; (with_reducible refine HQ.out.mono ?_); rintro e w2 ⟨rfl, hw2⟩; have hfs : Fr [] w1 w2 := (by rw [hw2]; exact ((Fr.refl [] w1).drew).alloc _); have hbs : Blk w2 w1.heap.size 198 _ := (by rw [hw2]; exact Blk.new _ _ _); clear hw2; have KS := Lib.hid (And.intro (H1.out.fr hfs (by simp) (by simp)).c20 (And.intro (H1.out.fr hfs (by simp) (by simp)).c21 (H1.out.fr hfs (by simp) (by simp)).c15)))))
  go_wp2_with fail
  go_ret2
  exact ⟨_, rfl, HF.out.size, hbs, HF.out.trans hfs (by simp)⟩
set_option maxRecDepth 100000 in
set_option maxHeartbeats 4000000 in
theorem raw_file (E : Errs) (B0 : Nat) (w : World) (s : ByteArray) (k : Nat) (e : Ent) (hW : WE E B0 w) (h : FileK s k e) (hpk : e.h.packed = e.data.length) :
    Calls Tryz.prog 17 #[.string s, .int .i64 (k : Int)] w fun x w' => x = .returned (.tuple #[.string ⟨e.data.toArray⟩, .int .i64 0]) ∧ Fr [] w w' := by
  obtain ⟨⟨c, D, F, PS, l, p, P, B, ha, hk, hcen, hl1, hl2, hl3, hl4, hl5⟩, hok⟩ := h
  obtain ⟨o1, o2, o3, o4, o5, o6, ⟨o7, o8⟩, ⟨o9, o10⟩, ⟨o11, o12⟩, o13, o14, o15, o16⟩ := hok
  have hs := ha.size
  have hsl : s.data.toList.length = s.size := (Lib.size_eq s).symm
  have h18 := hW.h18
  have HF := Lib.hid (file_ok E B0 w s c PS.length D F PS k p B hW ha rfl hk)
  have HW := Lib.hid hW
  have HC := Lib.hid hcen
  have HL1 := Lib.hid hl1
  have HL2 := Lib.hid hl2
  have HL3 := Lib.hid hl3
  have HL4 := Lib.hid hl4
  have HL5 := Lib.hid hl5
  clear hW ha hk hcen hl1 hl2 hl3 hl4 hl5
  go_enter Tryz.func17, Tryz.ntmps17
  go_wp2_with fail
  refine HF.out.mono ?_
  rintro x w1 ⟨f, z, r, U, rfl, hfa, hr, ⟨v, cm, hz⟩, g1, g2, g3, hf1⟩
  have hFC := fc_of hfa HC.out hz
  have hW1 := HW.out.fr hf1 (by simp)
  have HO := Lib.hid (openRaw_ok E w1 f z r (P + B) _ _ _ _ _ _ s hFC hr hs (by have := HL1.out; omega) HL2.out (by have := HL4.out; have := HL3.out; omega))
  have HW1 := Lib.hid hW1
  have HR := Lib.hid hr
  have HF1 := Lib.hid hf1
  clear hfa hz hFC hW1 hr hf1
  go_wp2_with fail
  refine HO.out.mono ?_
  rintro x w2 ⟨b, rfl, b0, b1, hf2⟩
  have lr := HR.out.lt
  have hz1 := HF1.out.size
  have hz0 := HW.out.eb.le
  have hW2 := HW1.out.fr hf2 (by simp)
  have hpn : e.h.packed.toNat = e.data.length := by omega
  rw [hpn] at b1
  have HA := Lib.hid (all_sec E B0 w2 b r (bodyAt s.data.toList (P + B)) e.data.length s hW2.env hW2.eb (by omega) b1 (Blk.fr HR.out hf2 (by simp)) (by omega) hs (by have := HL4.out; have := HL3.out; omega) e.data HL5.out)
  have HF2 := Lib.hid hf2
  clear b1 hf2 hW2
  go_wp2_with fail
  refine HA.out.mono ?_
  rintro x w3 ⟨rfl, hf3⟩
  have HF3 := Lib.hid hf3
  clear hf3
  go_wp2_with fail
  go_ret2
  exact ⟨rfl, ((HF1.out.trans HF2.out (by simp)).trans HF3.out (by simp; omega))⟩
set_option maxRecDepth 100000 in
set_option maxHeartbeats 4000000 in
theorem dataOff_ok (w : World) (f z r P : Nat) (nm : ByteArray) (fl m pk sz crc : Nat) (s : ByteArray) (hF : FC w f z r P nm fl m pk sz crc) (hr : StrR w r s) (hs : s.size ≤ 4000000000) (hP : P + 30 ≤ s.size) (hsig : num ((s.data.toList.drop P).take 4) = 67324752) (hq : bodyAt s.data.toList P ≤ 4000000000) :
    Calls Tryz.prog 37 #[.pointer (some ⟨f, 0, none⟩)] w fun e w' => e = .returned (.tuple #[.int .i64 ((bodyAt s.data.toList P : Nat) : Int), .nilIface]) ∧ Fr [] w w' := by
  have HFB := Lib.hid (fbo_ok w f r P s hr hF.c20 hF.c21 hF.lf hs hP hsig)
  have HC := Lib.hid hF
  clear hr hF hsig
  obtain ⟨q, hq0⟩ : ∃ q : Nat, bodyAt s.data.toList P = q := ⟨_, rfl⟩
  rw [hq0] at hq ⊢
  unfold bodyAt at hq0
  go_enter Tryz.func37, Tryz.ntmps37
  go_wp2_with fail
  refine HFB.out.mono ?_
  rintro e w1 ⟨rfl, hf⟩
  have h1 := HC.out.fr hf (by simp) (by simp)
  have c21 := h1.c21
  have HF := Lib.hid hf
  clear hf h1
  generalize num ((s.data.toList.drop (P + 26)).take 2) = n at hq0 ⊢
  generalize num ((s.data.toList.drop (P + 28)).take 2) = x at hq0 ⊢
  have hqi : IntKind.i64.wrap ((P : Int) + (30 + (n : Int) + (x : Int))) = (q : Int) := by rw [show ((P : Int) + (30 + (n : Int) + (x : Int))) = (q : Int) by omega]; exact IntWalk.i64_in _ (by omega)
  have hqj : (P : Int) + (30 + (n : Int) + (x : Int)) = (q : Int) := by omega
  go_wp2_with fail
  go_ret2
  exact ⟨by first | rfl | (rw [hqi]; rfl) | (rw [hqj]; rfl), HF.out⟩
set_option maxRecDepth 100000 in
theorem faultOf_nil (w : World) : Calls Tryz.prog 38 #[.nilIface] w fun e w' => e = .returned (.int .i64 0) ∧ w' = w := by
  go_enter Tryz.func38, Tryz.ntmps38
  go_wp2_with fail
  go_ret
  exact ⟨rfl, rfl⟩
set_option maxRecDepth 100000 in
set_option maxHeartbeats 4000000 in
theorem offset_file (E : Errs) (B0 : Nat) (w : World) (s : ByteArray) (k : Nat) (e : Ent) (c : By) (D F : Nat) (PS : List Nat) (l : List Ent) (p P B : Nat) (hW : WE E B0 w) (ha : ArcT s c PS.length D F PS B) (hk : PS[k]? = some p) (hat : AtK s.data.toList l c e p P B) :
    Calls Tryz.prog 15 #[.string s, .int .i64 (k : Int)] w fun x w' => x = .returned (.tuple #[.int .i64 ((P + B + (localB e.h).length : Nat) : Int), .int .i64 0]) ∧ Fr [] w w' := by
  obtain ⟨hcen, hl1, hl2, hl3, hl4, hl5⟩ := hat
  have hs := ha.size
  have hsl : s.data.toList.length = s.size := (Lib.size_eq s).symm
  have HF := Lib.hid (file_ok E B0 w s c PS.length D F PS k p B hW ha rfl hk)
  have HW := Lib.hid hW
  have HC := Lib.hid hcen
  have HL1 := Lib.hid hl1
  have HL2 := Lib.hid hl2
  have HL3 := Lib.hid hl3
  have HL4 := Lib.hid hl4
  clear hW ha hk hcen hl1 hl2 hl3 hl4 hl5
  go_enter Tryz.func15, Tryz.ntmps15
  go_wp2_with fail
  refine HF.out.mono ?_
  rintro x w1 ⟨f, z, r, U, rfl, hfa, hr, ⟨v, cm, hz⟩, g1, g2, g3, hf1⟩
  have hFC := fc_of hfa HC.out hz
  have HO := Lib.hid (dataOff_ok w1 f z r (P + B) _ _ _ _ _ _ s hFC hr hs (by have := HL1.out; omega) HL2.out (by have := HL4.out; have := HL3.out; omega))
  rw [HL3.out] at HO
  have HF1 := Lib.hid hf1
  clear hfa hz hFC hr hf1
  go_wp2_with fail
  refine HO.out.mono ?_
  rintro x w2 ⟨rfl, hf2⟩
  have HF2 := Lib.hid (HF1.out.trans hf2 (by simp))
  clear hf2
  go_wp2_with (first | (go_at_call 38; (with_reducible refine (faultOf_nil _).mono ?_); rintro e w5 ⟨rfl, hw5⟩; rw [hw5]; clear hw5 w5) | fail)
  go_ret2
  exact ⟨rfl, HF2.out⟩
end Go.Proofs.YtalgnjkdoaaacaaGreatDoor

/- Writer.Close. -/
import Derived.Test.YtalgnjkdoaaacaaGreatDoorQds
import Derived.Test.YtalgnjkdoaaacaaGreatDoorQdp
set_option linter.unusedVariables false
set_option linter.unusedSimpArgs false
namespace Go.Proofs.YtalgnjkdoaaacaaGreatDoor
open Go Go.RowKit
open Zp
set_option maxRecDepth 100000 in
set_option maxHeartbeats 8000000 in
theorem clo11 (a : Act) (w : World) (zw base cw bw bf sb : Nat) (dv last : Value) (c : By) (own : Option Nat) (T : By) (L : List WR)
    (hs : a.tmps.size = 520) (hd : a.defers = []) (h0 : slotOf a 0 = .pointer (some ⟨zw, 0, none⟩)) (h2 : slotOf a 2 = .nilIface) (h4 : slotOf a 4 = .int .i64 (T.length : Int)) (h5 : slotOf a 5 = .bool false)
    (hz : Blk w zw 136 (zwC cw dv last true c)) (hW : WS w base cw bw bf sb own T dv L) (hbs : base ≤ w.heap.size) (hn9 : L.length ≤ 1000) (hb : T.length + 180046 * L.length + 500000 ≤ 4000000000) (hc : c.length ≤ 65535) (R : Act → World → Prop)
    (hR : ∀ a' w', EndR w base sb (T ++ dirL L ++ endB L.length (dirL L).length T.length c) a' w' → R a' w') :
    (cloFrom 11).wp Tryz.prog (RQ R) a w := by
  have HR := Lib.hid hR
  have HW := Lib.hid hW
  have HZ := Lib.hid hz
  obtain ⟨pd, cd, hdv⟩ := rowB_slice hW.hd
  have z1 := hz.at_ 1 dv rfl
  obtain ⟨n, hn⟩ : ∃ n, L.length = n := ⟨_, rfl⟩
  have HN := Lib.hid hn
  obtain ⟨tl, htl⟩ : ∃ n, T.length = n := ⟨_, rfl⟩
  have HTL := Lib.hid htl
  rw [hn] at hdv
  subst hdv
  rw [htl] at h4
  rw [frame520 hs hd, h0, h2, h4, h5]
  clear hR hW hz hs hd h0 h2 h4 h5 hn htl
  conv => arg 2; whnf
  go_upto_block 0 with fail
  rename_i K hK
  have HK := Lib.hid (fun a w (h : (cloFrom 66).wp Tryz.prog _ a w) => hK a w (wp_code (c := cloFrom 66) (by kernel_rfl) h))
  clear hK
  refine wp_block ?_
  refine wp_code (c := Code.loop (cloLoop 12)) (by kernel_rfl) ?_
  refine wp_loop (fun a' w' => ∃ k, k ≤ n ∧ FrC zw (.slice pd n cd) tl n k a' ∧ WrQ w base cw bw bf sb own (T ++ dirL (L.take k)) w') (fun a' _ => n - (intOf (slotOf a' 84)).toNat) ⟨0, by omega, ⟨rfl, rfl, rfl, rfl, rfl, rfl, rfl, rfl, rfl⟩, own, by simpa [dirL] using HW.out.hC, .inl rfl, Fr.refl _ _⟩ ?_
  rintro a' w' ⟨k, hk, hA', hst⟩
  refine clo12 a' w w' zw base cw bw bf sb tl n k (.slice pd n cd) last c own T L hA' HN.out hk (by have := HN.out; omega) HZ.out HW.out (by have := HN.out; have := HTL.out; omega) hst _ ?_ ?_
  · intro a2 w2 hlt hA2 hst2
    exact ⟨⟨k + 1, by omega, hA2, hst2⟩, by rw [hA2.s84, hA'.s84]; simp [intOf]; omega⟩
  · rintro a2 rfl hA2
    obtain ⟨own', hc', ho', hf'⟩ := hst
    have hL : L.take k = L := List.take_of_length_le (by have := HN.out; omega)
    rw [hL] at hc'
    have hz' := HZ.out.fr hf' (HW.out.hC.offBlk HZ.out (by decide) (by decide) (by decide) (by decide)).not
    have hdl := dirL_le (l := L) (fun x hx => (HW.out.hL x hx).2)
    have hb1 : Below base w w' := hf'.below (fun s hs => HW.out.hC.ge s hs) hbs
    refine HK.out _ _ (clo66 a2 w' zw base cw bw bf sb tl k k pd cd (.slice pd k cd) last c own' (T ++ dirL L) hA2 (by have := HN.out; omega) (Nat.le_trans hbs hf'.size) hz' hc' (by rw [List.length_append, HTL.out]; omega) (by rw [List.length_append]; omega) hc R ?_)
    rintro a3 w3 ⟨q1, q2, own3, q3, q4⟩
    refine HR.out a3 w3 ⟨q1, q2, own3, ?_, hb1.trans q4⟩
    rw [HN.out, HTL.out]
    rw [List.length_append, HTL.out, Nat.add_sub_cancel_left] at q3
    exact q3
/-- The last file's writer, ahead of the archive's end: none, or one that can be closed. -/
def LastC (w : World) (zw base cw bw bf sb : Nat) (own : Option Nat) (T : By) (dv last : Value) (c : By) (L : List WR) : Prop :=
  (last = .pointer none ∧ WS w base cw bw bf sb own T dv L) ∨ ∃ fw, last = .pointer (some ⟨fw, 0, none⟩) ∧ w.cell? ⟨fw, 6, none⟩ = some (.bool false) ∧
    Calls Tryz.prog 93 #[.pointer (some ⟨fw, 0, none⟩)] w fun e w' => e = .returned .nilIface ∧ ∃ own', WS w' base cw bw bf sb own' T dv L ∧ Blk w' zw 136 (zwC cw dv last false c) ∧ Below base w w'
/-- What Close leaves. -/
def CloseP (w : World) (base sb : Nat) (T : By) (e : Ending) (w' : World) : Prop := e = .returned .nilIface ∧ ∃ own', SBd w' base sb own' T ∧ Below base w w'
set_option maxRecDepth 100000 in
set_option maxHeartbeats 8000000 in
theorem closeC (w : World) (zw base cw bw bf sb : Nat) (own : Option Nat) (T : By) (dv last : Value) (c : By) (L : List WR)
    (hz : Blk w zw 136 (zwC cw dv last false c)) (hl : LastC w zw base cw bw bf sb own T dv last c L) (hbs : base ≤ w.heap.size) (hzb : base ≤ zw) (hn9 : L.length ≤ 1000) (hb : T.length + 180046 * L.length + 500000 ≤ 4000000000) (hc : c.length ≤ 65535) :
    Calls Tryz.prog 67 #[.pointer (some ⟨zw, 0, none⟩)] w (CloseP w base sb (T ++ dirL L ++ endB L.length (dirL L).length T.length c)) := by
  have key : ∀ (a : Act) (w1 : World) (own1 : Option Nat) (last1 : Value), a.tmps.size = 520 → a.defers = [] → slotOf a 0 = .pointer (some ⟨zw, 0, none⟩) → slotOf a 2 = .nilIface → slotOf a 4 = .int .i64 (T.length : Int) → slotOf a 5 = .bool false →
      Blk w1 zw 136 (zwC cw dv last1 true c) → WS w1 base cw bw bf sb own1 T dv L → Below base w w1 →
      (cloFrom 11).wp Tryz.prog (RQ (fun a' w' => EndR w base sb (T ++ dirL L ++ endB L.length (dirL L).length T.length c) a' w')) a w1 := by
    intro a w1 own1 last1 h1 h2 h3 h4 h5 h6 h7 h8 h9
    refine clo11 a w1 zw base cw bw bf sb dv last1 c own1 T L h1 h2 h3 h4 h5 h6 h7 h8 (Nat.le_trans hbs h9.size) hn9 hb hc _ ?_
    rintro a' w' ⟨q1, q2, own3, q3, q4⟩
    exact ⟨q1, q2, own3, q3, h9.trans q4⟩
  have KEY := Lib.hid key
  clear key
  have FIN : ∀ a' w', EndR w base sb (T ++ dirL L ++ endB L.length (dirL L).length T.length c) a' w' → bodyPost Tryz.prog Tryz.f67 (CloseP w base sb (T ++ dirL L ++ endB L.length (dirL L).length T.length c)) .ret a' w' := by
    rintro a' w' ⟨q1, q2, own3, q3, q4⟩
    refine bodyPost_ret (v := .nilIface) ?_ q1 ⟨rfl, own3, q3, q4⟩
    rw [results_tmp rfl]
    show Result.ok (slotOf a' 2) w' = _
    rw [q2]
  have HFIN := Lib.hid FIN
  clear FIN
  have c2 := hz.at_ 2 last rfl
  obtain ⟨tl, htl⟩ : ∃ tl, T.length = tl := ⟨_, rfl⟩
  have HTL := Lib.hid htl
  rcases hl with ⟨rfl, hW⟩ | ⟨fw, rfl, h6, hcl⟩
  · have hf1 : Fr [zw] w (w.setCell ⟨zw, 3, none⟩ (.bool true)) := (Fr.refl _ _).setCell (.inl (by simp)) _
    have hoz := hW.hC.offBlk hz (by decide) (by decide) (by decide) (by decide)
    have hz1 := hz.set_ 3 (.bool true)
    have hW1 : WS (w.setCell ⟨zw, 3, none⟩ (.bool true)) base cw bw bf sb own T dv L := hW.fr (hW.hC.fr hf1 (by simp; exact fun e => hoz.1 e.symm) (by simp; exact fun e => hoz.2.1 e.symm) (by simp; exact fun e => hoz.2.2.1 e.symm) (by simp; exact fun e => hoz.2.2.2.1 e.symm) (fun g hg => by simp; exact fun e => hoz.2.2.2.2 (by rw [hg, e]))) hf1 (.inl rfl) (fun s hs => by simp at hs; subst hs; exact .inr (.inr ⟨_, _, hz, by decide, by decide, by decide⟩)) (fun s hs => by simp at hs; subst hs; exact hW.dvty hz (by decide))
    have c3 := hz.at_ 3 (.bool false) rfl
    have z3 := hz.frozen 3
    have c0 := hz.at_ 0 (.pointer (some ⟨cw, 0, none⟩)) rfl
    have k1 := hW.hC.hc.at_ 1 (.int .i64 (T.length : Int)) rfl
    have d0 := hz1.at_ 0 (.pointer (some ⟨cw, 0, none⟩)) rfl
    have l1 := hW1.hC.hc.at_ 1 (.int .i64 (T.length : Int)) rfl
    have HZ := Lib.hid hz1
    have HW := Lib.hid hW1
    have HB := Lib.hid (hf1.below (by simp; exact hzb) hbs)
    rw [htl] at k1 l1
    clear hz hW hz1 hW1 hf1 htl
    go_enter Tryz.func67, Tryz.ntmps67
    go_upto_region 10 with fail
    rename_i K hK
    have HK := Lib.hid (fun a w1 (h : (cloFrom 11).wp Tryz.prog _ a w1) => hK a w1 (wp_rq (wp_code (c := cloFrom 11) (by kernel_rfl) h) HFIN.out))
    clear hK
    go_wp2_with fail
    exact HK.out _ _ (KEY.out _ _ own (.pointer none) rfl rfl rfl rfl (by rw [HTL.out]; rfl) rfl HZ.out HW.out HB.out)
  · have HCL := Lib.hid hcl
    have HZ0 := Lib.hid hz
    clear hz hcl
    go_enter Tryz.func67, Tryz.ntmps67
    go_wp2_with fail
    refine HCL.out.mono ?_
    rintro e w1 ⟨rfl, own1, hW, hz, hb1⟩
    have hf0 : Fr [zw] w1 (w1.setCell ⟨zw, 2, none⟩ (.pointer none)) := (Fr.refl _ _).setCell (.inl (by simp)) _
    have hf1 : Fr [zw] w1 ((w1.setCell ⟨zw, 2, none⟩ (.pointer none)).setCell ⟨zw, 3, none⟩ (.bool true)) := hf0.setCell (p := ⟨zw, 3, none⟩) (.inl (by simp)) _
    have hoz := hW.hC.offBlk hz (by decide) (by decide) (by decide) (by decide)
    have hz0 := hz.set_ 2 (.pointer none)
    have hz1 := hz0.set_ 3 (.bool true)
    have hW1 : WS ((w1.setCell ⟨zw, 2, none⟩ (.pointer none)).setCell ⟨zw, 3, none⟩ (.bool true)) base cw bw bf sb own1 T dv L := hW.fr (hW.hC.fr hf1 (by simp; exact fun e => hoz.1 e.symm) (by simp; exact fun e => hoz.2.1 e.symm) (by simp; exact fun e => hoz.2.2.1 e.symm) (by simp; exact fun e => hoz.2.2.2.1 e.symm) (fun g hg => by simp; exact fun e => hoz.2.2.2.2 (by rw [hg, e]))) hf1 (.inl rfl) (fun s hs => by simp at hs; subst hs; exact .inr (.inr ⟨_, _, hz, by decide, by decide, by decide⟩)) (fun s hs => by simp at hs; subst hs; exact hW.dvty hz (by decide))
    have z2 := hz.frozen 2
    have y2 := hz.at_ 2 (.pointer (some ⟨fw, 0, none⟩)) rfl
    have c3 := hz0.at_ 3 (.bool false) rfl
    have z3 := hz0.frozen 3
    have c3' := hz.at_ 3 (.bool false) rfl
    have z3' := hz.frozen 3
    have d0 := hz1.at_ 0 (.pointer (some ⟨cw, 0, none⟩)) rfl
    have l1 := hW1.hC.hc.at_ 1 (.int .i64 (T.length : Int)) rfl
    have HZ := Lib.hid hz1
    have HW := Lib.hid hW1
    have HB := Lib.hid (hb1.trans (hf1.below (by simp; exact hzb) (Nat.le_trans hbs hb1.size)))
    rw [htl] at l1
    clear hz hW hz0 hz1 hW1 hf1 hf0 htl hb1
    go_upto_region 10 with fail
    rename_i K hK
    have HK := Lib.hid (fun a w1 (h : (cloFrom 11).wp Tryz.prog _ a w1) => hK a w1 (wp_rq (wp_code (c := cloFrom 11) (by kernel_rfl) h) HFIN.out))
    clear hK
    go_wp2_with fail
    exact HK.out _ _ (KEY.out _ _ own1 (.pointer none) rfl rfl rfl rfl (by rw [HTL.out]; rfl) rfl HZ.out HW.out HB.out)
end Go.Proofs.YtalgnjkdoaaacaaGreatDoor

/- SetComment; impl.closed. -/
namespace Go.Proofs.YtalgnjkdoaaacaaGreatDoor
open Go Go.RowKit
open Zp
set_option maxRecDepth 100000 in
theorem setComment (w : World) (zw cw : Nat) (dv last : Value) (cl : Bool) (c c' : By) (hz : Blk w zw 136 (zwC cw dv last cl c)) (hc : c'.length ≤ 65535) :
    Calls Tryz.prog 66 #[.pointer (some ⟨zw, 0, none⟩), .string (bs c')] w fun e w' => e = .returned .nilIface ∧ w' = w.setCell ⟨zw, 5, none⟩ (.string (bs c')) := by
  have c5 := hz.at_ 5 (.string (bs c)) rfl
  have z5 := hz.frozen 5
  have hns := bs_size c'
  have i1 : ¬ 65535 < (c'.length : Int) := by omega
  clear hz
  go_enter Tryz.func66, Tryz.ntmps66
  go_wp2_with fail
  go_ret
  exact ⟨rfl, rfl⟩
/-- A raw file's writer can be closed. -/
theorem LastR.c {w : World} {zw base cw bw bf sb : Nat} {own : Option Nat} {T : By} {dv last : Value} {c : By} {L : List WR} (h : LastR w base cw last L) (hz : Blk w zw 136 (zwC cw dv last false c)) (hW : WS w base cw bw bf sb own T dv L) (hbs : base ≤ w.heap.size) : LastC w zw base cw bw bf sb own T dv last c L := by
  rcases h with h | ⟨fw, y, rfl, hb, hy, hf, hr, hfl⟩
  · exact .inl ⟨h, hW⟩
  · obtain ⟨⟨rw', nu', n0, n1, np, b, cy, y1, y2, y3⟩, yok⟩ := hW.hL y hy
    have hrt : rw' = true := by
      have := y1.at_ 2 _ rfl
      rw [this] at hr
      simpa using hr
    subst hrt
    refine .inr ⟨fw, rfl, hf.at_ 6 _ rfl, (fwClose w fw cw y.hh y.fh y.off y.nm y.cm nu' y.cr y.rd y.fl y.me y.ti y.da y.cs y.pk y.sz y.ext (.slice b y.exb.length cy) n0 n1 np hf ⟨y1, y2⟩ yok.a3 hfl).mono ?_⟩
    rintro e w' ⟨rfl, hf', hfr⟩
    have hof := hW.hC.offBlk hf (by decide) (by decide) (by decide) (by decide)
    refine ⟨rfl, own, hW.fr (hW.hC.fr hfr (by simp; exact fun e => hof.1 e.symm) (by simp; exact fun e => hof.2.1 e.symm) (by simp; exact fun e => hof.2.2.1 e.symm) (by simp; exact fun e => hof.2.2.2.1 e.symm) (fun g hg => by simp; exact fun e => hof.2.2.2.2 (by rw [hg, e]))) hfr (.inl rfl) (fun s hs => by simp at hs; subst hs; exact .inr (.inr ⟨_, _, hf, by decide, by decide, by decide⟩)) (fun s hs => by simp at hs; subst hs; exact hW.dvty hf (by decide)), hz.fr hfr (by simp; exact hz.ne_ hf (by decide)), hfr.below (fun s hs => by simp at hs; omega) hbs⟩
/-- What closed answers. -/
def ClosedP (w : World) (base : Nat) (T : By) (e : Ending) (w' : World) : Prop := e = .returned (.tuple #[.string (bs T), .bool true]) ∧ Below base w w'
set_option maxRecDepth 100000 in
set_option maxHeartbeats 4000000 in
theorem closedC (w : World) (zw base cw bw bf sb : Nat) (own : Option Nat) (T : By) (dv last : Value) (c0 c : By) (L : List WR)
    (hz : Blk w zw 136 (zwC cw dv last false c0)) (hl : LastC (w.setCell ⟨zw, 5, none⟩ (.string (bs c))) zw base cw bw bf sb own T dv last c L) (hbs : base ≤ w.heap.size) (hzb : base ≤ zw) (hn9 : L.length ≤ 1000) (hb : T.length + 180046 * L.length + 600000 ≤ 4000000000) (hc : c.length ≤ 65535) (hlen : (dirL L).length ≤ 180046 * L.length) :
    Calls Tryz.prog 44 #[.pointer (some ⟨zw, 0, none⟩), .pointer (some ⟨sb, 0, none⟩), .string (bs c)] w (ClosedP w base (T ++ dirL L ++ endB L.length (dirL L).length T.length c)) := by
  have HSC := Lib.hid (setComment w zw cw dv last false c0 c hz hc)
  have hz1 := hz.set_ 5 (.string (bs c))
  have hf1 : Below base w (w.setCell ⟨zw, 5, none⟩ (.string (bs c))) := ((Fr.refl [zw] w).setCell (p := ⟨zw, 5, none⟩) (.inl (by simp)) _).below (by simp; exact hzb) hbs
  have HCL := Lib.hid (closeC _ zw base cw bw bf sb own T dv last c L hz1 hl (Nat.le_trans hbs hf1.size) hzb hn9 (by omega) hc)
  have HF1 := Lib.hid hf1
  have hel : (endB L.length (dirL L).length T.length c).length = 22 + c.length := by simp [endB, sigE, le_length]; omega
  obtain ⟨T', hT'⟩ : ∃ T', T ++ dirL L ++ endB L.length (dirL L).length T.length c = T' := ⟨_, rfl⟩
  have hTl : T' ≠ [] ∧ T'.length ≤ 4000000000 := by
    have : T'.length = T.length + (dirL L).length + (22 + c.length) := by rw [← hT', List.length_append, List.length_append, hel]
    exact ⟨fun h => by rw [h] at this; simp at this; omega, by omega⟩
  rw [hT'] at HCL ⊢
  clear hz hl hz1 hf1 hT' hel
  go_enter Tryz.func44, Tryz.ntmps44
  go_wp2_with fail
  refine HSC.out.mono ?_
  rintro e w1 ⟨rfl, hw1⟩
  rw [hw1]
  clear hw1 w1
  go_wp2_with fail
  refine HCL.out.mono ?_
  rintro e w2 ⟨rfl, own', hsb, hb2⟩
  have HB2 := Lib.hid hb2
  have HST := Lib.hid (sbString w2 base sb own' T' hsb hTl.1 hTl.2)
  clear hsb hb2
  go_wp2_with fail
  refine HST.out.mono ?_
  rintro e w3 ⟨rfl, hb3⟩
  have HB3 := Lib.hid hb3
  clear hb3
  go_wp2_with fail
  go_ret2
  exact ⟨rfl, (HF1.out.trans HB2.out).trans HB3.out⟩
end Go.Proofs.YtalgnjkdoaaacaaGreatDoor

/- impl.Copy. -/
namespace Go.Proofs.YtalgnjkdoaaacaaGreatDoor
open Go Go.RowKit
open Zp
theorem filesB_take {l : List Ent} {k : Nat} {e : Ent} (h : l[k]? = some e) : filesB (l.take (k + 1)) = filesB (l.take k) ++ localB e.h ++ e.data := by
  rw [List.take_add_one, h, Option.toList_some, filesB_append]
  simp [filesB]
theorem dirB_take {l : List Ent} {k : Nat} {e : Ent} (h : l[k]? = some e) : dirB 0 (l.take (k + 1)) = dirB 0 (l.take k) ++ centralB e.h (filesB (l.take k)).length := by
  rw [List.take_add_one, h, Option.toList_some, dirB_append, Nat.zero_add]
  simp [dirB]
/-- The loop's state: k files are copied. -/
def CLp (w3 : World) (base zw cw bw bf sb : Nat) (l : List Ent) (k : Nat) (wr : World) : Prop :=
  ∃ own dv last L, WS wr base cw bw bf sb own (filesB (l.take k)) dv L ∧ Blk wr zw 136 (zwC cw dv last false []) ∧ LastR wr base cw last L ∧ L.length = k ∧ dirL L = dirB 0 (l.take k) ∧ Below base w3 wr
set_option maxRecDepth 100000 in
set_option maxHeartbeats 8000000 in
theorem copyC (E : Errs) (B0 : Nat) (w : World) (s : ByteArray) (c : By) (D F : Nat) (PS : List Nat) (B : Nat) (l : List Ent) (hW : WE E B0 w) (ha : ArcT s c PS.length D F PS B) (hl : PS.length = l.length) (h1000 : l.length ≤ 1000) (hc : c.length ≤ 65535)
    (hK : ∀ (k : Nat) (e : Ent), l[k]? = some e → HdOk e.h ∧ e.h.packed = e.data.length ∧ e.h.flags.toNat / 8 % 2 = 0 ∧ (slash (bs e.h.name) = true → e.data = []) ∧ ∃ p P, PS[k]? = some p ∧ AtK s.data.toList l c e p P B) (hsz : (filesB l).length + 180046 * l.length + 900000 ≤ 4000000000) :
    Calls Tryz.prog 20 #[.string s] w fun x w' => x = .returned (.tuple #[.string (bs (archB l c)), .bool true]) ∧ Fr [] w w' := by
  have hmany := ha.many
  have HW := Lib.hid hW
  have HA := Lib.hid ha
  have HK := Lib.hid hK
  have HL' := Lib.hid hl
  clear hW ha hK hl
  go_enter Tryz.func20, Tryz.ntmps20
  go_wp2_with fail
  refine (newStr _ s).mono ?_
  rintro e w1 ⟨rfl, hr1, hf1⟩
  have HF1 := Lib.hid hf1
  have hq := nr_t E B0 w1 w.heap.size s c PS.length D F PS B (HW.out.fr hf1 (by simp)) HA.out HW.out.eb.le hr1
  have HQ := Lib.hid hq
  have HR1 := Lib.hid hr1
  clear hr1 hf1 hq
  go_wp2_with fail
  refine HQ.out.mono ?_
  rintro e w2 ⟨xe, U, d, q, gb, b, fs, pos', hxe, rfl, hI⟩
  rw [if_pos rfl]
  obtain ⟨v, hrd, hown⟩ := hI.rd
  have hlen := hI.len
  have hfiles : ∀ (k : Nat) (e : Ent), l[k]? = some e → ∃ f p P, fs[k]? = some f ∧ FileU w2 w2.heap.size f e.h (P + B) w1.heap.size w.heap.size ∧ AtK s.data.toList l c e p P B := by
    intro k e hk
    obtain ⟨hok, -, -, -, p, P, hp, hat⟩ := HK.out k e hk
    have hkl : k < fs.length := by rw [hlen]; exact (List.getElem?_eq_some_iff.1 hp).1
    exact ⟨fs[k], p, P, List.getElem?_eq_getElem hkl, fileU_of (hI.files k fs[k] p (List.getElem?_eq_getElem hkl) hp) hat.cen hok, hat⟩
  have HFL := Lib.hid hfiles
  have hfw12 : Fr [] w1 w2 := ((Fr.refl [] w1).alloc (.cells rd0 66)).trans hI.fr (by simp)
  have HF2 := Lib.hid (HF1.out.trans hfw12 (by simp))
  have HR2 := Lib.hid (Blk.fr HR1.out hfw12 (by simp))
  have c2 := hrd.at_ 2 _ rfl
  have c1 := hrd.at_ 1 _ rfl
  have HOWN := Lib.hid hown
  have HRD := Lib.hid hrd
  obtain ⟨n, hn⟩ : ∃ n, fs.length = n := ⟨_, rfl⟩
  have hln : l.length = n := by have := HL'.out; omega
  have hvs : ∃ pa cap, v = .slice pa n cap := by
    rcases hown.2 with ⟨h1, h2⟩ | ⟨g, cap, cur, h1, _⟩
    · exact ⟨none, 0, by rw [h1]; congr 1; omega⟩
    · exact ⟨_, cap, by rw [h1, hn]⟩
  obtain ⟨pa, cap, rfl⟩ := hvs
  have hrb : w1.heap.size < w2.heap.size := hrd.lt
  have HNZ := Lib.hid (newZw (w2.alloc (.cells #[.pointer none, .slice none 0 0] 95)) w2.heap.size w2.heap.size (Blk.new _ _ _) (Nat.le_refl _))
  have e1 : ∀ o, (w2.alloc o).cell? ⟨w1.heap.size, 1, none⟩ = some (.slice pa n cap) := fun o => (hrd.alloc o).at_ 1 _ rfl
  clear hI hown hrd hfiles hfw12
  go_wp2_with fail
  refine HNZ.out.mono ?_
  rintro e w3 ⟨zw, cw, bw, bf, rfl, hC, hz, hf3, hzl⟩
  rw [World.size_alloc] at hzl
  have hf23 : Fr [] w2 w3 := ((Fr.refl [] w2).alloc _).trans hf3 (by simp)
  have hb23 : Below w2.heap.size w2 w3 := hf23.below (by simp) (Nat.le_refl _)
  have hrd3 := HRD.out.fr hf23 (by simp)
  have k1 := hrd3.at_ 1 _ rfl
  have HRD3 := Lib.hid hrd3
  have HC3 := Lib.hid hC
  have HZ3 := Lib.hid hz
  have HB23 := Lib.hid hb23
  have HF23 := Lib.hid hf23
  clear hC hz hf3 hf23 hb23 hrd3 c1 c2 e1
  go_wp2_with fail
  go_loopw [32] (fun v32 wr => ∃ k : Nat, k ≤ n ∧ v32 = .int .i64 (k : Int) ∧ CLp w3 w2.heap.size zw cw bw bf w2.heap.size l k wr) (fun v32 _ => n - (intOf v32).toNat)
  case atStart => exact ⟨0, by omega, rfl, none, _, _, [], ⟨HC3.out, ⟨by simp, .inl ⟨rfl, rfl⟩⟩, by simp⟩, HZ3.out, .inl rfl, rfl, rfl, Below.refl _ _⟩
  case round =>
    obtain ⟨k, hk, rfl, own, dv, last, L, hws, hz, hl, hLk, hdl, hb⟩ := hrel
    have hB2 : Below w2.heap.size w2 wr := HB23.out.trans hb
    have HWS := Lib.hid hws
    have HZ := Lib.hid hz
    have HLL := Lib.hid hl
    have HDL := Lib.hid hdl
    have HB := Lib.hid hb
    have HB2 := Lib.hid hB2
    have hrdr := HRD.out.below hB2 hrb
    have HRDR := Lib.hid hrdr
    have hbase : w2.heap.size ≤ wr.heap.size := hB2.size
    have hWr : WE E B0 wr := (HW.out.fr HF2.out (by simp)).fr (Fr.of_below hB2 (Nat.le_refl _) []) (by simp)
    have HWR := Lib.hid hWr
    have hB0 : B0 ≤ w2.heap.size := Nat.le_trans HW.out.eb.le HF2.out.size
    clear hws hz hl hdl hb hB2 hrdr hWr
    by_cases hlt : k < n
    · have hkl : k < l.length := by omega
      obtain ⟨e, he⟩ : ∃ e, l[k] = e := ⟨_, rfl⟩
      have hle : l[k]? = some e := by rw [List.getElem?_eq_getElem hkl, he]
      obtain ⟨f, p, P, hfk, hfu, hat⟩ := HFL.out k e hle
      obtain ⟨hok, hpk, hfl, hdr, -⟩ := HK.out k e hle
      obtain ⟨g, cap', hsl, hge, hcell, hnc, hcm⟩ := own_cell HOWN.out (k := k) (u := .pointer (some ⟨f, 0, none⟩)) (by rw [fptrs, List.getElem?_map, hfk]; rfl)
      injection hsl with q1 q2 q3
      subst q1; subst q3
      clear q2
      have hgl : g < w2.heap.size := World.block_lt_of_cell? w2 _ hcell
      have hcr := (HB2.out.cell (p := ⟨g, k, none⟩) hgl).trans hcell
      have i1 : (k : Int) < (n : Int) := by omega
      have hss := HA.out.size
      have hsl2 : s.data.toList.length = s.size := (Lib.size_eq s).symm
      obtain ⟨l1, l2, l3, l4, l5⟩ := hat.loc
      have hpn : e.h.packed.toNat = e.data.length := by omega
      have hsub : (filesB (l.take k)).length + (localB e.h).length + e.data.length ≤ (filesB l).length := by
        have h1 := filesB_take hle
        have h2 : filesB l = filesB (l.take (k + 1)) ++ filesB (l.drop (k + 1)) := by rw [← filesB_append, List.take_append_drop]
        rw [h2, h1]
        simp only [List.length_append]
        omega
      have HT := Lib.hid (filesB_take hle)
      have HDT := Lib.hid (dirB_take hle)
      have hlr : w.heap.size < w2.heap.size := Blk.lt HR2.out
      have HCP := Lib.hid (zwCopy E B0 wr zw w2.heap.size cw bw bf w2.heap.size own (filesB (l.take k)) [] dv last L f w1.heap.size w.heap.size (P + B) B e.h s e.data _ ⟨c.toArray⟩ HWR.out.env HWR.out.eb hB0 hbase (by omega) HZ.out HWS.out HLL.out (hfu.below HB2.out) hok hfl HRDR.out (Blk.below HR2.out HB2.out hlr) hlr hss (by omega) l2 (by rw [l3, hpn]; omega) (by rw [hpn]; exact l5) (fun hs => by rw [hpn, hdr hs]; rfl) (by omega) (by omega))
      clear hfu hat hcell l1 l2 l3 l4 l5
      go_wp2_with fail
      refine HCP.out.mono ?_
      rintro x w5 ⟨own', dv', last', y, rfl, hws5, hz5, hl5, hcen, hb5⟩
      have HWS5 := Lib.hid hws5
      have HZ5 := Lib.hid hz5
      have HL5 := Lib.hid hl5
      clear hws5 hz5 hl5
      go_wp2_with fail
      refine ⟨⟨k + 1, by omega, by rw [Int.natCast_add]; rfl, own', dv', last', L ++ [y], ?_, HZ5.out, HL5.out, by simp [hLk], ?_, HB.out.trans hb5⟩, by simp [intOf]; omega⟩
      · rw [HT.out]
        exact HWS5.out
      · rw [HDT.out, dirL, List.flatMap_append, ← dirL, HDL.out]
        simp [hcen]
    · obtain rfl : k = n := by omega
      have i1 : ¬ (k : Int) < (k : Int) := by omega
      have c2 : wr.cell? ⟨w1.heap.size, 2, none⟩ = some (.string (bs c)) := HRDR.out.at_ 2 _ rfl
      have htk : l.take k = l := List.take_of_length_le (by omega)
      have hws := HWS.out
      have hdl := HDL.out
      rw [htk] at hws hdl
      have hf5 : Fr [zw] wr (wr.setCell ⟨zw, 5, none⟩ (.string (bs c))) := (Fr.refl _ _).setCell (.inl (by simp)) _
      have hoz := hws.hC.offBlk HZ.out (by decide) (by decide) (by decide) (by decide)
      have hws5 := hws.fr (hws.hC.fr hf5 (by simp; exact fun e => hoz.1 e.symm) (by simp; exact fun e => hoz.2.1 e.symm) (by simp; exact fun e => hoz.2.2.1 e.symm) (by simp; exact fun e => hoz.2.2.2.1 e.symm) (fun g hg => by simp; exact fun e => hoz.2.2.2.2 (by rw [hg, e]))) hf5 (.inl rfl) (fun s hs => by simp at hs; subst hs; exact .inr (.inr ⟨_, _, HZ.out, by decide, by decide, by decide⟩)) (fun s hs => by simp at hs; subst hs; exact hws.dvty HZ.out (by decide))
      have hl5 := HLL.out.fr hws hf5 (fun s hs => by simp at hs; subst hs; exact .inr ⟨_, _, HZ.out, by decide, by decide⟩)
      have hz5 := HZ.out.set_ 5 (.string (bs c))
      have hlc : LastC _ zw w2.heap.size cw bw bf w2.heap.size own (filesB l) dv last c L := hl5.c hz5 hws5 (Nat.le_trans hbase hf5.size)
      have HCD := Lib.hid (closedC wr zw w2.heap.size cw bw bf w2.heap.size own (filesB l) dv last [] c L HZ.out hlc hbase (by omega) (by omega) (by rw [hLk]; omega) hc (by have := dirL_le (l := L) (fun x hx => (hws.hL x hx).2); omega))
      have harc : filesB l ++ dirL L ++ endB L.length (dirL L).length (filesB l).length c = archB l c := by rw [hdl, hLk, ← hln]; rfl
      rw [harc] at HCD
      clear hws hdl hf5 hws5 hl5 hz5 hlc harc
      go_wp2_with fail
      refine HCD.out.mono ?_
      rintro x w5 ⟨rfl, hb5⟩
      have HB5 := Lib.hid hb5
      clear hb5
      go_wp2_with fail
      go_ret2
      exact ⟨rfl, HF2.out.trans (Fr.of_below (HB2.out.trans HB5.out) (Nat.le_refl _) []) (by simp)⟩
end Go.Proofs.YtalgnjkdoaaacaaGreatDoor

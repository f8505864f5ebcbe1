/- CreateHeader, behind the flags. -/
import Derived.Test.YtalgnjkdoaaacaaGreatDoorQef
import Derived.Test.YtalgnjkdoaaacaaGreatDoorQs
set_option linter.unusedVariables false
set_option linter.unusedSimpArgs false
namespace Go.Proofs.YtalgnjkdoaaacaaGreatDoor
open Go Go.RowKit
open Zp
/-- What is held while a file that is not raw is open. -/
structure PN (w : World) (base cw bw bf sb : Nat) (own : Option Nat) (T : By) (dv : Value) (L : List WR) (x : WR) (nu : Bool) (fw rc nc cc cr n v : Nat) : Prop where
  hC : CW w base cw bw bf sb own T
  hd : w.ownsRow base 151 1 dv (L.length + 1) ((L.map fun y => .pointer (some ⟨y.hh, 0, none⟩)) ++ [.pointer (some ⟨x.hh, 0, none⟩)])
  hL : ∀ y ∈ L, RA w bf own y ∧ y.Ok
  hx : HN w x.hh x.fh x.off x.nm x.cm nu x.cr x.rd x.fl x.me x.ti x.da x.ext 0 0 none
  hw : FwN w x.hh cw fw rc nc cc cr n v false
  hnf : ∀ y ∈ L, y.fh ≠ x.fh
  lo : base ≤ fw ∧ base ≤ rc ∧ base ≤ nc ∧ base ≤ cc ∧ base ≤ cr ∧ base ≤ x.fh ∧ base ≤ x.hh
/-- The record of a file that is written so. -/
def mkW (nm cm : By) (fl ext off hh fh : Nat) : WR := ⟨nm, cm, [], 20, 20, fl, 0, 0, 0, 0, 0, 0, ext, off, hh, fh⟩
/-- What CreateHeader comes to. -/
def ChN (w : World) (zw base cw bw bf sb fh fl ext : Nat) (T c nm cm : By) (nu : Bool) (L : List WR) (v4 : Value) (w' : World) : Prop :=
  KE w w' ∧ Below base w w' ∧
  ((slash (bs nm) = true ∧ v4 = .iface 156 (.agg #[]) ∧ ∃ own' dv' hh, WS w' base cw bw bf sb own' (T ++ locL 20 fl 0 0 0 0 0 0 nm []) dv' (L ++ [mkW nm cm fl ext T.length hh fh]) ∧ Blk w' zw 136 (zwC cw dv' (.pointer none) false c)) ∨
   (slash (bs nm) = false ∧ ∃ own' dv' hh fw rc nc cc cr, v4 = .iface 132 (.pointer (some ⟨fw, 0, none⟩)) ∧ PN w' base cw bw bf sb own' (T ++ locL 20 (fl + 8) 0 0 0 0 0 0 nm []) dv' L (mkW nm cm (fl + 8) ext T.length hh fh) nu fw rc nc cc cr 0 0 ∧ Blk w' zw 136 (zwC cw dv' (.pointer (some ⟨fw, 0, none⟩)) false c)))
theorem WS.frX {w w' : World} {base cw bw bf sb : Nat} {own own' : Option Nat} {T T' : By} {dv : Value} {L : List WR} {S : List Nat} (h : WS w base cw bw bf sb own T dv L) (hC : CW w' base cw bw bf sb own' T') (hf : Fr S w w') (ho : OwnN w own own') (hS : ∀ x ∈ L, FarX w cw bw bf sb own x.fh S) (hd : ∀ s ∈ S, dv.ownBlock ≠ some s) : WS w' base cw bw bf sb own' T' dv L :=
  ⟨hC, rowB_fr h.hd hf hd, fun x hx => ⟨(h.hL x hx).1.frX h.hC hf ho (hS x hx), (h.hL x hx).2⟩⟩
/-- Stores into a FileHeader that is none of the records'. -/
theorem WS.fh {w w' : World} {base cw bw bf sb fh : Nat} {own : Option Nat} {T : By} {dv : Value} {L : List WR} {cf : Array Value} (h : WS w base cw bw bf sb own T dv L) (hfh : Blk w fh 78 cf) (hnf : ∀ x ∈ L, x.fh ≠ fh) (hf : Fr [fh] w w') : WS w' base cw bw bf sb own T dv L := by
  have ho := h.hC.offBlk hfh (by decide) (by decide) (by decide) (by decide)
  refine h.frX (h.hC.fr hf (by simp; exact fun e => ho.1 e.symm) (by simp; exact fun e => ho.2.1 e.symm) (by simp; exact fun e => ho.2.2.1 e.symm) (by simp; exact fun e => ho.2.2.2.1 e.symm) (fun g hg => by simp; exact fun e => ho.2.2.2.2 (by rw [hg, e]))) hf (.inl rfl) (fun x hx s hs => ?_) (fun s hs => ?_)
  · simp at hs; subst hs
    exact .inr (.inr ⟨_, _, hfh, by decide, .inr (fun e => hnf x hx e.symm), by decide⟩)
  · simp at hs; subst hs
    exact h.dvty hfh (by decide)
/-- The records behind the tail of CreateHeader. -/
theorem ChW.ws {w w' : World} {zw base cw bw bf sb hh fh off : Nat} {own : Option Nat} {T : By} {dv : Value} {c : By} {L : List WR} {nm cm : By} {nu : Bool} {fl ext : Nat} {fwv last : Value} {cl : Bool} {c' : By} (h : ChW w zw base cw bw bf sb L.length hh fh off own T dv c (L.map fun x => .pointer (some ⟨x.hh, 0, none⟩)) nm cm nu 20 20 fl 0 0 0 ext 0 0 none fwv w') (hW : WS w base cw bw bf sb own T dv L) (hz : Blk w zw 136 (zwC cw dv last cl c')) (hzb : base ≤ zw) (hbs : base ≤ w.heap.size) :
    ∃ own' dv', CW w' base cw bw bf sb own' (T ++ locL 20 fl 0 0 0 0 0 0 nm []) ∧ w'.ownsRow base 151 1 dv' (L.length + 1) ((L.map fun x => .pointer (some ⟨x.hh, 0, none⟩)) ++ [.pointer (some ⟨hh, 0, none⟩)]) ∧ (∀ y ∈ L, RA w' bf own' y ∧ y.Ok) ∧ HN w' hh fh off nm cm nu 20 20 fl 0 0 0 ext 0 0 none ∧ Blk w' zw 136 (zwC cw dv' fwv false c) ∧ KE w w' ∧ Below base w w' ∧ Fr (zw :: (dv.ownBlock.toList ++ cwS cw bw bf sb own)) w w' := by
  obtain ⟨own', dv', hC', hO', hz', hrow', hHN', hfr'⟩ := h
  have hk : ∀ s ∈ zw :: (dv.ownBlock.toList ++ cwS cw bw bf sb own), base ≤ s ∧ ((s ∈ cwS cw bw bf sb own) ∨ ∃ t cs, Blk w s t cs ∧ (t = 136 ∨ t = 151)) := fun s hs => by
    simp only [List.mem_cons, List.mem_append] at hs
    rcases hs with hs | hs | hs
    · subst hs; exact ⟨hzb, .inr ⟨_, _, hz, .inl rfl⟩⟩
    · obtain ⟨h1, -, cs, ht⟩ := hW.dvne (s := s) (by simpa using hs)
      exact ⟨h1, .inr ⟨_, _, ht, .inr rfl⟩⟩
    · have : s ∈ cwS cw bw bf sb own := by simp only [cwS, List.mem_cons]; exact hs
      exact ⟨hW.hC.ge s this, .inl this⟩
  have hfar : FarR w cw bw bf sb own (zw :: (dv.ownBlock.toList ++ cwS cw bw bf sb own)) := fun s hs => by
    rcases (hk s hs).2 with h | ⟨t, cs, hb, ht⟩
    · exact .inr (.inl h)
    · exact .inr (.inr ⟨t, cs, hb, by rcases ht with k | k <;> (rw [k]; decide), by rcases ht with k | k <;> (rw [k]; decide), by rcases ht with k | k <;> (rw [k]; decide)⟩)
  refine ⟨own', dv', hC', hrow', fun y hy => ⟨(hW.hL y hy).1.fr hW.hC hfr' hO' hfar, (hW.hL y hy).2⟩, hHN', hz', KE.of_fr hfr' (fun s hs => ?_), hfr'.below (fun s hs => (hk s hs).1) hbs, hfr'⟩
  rcases (hk s hs).2 with h | ⟨t, cs, hb, ht⟩
  · obtain ⟨t, cs, hb, hkk⟩ := hW.hC.typ h
    exact .inr ⟨t, cs, hb, by rcases hkk with ⟨k, -⟩ | ⟨k, -⟩ | ⟨k, -⟩ | ⟨k, -⟩ <;> (rw [k]; decide)⟩
  · exact .inr ⟨t, cs, hb, by rcases ht with k | k <;> (rw [k]; decide)⟩
set_option maxRecDepth 100000 in
set_option maxHeartbeats 16000000 in
theorem chd22 (a : Act) (w : World) (zw base cw bw bf sb fh fl ext : Nat) (own : Option Nat) (T c nm cm : By) (nu : Bool) (dv last : Value) (L : List WR)
    (hs : a.tmps.size = 252) (hd : a.defers = []) (h0 : slotOf a 0 = .pointer (some ⟨zw, 0, none⟩)) (h1 : slotOf a 1 = .pointer (some ⟨fh, 0, none⟩))
    (hz : Blk w zw 136 (zwC cw dv last false c)) (hW : WS w base cw bw bf sb own T dv L) (hfh : Blk w fh 78 (fhC nm cm nu 20 20 fl 0 0 0 0 0 0 ext (.slice none 0 0) 0 0 none)) (hbs : base ≤ w.heap.size) (hzb : base ≤ zw) (hfb : base ≤ fh)
    (eA : bits .andNot .u16 (fl : Int) 8 = (fl : Int)) (eO : bits .or .u16 (fl : Int) 8 = ((fl + 8 : Nat) : Int)) (hfl : fl ≤ 60000) (hnf : ∀ x ∈ L, x.fh ≠ fh) (hL : L.length < 1000) (hT : T.length + 200000 ≤ 4000000000) (hnm : nm.length ≤ 60000) (hcm : cm.length ≤ 60000) (hext : ext ≤ 4294967295) :
    (chdFrom 22).wp Tryz.prog (RQ (fun a' w' => a'.defers = [] ∧ slotOf a' 5 = .nilIface ∧ ChN w zw base cw bw bf sb fh fl ext T c nm cm nu L (slotOf a' 4) w')) a w := by
  have HZ := Lib.hid hz
  have HW := Lib.hid hW
  have HF := Lib.hid hfh
  have c0 := hz.at_ 0 (.pointer (some ⟨cw, 0, none⟩)) rfl
  have k1 := hW.hC.hc.at_ 1 (.int .i64 (T.length : Int)) rfl
  obtain ⟨tl, htl⟩ : ∃ tl, T.length = tl := ⟨_, rfl⟩
  have HTL := Lib.hid htl
  rw [htl] at k1 hT
  have hfh1 := hfh.alloc (.cells #[.pointer (some ⟨fh, 0, none⟩), .int .u64 (tl : Int), .bool false] 153)
  have f0 := hfh1.at_ 0 (.string (bs nm)) rfl
  have HSF := Lib.hid (fun w => hasSuf w (bs nm) (by rw [bs_size]; omega))
  rw [frame252 hs hd, h0, h1]
  clear hz hW hfh hfh1 hs hd h0 h1 htl
  conv => arg 2; whnf
  go_wp2_with fail
  refine (HSF.out _).mono ?_
  rintro e w1 ⟨rfl, mm, hw1⟩
  have hf1 : Fr [] w w1 := by rw [hw1]; exact ((Fr.refl [] w).alloc _).drewN mm
  have hh1 : Blk w1 w.heap.size 153 #[.pointer (some ⟨fh, 0, none⟩), .int .u64 (tl : Int), .bool false] := by rw [hw1]; exact (Blk.new _ _ _).drewN mm
  clear hw1
  have hfh1 := HF.out.fr hf1 (by simp)
  have hz1 := HZ.out.fr hf1 (by simp)
  have hhl := hh1.lt
  have HF1 := Lib.hid hf1
  have HH1 := Lib.hid hh1
  have HFH1 := Lib.hid hfh1
  have HZ1 := Lib.hid hz1
  clear hf1 hh1 hfh1 hz1 c0 k1 f0
  go_upto_if 140 with fail
  rename_i K hK
  have HK := Lib.hid (fun a w (h : (chdFrom 45).wp Tryz.prog _ a w) => hK a w (wp_code (c := chdFrom 45) (by kernel_rfl) h))
  clear hK
  obtain ⟨sl, hsl⟩ : ∃ sl, slash (bs nm) = sl := ⟨_, rfl⟩
  rw [hsl]
  have HSL := Lib.hid hsl
  clear hsl
  cases sl with
  | true =>
    have f5 := HFH1.out.at_ 5 (.int .u16 (fl : Int)) rfl
    have f6 := HFH1.out.at_ 6 (.int .u16 0) rfl
    have f13 := HFH1.out.at_ 13 (.int .u32 0) rfl
    have f14 := HFH1.out.at_ 14 (.int .u32 0) rfl
    have f15 := HFH1.out.at_ 15 (.int .u64 0) rfl
    have f16 := HFH1.out.at_ 16 (.int .u64 0) rfl
    have z5 := HFH1.out.frozen 5
    have z6 := HFH1.out.frozen 6
    have z13 := HFH1.out.frozen 13
    have z14 := HFH1.out.frozen 14
    have z15 := HFH1.out.frozen 15
    have z16 := HFH1.out.frozen 16
    have hFS : Fr [fh] w1 ((((((w1.setCell ⟨fh, 6, none⟩ (.int .u16 0)).setCell ⟨fh, 5, none⟩ (.int .u16 (fl : Int))).setCell ⟨fh, 13, none⟩ (.int .u32 0)).setCell ⟨fh, 15, none⟩ (.int .u64 0)).setCell ⟨fh, 14, none⟩ (.int .u32 0)).setCell ⟨fh, 16, none⟩ (.int .u64 0)) :=
      ((((((Fr.refl [fh] w1).setCell (p := ⟨fh, 6, none⟩) (.inl (by simp)) _).setCell (p := ⟨fh, 5, none⟩) (.inl (by simp)) _).setCell (p := ⟨fh, 13, none⟩) (.inl (by simp)) _).setCell (p := ⟨fh, 15, none⟩) (.inl (by simp)) _).setCell (p := ⟨fh, 14, none⟩) (.inl (by simp)) _).setCell (p := ⟨fh, 16, none⟩) (.inl (by simp)) _
    have hbS := (((((HFH1.out.set_ 6 (.int .u16 0)).set_ 5 (.int .u16 (fl : Int))).set_ 13 (.int .u32 0)).set_ 15 (.int .u64 0)).set_ 14 (.int .u32 0)).set_ 16 (.int .u64 0)
    have HFS := Lib.hid hFS
    have HBS := Lib.hid hbS
    clear hFS hbS
    go_wp2_with fail
    obtain ⟨wS, hwS⟩ : ∃ wS, ((((((w1.setCell ⟨fh, 6, none⟩ (.int .u16 0)).setCell ⟨fh, 5, none⟩ (.int .u16 (fl : Int))).setCell ⟨fh, 13, none⟩ (.int .u32 0)).setCell ⟨fh, 15, none⟩ (.int .u64 0)).setCell ⟨fh, 14, none⟩ (.int .u32 0)).setCell ⟨fh, 16, none⟩ (.int .u64 0)) = wS := ⟨_, rfl⟩
    rw [hwS] at HFS HBS ⊢
    clear hwS
    have hbS : Blk wS fh 78 (fhC nm cm nu 20 20 fl 0 0 0 0 0 0 ext (.slice none 0 0) 0 0 none) := HBS.out
    have hFW : Fr [fh] w wS := (HF1.out.mono (by simp)).trans HFS.out (by simp)
    have hWS := HW.out.fh HF.out hnf hFW
    have hzS := HZ.out.fr hFW (by simp; exact HZ.out.ne_ HF.out (by decide))
    have hhS := HH1.out.fr HFS.out (by simp; exact HH1.out.ne_ HFH1.out (by decide))
    have hbB : Below base w wS := hFW.below (by simp; exact hfb) hbs
    refine HK.out _ _ (wp_rq (chd45 _ wS zw base cw bw bf sb L.length w.heap.size fh tl own T dv last c (L.map fun x => .pointer (some ⟨x.hh, 0, none⟩)) nm cm nu 20 20 fl 0 0 0 ext 0 0 none (.iface 156 (.agg #[])) none rfl rfl rfl rfl rfl rfl hzS hWS.hC hWS.hd ⟨hhS, hbS⟩ (Nat.le_trans hbs hFW.size) (by omega) (by rw [HTL.out]; exact hT) (by decide) (by omega) (by decide) (by decide) (by decide) (by omega)) ?_)
    rintro a' w' ⟨q1, q2, q3, q4⟩
    obtain ⟨own', dv', r1, r2, r3, r4, r5, r6, r7, -⟩ := q4.ws hWS hzS hzb (Nat.le_trans hbs hFW.size)
    refine ⟨q1, q3, (KE.of_fr hFW (fun s hs => by simp at hs; subst hs; exact .inr ⟨_, _, HF.out, by decide⟩)).trans r6, hbB.trans r7, .inl ⟨HSL.out, q2, own', dv', w.heap.size, ⟨r1, by simpa [mkW] using r2, fun x hx => ?_⟩, r5⟩⟩
    rcases List.mem_append.1 hx with h | h
    · exact r3 x h
    · have : x = mkW nm cm fl ext T.length w.heap.size fh := by simpa using h
      subst this
      exact ⟨⟨false, nu, 0, 0, none, none, 0, by rw [HTL.out]; exact r4.h, r4.f, .inl rfl⟩, ⟨by show 20 ≤ 65535; decide, by show 20 ≤ 65535; decide, by show fl ≤ _; omega, by show 0 ≤ 65535; decide, by show 0 ≤ 65535; decide, by show 0 ≤ 65535; decide, by show 0 ≤ _; omega, by show 0 ≤ _; omega, by show 0 ≤ _; omega, hext, by show T.length ≤ _; have := HTL.out; omega, hnm, hcm, by show 0 ≤ _; omega⟩⟩
  | false =>
    have f5 := HFH1.out.at_ 5 (.int .u16 (fl : Int)) rfl
    have z5 := HFH1.out.frozen 5
    have hFS : Fr [fh] w1 (w1.setCell ⟨fh, 5, none⟩ (.int .u16 ((fl : Int) + 8))) := (Fr.refl [fh] w1).setCell (p := ⟨fh, 5, none⟩) (.inl (by simp)) _
    have hbS : Blk (w1.setCell ⟨fh, 5, none⟩ (.int .u16 ((fl : Int) + 8))) fh 78 (fhC nm cm nu 20 20 (fl + 8) 0 0 0 0 0 0 ext (.slice none 0 0) 0 0 none) := by
      have := HFH1.out.set_ 5 (.int .u16 ((fl : Int) + 8))
      rw [show (fl : Int) + 8 = ((fl + 8 : Nat) : Int) by omega] at this ⊢
      exact this
    have hzS := HZ1.out.fr hFS (by simp; exact HZ1.out.ne_ HFH1.out (by decide))
    have HFS := Lib.hid hFS
    have HBS := Lib.hid hbS
    have HZS := Lib.hid hzS
    clear hFS hbS hzS
    go_upto_region 34 with fail
    rename_i K34 hK34
    obtain ⟨wS, hwS⟩ : ∃ wS, w1.setCell ⟨fh, 5, none⟩ (.int .u16 ((fl : Int) + 8)) = wS := ⟨_, rfl⟩
    rw [hwS] at HFS HBS HZS ⊢
    clear hwS f5 z5
    have g0 := HZS.out.at_ 0 (.pointer (some ⟨cw, 0, none⟩)) rfl
    have g1 : ∀ o, (wS.alloc o).cell? ⟨zw, 0, none⟩ = some (.pointer (some ⟨cw, 0, none⟩)) := fun o => (HZS.out.alloc o).at_ 0 _ rfl
    have g2 : ∀ o o', ((wS.alloc o).alloc o').cell? ⟨zw, 0, none⟩ = some (.pointer (some ⟨cw, 0, none⟩)) := fun o o' => ((HZS.out.alloc o).alloc o').at_ 0 _ rfl
    have HK34 := Lib.hid (fun a w (h : (chdFrom 35).wp Tryz.prog _ a w) => hK34 a w (wp_code (c := chdFrom 35) (by kernel_rfl) h))
    clear hK34
    have key : ∀ (aa : Act) (wT : World) (fw cc cr : Nat), aa.tmps.size = 252 → aa.defers = [] → slotOf aa 0 = .pointer (some ⟨zw, 0, none⟩) → slotOf aa 1 = .pointer (some ⟨fh, 0, none⟩) → slotOf aa 15 = .pointer (some ⟨fw, 0, none⟩) → slotOf aa 16 = .pointer (some ⟨w.heap.size, 0, none⟩) →
        Fr [] wS wT → wS.heap.size ≤ fw → wS.heap.size ≤ cc → wS.heap.size ≤ cr →
        Blk wT fw 163 #[.pointer none, .iface 126 (.pointer (some ⟨cw, 0, none⟩)), .pointer none, .nilIface, .pointer (some ⟨cc, 0, none⟩), .pointer (some ⟨cr, 0, none⟩), .bool false] →
        Blk wT cc 130 #[.iface 126 (.pointer (some ⟨cw, 0, none⟩)), .int .i64 0] → Blk wT cr 159 #[.int .u32 0] → K34 aa wT := by
      intro aa wT fw cc cr j1 j2 j3 j4 j5 j6 jf jl1 jl2 jl3 jb1 jb2 jb3
      have hsw : w.heap.size ≤ wS.heap.size := Nat.le_trans HF1.out.size HFS.out.size
      have hFT : Fr [fh] w wT := ((HF1.out.mono (by simp)).trans HFS.out (by simp)).trans jf (by simp)
      have hcwl : cw < w.heap.size := HW.out.hC.hc.lt
      have hfhl := HF.out.lt
      have hzT := HZ.out.fr hFT (by simp; exact HZ.out.ne_ HF.out (by decide))
      refine HK34.out _ _ (wp_nq (chd35 aa wT zw fh w.heap.size cw fw cc cr dv last false c _ j1 j2 j3 j4 j5 j6 hzT (HBS.out.fr jf (by simp)) rfl jb1 jb2 jb3 (by omega) (Nat.lt_of_lt_of_le hcwl hFT.size)) ?_)
      rintro a' w' ⟨k1, k2, k3, k4, k5, k6, rc, nc, l1, l2, hfn, hfr⟩
      have hFW : Fr [fh] w w' := hFT.trans hfr (fun s hs => by simp at hs; subst hs; exact .inr (by omega))
      have hWS := HW.out.fh HF.out hnf hFW
      have hzS := HZ.out.fr hFW (by simp; exact HZ.out.ne_ HF.out (by decide))
      have hbS : Blk w' fh 78 (fhC nm cm nu 20 20 (fl + 8) 0 0 0 0 0 0 ext (.slice none 0 0) 0 0 none) := (HBS.out.fr jf (by simp)).fr hfr (by simp; omega)
      have hhS := ((HH1.out.fr HFS.out (by simp; exact HH1.out.ne_ HFH1.out (by decide))).fr jf (by simp)).fr hfr (by simp; have := HH1.out.lt; have := HFS.out.size; omega)
      have hbB : Below base w w' := hFW.below (by simp; exact hfb) hbs
      refine HK.out _ _ (wp_rq (chd45 a' w' zw base cw bw bf sb L.length w.heap.size fh tl own T dv last c (L.map fun x => .pointer (some ⟨x.hh, 0, none⟩)) nm cm nu 20 20 (fl + 8) 0 0 0 ext 0 0 none (.iface 132 (.pointer (some ⟨fw, 0, none⟩))) (some ⟨fw, 0, none⟩) k1 k2 k3 k4 k5 k6 hzS hWS.hC hWS.hd ⟨hhS, hbS⟩ (Nat.le_trans hbs hFW.size) (by omega) (by rw [HTL.out]; exact hT) (by decide) (by omega) (by decide) (by decide) (by decide) (by omega)) ?_)
      rintro a2 w2 ⟨q1, q2, q3, q4⟩
      obtain ⟨own', dv', r1, r2, r3, r4, r5, r6, r7, r8⟩ := q4.ws hWS hzS hzb (Nat.le_trans hbs hFW.size)
      have hout : ∀ g t cs, Blk w' g t cs → t ≠ 136 → t ≠ 151 → t ≠ 240 → t ≠ 95 → t ≠ 5 → g ≠ cw → g ∉ zw :: (dv.ownBlock.toList ++ cwS cw bw bf sb own) := fun g t cs hb t1 t2 t3 t4 t5 hg hm => by
        simp only [List.mem_cons, List.mem_append] at hm
        rcases hm with hm | hm | hm
        · subst hm; exact hb.ne_ hzS t1 rfl
        · exact hWS.dvty hb t2 (by simpa using hm)
        · obtain ⟨t', cs', hb', hk⟩ := hWS.hC.typ (s := g) (by simp only [cwS, List.mem_cons]; exact hm)
          rcases hk with ⟨k, k'⟩ | ⟨k, -⟩ | ⟨k, -⟩ | ⟨k, -⟩
          · exact hg k'
          · exact hb.ne_ hb' (fun e => t3 (e.trans k)) rfl
          · exact hb.ne_ hb' (fun e => t4 (e.trans k)) rfl
          · exact hb.ne_ hb' (fun e => t5 (e.trans k)) rfl
      have hcwg := hWS.hC.hc
      have hfn2 := hfn.fr r8 (hout _ _ _ hfn.f (by decide) (by decide) (by decide) (by decide) (by decide) (hfn.f.ne_ hcwg (by decide))) (hout _ _ _ hfn.r (by decide) (by decide) (by decide) (by decide) (by decide) hfn.ne.2.1) (hout _ _ _ hfn.k (by decide) (by decide) (by decide) (by decide) (by decide) (hfn.k.ne_ hcwg (by decide))) (hout _ _ _ hfn.c (by decide) (by decide) (by decide) (by decide) (by decide) hfn.ne.2.2) (hout _ _ _ hfn.s (by decide) (by decide) (by decide) (by decide) (by decide) (hfn.s.ne_ hcwg (by decide)))
      have hTs := hFT.size
      refine ⟨q1, q3, (KE.of_fr hFW (fun s hs => by simp at hs; subst hs; exact .inr ⟨_, _, HF.out, by decide⟩)).trans r6, hbB.trans r7, .inr ⟨HSL.out, own', dv', w.heap.size, fw, rc, nc, cc, cr, q2, ⟨r1, r2, r3, by rw [HTL.out]; exact r4, hfn2, hnf, ⟨by omega, by omega, by omega, by omega, by omega, hfb, hbs⟩⟩, r5⟩⟩
    have KEY := Lib.hid key
    clear key
    go_region
    · refine KEY.out _ _ (wS.heap.size + 1 + 1) wS.heap.size (wS.heap.size + 1) rfl rfl rfl rfl rfl rfl ((((Fr.refl [] wS).alloc _).alloc _).alloc _).drew (by omega) (by omega) (by omega) ?_ ?_ ?_
      · have := Blk.new ((wS.alloc (.cells #[.iface 126 (.pointer (some ⟨cw, 0, none⟩)), .int .i64 0] 130)).alloc (.cells #[.int .u32 0] 159)) 163 #[.pointer none, .iface 126 (.pointer (some ⟨cw, 0, none⟩)), .pointer none, .nilIface, .pointer (some ⟨wS.heap.size, 0, none⟩), .pointer (some ⟨wS.heap.size + 1, 0, none⟩), .bool false]
        rw [World.size_alloc, World.size_alloc] at this
        exact this.drew
      · exact (((Blk.new wS _ _).alloc _).alloc _).drew
      · have := Blk.new (wS.alloc (.cells #[.iface 126 (.pointer (some ⟨cw, 0, none⟩)), .int .i64 0] 130)) 159 #[.int .u32 0]
        rw [World.size_alloc] at this
        exact (this.alloc _).drew
    · refine KEY.out _ _ (wS.heap.size + 1 + 1) (wS.heap.size + 1) wS.heap.size rfl rfl rfl rfl rfl rfl ((((Fr.refl [] wS).alloc _).alloc _).alloc _).drew (by omega) (by omega) (by omega) ?_ ?_ ?_
      · have := Blk.new ((wS.alloc (.cells #[.int .u32 0] 159)).alloc (.cells #[.iface 126 (.pointer (some ⟨cw, 0, none⟩)), .int .i64 0] 130)) 163 #[.pointer none, .iface 126 (.pointer (some ⟨cw, 0, none⟩)), .pointer none, .nilIface, .pointer (some ⟨wS.heap.size + 1, 0, none⟩), .pointer (some ⟨wS.heap.size, 0, none⟩), .bool false]
        rw [World.size_alloc, World.size_alloc] at this
        exact this.drew
      · have := Blk.new (wS.alloc (.cells #[.int .u32 0] 159)) 130 #[.iface 126 (.pointer (some ⟨cw, 0, none⟩)), .int .i64 0]
        rw [World.size_alloc] at this
        exact (this.alloc _).drew
      · exact (((Blk.new wS _ _).alloc _).alloc _).drew
end Go.Proofs.YtalgnjkdoaaacaaGreatDoor

/- CreateHeader, from the flags on. -/
namespace Go.Proofs.YtalgnjkdoaaacaaGreatDoor
open Go Go.RowKit
open Zp
theorem ChN.base {w0 w : World} {zw base cw bw bf sb fh fl ext : Nat} {T c nm cm : By} {nu : Bool} {L : List WR} {v4 : Value} {w' : World} (h : ChN w zw base cw bw bf sb fh fl ext T c nm cm nu L v4 w') (hk : KE w0 w) (hb : Below base w0 w) : ChN w0 zw base cw bw bf sb fh fl ext T c nm cm nu L v4 w' := ⟨hk.trans h.1, hb.trans h.2.1, h.2.2⟩
set_option maxRecDepth 100000 in
set_option maxHeartbeats 16000000 in
theorem chd10 (a : Act) (w : World) (zw base cw bw bf sb fh fl ext : Nat) (own : Option Nat) (T c nm cm : By) (nu : Bool) (dv last : Value) (L : List WR)
    (hs : a.tmps.size = 252) (hd : a.defers = []) (h0 : slotOf a 0 = .pointer (some ⟨zw, 0, none⟩)) (h1 : slotOf a 1 = .pointer (some ⟨fh, 0, none⟩))
    (hz : Blk w zw 136 (zwC cw dv last false c)) (hW : WS w base cw bw bf sb own T dv L) (hfh : Blk w fh 78 (fhC nm cm nu 0 0 fl 0 0 0 0 0 0 ext (.slice none 0 0) 0 0 none)) (hbs : base ≤ w.heap.size) (hzb : base ≤ zw) (hfb : base ≤ fh)
    (eA : bits .andNot .u16 (fl : Int) 8 = (fl : Int)) (eO : bits .or .u16 (fl : Int) 8 = ((fl + 8 : Nat) : Int)) (hfl : fl ≤ 60000) (hnf : ∀ x ∈ L, x.fh ≠ fh) (hL : L.length < 1000) (hT : T.length + 200000 ≤ 4000000000) (hnm : nm.length ≤ 60000) (hcm : cm.length ≤ 60000) (hext : ext ≤ 4294967295) :
    (chdFrom 10).wp Tryz.prog (RQ (fun a' w' => a'.defers = [] ∧ slotOf a' 5 = .nilIface ∧ ChN w zw base cw bw bf sb fh fl ext T c nm cm nu L (slotOf a' 4) w')) a w := by
  have HZ := Lib.hid hz
  have HW := Lib.hid hW
  have HF := Lib.hid hfh
  have f3 := hfh.at_ 3 (.int .u16 0) rfl
  have f4 := hfh.at_ 4 (.int .u16 0) rfl
  have z3 := hfh.frozen 3
  have z4 := hfh.frozen 4
  have e1 : bits .and .u16 0 65280 = 0 := by rfl
  have e2 : bits .or .u16 0 20 = 20 := by rfl
  have hb2 := (hfh.set_ 3 (.int .u16 20)).set_ 4 (.int .u16 20)
  have g7 := hb2.at_ 7 (.int .u64 0) rfl
  have g8 := hb2.at_ 8 (.int .i64 0) rfl
  have g9 := hb2.at_ 9 (.pointer none) rfl
  have hFS : Fr [fh] w ((w.setCell ⟨fh, 3, none⟩ (.int .u16 20)).setCell ⟨fh, 4, none⟩ (.int .u16 20)) := ((Fr.refl [fh] w).setCell (p := ⟨fh, 3, none⟩) (.inl (by simp)) _).setCell (p := ⟨fh, 4, none⟩) (.inl (by simp)) _
  have HB2 := Lib.hid hb2
  have HFS := Lib.hid hFS
  have HIZ := Lib.hid (isZero0 ((w.setCell ⟨fh, 3, none⟩ (.int .u16 20)).setCell ⟨fh, 4, none⟩ (.int .u16 20)))
  have HEA := Lib.hid eA
  have HEO := Lib.hid eO
  rw [frame252 hs hd, h0, h1]
  clear hz hW hfh hb2 hFS hs hd h0 h1 eA eO
  conv => arg 2; whnf
  go_wp2_with fail
  refine HIZ.out.mono ?_
  rintro e w1 ⟨rfl, hf1⟩
  have HF1 := Lib.hid hf1
  clear hf1
  go_upto_if 89 with fail
  rename_i K hK
  have HK := Lib.hid (fun a w (h : (chdFrom 22).wp Tryz.prog _ a w) => hK a w (wp_code (c := chdFrom 22) (by kernel_rfl) h))
  clear hK
  go_wp2_with fail
  have hFW : Fr [fh] w w1 := HFS.out.trans HF1.out (by simp)
  have hWS := HW.out.fh HF.out hnf hFW
  have hzS := HZ.out.fr hFW (by simp; exact HZ.out.ne_ HF.out (by decide))
  have hb1 : Blk w1 fh 78 (fhC nm cm nu 20 20 fl 0 0 0 0 0 0 ext (.slice none 0 0) 0 0 none) := HB2.out.fr HF1.out (by simp)
  refine HK.out _ _ (wp_rq (chd22 _ w1 zw base cw bw bf sb fh fl ext own T c nm cm nu dv last L rfl rfl rfl rfl hzS hWS hb1 (Nat.le_trans hbs hFW.size) hzb hfb HEA.out HEO.out hfl hnf hL hT hnm hcm hext) ?_)
  rintro a' w' ⟨q1, q2, q3⟩
  exact ⟨q1, q2, q3.base (KE.of_fr hFW (fun s hs => by simp at hs; subst hs; exact .inr ⟨_, _, HF.out, by decide⟩)) (hFW.below (by simp; exact hfb) hbs)⟩
end Go.Proofs.YtalgnjkdoaaacaaGreatDoor

/- CreateHeader, behind prepare. -/
namespace Go.Proofs.YtalgnjkdoaaacaaGreatDoor
open Go Go.RowKit
open Zp
/-- What CreateHeader comes to: the flags tell UTF-8 or not. -/
def ChF (w : World) (zw base cw bw bf sb fh ext : Nat) (T c nm cm : By) (nu : Bool) (L : List WR) (v4 : Value) (w' : World) : Prop :=
  ∃ fl, (fl = 0 ∨ fl = 2048) ∧ ChN w zw base cw bw bf sb fh fl ext T c nm cm nu L v4 w'
set_option maxRecDepth 100000 in
set_option maxHeartbeats 16000000 in
theorem chd4 (a : Act) (w : World) (zw base cw bw bf sb fh ext : Nat) (own : Option Nat) (T c nm cm : By) (nu : Bool) (dv last : Value) (L : List WR)
    (hs : a.tmps.size = 252) (hd : a.defers = []) (h0 : slotOf a 0 = .pointer (some ⟨zw, 0, none⟩)) (h1 : slotOf a 1 = .pointer (some ⟨fh, 0, none⟩)) (hU : UT w) (h18 : 14 ≤ w.heap.size)
    (hz : Blk w zw 136 (zwC cw dv last false c)) (hW : WS w base cw bw bf sb own T dv L) (hfh : Blk w fh 78 (fhC nm cm nu 0 0 0 0 0 0 0 0 0 ext (.slice none 0 0) 0 0 none)) (hbs : base ≤ w.heap.size) (hzb : base ≤ zw) (hfb : base ≤ fh)
    (hnf : ∀ x ∈ L, x.fh ≠ fh) (hL : L.length < 1000) (hT : T.length + 200000 ≤ 4000000000) (hnm : nm.length ≤ 60000) (hcm : cm.length ≤ 60000) (hext : ext ≤ 4294967295) :
    (chdFrom 4).wp Tryz.prog (RQ (fun a' w' => a'.defers = [] ∧ slotOf a' 5 = .nilIface ∧ ChF w zw base cw bw bf sb fh ext T c nm cm nu L (slotOf a' 4) w')) a w := by
  have HZ := Lib.hid hz
  have HW := Lib.hid hW
  have HF := Lib.hid hfh
  have HU := Lib.hid hU
  have f0 := hfh.at_ 0 (.string (bs nm)) rfl
  have HD1 := Lib.hid (detect_any (bs nm) w (by rw [bs_size]; omega) (fun w' hf => hU.fr hf (by simp) h18))
  have HD2 := Lib.hid (fun (w1 : World) (h1 : Fr [] w w1) => detect_any (bs cm) w1 (by rw [bs_size]; omega) (fun w' hf => hU.fr (h1.trans hf (by simp)) (by simp) h18))
  have e1 : bits .andNot .u16 0 2048 = 0 := by rfl
  have e2 : bits .or .u16 0 2048 = 2048 := by rfl
  rw [frame252 hs hd, h0, h1]
  clear hz hW hfh hs hd h0 h1 hU
  conv => arg 2; whnf
  go_wp2_with fail
  refine HD1.out.mono ?_
  rintro e w1 ⟨v1, q1, -, rfl, hf1⟩
  have f1 := (HF.out.fr hf1 (by simp)).at_ 1 (.string (bs cm)) rfl
  have HF1 := Lib.hid hf1
  clear hf1
  go_wp2_with fail
  refine (HD2.out w1 HF1.out).mono ?_
  rintro e w2 ⟨v2, q2, -, rfl, hf2⟩
  have HF2 := Lib.hid (HF1.out.trans hf2 (by simp))
  clear hf2 f0 f1
  have hfh2 := HF.out.fr HF2.out (by simp)
  have f2 := hfh2.at_ 2 (.bool nu) rfl
  have f5 := hfh2.at_ 5 (.int .u16 0) rfl
  have z5 := hfh2.frozen 5
  have HFH2 := Lib.hid hfh2
  clear hfh2
  go_upto_region 6 with fail
  rename_i K10 hK10 K6 hK6
  have HK10 := Lib.hid (fun a w (h : (chdFrom 10).wp Tryz.prog _ a w) => hK10 a w (wp_code (c := chdFrom 10) (by kernel_rfl) h))
  clear hK10
  have key : ∀ (aa : Act) (wT : World) (fl : Nat), (fl = 0 ∨ fl = 2048) → aa.tmps.size = 252 → aa.defers = [] → slotOf aa 0 = .pointer (some ⟨zw, 0, none⟩) → slotOf aa 1 = .pointer (some ⟨fh, 0, none⟩) → Fr [fh] w wT → Blk wT fh 78 (fhC nm cm nu 0 0 fl 0 0 0 0 0 0 ext (.slice none 0 0) 0 0 none) → K10 aa wT := by
    intro aa wT fl hfl j1 j2 j3 j4 jf jb
    have hWS := HW.out.fh HF.out hnf jf
    have hzS := HZ.out.fr jf (by simp; exact HZ.out.ne_ HF.out (by decide))
    refine HK10.out _ _ (wp_rq (chd10 aa wT zw base cw bw bf sb fh fl ext own T c nm cm nu dv last L j1 j2 j3 j4 hzS hWS jb (Nat.le_trans hbs jf.size) hzb hfb (by rcases hfl with h | h <;> (rw [h]; rfl)) (by rcases hfl with h | h <;> (rw [h]; rfl)) (by omega) hnf hL hT hnm hcm hext) ?_)
    rintro a' w' ⟨q1, q2, q3⟩
    exact ⟨q1, q2, fl, hfl, q3.base (KE.of_fr jf (fun s hs => by simp at hs; subst hs; exact .inr ⟨_, _, HF.out, by decide⟩)) (jf.below (by simp; exact hfb) hbs)⟩
  have KEY := Lib.hid key
  clear key
  have hFm : Fr [fh] w w2 := HF2.out.mono (by simp)
  have hF0 : Fr [fh] w (w2.setCell ⟨fh, 5, none⟩ (.int .u16 0)) := hFm.setCell (p := ⟨fh, 5, none⟩) (.inl (by simp)) _
  have hF8 : Fr [fh] w (w2.setCell ⟨fh, 5, none⟩ (.int .u16 2048)) := hFm.setCell (p := ⟨fh, 5, none⟩) (.inl (by simp)) _
  have hB0 := HFH2.out.set_ 5 (.int .u16 0)
  have hB8 := HFH2.out.set_ 5 (.int .u16 2048)
  have HFm := Lib.hid hFm
  have HF0 := Lib.hid hF0
  have HF8 := Lib.hid hF8
  have HB0 := Lib.hid hB0
  have HB8 := Lib.hid hB8
  clear hFm hF0 hF8 hB0 hB8
  cases nu with
  | true =>
    go_wp2_with fail
    exact KEY.out _ _ 0 (.inl rfl) rfl rfl rfl rfl HF0.out HB0.out
  | false =>
    cases q1 <;> cases q2 <;> cases v1 <;> cases v2 <;> go_wp2_with fail
    all_goals first
      | exact KEY.out _ _ 0 (.inl rfl) rfl rfl rfl rfl HFm.out HFH2.out
      | exact KEY.out _ _ 2048 (.inr rfl) rfl rfl rfl rfl HF8.out HB8.out
/-- What prepare leaves, ahead of a header of entries. -/
def PrepN (w : World) (zw base cw bw bf sb fh : Nat) (T c : By) (dv last : Value) (L : List WR) (cf : Array Value) (e : Ending) (w' : World) : Prop :=
  e = .returned .nilIface ∧ ∃ own', WS w' base cw bw bf sb own' T dv L ∧ Blk w' zw 136 (zwC cw dv last false c) ∧ Blk w' fh 78 cf ∧ UT w' ∧ KE w w' ∧ Below base w w' ∧ w.heap.size ≤ w'.heap.size
set_option maxRecDepth 100000 in
set_option maxHeartbeats 8000000 in
theorem createHdr (w : World) (zw base cw bw bf sb fh ext : Nat) (T c nm cm : By) (nu : Bool) (dv last : Value) (L : List WR) (h18 : 14 ≤ w.heap.size)
    (hp : Calls Tryz.prog 69 #[.pointer (some ⟨zw, 0, none⟩), .pointer (some ⟨fh, 0, none⟩)] w (PrepN w zw base cw bw bf sb fh T c dv last L (fhC nm cm nu 0 0 0 0 0 0 0 0 0 ext (.slice none 0 0) 0 0 none)))
    (hbs : base ≤ w.heap.size) (hzb : base ≤ zw) (hfb : base ≤ fh) (hnf : ∀ x ∈ L, x.fh ≠ fh) (hL : L.length < 1000) (hT : T.length + 200000 ≤ 4000000000) (hnm : nm.length ≤ 60000) (hcm : cm.length ≤ 60000) (hext : ext ≤ 4294967295) :
    Calls Tryz.prog 45 #[.pointer (some ⟨zw, 0, none⟩), .pointer (some ⟨fh, 0, none⟩)] w fun e w' => ∃ v4, e = .returned (.tuple #[v4, .nilIface]) ∧ ChF w zw base cw bw bf sb fh ext T c nm cm nu L v4 w' := by
  have HP := Lib.hid hp
  clear hp
  go_enter Tryz.func45, Tryz.ntmps45
  go_wp2_with fail
  refine HP.out.mono ?_
  rintro e w1 ⟨rfl, own1, hW, hz, hfh, hU, hk, hb, hs⟩
  have HW := Lib.hid hW
  have HZ := Lib.hid hz
  have HF := Lib.hid hfh
  have HU := Lib.hid hU
  have HKE := Lib.hid hk
  have HB := Lib.hid hb
  clear hW hz hfh hU hk hb
  go_upto_if 24 with fail
  rename_i K hK
  have HK := Lib.hid (fun a w (h : (chdFrom 4).wp Tryz.prog _ a w) => hK a w (wp_code (c := chdFrom 4) (by kernel_rfl) h))
  clear hK
  go_wp2_with fail
  refine HK.out _ _ (wp_rq (chd4 _ w1 zw base cw bw bf sb fh ext own1 T c nm cm nu dv last L rfl rfl rfl rfl HU.out (Nat.le_trans h18 hs) HZ.out HW.out HF.out (Nat.le_trans hbs hs) hzb hfb hnf hL hT hnm hcm hext) ?_)
  rintro a' w' ⟨q1, q2, fl, hfl, q3⟩
  refine bodyPost_ret (v := .tuple #[slotOf a' 4, .nilIface]) ?_ q1 ⟨_, rfl, fl, hfl, q3.base HKE.out HB.out⟩
  rw [results_tmp2 rfl]
  show Result.ok (Value.tuple #[slotOf a' 4, slotOf a' 5]) w' = _
  rw [q2]
end Go.Proofs.YtalgnjkdoaaacaaGreatDoor

/- Writer.Close: one header of the directory. -/
import Derived.Test.YtalgnjkdoaaacaaGreatDoorQdo0
set_option linter.unusedVariables false
set_option linter.unusedSimpArgs false
namespace Go.Proofs.YtalgnjkdoaaacaaGreatDoor
open Go Go.RowKit
open Zp
set_option maxRecDepth 100000 in
set_option maxHeartbeats 16000000 in
theorem clo35 (a : Act) (w : World) (zw base cw bw bf sb start n k : Nat) (dv dv0 last : Value) (cl : Bool) (c : By) (own : Option Nat) (T : By) (x : WR) (rw nu : Bool) (m0 m1 : Int) (mp ea : Option Addr) (ec : Nat)
    (hA : FrC zw dv start n k a) (h7 : slotOf a 7 = .pointer (some ⟨x.hh, 0, none⟩)) (h8 : slotOf a 8 = .int .u16 (x.rd : Int)) (hk9 : k < 1000)
    (hz : Blk w zw 136 (zwC cw dv0 last cl c)) (hC : CW w base cw bw bf sb own T) (hX : HDX w x rw nu m0 m1 mp ea ec) (hE : ExA w bf own ea ec x.exb) (hok : x.Ok) (hT : T.length + 400000 ≤ 4000000000) (Q : Exit → Act → World → Prop)
    (hQ : ∀ a' w', FrC zw dv start n k a' → WrQ w base cw bw bf sb own (T ++ cenL x) w' → Q .normal a' w') :
    (cloFrom 35).wp Tryz.prog Q a w := by
  refine wp_nq (R := fun a' w' => FrC zw dv start n k a' ∧ WrQ w base cw bw bf sb own (T ++ cenL x) w') ?_ (fun a' w' h => hQ a' w' h.1 h.2)
  clear hQ
  obtain ⟨b1, b2, b3, b4, b5, b6, b7, b8, b9, b10, b11, b12, b13, b14⟩ := hok
  have HHH := Lib.hid hX
  have HC := Lib.hid hC
  have HZ := Lib.hid hz
  have HEA := Lib.hid hE
  have HO1 := Lib.hid (hC.offBlk hX.h (by decide) (by decide) (by decide) (by decide))
  have HO2 := Lib.hid (hC.offBlk hX.f (by decide) (by decide) (by decide) (by decide))
  have HO3 := Lib.hid (hC.offBlk hz (by decide) (by decide) (by decide) (by decide))
  have hns := bs_size x.nm
  have hcs := bs_size x.cm
  have i3 : min (x.pk : Int) 4294967295 = (x.pk : Int) := by omega
  have i4 : min (x.sz : Int) 4294967295 = (x.sz : Int) := by omega
  have i5 : min (x.off : Int) 4294967295 = (x.off : Int) := by omega
  have i6 : (x.nm.length : Int) % 65536 = (x.nm.length : Int) := by omega
  have hal : ∀ (ρ : Operand → Value) (W : World), (execOp ρ { dst := some 13, op := .alloc 203, type := 0, pos := "writer.go:133", after := #[], guard := none }).run Tryz.prog W = .ok (.value (.pointer (some ⟨W.heap.size, 0, none⟩))) (W.alloc (.cells (zeros 46) 203)) := fun ρ W => by kernel_rfl
  rw [frame520 hA.size hA.defers, hA.s0, hA.s2, hA.s4, hA.s5, hA.s82, hA.s83, hA.s84, h7, h8]
  clear hX hC hz hE hA h7 h8
  conv => arg 2; whnf
  apply wp_seq_k; intro K hK
  refine wp_region_list ?_
  change wpList _ _ _ [_] _ _
  refine Go.Great.wpList_runTo rfl (some 13) rfl _ _ (hal _ _) ?_
  clear hal
  go_wp2_with fail

  have HF0 := Lib.hid (show Fr [] w ((w.alloc (.cells (zeros 46) 203)).alloc (.cells #[.slice (some ⟨w.heap.size, 0, none⟩) 46 46] 147)) from ((Fr.refl [] w).alloc _).alloc _)
  have hh0 : Blk ((w.alloc (.cells (zeros 46) 203)).alloc (.cells #[.slice (some ⟨w.heap.size, 0, none⟩) 46 46] 147)) (w.heap.size + 1) 147 #[.slice (some ⟨w.heap.size, 0, none⟩) 46 46] := by have := Blk.new (w.alloc (.cells (zeros 46) 203)) 147 #[.slice (some ⟨w.heap.size, 0, none⟩) 46 46]; rw [World.size_alloc] at this; exact this
  have HB0 := Lib.hid (show WZ ((w.alloc (.cells (zeros 46) 203)).alloc (.cells #[.slice (some ⟨w.heap.size, 0, none⟩) 46 46] 147)) w.heap.size (w.heap.size + 1) 203 46 [] from ⟨⟨w.heap.size, 0, none⟩, by rw [rowZ_nil]; exact (Blk.new w _ _).alloc _, by simp, hh0, fun _ => rfl, by omega⟩)
  clear hh0
  refine (wz32 _ w.heap.size (w.heap.size + 1) 203 46 _ (33639248) HB0.out (by simp [le_length]) (by omega) (by decide)).mono ?_
  rintro e w1 ⟨rfl, hwb, hf, -⟩
  have HB1 := Lib.hid hwb
  have HF1 := Lib.hid (fr2 HF0.out hf (Nat.le_refl _))
  clear hwb hf HB0 HF0
  have hk := HHH.out.fr HF1.out (by simp) (by simp)
  have c0 := hk.h.at_ 0 (.pointer (some ⟨x.fh, 0, none⟩)) rfl
  have f0 := hk.f.at_ 3 (.int .u16 (x.cr : Int)) rfl
  clear hk
  go_wp2_with fail
  clear f0 c0
  refine (wz16 _ w.heap.size (w.heap.size + 1) 203 46 _ (x.cr) HB1.out (by simp [le_length]) (by omega) (by decide)).mono ?_
  rintro e w2 ⟨rfl, hwb, hf, -⟩
  have HB2 := Lib.hid hwb
  have HF2 := Lib.hid (fr2 HF1.out hf (Nat.le_refl _))
  clear hwb hf HB1 HF1
  go_wp2_with fail
  refine (wz16 _ w.heap.size (w.heap.size + 1) 203 46 _ (x.rd) HB2.out (by simp [le_length]) (by omega) (by decide)).mono ?_
  rintro e w3 ⟨rfl, hwb, hf, -⟩
  have HB3 := Lib.hid hwb
  have HF3 := Lib.hid (fr2 HF2.out hf (Nat.le_refl _))
  clear hwb hf HB2 HF2
  have hk := HHH.out.fr HF3.out (by simp) (by simp)
  have c0 := hk.h.at_ 0 (.pointer (some ⟨x.fh, 0, none⟩)) rfl
  have f0 := hk.f.at_ 5 (.int .u16 (x.fl : Int)) rfl
  clear hk
  go_wp2_with fail
  clear f0 c0
  refine (wz16 _ w.heap.size (w.heap.size + 1) 203 46 _ (x.fl) HB3.out (by simp [le_length]) (by omega) (by decide)).mono ?_
  rintro e w4 ⟨rfl, hwb, hf, -⟩
  have HB4 := Lib.hid hwb
  have HF4 := Lib.hid (fr2 HF3.out hf (Nat.le_refl _))
  clear hwb hf HB3 HF3
  have hk := HHH.out.fr HF4.out (by simp) (by simp)
  have c0 := hk.h.at_ 0 (.pointer (some ⟨x.fh, 0, none⟩)) rfl
  have f0 := hk.f.at_ 6 (.int .u16 (x.me : Int)) rfl
  clear hk
  go_wp2_with fail
  clear f0 c0
  refine (wz16 _ w.heap.size (w.heap.size + 1) 203 46 _ (x.me) HB4.out (by simp [le_length]) (by omega) (by decide)).mono ?_
  rintro e w5 ⟨rfl, hwb, hf, -⟩
  have HB5 := Lib.hid hwb
  have HF5 := Lib.hid (fr2 HF4.out hf (Nat.le_refl _))
  clear hwb hf HB4 HF4
  have hk := HHH.out.fr HF5.out (by simp) (by simp)
  have c0 := hk.h.at_ 0 (.pointer (some ⟨x.fh, 0, none⟩)) rfl
  have f0 := hk.f.at_ 10 (.int .u16 (x.ti : Int)) rfl
  clear hk
  go_wp2_with fail
  clear f0 c0
  refine (wz16 _ w.heap.size (w.heap.size + 1) 203 46 _ (x.ti) HB5.out (by simp [le_length]) (by omega) (by decide)).mono ?_
  rintro e w6 ⟨rfl, hwb, hf, -⟩
  have HB6 := Lib.hid hwb
  have HF6 := Lib.hid (fr2 HF5.out hf (Nat.le_refl _))
  clear hwb hf HB5 HF5
  have hk := HHH.out.fr HF6.out (by simp) (by simp)
  have c0 := hk.h.at_ 0 (.pointer (some ⟨x.fh, 0, none⟩)) rfl
  have f0 := hk.f.at_ 11 (.int .u16 (x.da : Int)) rfl
  clear hk
  go_wp2_with fail
  clear f0 c0
  refine (wz16 _ w.heap.size (w.heap.size + 1) 203 46 _ (x.da) HB6.out (by simp [le_length]) (by omega) (by decide)).mono ?_
  rintro e w7 ⟨rfl, hwb, hf, -⟩
  have HB7 := Lib.hid hwb
  have HF7 := Lib.hid (fr2 HF6.out hf (Nat.le_refl _))
  clear hwb hf HB6 HF6
  have hk := HHH.out.fr HF7.out (by simp) (by simp)
  have c0 := hk.h.at_ 0 (.pointer (some ⟨x.fh, 0, none⟩)) rfl
  have f0 := hk.f.at_ 12 (.int .u32 (x.cs : Int)) rfl
  clear hk
  go_wp2_with fail
  clear f0 c0
  refine (wz32 _ w.heap.size (w.heap.size + 1) 203 46 _ (x.cs) HB7.out (by simp [le_length]) (by omega) (by decide)).mono ?_
  rintro e w8 ⟨rfl, hwb, hf, -⟩
  have HB8 := Lib.hid hwb
  have HF8 := Lib.hid (fr2 HF7.out hf (Nat.le_refl _))
  clear hwb hf HB7 HF7
  have hk := HHH.out.fr HF8.out (by simp) (by simp)
  have c0 := hk.h.at_ 0 (.pointer (some ⟨x.fh, 0, none⟩)) rfl
  have f0 := hk.f.at_ 15 (.int .u64 (x.pk : Int)) rfl
  clear hk
  go_wp2_with fail
  clear f0 c0
  refine (wz32 _ w.heap.size (w.heap.size + 1) 203 46 _ (x.pk) HB8.out (by simp [le_length]) (by omega) (by decide)).mono ?_
  rintro e w9 ⟨rfl, hwb, hf, -⟩
  have HB9 := Lib.hid hwb
  have HF9 := Lib.hid (fr2 HF8.out hf (Nat.le_refl _))
  clear hwb hf HB8 HF8
  have hk := HHH.out.fr HF9.out (by simp) (by simp)
  have c0 := hk.h.at_ 0 (.pointer (some ⟨x.fh, 0, none⟩)) rfl
  have f0 := hk.f.at_ 16 (.int .u64 (x.sz : Int)) rfl
  clear hk
  go_wp2_with fail
  clear f0 c0
  refine (wz32 _ w.heap.size (w.heap.size + 1) 203 46 _ (x.sz) HB9.out (by simp [le_length]) (by omega) (by decide)).mono ?_
  rintro e w10 ⟨rfl, hwb, hf, -⟩
  have HB10 := Lib.hid hwb
  have HF10 := Lib.hid (fr2 HF9.out hf (Nat.le_refl _))
  clear hwb hf HB9 HF9
  have hk := HHH.out.fr HF10.out (by simp) (by simp)
  have c0 := hk.h.at_ 0 (.pointer (some ⟨x.fh, 0, none⟩)) rfl
  have f0 := hk.f.at_ 0 (.string (bs x.nm)) rfl
  clear hk
  go_wp2_with fail
  clear f0 c0
  refine (wz16 _ w.heap.size (w.heap.size + 1) 203 46 _ (x.nm.length) HB10.out (by simp [le_length]) (by omega) (by decide)).mono ?_
  rintro e w11 ⟨rfl, hwb, hf, -⟩
  have HB11 := Lib.hid hwb
  have HF11 := Lib.hid (fr2 HF10.out hf (Nat.le_refl _))
  clear hwb hf HB10 HF10
  have hk := HHH.out.fr HF11.out (by simp) (by simp)
  have c0 := hk.h.at_ 0 (.pointer (some ⟨x.fh, 0, none⟩)) rfl
  have f0 := hk.f.at_ 17 (.slice ea x.exb.length ec) rfl
  clear hk
  go_wp2_with fail
  clear f0 c0
  refine (wz16 _ w.heap.size (w.heap.size + 1) 203 46 _ (x.exb.length) HB11.out (by simp [le_length]) (by omega) (by decide)).mono ?_
  rintro e w12 ⟨rfl, hwb, hf, -⟩
  have HB12 := Lib.hid hwb
  have HF12 := Lib.hid (fr2 HF11.out hf (Nat.le_refl _))
  clear hwb hf HB11 HF11
  have hk := HHH.out.fr HF12.out (by simp) (by simp)
  have c0 := hk.h.at_ 0 (.pointer (some ⟨x.fh, 0, none⟩)) rfl
  have f0 := hk.f.at_ 1 (.string (bs x.cm)) rfl
  clear hk
  go_wp2_with fail
  clear f0 c0
  refine (wz16 _ w.heap.size (w.heap.size + 1) 203 46 _ (x.cm.length) HB12.out (by simp [le_length]) (by omega) (by decide)).mono ?_
  rintro e w13 ⟨rfl, hwb, hf, -⟩
  have HB13 := Lib.hid hwb
  have HF13 := Lib.hid (fr2 HF12.out hf (Nat.le_refl _))
  clear hwb hf HB12 HF12
  obtain ⟨ad, hb, hP, hh, had, hgh⟩ := HB13.out
  have hPl : ([] ++ le 4 33639248 ++ le 2 (x.cr) ++ le 2 (x.rd) ++ le 2 (x.fl) ++ le 2 (x.me) ++ le 2 (x.ti) ++ le 2 (x.da) ++ le 4 (x.cs) ++ le 4 (x.pk) ++ le 4 (x.sz) ++ le 2 (x.nm.length) ++ le 2 (x.exb.length) ++ le 2 (x.cm.length) : By).length = 34 := by simp [le_length]
  rw [hPl] at hh had
  obtain rfl := had (by omega)
  have d0 := hh.at_ 0 _ rfl
  have y0 := hh.frozen 0
  have hbs := WZ.skip HB13.out 4 (by rw [hPl]; omega) ⟨w.heap.size, 38, none⟩ 8 (by rw [hPl]) (by rw [hPl]; exact fun _ => rfl)
  have HF13s := Lib.hid ((HF13.out).setCell (p := ⟨w.heap.size + 1, 0, none⟩) (.inr (by show w.heap.size ≤ w.heap.size + 1; omega)) (.slice (some ⟨w.heap.size, 38, none⟩) 8 8))
  have HB13s := Lib.hid hbs
  clear hbs hb hP hh had hgh hPl HB13
  have hk := HHH.out.fr HF13s.out (by simp) (by simp)
  have c0 := hk.h.at_ 0 (.pointer (some ⟨x.fh, 0, none⟩)) rfl
  have f0 := hk.f.at_ 18 (.int .u32 (x.ext : Int)) rfl
  have hk2 := HHH.out.fr HF13.out (by simp) (by simp)
  have c0' := hk2.h.at_ 0 (.pointer (some ⟨x.fh, 0, none⟩)) rfl
  have f0' := hk2.f.at_ 18 (.int .u32 (x.ext : Int)) rfl
  clear hk hk2
  go_wp2_with fail
  clear c0 f0 c0' f0' d0 y0
  replace HB13 := HB13s
  replace HF13 := HF13s
  refine (wz32 _ w.heap.size (w.heap.size + 1) 203 46 _ (x.ext) HB13.out (by simp [le_length]) (by omega) (by decide)).mono ?_
  rintro e w14 ⟨rfl, hwb, hf, -⟩
  have HB14 := Lib.hid hwb
  have HF14 := Lib.hid (fr2 HF13.out hf (Nat.le_refl _))
  clear hwb hf HB13 HF13
  have hk := HHH.out.fr HF14.out (by simp) (by simp)
  have f0 := hk.h.at_ 1 (.int .u64 (x.off : Int)) rfl
  clear hk
  go_wp2_with fail
  clear f0
  refine (wz32 _ w.heap.size (w.heap.size + 1) 203 46 _ (x.off) HB14.out (by simp [le_length]) (by omega) (by decide)).mono ?_
  rintro e w15 ⟨rfl, hwb, hf, -⟩
  have HB15 := Lib.hid hwb
  have HF15 := Lib.hid (fr2 HF14.out hf (Nat.le_refl _))
  clear hwb hf HB14 HF14
  obtain ⟨X, hX⟩ : ∃ X, (([] ++ le 4 33639248 ++ le 2 (x.cr) ++ le 2 (x.rd) ++ le 2 (x.fl) ++ le 2 (x.me) ++ le 2 (x.ti) ++ le 2 (x.da) ++ le 4 (x.cs) ++ le 4 (x.pk) ++ le 4 (x.sz) ++ le 2 (x.nm.length) ++ le 2 (x.exb.length) ++ le 2 (x.cm.length) ++ List.replicate 4 0 ++ le 4 (x.ext) ++ le 4 (x.off) : By)) = X := ⟨_, rfl⟩
  have hXl : X.length = 46 := by rw [← hX]; simp [le_length]
  have hXX : cenL x = X ++ x.nm ++ x.exb ++ x.cm := by rw [← hX, cenL, show sigC = le 4 33639248 from by decide, show List.replicate 4 (0 : UInt8) = le 2 0 ++ le 2 0 from by decide]; simp [List.append_assoc]
  have HXX := Lib.hid hXX
  rw [hX] at HB15
  clear hX hXX
  have HXL := Lib.hid hXl
  obtain ⟨aa, kb, -, -, -, -⟩ := HB15.out
  have kr2 := rowZ_rd kb
  have HW := Lib.hid (fun (w' : World) (hf : Fr [] w15 w') => cwWrite w' base cw bw bf sb own T X w.heap.size 0 46 (some ⟨w.heap.size, 0, none⟩) (HC.out.nil (HF15.out.trans hf (by simp))) (by omega) (.inr ⟨rfl, kr2.fr hf kb.lt (by simp), Nat.lt_of_lt_of_le kb.lt hf.size, HC.out.fresh (Nat.le_refl _), by omega, by decide⟩))
  rw [hXl] at HW
  have z0 := (HZ.out.fr HF15.out (by simp)).at_ 0 (.pointer (some ⟨cw, 0, none⟩)) rfl
  clear kb hXl kr2
  go_wp2_with fail
  go_region_held3 (fun w' => w'.cell? ⟨zw, 0, none⟩ = some (.pointer (some ⟨cw, 0, none⟩)))
    ((first | exact z0 | exact KS.out | assumption))
    ((first | (go_at_call 95; (with_reducible refine (HW.out _ ((Fr.refl [] w15).drew)).mono ?_); rintro e w16 ⟨own1, rfl, hc1, ho1, hf1⟩; have hn16 : Fr (cwS cw bw bf sb own) w w16 := fr0 HF15.out.drew hf1; have KS := Lib.hid ((HZ.out.fr hn16 HO3.out.not).at_ 0 (.pointer (some ⟨cw, 0, none⟩)) rfl))))
  have HF16 := Lib.hid hn16
  have HO16 := Lib.hid (show OwnN w own own1 from (show OwnN w own own from .inl rfl).trans ho1 (HF15.out.drew).size)
  have HC16 := Lib.hid hc1
  clear hc1 ho1 hf1 HB15 HF15 HW KS z0
  have hk4 := HHH.out.fr hn16 HO1.out.not HO2.out.not
  have c0 := hk4.h.at_ 0 (.pointer (some ⟨x.fh, 0, none⟩)) rfl
  have f0 := hk4.f.at_ 0 (.string (bs x.nm)) rfl
  have hz4 := HZ.out.fr hn16 HO3.out.not
  have z0 := hz4.at_ 0 (.pointer (some ⟨cw, 0, none⟩)) rfl
  have hkl := And.intro hk4.h.lt (And.intro hk4.f.lt hz4.lt)
  have KS := Lib.hid (fun (W : World) (hf : Fr [] w16 W) => And.intro ((hf.cell (p := ⟨zw, 0, none⟩) hkl.2.2 (by simp)).trans z0) (And.intro ((hf.cell (p := ⟨x.hh, 0, none⟩) hkl.1 (by simp)).trans c0) ((hf.cell (p := ⟨x.fh, 0, none⟩) hkl.2.1 (by simp)).trans f0)))
  have hcv : ∀ W : World, (convert 9 76 (.string (bs x.nm))).run Tryz.prog W = .ok (.slice (some ⟨W.heap.size, 0, none⟩) (bs x.nm).size (grownCap W (bs x.nm).size 0 5)) (W.drew.alloc (.cells (bytesRow (bs x.nm) (grownCap W (bs x.nm).size 0 5)) 5 ((bytesRow (bs x.nm) (grownCap W (bs x.nm).size 0 5)).size, (bytesRow (bs x.nm) (grownCap W (bs x.nm).size 0 5)).size + 1))) := fun W => run_bytes_of_string W _ _ 5 (bs x.nm) Tryz.underlying9 Tryz.underlying76 (by kernel_rfl)
  clear hk4 hz4
  go_wp2_with fail
  go_region_law
    ((first | (go_simp; go_at_call 95; (with_reducible refine Calls.mono (cwStr w16 _ base cw bw bf sb own1 (T ++ X) x.nm _ HC16.out (by first | exact ((Fr.refl [] w16).alloc _).drew.drew | exact ((Fr.refl [] w16).alloc _).drew) (by first | exact (rdStr w16 _ _ _ _ (by rw [← hns]; exact grownCap_ge _ _ _ _)).drew.drew | exact (rdStr w16 _ _ _ _ (by rw [← hns]; exact grownCap_ge _ _ _ _)).drew) (by simp) (by rw [List.length_append, HXL.out]; omega) (by rw [← hns]; exact grownCap_ge _ _ _ _) (by exact grownCap_le_maxLen _ _ _ _ (by unfold maxLen; omega))) ?_); rintro e w17 ⟨own2, rfl, hc2, ho2, hf2⟩; have hn17 := wr_next HF16.out HO16.out (by first | exact ((Fr.refl [] w16).alloc _).drew.drew | exact ((Fr.refl [] w16).alloc _).drew) hf2 ho2; clear hf2 ho2 hcv KS)))
  all_goals go_upto_if 341 with fail
  all_goals rename_i K hK
  all_goals have HK := Lib.hid hK
  all_goals clear hK
  all_goals go_wp2_with fail
  all_goals (
    have hX17 := HHH.out.fr hn17.1 HO1.out.not HO2.out.not
    refine HK.out _ _ (clo59 _ w17 zw base cw bw bf sb start n k dv dv0 last cl c own2 (T ++ X ++ x.nm) x rw nu m0 m1 mp ea ec ⟨rfl, rfl, rfl, rfl, rfl, rfl, rfl, rfl, rfl⟩ rfl hk9 (HZ.out.fr hn17.1 HO3.out.not) hc2 hX17 (HEA.out.fr HC.out hn17.1 hn17.2 (FarR.cw _ _ _ _ _ _)) b13 b14 (by rw [List.length_append, List.length_append, HXL.out]; omega) _ ?_)
    rintro a' w' hA' ⟨own5, hc5, ho5, hf5⟩
    have hn18 := wr_next hn17.1 hn17.2 (Fr.refl [] w17) hf5 ho5
    refine ⟨hA', own5, ?_, hn18.2, hn18.1⟩
    rw [HXX.out]
    simpa [List.append_assoc] using hc5)
end Go.Proofs.YtalgnjkdoaaacaaGreatDoor

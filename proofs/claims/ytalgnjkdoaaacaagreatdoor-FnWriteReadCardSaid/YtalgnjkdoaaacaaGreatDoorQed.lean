/- What CreateHeader calls: IsZero, compressor. -/
import Derived.Test.YtalgnjkdoaaacaaGreatDoorQdp
import Derived.Test.YtalgnjkdoaaacaaGreatDoorQof
import Derived.Test.YtalgnjkdoaaacaaGreatDoorQdi
set_option linter.unusedVariables false
set_option linter.unusedSimpArgs false
namespace Go.Proofs.YtalgnjkdoaaacaaGreatDoor
open Go Go.RowKit
open Zp
set_option maxRecDepth 100000 in
theorem isZero0 (w : World) : Calls Tryz.prog 71 #[.agg #[.int .u64 0, .int .i64 0, .pointer none]] w fun e w' => e = .returned (.bool true) ∧ Fr [] w w' := by
  go_enter Tryz.func71, Tryz.ntmps71
  go_wp2_with fail
  go_ret
  exact ⟨rfl, (Fr.refl _ _).alloc _⟩
abbrev cprF : Value := .func (Fn.func 141) #[] #[]
set_option maxRecDepth 100000 in
theorem compr0 (w : World) : Calls Tryz.prog 109 #[.int .u16 0] w fun e w' => e = .returned cprF ∧ w' = w := by
  go_enter Tryz.func109, Tryz.ntmps109
  go_wp2_with fail
  go_ret
  exact ⟨rfl, rfl⟩
theorem cNilNil (w : World) : (binOp .eql 165 .nilFunc .nilFunc).run Tryz.prog w = .ok (.bool true) w := by kernel_rfl
theorem cprNil (w : World) : (binOp .eql 165 cprF .nilFunc).run Tryz.prog w = .ok (.bool false) w := by kernel_rfl
set_option maxRecDepth 100000 in
theorem comprC (w : World) (zw : Nat) (hz : w.cell? ⟨zw, 4, none⟩ = some (.map none)) : Calls Tryz.prog 78 #[.pointer (some ⟨zw, 0, none⟩), .int .u16 0] w fun e w' => e = .returned cprF ∧ w' = w := by
  have hlk : (Instr.lookup 133 (.map none) (.int .u16 0) false).run Tryz.prog w = .ok .nilFunc w := by kernel_rfl
  have hnn := cNilNil w
  go_enter Tryz.func78, Tryz.ntmps78
  go_wp2_with fail
  refine (compr0 w).mono ?_
  rintro e w1 ⟨rfl, hw⟩
  rw [hw]
  clear hw w1
  go_wp2_with fail
  go_ret
  exact ⟨rfl, rfl⟩
set_option maxRecDepth 100000 in
theorem compr1 (w : World) (x : Nat) : Calls Tryz.prog 141 #[.iface 126 (.pointer (some ⟨x, 0, none⟩))] w fun e w' => e = .returned (.tuple #[.iface 271 (.pointer (some ⟨w.heap.size, 0, none⟩)), .nilIface]) ∧ w' = w.alloc (.cells #[.iface 126 (.pointer (some ⟨x, 0, none⟩))] 273) := by
  go_enter Tryz.func141, Tryz.ntmps141
  go_wp2_with fail
  go_ret2
  exact ⟨rfl, rfl⟩
end Go.Proofs.YtalgnjkdoaaacaaGreatDoor

/- writeHeader, where checksum and sizes stand behind the content. -/
namespace Go.Proofs.YtalgnjkdoaaacaaGreatDoor
open Go Go.RowKit
open Zp
/-- A header block of the writer that is not raw. -/
structure HN (w : World) (hh fh off : Nat) (nm cm : List UInt8) (nu : Bool) (cr rd fl me ti da ext : Nat) (m0 m1 : Int) (mp : Option Addr) : Prop where
  h : Blk w hh 153 #[.pointer (some ⟨fh, 0, none⟩), .int .u64 (off : Int), .bool false]
  f : Blk w fh 78 (fhC nm cm nu cr rd fl me ti da 0 0 0 ext (.slice none 0 0) m0 m1 mp)
theorem HN.fr {w w' : World} {S : List Nat} {hh fh off : Nat} {nm cm : List UInt8} {nu : Bool} {cr rd fl me ti da ext : Nat} {m0 m1 : Int} {mp : Option Addr} (h : HN w hh fh off nm cm nu cr rd fl me ti da ext m0 m1 mp) (hf : Fr S w w') (h1 : hh ∉ S) (h2 : fh ∉ S) : HN w' hh fh off nm cm nu cr rd fl me ti da ext m0 m1 mp := ⟨h.h.fr hf h1, h.f.fr hf h2⟩
set_option maxRecDepth 100000 in
set_option maxHeartbeats 16000000 in
theorem writeHdN (w : World) (base cw bw bf sb : Nat) (own : Option Nat) (T : List UInt8) (hh fh off : Nat) (nm cm : List UInt8) (nu : Bool) (cr rd fl me ti da ext : Nat) (m0 m1 : Int) (mp : Option Addr)
    (hC : CW w base cw bw bf sb own T) (hH : HN w hh fh off nm cm nu cr rd fl me ti da ext m0 m1 mp) (ho1 : Off hh cw bw bf sb own) (ho2 : Off fh cw bw bf sb own)
    (hT : T.length + 200000 ≤ 4000000000) (b1 : rd ≤ 65535) (b2 : fl ≤ 65535) (b3 : me ≤ 65535) (b4 : ti ≤ 65535) (b5 : da ≤ 65535) (b9 : nm.length ≤ 65535) :
    Calls Tryz.prog 79 #[.iface 126 (.pointer (some ⟨cw, 0, none⟩)), .pointer (some ⟨hh, 0, none⟩)] w (HdP w base cw bw bf sb own T (locL rd fl me ti da 0 0 0 nm [])) := by
  have HHH := Lib.hid hH
  have c0 := hH.h.at_ 0 (.pointer (some ⟨fh, 0, none⟩)) rfl
  have c2 := hH.h.at_ 2 (.bool false) rfl
  have f0 := hH.f.at_ 0 (.string (bs nm)) rfl
  have f4 := hH.f.at_ 4 (.int .u16 (rd : Int)) rfl
  have f17 := hH.f.at_ 17 (.slice none 0 0) rfl
  have i1 : ¬ 65535 < (nm.length : Int) := by omega
  have hns := bs_size nm
  have HC := Lib.hid hC
  have HO1 := Lib.hid ho1
  have HO2 := Lib.hid ho2
  have hna : ∀ W, (nilAhead 452 126 (.pointer (some ⟨cw, 0, none⟩)) "Write").run Tryz.prog W = .ok (some false) W := fun W => by kernel_rfl
  clear hH hC ho1 ho2
  go_enter Tryz.func79, Tryz.ntmps79
  go_wp2_with fail
  have hb0 : Blk ((w.alloc (.cells #[.int .u8 0, .int .u8 0, .int .u8 0, .int .u8 0, .int .u8 0, .int .u8 0, .int .u8 0, .int .u8 0, .int .u8 0, .int .u8 0, .int .u8 0, .int .u8 0, .int .u8 0, .int .u8 0, .int .u8 0, .int .u8 0, .int .u8 0, .int .u8 0, .int .u8 0, .int .u8 0, .int .u8 0, .int .u8 0, .int .u8 0, .int .u8 0, .int .u8 0, .int .u8 0, .int .u8 0, .int .u8 0, .int .u8 0, .int .u8 0] 192)).alloc (.cells #[.slice (some ⟨w.heap.size, 0, none⟩) 30 30] 147)) w.heap.size 192 #[.int .u8 0, .int .u8 0, .int .u8 0, .int .u8 0, .int .u8 0, .int .u8 0, .int .u8 0, .int .u8 0, .int .u8 0, .int .u8 0, .int .u8 0, .int .u8 0, .int .u8 0, .int .u8 0, .int .u8 0, .int .u8 0, .int .u8 0, .int .u8 0, .int .u8 0, .int .u8 0, .int .u8 0, .int .u8 0, .int .u8 0, .int .u8 0, .int .u8 0, .int .u8 0, .int .u8 0, .int .u8 0, .int .u8 0, .int .u8 0] := (Blk.new w _ _).alloc _
  have hh0 : Blk ((w.alloc (.cells #[.int .u8 0, .int .u8 0, .int .u8 0, .int .u8 0, .int .u8 0, .int .u8 0, .int .u8 0, .int .u8 0, .int .u8 0, .int .u8 0, .int .u8 0, .int .u8 0, .int .u8 0, .int .u8 0, .int .u8 0, .int .u8 0, .int .u8 0, .int .u8 0, .int .u8 0, .int .u8 0, .int .u8 0, .int .u8 0, .int .u8 0, .int .u8 0, .int .u8 0, .int .u8 0, .int .u8 0, .int .u8 0, .int .u8 0, .int .u8 0] 192)).alloc (.cells #[.slice (some ⟨w.heap.size, 0, none⟩) 30 30] 147)) (w.heap.size + 1) 147 #[.slice (some ⟨w.heap.size, 0, none⟩) 30 30] := by have := Blk.new (w.alloc (.cells #[.int .u8 0, .int .u8 0, .int .u8 0, .int .u8 0, .int .u8 0, .int .u8 0, .int .u8 0, .int .u8 0, .int .u8 0, .int .u8 0, .int .u8 0, .int .u8 0, .int .u8 0, .int .u8 0, .int .u8 0, .int .u8 0, .int .u8 0, .int .u8 0, .int .u8 0, .int .u8 0, .int .u8 0, .int .u8 0, .int .u8 0, .int .u8 0, .int .u8 0, .int .u8 0, .int .u8 0, .int .u8 0, .int .u8 0, .int .u8 0] 192)) 147 #[.slice (some ⟨w.heap.size, 0, none⟩) 30 30]; rw [World.size_alloc] at this; exact this
  have HF0 := Lib.hid (show Fr [] w ((w.alloc (.cells #[.int .u8 0, .int .u8 0, .int .u8 0, .int .u8 0, .int .u8 0, .int .u8 0, .int .u8 0, .int .u8 0, .int .u8 0, .int .u8 0, .int .u8 0, .int .u8 0, .int .u8 0, .int .u8 0, .int .u8 0, .int .u8 0, .int .u8 0, .int .u8 0, .int .u8 0, .int .u8 0, .int .u8 0, .int .u8 0, .int .u8 0, .int .u8 0, .int .u8 0, .int .u8 0, .int .u8 0, .int .u8 0, .int .u8 0, .int .u8 0] 192)).alloc (.cells #[.slice (some ⟨w.heap.size, 0, none⟩) 30 30] 147)) from ((Fr.refl [] w).alloc _).alloc _)
  have HB0 := Lib.hid (show WB ((w.alloc (.cells #[.int .u8 0, .int .u8 0, .int .u8 0, .int .u8 0, .int .u8 0, .int .u8 0, .int .u8 0, .int .u8 0, .int .u8 0, .int .u8 0, .int .u8 0, .int .u8 0, .int .u8 0, .int .u8 0, .int .u8 0, .int .u8 0, .int .u8 0, .int .u8 0, .int .u8 0, .int .u8 0, .int .u8 0, .int .u8 0, .int .u8 0, .int .u8 0, .int .u8 0, .int .u8 0, .int .u8 0, .int .u8 0, .int .u8 0, .int .u8 0] 192)).alloc (.cells #[.slice (some ⟨w.heap.size, 0, none⟩) 30 30] 147)) w.heap.size (w.heap.size + 1) 192 30 [] from ⟨_, ⟨w.heap.size, 0, none⟩, hb0, rfl, Rd.nil_ _ _ _, by simp, hh0, fun _ => rfl, by omega⟩)
  clear hb0 hh0 c0 c2 f0 f4 f17
  refine (wb32 _ w.heap.size (w.heap.size + 1) 192 30 _ 67324752 HB0.out (by simp [le_length]) (by omega) (by decide)).mono ?_
  rintro e w1 ⟨rfl, hwb, hf, -⟩
  have HB1 := Lib.hid hwb
  have HF1 := Lib.hid (fr2 HF0.out hf (Nat.le_refl _))
  clear hwb hf HB0 HF0
  go_wp2_with fail
  refine (wb16 _ w.heap.size (w.heap.size + 1) 192 30 _ rd HB1.out (by simp [le_length]) (by omega) (by decide)).mono ?_
  rintro e w2 ⟨rfl, hwb, hf, -⟩
  have HB2 := Lib.hid hwb
  have HF2 := Lib.hid (fr2 HF1.out hf (Nat.le_refl _))
  clear hwb hf HB1 HF1
  have hk := HHH.out.fr HF2.out (by simp) (by simp)
  have c0 := hk.h.at_ 0 (.pointer (some ⟨fh, 0, none⟩)) rfl
  have f0 := hk.f.at_ 5 (.int .u16 (fl : Int)) rfl
  clear hk
  go_wp2_with fail
  clear c0 f0
  refine (wb16 _ w.heap.size (w.heap.size + 1) 192 30 _ fl HB2.out (by simp [le_length]) (by omega) (by decide)).mono ?_
  rintro e w3 ⟨rfl, hwb, hf, -⟩
  have HB3 := Lib.hid hwb
  have HF3 := Lib.hid (fr2 HF2.out hf (Nat.le_refl _))
  clear hwb hf HB2 HF2
  have hk := HHH.out.fr HF3.out (by simp) (by simp)
  have c0 := hk.h.at_ 0 (.pointer (some ⟨fh, 0, none⟩)) rfl
  have f0 := hk.f.at_ 6 (.int .u16 (me : Int)) rfl
  clear hk
  go_wp2_with fail
  clear c0 f0
  refine (wb16 _ w.heap.size (w.heap.size + 1) 192 30 _ me HB3.out (by simp [le_length]) (by omega) (by decide)).mono ?_
  rintro e w4 ⟨rfl, hwb, hf, -⟩
  have HB4 := Lib.hid hwb
  have HF4 := Lib.hid (fr2 HF3.out hf (Nat.le_refl _))
  clear hwb hf HB3 HF3
  have hk := HHH.out.fr HF4.out (by simp) (by simp)
  have c0 := hk.h.at_ 0 (.pointer (some ⟨fh, 0, none⟩)) rfl
  have f0 := hk.f.at_ 10 (.int .u16 (ti : Int)) rfl
  clear hk
  go_wp2_with fail
  clear c0 f0
  refine (wb16 _ w.heap.size (w.heap.size + 1) 192 30 _ ti HB4.out (by simp [le_length]) (by omega) (by decide)).mono ?_
  rintro e w5 ⟨rfl, hwb, hf, -⟩
  have HB5 := Lib.hid hwb
  have HF5 := Lib.hid (fr2 HF4.out hf (Nat.le_refl _))
  clear hwb hf HB4 HF4
  have hk := HHH.out.fr HF5.out (by simp) (by simp)
  have c0 := hk.h.at_ 0 (.pointer (some ⟨fh, 0, none⟩)) rfl
  have f0 := hk.f.at_ 11 (.int .u16 (da : Int)) rfl
  clear hk
  go_wp2_with fail
  clear c0 f0
  refine (wb16 _ w.heap.size (w.heap.size + 1) 192 30 _ da HB5.out (by simp [le_length]) (by omega) (by decide)).mono ?_
  rintro e w6 ⟨rfl, hwb, hf, -⟩
  have HB6 := Lib.hid hwb
  have HF6 := Lib.hid (fr2 HF5.out hf (Nat.le_refl _))
  clear hwb hf HB5 HF5
  go_wp2_with fail
  refine (wb32 _ w.heap.size (w.heap.size + 1) 192 30 _ 0 HB6.out (by simp [le_length]) (by omega) (by decide)).mono ?_
  rintro e w7 ⟨rfl, hwb, hf, -⟩
  have HB7 := Lib.hid hwb
  have HF7 := Lib.hid (fr2 HF6.out hf (Nat.le_refl _))
  clear hwb hf HB6 HF6
  go_wp2_with fail
  refine (wb32 _ w.heap.size (w.heap.size + 1) 192 30 _ 0 HB7.out (by simp [le_length]) (by omega) (by decide)).mono ?_
  rintro e w8 ⟨rfl, hwb, hf, -⟩
  have HB8 := Lib.hid hwb
  have HF8 := Lib.hid (fr2 HF7.out hf (Nat.le_refl _))
  clear hwb hf HB7 HF7
  go_wp2_with fail
  refine (wb32 _ w.heap.size (w.heap.size + 1) 192 30 _ 0 HB8.out (by simp [le_length]) (by omega) (by decide)).mono ?_
  rintro e w9 ⟨rfl, hwb, hf, -⟩
  have HB9 := Lib.hid hwb
  have HF9 := Lib.hid (fr2 HF8.out hf (Nat.le_refl _))
  clear hwb hf HB8 HF8
  have hk := HHH.out.fr HF9.out (by simp) (by simp)
  have c0 := hk.h.at_ 0 (.pointer (some ⟨fh, 0, none⟩)) rfl
  have f0 := hk.f.at_ 0 (.string (bs nm)) rfl
  clear hk
  go_wp2_with fail
  clear c0 f0
  refine (wb16 _ w.heap.size (w.heap.size + 1) 192 30 _ nm.length HB9.out (by simp [le_length]) (by omega) (by decide)).mono ?_
  rintro e w10 ⟨rfl, hwb, hf, -⟩
  have HB10 := Lib.hid hwb
  have HF10 := Lib.hid (fr2 HF9.out hf (Nat.le_refl _))
  clear hwb hf HB9 HF9
  have hk := HHH.out.fr HF10.out (by simp) (by simp)
  have c0 := hk.h.at_ 0 (.pointer (some ⟨fh, 0, none⟩)) rfl
  have f0 := hk.f.at_ 17 (.slice none 0 0) rfl
  clear hk
  go_wp2_with fail
  clear c0 f0
  refine (wb16 _ w.heap.size (w.heap.size + 1) 192 30 _ 0 HB10.out (by simp [le_length]) (by omega) (by decide)).mono ?_
  rintro e w11 ⟨rfl, hwb, hf, -⟩
  have HB11 := Lib.hid hwb
  have HF11 := Lib.hid (fr2 HF10.out hf (Nat.le_refl _))
  clear hwb hf HB10 HF10
  obtain ⟨X, hX⟩ : ∃ X, ([] ++ le 4 67324752 ++ le 2 rd ++ le 2 fl ++ le 2 me ++ le 2 ti ++ le 2 da ++ le 4 0 ++ le 4 0 ++ le 4 0 ++ le 2 nm.length ++ le 2 0) = X := ⟨_, rfl⟩
  have hXl : X.length = 30 := by rw [← hX]; simp [le_length]
  have hXX : locL rd fl me ti da 0 0 0 nm [] = X ++ nm := by rw [← hX, locL, show sigL = le 4 67324752 from by decide]; simp [List.append_assoc]
  have HXX := Lib.hid hXX
  rw [hX] at HB11
  clear hX hXX
  have HXL := Lib.hid hXl
  obtain ⟨cur, aa, kb, ks, kr, -⟩ := HB11.out
  have kr2 := kr
  have HW := Lib.hid (fun (w' : World) (hf : Fr [] w11 w') => cwWrite w' base cw bw bf sb own T X w.heap.size 0 30 (some ⟨w.heap.size, 0, none⟩) (HC.out.nil (HF11.out.trans hf (by simp))) (by omega) (.inr ⟨rfl, kr2.fr hf kb.lt (by simp), Nat.lt_of_lt_of_le kb.lt hf.size, HC.out.fresh (Nat.le_refl _), by omega, by decide⟩))
  rw [hXl] at HW
  clear kb kr hXl
  have hXt : True := trivial
  go_wp2_with fail
  go_region_held3 (fun w' => True)
    ((first | exact hXt | exact trivial))
    ((first | (go_at_call 95; (with_reducible refine (HW.out _ ((Fr.refl [] w11).drew)).mono ?_); rintro e w12 ⟨own1, rfl, hc1, ho1, hf1⟩)))
  have HF12 := Lib.hid (show Fr (cwS cw bw bf sb own) w w12 from fr0 HF11.out.drew hf1)
  have HO12 := Lib.hid (show OwnN w own own1 from (show OwnN w own own from .inl rfl).trans ho1 (HF11.out.drew).size)
  have HC12 := Lib.hid hc1
  clear hc1 ho1 hf1 HB11 HF11 HW
  have hk := HHH.out.fr HF12.out HO1.out.not HO2.out.not
  have c0 := hk.h.at_ 0 (.pointer (some ⟨fh, 0, none⟩)) rfl
  have f0 := hk.f.at_ 0 (.string (bs nm)) rfl
  have hkl := And.intro hk.h.lt hk.f.lt
  clear hk
  go_wp2_with fail
  have hcv : ∀ W : World, (convert 9 76 (.string (bs nm))).run Tryz.prog W = .ok (.slice (some ⟨W.heap.size, 0, none⟩) (bs nm).size (grownCap W (bs nm).size 0 5)) (W.drew.alloc (.cells (bytesRow (bs nm) (grownCap W (bs nm).size 0 5)) 5 ((bytesRow (bs nm) (grownCap W (bs nm).size 0 5)).size, (bytesRow (bs nm) (grownCap W (bs nm).size 0 5)).size + 1))) := fun W => run_bytes_of_string W _ _ 5 (bs nm) Tryz.underlying9 Tryz.underlying76 (by kernel_rfl)
  have KS := Lib.hid (fun (W : World) (hf : Fr [] w12 W) => And.intro ((hf.cell (p := ⟨hh, 0, none⟩) hkl.1 (by simp)).trans c0) ((hf.cell (p := ⟨fh, 0, none⟩) hkl.2 (by simp)).trans f0))
  have hmt : ∀ W : World, (method 452 126 (.pointer (some ⟨cw, 0, none⟩)) "Write").run Tryz.prog W = .ok (95, .pointer (some ⟨cw, 0, none⟩)) W := fun W => by kernel_rfl
  go_region_law
    ((first | (go_simp; go_at_call 95; (with_reducible refine Calls.mono (cwStr w12 _ base cw bw bf sb own1 (T ++ X) nm _ HC12.out (by first | exact ((Fr.refl [] w12).alloc _).drew.drew | exact ((Fr.refl [] w12).alloc _).drew) (by first | exact (rdStr w12 _ _ _ _ (by rw [← hns]; exact grownCap_ge _ _ _ _)).drew.drew | exact (rdStr w12 _ _ _ _ (by rw [← hns]; exact grownCap_ge _ _ _ _)).drew) (by simp) (by rw [List.length_append, HXL.out]; omega) (by rw [← hns]; exact grownCap_ge _ _ _ _) (by exact grownCap_le_maxLen _ _ _ _ (by unfold maxLen; omega))) ?_); rintro e w13 ⟨own2, rfl, hc2, ho2, hf2⟩; have hn13 := wr_next HF12.out HO12.out (by first | exact ((Fr.refl [] w12).alloc _).drew.drew | exact ((Fr.refl [] w12).alloc _).drew) hf2 ho2; clear hf2 ho2 hcv hmt KS)))
  all_goals (
    have HF13 := Lib.hid hn13.1
    have HO13 := Lib.hid hn13.2
    have HC13 := Lib.hid hc2
    clear hn13 hc2 c0 f0
    have hk := HHH.out.fr HF13.out HO1.out.not HO2.out.not
    have c0 := hk.h.at_ 0 (.pointer (some ⟨fh, 0, none⟩)) rfl
    have f0 := hk.f.at_ 17 (.slice none 0 0) rfl
    have HK := Lib.hid hk
    clear hk
    have HWX := Lib.hid (fun W (hW : Fr [] w13 W) => (show Calls Tryz.prog 95 #[.pointer (some ⟨cw, 0, none⟩), .slice none 0 0] W (WrP W base cw bw bf sb own2 (T ++ X ++ nm) []) from cwWrite W base cw bw bf sb own2 (T ++ X ++ nm) [] 0 0 0 none (HC13.out.nil hW) (by rw [List.length_append, List.length_append, HXL.out, List.length_nil]; omega) (.inl rfl)))
    go_wp2_with fail
    go_region_held3 (fun w' => w'.cell? ⟨hh, 0, none⟩ = some (.pointer (some ⟨fh, 0, none⟩)) ∧ w'.cell? ⟨fh, 17, none⟩ = some (.slice none 0 0))
      ((first | exact ⟨c0, f0⟩ | exact KS.out | assumption))
      ((first | (go_at_call 95; (with_reducible refine (HWX.out _ ((Fr.refl [] w13).drew)).mono ?_); rintro e w14 ⟨own3, rfl, hc3, ho3, hf3⟩; have hn14 := wr_next HF13.out HO13.out ((Fr.refl [] w13).drew) hf3 ho3; have hk3 := HHH.out.fr hn14.1 HO1.out.not HO2.out.not; have KS := Lib.hid (And.intro (hk3.h.at_ 0 (.pointer (some ⟨fh, 0, none⟩)) rfl) (hk3.f.at_ 17 (.slice none 0 0) rfl)))))
    have HF14 := Lib.hid hn14.1
    have HO14 := Lib.hid hn14.2
    rw [List.append_nil] at hc3
    have HC14 := Lib.hid hc3
    clear hn14 hc3 ho3 hf3 hk3 KS c0 f0
    have HWZ := Lib.hid (show Calls Tryz.prog 95 #[.pointer (some ⟨cw, 0, none⟩), .slice none 0 0] w14 (WrP w14 base cw bw bf sb own3 (T ++ X ++ nm) []) from cwWrite w14 base cw bw bf sb own3 (T ++ X ++ nm) [] 0 0 0 none HC14.out (by rw [List.length_append, List.length_append, HXL.out, List.length_nil]; omega) (.inl rfl))
    go_wp2_with fail
    refine HWZ.out.mono ?_
    rintro e w15 ⟨own4, rfl, hc4, ho4, hf4⟩
    have hn15 := wr_next HF14.out HO14.out (Fr.refl [] w14) hf4 ho4
    rw [List.append_nil] at hc4
    go_wp2_with fail
    go_ret
    exact ⟨own4, rfl, by have h := hc4; rw [HXX.out, ← List.append_assoc]; exact h, hn15.2, hn15.1⟩)
end Go.Proofs.YtalgnjkdoaaacaaGreatDoor

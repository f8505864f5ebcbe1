/- writeHeader: the header ahead of a file's content. -/
import Derived.Test.YtalgnjkdoaaacaaGreatDoorQdd
set_option linter.unusedVariables false
set_option linter.unusedSimpArgs false
namespace Go.Proofs.YtalgnjkdoaaacaaGreatDoor
open Go Go.RowKit
open Zp
/-- The bytes ahead of a file's content. -/
def locL (rd fl me ti da cs pk sz : Nat) (nm ex : List UInt8) : List UInt8 := sigL ++ le 2 rd ++ (le 2 fl ++ le 2 me ++ le 2 ti ++ le 2 da ++ le 4 cs ++ le 4 pk ++ le 4 sz) ++ le 2 nm.length ++ le 2 ex.length ++ nm ++ ex
theorem fr0 {S : List Nat} {w w1 w2 : World} (h : Fr [] w w1) (k : Fr S w1 w2) : Fr S w w2 := (h.mono (S' := S) (by simp)).trans k (fun s hs => .inl hs)
theorem rdStr (w : World) (l : List UInt8) (c : Nat) (t : TypeId) (q : Nat × Nat) (hc : l.length ≤ c) : Rd (w.alloc (.cells (bytesRow (bs l) c) t q)) w.heap.size 0 l := by
  intro i b hb
  have h := cell_of_row (w.alloc (.cells (bytesRow (bs l) c) t q)) w.heap.size i _ t q (heap_alloc_new w _)
  rw [Nat.zero_add, h]
  have hi : i < l.length := (List.getElem?_eq_some_iff.1 hb).1
  rw [bytesRow, Array.getElem?_append_left (by simpa using hi)]
  simp [hb]
theorem cwStr (w W : World) (base cw bw bf sb : Nat) (own : Option Nat) (T l : List UInt8) (c : Nat) (hC : CW w base cw bw bf sb own T) (hF : Fr [] w W) (hr : Rd W w.heap.size 0 l) (hs : w.heap.size < W.heap.size) (hT : T.length + l.length ≤ 4000000000) (h1 : l.length ≤ c) (h2 : c ≤ maxLen) :
    Calls Tryz.prog 95 #[.pointer (some ⟨cw, 0, none⟩), .slice (some ⟨w.heap.size, 0, none⟩) l.length c] W (WrP W base cw bw bf sb own T l) :=
  cwWrite W base cw bw bf sb own T l w.heap.size 0 c _ (hC.nil hF) hT (.inr ⟨rfl, hr, hs, hC.fresh (Nat.le_refl _), h1, by unfold maxLen at h2; omega⟩)
theorem wr_next {w w12 U w13 : World} {cw bw bf sb : Nat} {own own1 own2 : Option Nat} (h : Fr (cwS cw bw bf sb own) w w12) (ho : OwnN w own own1) (hu : Fr [] w12 U) (k : Fr (cwS cw bw bf sb own1) U w13) (ko : OwnN U own1 own2) : Fr (cwS cw bw bf sb own) w w13 ∧ OwnN w own own2 :=
  ⟨Fr.own (S := [cw, bw, bf, sb]) (h.trans hu (by simp)) ho (S' := [cw, bw, bf, sb]) k (fun s hs => hs), ho.trans ko (Nat.le_trans h.size hu.size)⟩
theorem exW (w w13 : World) (base cw bw bf sb : Nat) (own own2 : Option Nat) (T exb : List UInt8) (ea : Addr) (ec : Nat) (hE : exb = [] ∨ (∃ ge oe, ea = ⟨ge, oe, none⟩ ∧ Rd w ge oe exb ∧ ge < w.heap.size ∧ Off ge cw bw bf sb own ∧ exb.length ≤ ec ∧ ec ≤ 9223372036854775807))
    (hC : CW w13 base cw bw bf sb own2 T) (hF : Fr (cwS cw bw bf sb own) w w13) (hO : OwnN w own own2) (hT : T.length + exb.length ≤ 4000000000) : ∀ W, Fr [] w13 W → Calls Tryz.prog 95 #[.pointer (some ⟨cw, 0, none⟩), .slice (some ea) exb.length ec] W (WrP W base cw bw bf sb own2 T exb) := by
  intro W hW
  rcases hE with rfl | ⟨ge, oe, rfl, h1, h2, h3, h4, h5⟩
  · exact cwWrite W base cw bw bf sb own2 T [] 0 0 ec _ (hC.nil hW) hT (.inl rfl)
  · exact cwWrite W base cw bw bf sb own2 T exb ge oe ec _ (hC.nil hW) hT (.inr ⟨rfl, (h1.fr hF h2 h3.not).fr hW (Nat.lt_of_lt_of_le h2 hF.size) (by simp), Nat.lt_of_lt_of_le h2 (Nat.le_trans hF.size hW.size), h3.next h2 hO, h4, h5⟩)
/-- What a part of the writing leaves. -/
def HdP (w : World) (base cw bw bf sb : Nat) (own : Option Nat) (T l : List UInt8) (e : Ending) (w' : World) : Prop :=
  ∃ own', e = .returned .nilIface ∧ CW w' base cw bw bf sb own' (T ++ l) ∧ OwnN w own own' ∧ Fr (cwS cw bw bf sb own) w w'
set_option maxRecDepth 100000 in
set_option maxHeartbeats 16000000 in
theorem writeHd (w : World) (base cw bw bf sb : Nat) (own : Option Nat) (T : List UInt8) (hh fh off : Nat) (nm cm exb : List UInt8) (nu : Bool) (cr rd fl me ti da cs pk sz ext : Nat) (ea : Addr) (ec : Nat) (m0 m1 : Int) (mp : Option Addr)
    (hC : CW w base cw bw bf sb own T) (hH : HH w hh fh off nm cm nu cr rd fl me ti da cs pk sz ext (.slice (some ea) exb.length ec) m0 m1 mp) (ho1 : Off hh cw bw bf sb own) (ho2 : Off fh cw bw bf sb own)
    (hea : exb = [] ∨ (∃ ge oe, ea = ⟨ge, oe, none⟩ ∧ Rd w ge oe exb ∧ ge < w.heap.size ∧ Off ge cw bw bf sb own ∧ exb.length ≤ ec ∧ ec ≤ 9223372036854775807)) (hT : T.length + 200000 ≤ 4000000000) (b1 : rd ≤ 65535) (b2 : fl ≤ 65535) (b3 : me ≤ 65535) (b4 : ti ≤ 65535) (b5 : da ≤ 65535) (b6 : cs ≤ 4294967295) (b7 : pk ≤ 4294967294) (b8 : sz ≤ 4294967294) (b9 : nm.length ≤ 65535) (b10 : exb.length ≤ 65535) (hfl : fl / 8 % 2 = 0) :
    Calls Tryz.prog 79 #[.iface 126 (.pointer (some ⟨cw, 0, none⟩)), .pointer (some ⟨hh, 0, none⟩)] w (HdP w base cw bw bf sb own T (locL rd fl me ti da cs pk sz nm exb)) := by
  have HHH := Lib.hid hH
  have c0 := hH.h.at_ 0 (.pointer (some ⟨fh, 0, none⟩)) rfl
  have c2 := hH.h.at_ 2 (.bool true) rfl
  have f0 := hH.f.at_ 0 (.string (bs nm)) rfl
  have f4 := hH.f.at_ 4 (.int .u16 (rd : Int)) rfl
  have f15 := hH.f.at_ 15 (.int .u64 (pk : Int)) rfl
  have f16 := hH.f.at_ 16 (.int .u64 (sz : Int)) rfl
  have f17 := hH.f.at_ 17 (.slice (some ea) exb.length ec) rfl
  have HDD := Lib.hid (hasDD w fh fl b2 (hH.f.at_ 5 _ rfl))
  rw [show decide (fl / 8 % 2 = 1) = false from decide_eq_false (by omega)] at HDD
  have i1 : ¬ 65535 < (nm.length : Int) := by omega
  have i2 : ¬ 65535 < (exb.length : Int) := by omega
  have i3 : ¬ 4294967295 < (pk : Int) := by omega
  have i4 : ¬ 4294967295 < (sz : Int) := by omega
  have hns := bs_size nm
  have HC := Lib.hid hC
  have HO1 := Lib.hid ho1
  have HO2 := Lib.hid ho2
  have HEA := Lib.hid hea
  have hna : ∀ W, (nilAhead 452 126 (.pointer (some ⟨cw, 0, none⟩)) "Write").run Tryz.prog W = .ok (some false) W := fun W => by kernel_rfl
  clear hH hC ho1 ho2 hea
  go_enter Tryz.func79, Tryz.ntmps79
  go_wp2_with fail
  refine HDD.out.mono ?_
  rintro e w1 ⟨rfl, hw⟩
  rw [hw]
  clear hw w1
  go_wp2_with fail
  have hb0 : Blk ((w.alloc (.cells #[.int .u8 0, .int .u8 0, .int .u8 0, .int .u8 0, .int .u8 0, .int .u8 0, .int .u8 0, .int .u8 0, .int .u8 0, .int .u8 0, .int .u8 0, .int .u8 0, .int .u8 0, .int .u8 0, .int .u8 0, .int .u8 0, .int .u8 0, .int .u8 0, .int .u8 0, .int .u8 0, .int .u8 0, .int .u8 0, .int .u8 0, .int .u8 0, .int .u8 0, .int .u8 0, .int .u8 0, .int .u8 0, .int .u8 0, .int .u8 0] 192)).alloc (.cells #[.slice (some ⟨w.heap.size, 0, none⟩) 30 30] 147)) w.heap.size 192 #[.int .u8 0, .int .u8 0, .int .u8 0, .int .u8 0, .int .u8 0, .int .u8 0, .int .u8 0, .int .u8 0, .int .u8 0, .int .u8 0, .int .u8 0, .int .u8 0, .int .u8 0, .int .u8 0, .int .u8 0, .int .u8 0, .int .u8 0, .int .u8 0, .int .u8 0, .int .u8 0, .int .u8 0, .int .u8 0, .int .u8 0, .int .u8 0, .int .u8 0, .int .u8 0, .int .u8 0, .int .u8 0, .int .u8 0, .int .u8 0] := (Blk.new w _ _).alloc _
  have hh0 : Blk ((w.alloc (.cells #[.int .u8 0, .int .u8 0, .int .u8 0, .int .u8 0, .int .u8 0, .int .u8 0, .int .u8 0, .int .u8 0, .int .u8 0, .int .u8 0, .int .u8 0, .int .u8 0, .int .u8 0, .int .u8 0, .int .u8 0, .int .u8 0, .int .u8 0, .int .u8 0, .int .u8 0, .int .u8 0, .int .u8 0, .int .u8 0, .int .u8 0, .int .u8 0, .int .u8 0, .int .u8 0, .int .u8 0, .int .u8 0, .int .u8 0, .int .u8 0] 192)).alloc (.cells #[.slice (some ⟨w.heap.size, 0, none⟩) 30 30] 147)) (w.heap.size + 1) 147 #[.slice (some ⟨w.heap.size, 0, none⟩) 30 30] := by have := Blk.new (w.alloc (.cells #[.int .u8 0, .int .u8 0, .int .u8 0, .int .u8 0, .int .u8 0, .int .u8 0, .int .u8 0, .int .u8 0, .int .u8 0, .int .u8 0, .int .u8 0, .int .u8 0, .int .u8 0, .int .u8 0, .int .u8 0, .int .u8 0, .int .u8 0, .int .u8 0, .int .u8 0, .int .u8 0, .int .u8 0, .int .u8 0, .int .u8 0, .int .u8 0, .int .u8 0, .int .u8 0, .int .u8 0, .int .u8 0, .int .u8 0, .int .u8 0] 192)) 147 #[.slice (some ⟨w.heap.size, 0, none⟩) 30 30]; rw [World.size_alloc] at this; exact this
  have HF0 := Lib.hid (show Fr [] w ((w.alloc (.cells #[.int .u8 0, .int .u8 0, .int .u8 0, .int .u8 0, .int .u8 0, .int .u8 0, .int .u8 0, .int .u8 0, .int .u8 0, .int .u8 0, .int .u8 0, .int .u8 0, .int .u8 0, .int .u8 0, .int .u8 0, .int .u8 0, .int .u8 0, .int .u8 0, .int .u8 0, .int .u8 0, .int .u8 0, .int .u8 0, .int .u8 0, .int .u8 0, .int .u8 0, .int .u8 0, .int .u8 0, .int .u8 0, .int .u8 0, .int .u8 0] 192)).alloc (.cells #[.slice (some ⟨w.heap.size, 0, none⟩) 30 30] 147)) from ((Fr.refl [] w).alloc _).alloc _)
  have HB0 := Lib.hid (show WB ((w.alloc (.cells #[.int .u8 0, .int .u8 0, .int .u8 0, .int .u8 0, .int .u8 0, .int .u8 0, .int .u8 0, .int .u8 0, .int .u8 0, .int .u8 0, .int .u8 0, .int .u8 0, .int .u8 0, .int .u8 0, .int .u8 0, .int .u8 0, .int .u8 0, .int .u8 0, .int .u8 0, .int .u8 0, .int .u8 0, .int .u8 0, .int .u8 0, .int .u8 0, .int .u8 0, .int .u8 0, .int .u8 0, .int .u8 0, .int .u8 0, .int .u8 0] 192)).alloc (.cells #[.slice (some ⟨w.heap.size, 0, none⟩) 30 30] 147)) w.heap.size (w.heap.size + 1) 192 30 [] from ⟨_, ⟨w.heap.size, 0, none⟩, hb0, rfl, Rd.nil_ _ _ _, by simp, hh0, fun _ => rfl, by omega⟩)
  clear hb0 hh0 c0 c2 f0 f4 f15 f16 f17 HDD
  refine (wb32 _ w.heap.size (w.heap.size + 1) 192 30 _ 67324752 HB0.out (by simp [le_length]) (by omega) (by decide)).mono ?_
  rintro e w1 ⟨rfl, hwb, hf, -⟩
  have HB1 := Lib.hid hwb
  have HF1 := Lib.hid (fr2 HF0.out hf (Nat.le_refl _))
  clear hwb hf HB0 HF0
  go_wp2_with fail
  refine (wb16 _ w.heap.size (w.heap.size + 1) 192 30 _ rd HB1.out (by simp [le_length]) (by omega) (by decide)).mono ?_
  rintro e w2 ⟨rfl, hwb, hf, -⟩
  have HB2 := Lib.hid hwb
  have HF2 := Lib.hid (fr2 HF1.out hf (Nat.le_refl _))
  clear hwb hf HB1 HF1
  have hk := HHH.out.fr HF2.out (by simp) (by simp)
  have c0 := hk.h.at_ 0 (.pointer (some ⟨fh, 0, none⟩)) rfl
  have f0 := hk.f.at_ 5 (.int .u16 (fl : Int)) rfl
  clear hk
  go_wp2_with fail
  clear c0 f0
  refine (wb16 _ w.heap.size (w.heap.size + 1) 192 30 _ fl HB2.out (by simp [le_length]) (by omega) (by decide)).mono ?_
  rintro e w3 ⟨rfl, hwb, hf, -⟩
  have HB3 := Lib.hid hwb
  have HF3 := Lib.hid (fr2 HF2.out hf (Nat.le_refl _))
  clear hwb hf HB2 HF2
  have hk := HHH.out.fr HF3.out (by simp) (by simp)
  have c0 := hk.h.at_ 0 (.pointer (some ⟨fh, 0, none⟩)) rfl
  have f0 := hk.f.at_ 6 (.int .u16 (me : Int)) rfl
  clear hk
  go_wp2_with fail
  clear c0 f0
  refine (wb16 _ w.heap.size (w.heap.size + 1) 192 30 _ me HB3.out (by simp [le_length]) (by omega) (by decide)).mono ?_
  rintro e w4 ⟨rfl, hwb, hf, -⟩
  have HB4 := Lib.hid hwb
  have HF4 := Lib.hid (fr2 HF3.out hf (Nat.le_refl _))
  clear hwb hf HB3 HF3
  have hk := HHH.out.fr HF4.out (by simp) (by simp)
  have c0 := hk.h.at_ 0 (.pointer (some ⟨fh, 0, none⟩)) rfl
  have f0 := hk.f.at_ 10 (.int .u16 (ti : Int)) rfl
  clear hk
  go_wp2_with fail
  clear c0 f0
  refine (wb16 _ w.heap.size (w.heap.size + 1) 192 30 _ ti HB4.out (by simp [le_length]) (by omega) (by decide)).mono ?_
  rintro e w5 ⟨rfl, hwb, hf, -⟩
  have HB5 := Lib.hid hwb
  have HF5 := Lib.hid (fr2 HF4.out hf (Nat.le_refl _))
  clear hwb hf HB4 HF4
  have hk := HHH.out.fr HF5.out (by simp) (by simp)
  have c0 := hk.h.at_ 0 (.pointer (some ⟨fh, 0, none⟩)) rfl
  have f0 := hk.f.at_ 11 (.int .u16 (da : Int)) rfl
  clear hk
  go_wp2_with fail
  clear c0 f0
  refine (wb16 _ w.heap.size (w.heap.size + 1) 192 30 _ da HB5.out (by simp [le_length]) (by omega) (by decide)).mono ?_
  rintro e w6 ⟨rfl, hwb, hf, -⟩
  have HB6 := Lib.hid hwb
  have HF6 := Lib.hid (fr2 HF5.out hf (Nat.le_refl _))
  clear hwb hf HB5 HF5
  have hk := HHH.out.fr HF6.out (by simp) (by simp)
  have c0 := hk.h.at_ 0 (.pointer (some ⟨fh, 0, none⟩)) rfl
  have f0 := hk.f.at_ 12 (.int .u32 (cs : Int)) rfl
  clear hk
  go_wp2_with fail
  clear c0 f0
  refine (wb32 _ w.heap.size (w.heap.size + 1) 192 30 _ cs HB6.out (by simp [le_length]) (by omega) (by decide)).mono ?_
  rintro e w7 ⟨rfl, hwb, hf, -⟩
  have HB7 := Lib.hid hwb
  have HF7 := Lib.hid (fr2 HF6.out hf (Nat.le_refl _))
  clear hwb hf HB6 HF6
  have hk := HHH.out.fr HF7.out (by simp) (by simp)
  have c0 := hk.h.at_ 0 (.pointer (some ⟨fh, 0, none⟩)) rfl
  have f0 := hk.f.at_ 15 (.int .u64 (pk : Int)) rfl
  clear hk
  go_wp2_with fail
  clear c0 f0
  refine (wb32 _ w.heap.size (w.heap.size + 1) 192 30 _ pk HB7.out (by simp [le_length]) (by omega) (by decide)).mono ?_
  rintro e w8 ⟨rfl, hwb, hf, -⟩
  have HB8 := Lib.hid hwb
  have HF8 := Lib.hid (fr2 HF7.out hf (Nat.le_refl _))
  clear hwb hf HB7 HF7
  have hk := HHH.out.fr HF8.out (by simp) (by simp)
  have c0 := hk.h.at_ 0 (.pointer (some ⟨fh, 0, none⟩)) rfl
  have f0 := hk.f.at_ 16 (.int .u64 (sz : Int)) rfl
  clear hk
  go_wp2_with fail
  clear c0 f0
  refine (wb32 _ w.heap.size (w.heap.size + 1) 192 30 _ sz HB8.out (by simp [le_length]) (by omega) (by decide)).mono ?_
  rintro e w9 ⟨rfl, hwb, hf, -⟩
  have HB9 := Lib.hid hwb
  have HF9 := Lib.hid (fr2 HF8.out hf (Nat.le_refl _))
  clear hwb hf HB8 HF8
  have hk := HHH.out.fr HF9.out (by simp) (by simp)
  have c0 := hk.h.at_ 0 (.pointer (some ⟨fh, 0, none⟩)) rfl
  have f0 := hk.f.at_ 0 (.string (bs nm)) rfl
  clear hk
  go_wp2_with fail
  clear c0 f0
  refine (wb16 _ w.heap.size (w.heap.size + 1) 192 30 _ nm.length HB9.out (by simp [le_length]) (by omega) (by decide)).mono ?_
  rintro e w10 ⟨rfl, hwb, hf, -⟩
  have HB10 := Lib.hid hwb
  have HF10 := Lib.hid (fr2 HF9.out hf (Nat.le_refl _))
  clear hwb hf HB9 HF9
  have hk := HHH.out.fr HF10.out (by simp) (by simp)
  have c0 := hk.h.at_ 0 (.pointer (some ⟨fh, 0, none⟩)) rfl
  have f0 := hk.f.at_ 17 (.slice (some ea) exb.length ec) rfl
  clear hk
  go_wp2_with fail
  clear c0 f0
  refine (wb16 _ w.heap.size (w.heap.size + 1) 192 30 _ exb.length HB10.out (by simp [le_length]) (by omega) (by decide)).mono ?_
  rintro e w11 ⟨rfl, hwb, hf, -⟩
  have HB11 := Lib.hid hwb
  have HF11 := Lib.hid (fr2 HF10.out hf (Nat.le_refl _))
  clear hwb hf HB10 HF10
  obtain ⟨X, hX⟩ : ∃ X, ([] ++ le 4 67324752 ++ le 2 rd ++ le 2 fl ++ le 2 me ++ le 2 ti ++ le 2 da ++ le 4 cs ++ le 4 pk ++ le 4 sz ++ le 2 nm.length ++ le 2 exb.length) = X := ⟨_, rfl⟩
  have hXl : X.length = 30 := by rw [← hX]; simp [le_length]
  have hXX : locL rd fl me ti da cs pk sz nm exb = X ++ nm ++ exb := by rw [← hX, locL, show sigL = le 4 67324752 from by decide]; simp [List.append_assoc]
  have HXX := Lib.hid hXX
  rw [hX] at HB11
  clear hX hXX
  have HXL := Lib.hid hXl
  obtain ⟨cur, aa, kb, ks, kr, -⟩ := HB11.out
  have kr2 := kr
  have HW := Lib.hid (fun (w' : World) (hf : Fr [] w11 w') => cwWrite w' base cw bw bf sb own T X w.heap.size 0 30 (some ⟨w.heap.size, 0, none⟩) (HC.out.nil (HF11.out.trans hf (by simp))) (by omega) (.inr ⟨rfl, kr2.fr hf kb.lt (by simp), Nat.lt_of_lt_of_le kb.lt hf.size, HC.out.fresh (Nat.le_refl _), by omega, by decide⟩))
  rw [hXl] at HW
  clear kb kr hXl
  have hXt : True := trivial
  go_wp2_with fail
  go_region_held3 (fun w' => True)
    ((first | exact hXt | exact trivial))
    ((first | (go_at_call 95; (with_reducible refine (HW.out _ ((Fr.refl [] w11).drew)).mono ?_); rintro e w12 ⟨own1, rfl, hc1, ho1, hf1⟩)))
  have HF12 := Lib.hid (show Fr (cwS cw bw bf sb own) w w12 from fr0 HF11.out.drew hf1)
  have HO12 := Lib.hid (show OwnN w own own1 from (show OwnN w own own from .inl rfl).trans ho1 (HF11.out.drew).size)
  have HC12 := Lib.hid hc1
  clear hc1 ho1 hf1 HB11 HF11 HW
  have hk := HHH.out.fr HF12.out HO1.out.not HO2.out.not
  have c0 := hk.h.at_ 0 (.pointer (some ⟨fh, 0, none⟩)) rfl
  have f0 := hk.f.at_ 0 (.string (bs nm)) rfl
  have hkl := And.intro hk.h.lt hk.f.lt
  clear hk
  go_wp2_with fail
  have hcv : ∀ W : World, (convert 9 76 (.string (bs nm))).run Tryz.prog W = .ok (.slice (some ⟨W.heap.size, 0, none⟩) (bs nm).size (grownCap W (bs nm).size 0 5)) (W.drew.alloc (.cells (bytesRow (bs nm) (grownCap W (bs nm).size 0 5)) 5 ((bytesRow (bs nm) (grownCap W (bs nm).size 0 5)).size, (bytesRow (bs nm) (grownCap W (bs nm).size 0 5)).size + 1))) := fun W => run_bytes_of_string W _ _ 5 (bs nm) Tryz.underlying9 Tryz.underlying76 (by kernel_rfl)
  have KS := Lib.hid (fun (W : World) (hf : Fr [] w12 W) => And.intro ((hf.cell (p := ⟨hh, 0, none⟩) hkl.1 (by simp)).trans c0) ((hf.cell (p := ⟨fh, 0, none⟩) hkl.2 (by simp)).trans f0))
  have hmt : ∀ W : World, (method 452 126 (.pointer (some ⟨cw, 0, none⟩)) "Write").run Tryz.prog W = .ok (95, .pointer (some ⟨cw, 0, none⟩)) W := fun W => by kernel_rfl
  go_region_law
    ((first | (go_simp; go_at_call 95; (with_reducible refine Calls.mono (cwStr w12 _ base cw bw bf sb own1 (T ++ X) nm _ HC12.out (by first | exact ((Fr.refl [] w12).alloc _).drew.drew | exact ((Fr.refl [] w12).alloc _).drew) (by first | exact (rdStr w12 _ _ _ _ (by rw [← hns]; exact grownCap_ge _ _ _ _)).drew.drew | exact (rdStr w12 _ _ _ _ (by rw [← hns]; exact grownCap_ge _ _ _ _)).drew) (by simp) (by rw [List.length_append, HXL.out]; omega) (by rw [← hns]; exact grownCap_ge _ _ _ _) (by exact grownCap_le_maxLen _ _ _ _ (by unfold maxLen; omega))) ?_); rintro e w13 ⟨own2, rfl, hc2, ho2, hf2⟩; have hn13 := wr_next HF12.out HO12.out (by first | exact ((Fr.refl [] w12).alloc _).drew.drew | exact ((Fr.refl [] w12).alloc _).drew) hf2 ho2; clear hf2 ho2 hcv hmt KS)))
  all_goals (
    have HF13 := Lib.hid hn13.1
    have HO13 := Lib.hid hn13.2
    have HC13 := Lib.hid hc2
    clear hn13 hc2 c0 f0
    have hk := HHH.out.fr HF13.out HO1.out.not HO2.out.not
    have c0 := hk.h.at_ 0 (.pointer (some ⟨fh, 0, none⟩)) rfl
    have f0 := hk.f.at_ 17 (.slice (some ea) exb.length ec) rfl
    have HK := Lib.hid hk
    clear hk
    have HWX := Lib.hid (exW w w13 base cw bw bf sb own own2 (T ++ X ++ nm) exb ea ec HEA.out HC13.out HF13.out HO13.out (by rw [List.length_append, List.length_append, HXL.out]; omega))
    obtain ⟨L, hL⟩ : ∃ L, exb.length = L := ⟨_, rfl⟩
    have HLX := Lib.hid hL
    rw [hL] at HWX f0 ⊢
    clear hL
    go_wp2_with fail
    go_region_held3 (fun w' => w'.cell? ⟨hh, 0, none⟩ = some (.pointer (some ⟨fh, 0, none⟩)) ∧ w'.cell? ⟨fh, 17, none⟩ = some (.slice (some ea) L ec))
      ((first | exact ⟨c0, f0⟩ | exact KS.out | assumption))
      ((first | (go_at_call 95; (with_reducible refine (HWX.out _ ((Fr.refl [] w13).drew)).mono ?_); rintro e w14 ⟨own3, rfl, hc3, ho3, hf3⟩; have hn14 := wr_next HF13.out HO13.out ((Fr.refl [] w13).drew) hf3 ho3; have hk3 := HHH.out.fr hn14.1 HO1.out.not HO2.out.not; have KS := Lib.hid (And.intro (hk3.h.at_ 0 (.pointer (some ⟨fh, 0, none⟩)) rfl) (hk3.f.at_ 17 (.slice (some ea) exb.length ec) rfl)); rw [HLX.out] at KS)))
    have HF14 := Lib.hid hn14.1
    have HO14 := Lib.hid hn14.2
    have HC14 := Lib.hid hc3
    clear hn14 hc3 ho3 hf3 hk3 KS c0 f0
    have HWZ := Lib.hid (show Calls Tryz.prog 95 #[.pointer (some ⟨cw, 0, none⟩), .slice none 0 0] w14 (WrP w14 base cw bw bf sb own3 (T ++ X ++ nm ++ exb) []) from cwWrite w14 base cw bw bf sb own3 (T ++ X ++ nm ++ exb) [] 0 0 0 none HC14.out (by rw [List.length_append, List.length_append, List.length_append, HXL.out, HLX.out]; simp; have := HLX.out; omega) (.inl rfl))
    go_wp2_with fail
    refine HWZ.out.mono ?_
    rintro e w15 ⟨own4, rfl, hc4, ho4, hf4⟩
    have hn15 := wr_next HF14.out HO14.out (Fr.refl [] w14) hf4 ho4
    rw [List.append_nil] at hc4
    go_wp2_with fail
    go_ret
    exact ⟨own4, rfl, by have h := hc4; rw [List.append_assoc, List.append_assoc, ← List.append_assoc X] at h; rw [HXX.out]; exact h, hn15.2, hn15.1⟩)
end Go.Proofs.YtalgnjkdoaaacaaGreatDoor

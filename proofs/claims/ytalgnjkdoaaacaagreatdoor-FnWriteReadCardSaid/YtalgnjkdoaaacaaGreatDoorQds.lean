/- Writer.Close: the directory. -/
import Derived.Test.YtalgnjkdoaaacaaGreatDoorQdo0
import Derived.Test.YtalgnjkdoaaacaaGreatDoorQdp
set_option linter.unusedVariables false
set_option linter.unusedSimpArgs false
namespace Go.Proofs.YtalgnjkdoaaacaaGreatDoor
open Go Go.RowKit
open Zp
theorem wp_code {P : Program} {c c' : Code} {Q : Exit → Act → World → Prop} {a : Act} {w : World} (h : c = c') (hw : c.wp P Q a w) : c'.wp P Q a w := h ▸ hw
set_option maxRecDepth 100000 in
theorem clo65 (a : Act) (w : World) (zw start n k : Nat) (dv : Value) (hA : FrC zw dv start n k a) (hk : k < 1000) (Q : Exit → Act → World → Prop) (hQ : ∀ a', FrC zw dv start n (k + 1) a' → Q .normal a' w) : (cloFrom 65).wp Tryz.prog Q a w := by
  have HQ := Lib.hid hQ
  rw [frame520 hA.size hA.defers, hA.s0, hA.s2, hA.s4, hA.s5, hA.s82, hA.s83, hA.s84]
  clear hQ hA
  conv => arg 2; whnf
  go_wp2_with fail
  exact HQ.out _ ⟨rfl, rfl, rfl, rfl, rfl, rfl, rfl, rfl, by show Value.int .i64 ((k : Int) + 1) = _; rw [Int.natCast_add]; rfl⟩
set_option maxRecDepth 100000 in
set_option maxHeartbeats 8000000 in
theorem clo12 (a : Act) (w0 w : World) (zw base cw bw bf sb start n k : Nat) (dv last : Value) (c : By) (own : Option Nat) (T : By) (L : List WR)
    (hA : FrC zw dv start n k a) (hn : L.length = n) (hk : k ≤ n) (hn9 : n ≤ 1000)
    (hz : Blk w0 zw 136 (zwC cw dv last true c)) (hW : WS w0 base cw bw bf sb own T dv L) (hb : T.length + 180046 * n + 400000 ≤ 4000000000)
    (hst : WrQ w0 base cw bw bf sb own (T ++ dirL (L.take k)) w) (Q : Exit → Act → World → Prop)
    (hN : ∀ a' w', k < n → FrC zw dv start n (k + 1) a' → WrQ w0 base cw bw bf sb own (T ++ dirL (L.take (k + 1))) w' → Q .normal a' w')
    (hX : ∀ a', k = n → FrC zw dv start n k a' → Q (.exit 0) a' w) :
    (cloLoop 12).wp Tryz.prog Q a w := by
  have HN := Lib.hid hN
  have HX := Lib.hid hX
  obtain ⟨own1, hc1, ho1, hf1⟩ := hst
  have hWw := hW.wr hc1 hf1 ho1
  by_cases hlt : k < n
  · have hkl : k < L.length := by omega
    obtain ⟨x, hx⟩ : ∃ x, L[k] = x := ⟨_, rfl⟩
    have hxl : L[k]? = some x := by rw [List.getElem?_eq_getElem hkl, hx]
    have hxm : x ∈ L := by rw [← hx]; exact List.getElem_mem hkl
    obtain ⟨⟨rw_, nu, m0, m1, mp, ea, ec, x1, x2, x3⟩, xok⟩ := hWw.hL x hxm
    obtain ⟨g, cap, hv, hg, hcell, hnc, hcm⟩ := own_cell hWw.hd (k := k) (u := .pointer (some ⟨x.hh, 0, none⟩)) (by simp [hxl])
    have hzw := hz.fr hf1 (hW.hC.offBlk hz (by decide) (by decide) (by decide) (by decide)).not
    have c0 := x1.at_ 0 (.pointer (some ⟨x.fh, 0, none⟩)) rfl
    have c1 := x1.at_ 1 (.int .u64 (x.off : Int)) rfl
    have f4 := x2.at_ 4 (.int .u16 (x.rd : Int)) rfl
    have f15 := x2.at_ 15 (.int .u64 (x.pk : Int)) rfl
    have f16 := x2.at_ 16 (.int .u64 (x.sz : Int)) rfl
    have i1 : (k : Int) < (n : Int) := by omega
    have i2 : (x.pk : Int) < 4294967295 := by have := xok.a8; omega
    have i3 : (x.sz : Int) < 4294967295 := by have := xok.a9; omega
    have i4 : (x.off : Int) < 4294967295 := by have := xok.a11; omega
    have d2 : decide ((4294967295 : Int) ≤ (x.pk : Int)) = false := decide_eq_false (by omega)
    have d3 : decide ((4294967295 : Int) ≤ (x.sz : Int)) = false := decide_eq_false (by omega)
    have d4 : decide ((4294967295 : Int) ≤ (x.off : Int)) = false := decide_eq_false (by omega)
    have hle := dirL_le (l := L.take k) (fun y hy => (hW.hL y (List.mem_of_mem_take hy)).2)
    have hlk : (L.take k).length = k := by rw [List.length_take]; omega
    have hT' : (T ++ dirL (L.take k)).length + 400000 ≤ 4000000000 := by
      rw [List.length_append]
      rw [hlk] at hle
      have := Nat.mul_le_mul_right 180046 hk
      omega
    have HT := Lib.hid (dirL_take hxl)
    have HZW := Lib.hid hzw
    have HC1 := Lib.hid hc1
    have HO1 := Lib.hid ho1
    have HF1 := Lib.hid hf1
    have HX1 := Lib.hid x1
    have HX2 := Lib.hid x2
    have HX3 := Lib.hid x3
    rw [hn] at hv
    subst hv
    rw [frame520 hA.size hA.defers, hA.s0, hA.s2, hA.s4, hA.s5, hA.s82, hA.s83, hA.s84]
    clear hN hX hA hz hW hc1 ho1 hf1 hWw x1 x2 x3 hzw hx hle hlk
    conv => arg 2; whnf
    go_upto_if 119 with fail
    rename_i K1 hK1 K hK
    have HK := Lib.hid (fun a w (h : (cloFrom 35).wp Tryz.prog _ a w) => hK a w (wp_code (c := cloFrom 35) (by kernel_rfl) h))
    have HK1 := Lib.hid (fun a w (h : (cloFrom 65).wp Tryz.prog _ a w) => hK1 a w (wp_code (c := cloFrom 65) (by kernel_rfl) h))
    clear hK hK1
    go_wp2_with fail
    refine HK.out _ _ ?_
    refine clo35 _ w zw base cw bw bf sb start n k (.slice (some ⟨g, 0, none⟩) n cap) (.slice (some ⟨g, 0, none⟩) n cap) last true c own1 (T ++ dirL (L.take k)) x rw_ nu m0 m1 mp ea ec ?_ ?_ ?_ (by omega) HZW.out HC1.out ⟨HX1.out, HX2.out⟩ HX3.out xok hT' _ ?_
    · exact ⟨rfl, rfl, rfl, rfl, rfl, rfl, rfl, rfl, rfl⟩
    · rfl
    · rfl
    rintro a' w' hA' ⟨own2, hc2, ho2, hf2⟩
    have hn2 := wr_next HF1.out HO1.out (Fr.refl [] w) hf2 ho2
    refine HK1.out _ _ (clo65 a' w' zw start n k _ hA' (by omega) _ ?_)
    intro a2 hA2
    refine HN.out a2 w' (by omega) hA2 ⟨own2, ?_, hn2.2, hn2.1⟩
    rw [HT.out, ← List.append_assoc]
    exact hc2
  · have i1 : ¬ (k : Int) < (n : Int) := by omega
    rw [frame520 hA.size hA.defers, hA.s0, hA.s2, hA.s4, hA.s5, hA.s82, hA.s83, hA.s84]
    clear hN hX hA hz hW hc1 ho1 hf1 hWw
    conv => arg 2; whnf
    go_wp2_with fail
    exact HX.out _ (by omega) ⟨rfl, rfl, rfl, rfl, rfl, rfl, rfl, rfl, rfl⟩
end Go.Proofs.YtalgnjkdoaaacaaGreatDoor

/- Writer.Close: the end of the archive. -/
namespace Go.Proofs.YtalgnjkdoaaacaaGreatDoor
open Go Go.RowKit
open Zp
/-- An end by return alone. -/
def RQ (R : Act → World → Prop) (e : Exit) (a : Act) (w : World) : Prop := match e with
  | .ret => R a w
  | _ => False
theorem wp_rq {P : Program} {s : Code} {R : Act → World → Prop} {Q : Exit → Act → World → Prop} {a : Act} {w : World} (h : s.wp P (RQ R) a w) (hQ : ∀ a' w', R a' w' → Q .ret a' w') : s.wp P Q a w := by
  refine wp_mono h ?_
  intro e a' w' hq
  cases e with
  | ret => exact hQ _ _ hq
  | _ => exact False.elim hq
/-- What the end leaves. -/
def EndR (w : World) (base sb : Nat) (T : By) (a' : Act) (w' : World) : Prop := a'.defers = [] ∧ slotOf a' 2 = .nilIface ∧ ∃ own', SBd w' base sb own' T ∧ Below base w w'
theorem BWn.done {w : World} {base bw bf sb : Nat} {own : Option Nat} {T : By} (h : BWn w base bw bf sb own T 0) : SBd w base sb own T := by
  obtain ⟨T0, P, h1, h2, h3, h4⟩ := h.hT
  have : P = [] := List.length_eq_zero_iff.1 h3
  subst this
  rw [h4, List.append_nil]
  exact h1
set_option maxRecDepth 100000 in
set_option maxHeartbeats 16000000 in
theorem clo66 (a : Act) (w : World) (zw base cw bw bf sb start n k : Nat) (pd : Option Addr) (cd : Nat) (dv last : Value) (c : By) (own : Option Nat) (T : By)
    (hA : FrC zw dv start n k a) (hn9 : n ≤ 1000) (hbs : base ≤ w.heap.size)
    (hz : Blk w zw 136 (zwC cw (.slice pd n cd) last true c)) (hC : CW w base cw bw bf sb own T) (hst : start ≤ T.length) (hT : T.length + 100000 ≤ 4000000000) (hc : c.length ≤ 65535) (R : Act → World → Prop)
    (hR : ∀ a' w', EndR w base sb (T ++ endB n (T.length - start) start c) a' w' → R a' w') :
    (cloFrom 66).wp Tryz.prog (RQ R) a w := by
  have HC := Lib.hid hC
  have HZ := Lib.hid hz
  have HR := Lib.hid hR
  have HO3 := Lib.hid (hC.offBlk hz (by decide) (by decide) (by decide) (by decide))
  have hcs := bs_size c
  have z0 := hz.at_ 0 (.pointer (some ⟨cw, 0, none⟩)) rfl
  have z1 := hz.at_ 1 (.slice pd n cd) rfl
  have z5 := hz.at_ 5 (.string (bs c)) rfl
  have z6 := hz.at_ 6 .nilFunc rfl
  have k1 := hC.hc.at_ 1 (.int .i64 (T.length : Int)) rfl
  obtain ⟨tl, htl⟩ : ∃ tl, T.length = tl := ⟨_, rfl⟩
  obtain ⟨d, hd⟩ : ∃ d, tl - start = d := ⟨_, rfl⟩
  have HTL := Lib.hid htl
  have HD := Lib.hid hd
  rw [htl] at k1 hst hT
  have htl9 : tl ≤ 4000000000 := by omega
  have hst9 : start ≤ 4000000000 := by omega
  have hd9 : d ≤ 4000000000 := by omega
  have e1 : (tl : Int) - (start : Int) = (d : Int) := by omega
  have d1 : decide ((65535 : Int) ≤ (n : Int)) = false := decide_eq_false (by omega)
  have d2 : decide ((4294967295 : Int) ≤ (d : Int)) = false := decide_eq_false (by omega)
  have d3 : decide ((4294967295 : Int) ≤ (start : Int)) = false := decide_eq_false (by omega)
  have m1 : min (65535 : Int) (n : Int) = (n : Int) := by omega
  have m2 : min (4294967295 : Int) (d : Int) = (d : Int) := by omega
  have m3 : min (4294967295 : Int) (start : Int) = (start : Int) := by omega
  have hnn : ∀ W, (binOp .neq 134 .nilFunc .nilFunc).run Tryz.prog W = .ok (.bool false) W := fun W => by kernel_rfl
  rw [frame520 hA.size hA.defers, hA.s0, hA.s2, hA.s4, hA.s5, hA.s82, hA.s83, hA.s84]
  clear hC hz hR hA htl hd
  conv => arg 2; whnf
  go_wp2_with fail
  have HF0 := Lib.hid (show Fr [] w ((w.alloc (.cells #[.int .u8 0, .int .u8 0, .int .u8 0, .int .u8 0, .int .u8 0, .int .u8 0, .int .u8 0, .int .u8 0, .int .u8 0, .int .u8 0, .int .u8 0, .int .u8 0, .int .u8 0, .int .u8 0, .int .u8 0, .int .u8 0, .int .u8 0, .int .u8 0, .int .u8 0, .int .u8 0, .int .u8 0, .int .u8 0] 205)).alloc (.cells #[.slice (some ⟨w.heap.size, 0, none⟩) 22 22] 147)) from ((Fr.refl [] w).alloc _).alloc _)
  have hh0 : Blk ((w.alloc (.cells #[.int .u8 0, .int .u8 0, .int .u8 0, .int .u8 0, .int .u8 0, .int .u8 0, .int .u8 0, .int .u8 0, .int .u8 0, .int .u8 0, .int .u8 0, .int .u8 0, .int .u8 0, .int .u8 0, .int .u8 0, .int .u8 0, .int .u8 0, .int .u8 0, .int .u8 0, .int .u8 0, .int .u8 0, .int .u8 0] 205)).alloc (.cells #[.slice (some ⟨w.heap.size, 0, none⟩) 22 22] 147)) (w.heap.size + 1) 147 #[.slice (some ⟨w.heap.size, 0, none⟩) 22 22] := by have := Blk.new (w.alloc (.cells #[.int .u8 0, .int .u8 0, .int .u8 0, .int .u8 0, .int .u8 0, .int .u8 0, .int .u8 0, .int .u8 0, .int .u8 0, .int .u8 0, .int .u8 0, .int .u8 0, .int .u8 0, .int .u8 0, .int .u8 0, .int .u8 0, .int .u8 0, .int .u8 0, .int .u8 0, .int .u8 0, .int .u8 0, .int .u8 0] 205)) 147 #[.slice (some ⟨w.heap.size, 0, none⟩) 22 22]; rw [World.size_alloc] at this; exact this
  have HB0 := Lib.hid (show WZ ((w.alloc (.cells #[.int .u8 0, .int .u8 0, .int .u8 0, .int .u8 0, .int .u8 0, .int .u8 0, .int .u8 0, .int .u8 0, .int .u8 0, .int .u8 0, .int .u8 0, .int .u8 0, .int .u8 0, .int .u8 0, .int .u8 0, .int .u8 0, .int .u8 0, .int .u8 0, .int .u8 0, .int .u8 0, .int .u8 0, .int .u8 0] 205)).alloc (.cells #[.slice (some ⟨w.heap.size, 0, none⟩) 22 22] 147)) w.heap.size (w.heap.size + 1) 205 22 [] from ⟨⟨w.heap.size, 0, none⟩, (show Blk ((w.alloc (.cells #[.int .u8 0, .int .u8 0, .int .u8 0, .int .u8 0, .int .u8 0, .int .u8 0, .int .u8 0, .int .u8 0, .int .u8 0, .int .u8 0, .int .u8 0, .int .u8 0, .int .u8 0, .int .u8 0, .int .u8 0, .int .u8 0, .int .u8 0, .int .u8 0, .int .u8 0, .int .u8 0, .int .u8 0, .int .u8 0] 205)).alloc (.cells #[.slice (some ⟨w.heap.size, 0, none⟩) 22 22] 147)) w.heap.size 205 #[.int .u8 0, .int .u8 0, .int .u8 0, .int .u8 0, .int .u8 0, .int .u8 0, .int .u8 0, .int .u8 0, .int .u8 0, .int .u8 0, .int .u8 0, .int .u8 0, .int .u8 0, .int .u8 0, .int .u8 0, .int .u8 0, .int .u8 0, .int .u8 0, .int .u8 0, .int .u8 0, .int .u8 0, .int .u8 0] from (Blk.new w _ _).alloc _), by simp, hh0, fun _ => rfl, by omega⟩)
  clear hh0 z0 z1 z6 k1 d1 d2 d3 e1
  refine (wz32 _ w.heap.size (w.heap.size + 1) 205 22 _ (101010256) HB0.out (by simp [le_length]) (by omega) (by decide)).mono ?_
  rintro e w1 ⟨rfl, hwb, hf, -⟩
  have HB1 := Lib.hid hwb
  have HF1 := Lib.hid (fr2 HF0.out hf (Nat.le_refl _))
  clear hwb hf HB0 HF0
  obtain ⟨ad, hb, hP, hh, had, hgh⟩ := HB1.out
  have hPl : ([] ++ le 4 101010256 : By).length = 4 := by simp [le_length]
  rw [hPl] at hh had
  obtain rfl := had (by omega)
  have d0 := hh.at_ 0 _ rfl
  have y0 := hh.frozen 0
  have hbs' := WZ.skip HB1.out 4 (by rw [hPl]; omega) ⟨w.heap.size, 8, none⟩ 14 (by rw [hPl]) (by rw [hPl]; exact fun _ => rfl)
  have HF1s := Lib.hid ((HF1.out).setCell (p := ⟨w.heap.size + 1, 0, none⟩) (.inr (by show w.heap.size ≤ w.heap.size + 1; omega)) (.slice (some ⟨w.heap.size, 8, none⟩) 14 14))
  have HB1s := Lib.hid hbs'
  clear hbs' hb hP hh had hgh hPl HB1
  go_wp2_with fail
  clear d0 y0
  replace HB1 := HB1s
  replace HF1 := HF1s
  refine (wz16 _ w.heap.size (w.heap.size + 1) 205 22 _ (n) HB1.out (by simp [le_length]) (by omega) (by decide)).mono ?_
  rintro e w2 ⟨rfl, hwb, hf, -⟩
  have HB2 := Lib.hid hwb
  have HF2 := Lib.hid (fr2 HF1.out hf (Nat.le_refl _))
  clear hwb hf HB1 HF1
  go_wp2_with fail
  refine (wz16 _ w.heap.size (w.heap.size + 1) 205 22 _ (n) HB2.out (by simp [le_length]) (by omega) (by decide)).mono ?_
  rintro e w3 ⟨rfl, hwb, hf, -⟩
  have HB3 := Lib.hid hwb
  have HF3 := Lib.hid (fr2 HF2.out hf (Nat.le_refl _))
  clear hwb hf HB2 HF2
  go_wp2_with fail
  refine (wz32 _ w.heap.size (w.heap.size + 1) 205 22 _ (d) HB3.out (by simp [le_length]) (by omega) (by decide)).mono ?_
  rintro e w4 ⟨rfl, hwb, hf, -⟩
  have HB4 := Lib.hid hwb
  have HF4 := Lib.hid (fr2 HF3.out hf (Nat.le_refl _))
  clear hwb hf HB3 HF3
  go_wp2_with fail
  refine (wz32 _ w.heap.size (w.heap.size + 1) 205 22 _ (start) HB4.out (by simp [le_length]) (by omega) (by decide)).mono ?_
  rintro e w5 ⟨rfl, hwb, hf, -⟩
  have HB5 := Lib.hid hwb
  have HF5 := Lib.hid (fr2 HF4.out hf (Nat.le_refl _))
  clear hwb hf HB4 HF4
  have z5' := (HZ.out.fr HF5.out (by simp)).at_ 5 (.string (bs c)) rfl
  go_wp2_with fail
  clear z5'
  refine (wz16 _ w.heap.size (w.heap.size + 1) 205 22 _ (c.length) HB5.out (by simp [le_length]) (by omega) (by decide)).mono ?_
  rintro e w6 ⟨rfl, hwb, hf, -⟩
  have HB6 := Lib.hid hwb
  have HF6 := Lib.hid (fr2 HF5.out hf (Nat.le_refl _))
  clear hwb hf HB5 HF5
  obtain ⟨X, hX⟩ : ∃ X, (([] ++ le 4 101010256 ++ List.replicate 4 0 ++ le 2 (n) ++ le 2 (n) ++ le 4 (d) ++ le 4 (start) ++ le 2 (c.length) : By)) = X := ⟨_, rfl⟩
  have hXl : X.length = 22 := by rw [← hX]; simp [le_length]
  have hXX : endB n (T.length - start) start c = X ++ c := by rw [← hX, endB, HTL.out, HD.out, show sigE = le 4 101010256 from by decide, show List.replicate 4 (0 : UInt8) = le 2 0 ++ le 2 0 from by decide]; simp [List.append_assoc]
  have HXX := Lib.hid hXX
  rw [hX] at HB6
  clear hX hXX
  have HXL := Lib.hid hXl
  obtain ⟨aa, kb, -, -, -, -⟩ := HB6.out
  have kr2 := rowZ_rd kb
  have HW := Lib.hid (fun (w' : World) (hf : Fr [] w6 w') => cwWrite w' base cw bw bf sb own T X w.heap.size 0 22 (some ⟨w.heap.size, 0, none⟩) (HC.out.nil (HF6.out.trans hf (by simp))) (by have := HTL.out; omega) (.inr ⟨rfl, kr2.fr hf kb.lt (by simp), Nat.lt_of_lt_of_le kb.lt hf.size, HC.out.fresh (Nat.le_refl _), by omega, by decide⟩))
  rw [hXl] at HW
  have z0 := (HZ.out.fr HF6.out (by simp)).at_ 0 (.pointer (some ⟨cw, 0, none⟩)) rfl
  clear kb hXl kr2 z5
  go_wp2_with fail
  go_region_held3 (fun w' => w'.cell? ⟨zw, 0, none⟩ = some (.pointer (some ⟨cw, 0, none⟩)))
    ((first | exact z0 | exact KS.out | assumption))
    ((first | (go_at_call 95; (with_reducible refine (HW.out _ ((Fr.refl [] w6).drew)).mono ?_); rintro e w16 ⟨own1, rfl, hc1, ho1, hf1⟩; have hn16 : Fr (cwS cw bw bf sb own) w w16 := fr0 HF6.out.drew hf1; have KS := Lib.hid ((HZ.out.fr hn16 HO3.out.not).at_ 0 (.pointer (some ⟨cw, 0, none⟩)) rfl))))
  have HF16 := Lib.hid hn16
  have HO16 := Lib.hid (show OwnN w own own1 from (show OwnN w own own from .inl rfl).trans ho1 (HF6.out.drew).size)
  have HC16 := Lib.hid hc1
  clear hc1 ho1 hf1 HB6 HF6 HW KS z0
  have hz4 := HZ.out.fr hn16 HO3.out.not
  have z0 := hz4.at_ 0 (.pointer (some ⟨cw, 0, none⟩)) rfl
  have z5 := hz4.at_ 5 (.string (bs c)) rfl
  have hkl := hz4.lt
  have KS := Lib.hid (fun (W : World) (hf : Fr [] w16 W) => And.intro ((hf.cell (p := ⟨zw, 0, none⟩) hkl (by simp)).trans z0) ((hf.cell (p := ⟨zw, 5, none⟩) hkl (by simp)).trans z5))
  have hcv : ∀ W : World, (convert 9 76 (.string (bs c))).run Tryz.prog W = .ok (.slice (some ⟨W.heap.size, 0, none⟩) (bs c).size (grownCap W (bs c).size 0 5)) (W.drew.alloc (.cells (bytesRow (bs c) (grownCap W (bs c).size 0 5)) 5 ((bytesRow (bs c) (grownCap W (bs c).size 0 5)).size, (bytesRow (bs c) (grownCap W (bs c).size 0 5)).size + 1))) := fun W => run_bytes_of_string W _ _ 5 (bs c) Tryz.underlying9 Tryz.underlying76 (by kernel_rfl)
  have hta : ∀ w, (Instr.typeAssert (.iface 127 (.pointer (some ⟨bw, 0, none⟩))) 101 127 false).run Tryz.prog w = .ok (.pointer (some ⟨bw, 0, none⟩)) w := fun w => by kernel_rfl
  clear hz4
  go_wp2_with fail
  go_region_law
    ((first | (go_simp; go_at_call 95; (with_reducible refine Calls.mono (cwStr w16 _ base cw bw bf sb own1 (T ++ X) c _ HC16.out (by first | exact ((Fr.refl [] w16).alloc _).drew.drew | exact ((Fr.refl [] w16).alloc _).drew) (by first | exact (rdStr w16 _ _ _ _ (by rw [← hcs]; exact grownCap_ge _ _ _ _)).drew.drew | exact (rdStr w16 _ _ _ _ (by rw [← hcs]; exact grownCap_ge _ _ _ _)).drew) (by simp) (by rw [List.length_append, HXL.out, HTL.out]; omega) (by rw [← hcs]; exact grownCap_ge _ _ _ _) (by exact grownCap_le_maxLen _ _ _ _ (by unfold maxLen; omega))) ?_); rintro e w17 ⟨own2, rfl, hc2, ho2, hf2⟩; have hn17 := wr_next HF16.out HO16.out (by first | exact ((Fr.refl [] w16).alloc _).drew.drew | exact ((Fr.refl [] w16).alloc _).drew) hf2 ho2; clear hf2 ho2 hcv KS)))
  all_goals (
    clear z0 z5
    have z0 := (HZ.out.fr hn17.1 HO3.out.not).at_ 0 (.pointer (some ⟨cw, 0, none⟩)) rfl
    have q0 := hc2.hc.at_ 0 (.iface 127 (.pointer (some ⟨bw, 0, none⟩))) rfl
    obtain ⟨nn, hbw⟩ := hc2.hb
    have HFL := Lib.hid (bwFlush w17 base bw bf sb own2 _ nn hbw (by rw [List.length_append, List.length_append, HXL.out, HTL.out]; omega))
    have HN17 := Lib.hid hn17
    have HC2 := Lib.hid hc2
    clear hbw hc2 hn17
    go_wp2_with fail
    refine HFL.out.mono ?_
    rintro e w18 ⟨own3, rfl, hb3, ho3, hf3⟩
    go_wp2_with fail
    refine HR.out _ _ ⟨rfl, rfl, own3, ?_, ?_⟩
    · have := hb3.done
      rw [HXX.out, ← List.append_assoc]
      exact this
    · refine (HN17.out.1.below (fun s hs => HC.out.ge s hs) hbs).trans (hf3.below (fun s hs => ?_) (Nat.le_trans hbs HN17.out.1.size))
      refine HC2.out.ge s ?_
      simp only [cwS, List.mem_cons] at hs ⊢
      rcases hs with h | h | h
      · exact .inr (.inl h)
      · exact .inr (.inr (.inr (.inl h)))
      · exact .inr (.inr (.inr (.inr h))))
end Go.Proofs.YtalgnjkdoaaacaaGreatDoor

/- fileWriter.close of a file that is not raw. -/
import Derived.Test.YtalgnjkdoaaacaaGreatDoorQem
import Derived.Deep.MidRow
import Derived.Test.YtalgnjkdoaaacaaGreatDoorQeh
import Derived.Test.YtalgnjkdoaaacaaGreatDoorQdu
set_option linter.unusedVariables false
set_option linter.unusedSimpArgs false
namespace Go.Proofs.YtalgnjkdoaaacaaGreatDoor
open Go Go.RowKit
open Zp
/-- A data descriptor of 16 bytes. -/
def ddB (v n m : Nat) : By := le 4 134695760 ++ le 4 v ++ le 4 n ++ le 4 m
set_option maxRecDepth 100000 in
set_option maxHeartbeats 4000000 in
theorem ddWrite (w : World) (base cw bw bf sb : Nat) (own : Option Nat) (T : By) (fw hh fh fl v n : Nat) (fc hc cf : Array Value)
    (hC : CW w base cw bw bf sb own T) (hT : T.length + 16 ≤ 4000000000)
    (hf : Blk w fw 163 fc) (f0 : fc[0]? = some (.pointer (some ⟨hh, 0, none⟩))) (f1 : fc[1]? = some (.iface 126 (.pointer (some ⟨cw, 0, none⟩))))
    (hx : Blk w hh 153 hc) (h0 : hc[0]? = some (.pointer (some ⟨fh, 0, none⟩)))
    (hfh : Blk w fh 78 cf) (h5 : cf[5]? = some (.int .u16 (fl : Int))) (b2 : fl ≤ 65535) (hfl : fl / 8 % 2 = 1)
    (h12 : cf[12]? = some (.int .u32 (v : Int))) (h13 : cf[13]? = some (.int .u32 (n : Int))) (h14 : cf[14]? = some (.int .u32 (n : Int))) (h15 : cf[15]? = some (.int .u64 (n : Int))) (h16 : cf[16]? = some (.int .u64 (n : Int)))
    (hv : v < 4294967296) (hn : n ≤ 4000000000) :
    Calls Tryz.prog 129 #[.pointer (some ⟨fw, 0, none⟩)] w fun e w' => e = .returned .nilIface ∧ ∃ own', CW w' base cw bw bf sb own' (T ++ ddB v n n) ∧ OwnN w own own' ∧ Fr (cwS cw bw bf sb own) w w' := by
  have g0 := hf.at_ 0 _ f0
  have g1 := hf.at_ 1 _ f1
  have c0 := hx.at_ 0 _ h0
  have HDD := Lib.hid (hasDD w fh fl b2 (hfh.at_ 5 _ h5))
  rw [show decide (fl / 8 % 2 = 1) = true from decide_eq_true hfl] at HDD
  have d15 := hfh.at_ 15 _ h15
  have d16 := hfh.at_ 16 _ h16
  have q1 : decide (4294967295 < (n : Int)) = false := decide_eq_false (by omega)
  have hmk : ∀ w, (Instr.makeSlice 76 (.int .i64 16) (.int .i64 16)).run Tryz.prog w = .ok (.slice (some ⟨w.heap.size, 0, none⟩) 16 16) (w.alloc (.cells (zeros 16) 5)) := fun w => run_makeBytes 16 16 (Nat.le_refl _) (by decide) w
  have HFW := Lib.hid hf
  have HX := Lib.hid hx
  have HFH := Lib.hid hfh
  have HC := Lib.hid hC
  clear hf hx hfh hC
  go_enter Tryz.func129, Tryz.ntmps129
  go_wp2_with fail
  refine HDD.out.mono ?_
  rintro e w1 ⟨rfl, hw⟩
  rw [hw]
  clear hw w1
  go_wp2_with fail
  have HF0 := Lib.hid (show Fr [] w ((w.alloc (.cells (zeros 16) 5)).alloc (.cells #[.slice (some ⟨w.heap.size, 0, none⟩) 16 16] 147)) from ((Fr.refl [] w).alloc _).alloc _)
  have hh0 : Blk ((w.alloc (.cells (zeros 16) 5)).alloc (.cells #[.slice (some ⟨w.heap.size, 0, none⟩) 16 16] 147)) (w.heap.size + 1) 147 #[.slice (some ⟨w.heap.size, 0, none⟩) 16 16] := by have := Blk.new (w.alloc (.cells (zeros 16) 5)) 147 #[.slice (some ⟨w.heap.size, 0, none⟩) 16 16]; rw [World.size_alloc] at this; exact this
  have HB0 := Lib.hid (show WZ ((w.alloc (.cells (zeros 16) 5)).alloc (.cells #[.slice (some ⟨w.heap.size, 0, none⟩) 16 16] 147)) w.heap.size (w.heap.size + 1) 5 16 [] from ⟨⟨w.heap.size, 0, none⟩, by rw [rowZ_nil]; exact (Blk.new w _ _).alloc _, by simp, hh0, fun _ => rfl, by omega⟩)
  clear hh0 g0 g1 c0 d15 d16
  refine (wz32 _ w.heap.size (w.heap.size + 1) 5 16 _ (134695760) HB0.out (by simp [le_length]) (by decide) (by decide)).mono ?_
  rintro e w1 ⟨rfl, hwb, hf, -⟩
  have HB1 := Lib.hid hwb
  have HF1 := Lib.hid (fr2 HF0.out hf (Nat.le_refl _))
  clear hwb hf HB0 HF0
  have hf_1 := HFW.out.fr HF1.out (by simp)
  have hx_1 := HX.out.fr HF1.out (by simp)
  have hfh_1 := HFH.out.fr HF1.out (by simp)
  have g0 := hf_1.at_ 0 _ f0
  have g1 := hf_1.at_ 1 _ f1
  have c0 := hx_1.at_ 0 _ h0
  have d12 := hfh_1.at_ 12 _ h12
  have d13 := hfh_1.at_ 13 _ h13
  have d14 := hfh_1.at_ 14 _ h14
  have d15 := hfh_1.at_ 15 _ h15
  have d16 := hfh_1.at_ 16 _ h16
  clear hf_1 hx_1 hfh_1
  go_wp2_with fail
  clear g0 g1 c0 d12 d13 d14 d15 d16
  refine (wz32 _ w.heap.size (w.heap.size + 1) 5 16 _ (v) HB1.out (by simp [le_length]) (hv) (by decide)).mono ?_
  rintro e w2 ⟨rfl, hwb, hf, -⟩
  have HB2 := Lib.hid hwb
  have HF2 := Lib.hid (fr2 HF1.out hf (Nat.le_refl _))
  clear hwb hf HB1 HF1
  have hf_2 := HFW.out.fr HF2.out (by simp)
  have hx_2 := HX.out.fr HF2.out (by simp)
  have hfh_2 := HFH.out.fr HF2.out (by simp)
  have g0 := hf_2.at_ 0 _ f0
  have g1 := hf_2.at_ 1 _ f1
  have c0 := hx_2.at_ 0 _ h0
  have d12 := hfh_2.at_ 12 _ h12
  have d13 := hfh_2.at_ 13 _ h13
  have d14 := hfh_2.at_ 14 _ h14
  have d15 := hfh_2.at_ 15 _ h15
  have d16 := hfh_2.at_ 16 _ h16
  clear hf_2 hx_2 hfh_2
  go_wp2_with fail
  clear g0 g1 c0 d12 d13 d14 d15 d16
  refine (wz32 _ w.heap.size (w.heap.size + 1) 5 16 _ (n) HB2.out (by simp [le_length]) (by omega) (by decide)).mono ?_
  rintro e w3 ⟨rfl, hwb, hf, -⟩
  have HB3 := Lib.hid hwb
  have HF3 := Lib.hid (fr2 HF2.out hf (Nat.le_refl _))
  clear hwb hf HB2 HF2
  have hf_3 := HFW.out.fr HF3.out (by simp)
  have hx_3 := HX.out.fr HF3.out (by simp)
  have hfh_3 := HFH.out.fr HF3.out (by simp)
  have g0 := hf_3.at_ 0 _ f0
  have g1 := hf_3.at_ 1 _ f1
  have c0 := hx_3.at_ 0 _ h0
  have d12 := hfh_3.at_ 12 _ h12
  have d13 := hfh_3.at_ 13 _ h13
  have d14 := hfh_3.at_ 14 _ h14
  have d15 := hfh_3.at_ 15 _ h15
  have d16 := hfh_3.at_ 16 _ h16
  clear hf_3 hx_3 hfh_3
  go_wp2_with fail
  clear g0 g1 c0 d12 d13 d14 d15 d16
  refine (wz32 _ w.heap.size (w.heap.size + 1) 5 16 _ (n) HB3.out (by simp [le_length]) (by omega) (by decide)).mono ?_
  rintro e w4 ⟨rfl, hwb, hf, -⟩
  have HB4 := Lib.hid hwb
  have HF4 := Lib.hid (fr2 HF3.out hf (Nat.le_refl _))
  clear hwb hf HB3 HF3
  have hf_4 := HFW.out.fr HF4.out (by simp)
  have hx_4 := HX.out.fr HF4.out (by simp)
  have hfh_4 := HFH.out.fr HF4.out (by simp)
  have g0 := hf_4.at_ 0 _ f0
  have g1 := hf_4.at_ 1 _ f1
  have c0 := hx_4.at_ 0 _ h0
  have d12 := hfh_4.at_ 12 _ h12
  have d13 := hfh_4.at_ 13 _ h13
  have d14 := hfh_4.at_ 14 _ h14
  have d15 := hfh_4.at_ 15 _ h15
  have d16 := hfh_4.at_ 16 _ h16
  clear hf_4 hx_4 hfh_4
  go_wp2_with fail
  have hC4 := HC.out.fr HF4.out (by simp) (by simp) (by simp) (by simp) (fun g hg => by simp)
  obtain ⟨a, hb, hP, hh, had, hgh⟩ := HB4.out
  have hl : (ddB v n n).length = 16 := by simp [ddB, le_length]
  have hr := rowZ_rd hb
  rw [List.nil_append] at hr
  have HW := Lib.hid (cwWrite w4 base cw bw bf sb own T (ddB v n n) w.heap.size 0 16 _ hC4 (by rw [hl]; exact hT) (.inr ⟨rfl, hr, hb.lt, HC.out.fresh (Nat.le_refl _), by omega, by decide⟩))
  rw [hl] at HW
  have HFX := Lib.hid HF4.out
  clear hC4 hb hP hh had hgh hl hr
  refine HW.out.mono ?_
  rintro e w5 ⟨own', rfl, hc5, ho5, hf5⟩
  have HC5 := Lib.hid hc5
  have HO5 := Lib.hid ho5
  have HF5 := Lib.hid hf5
  clear hc5 ho5 hf5
  go_wp2_with fail
  go_ret
  exact ⟨rfl, own', HC5.out, (show OwnN w own own from .inl rfl).trans HO5.out HFX.out.size, (HFX.out.mono (S' := cwS cw bw bf sb own) (by simp)).trans HF5.out (fun s hs => .inl hs)⟩
end Go.Proofs.YtalgnjkdoaaacaaGreatDoor

/- nopCloser.Close, through its pointer. -/
namespace Go.Proofs.YtalgnjkdoaaacaaGreatDoor
open Go Go.RowKit
open Zp
/-- The cells of a FileHeader, its numbers by themselves. -/
abbrev fhE (nm cm : List UInt8) (nu : Bool) (cr rd fl me ti da : Nat) (x12 x13 x14 x15 x16 : Int) (ext : Nat) : Array Value :=
  #[.string (bs nm), .string (bs cm), .bool nu, .int .u16 (cr : Int), .int .u16 (rd : Int), .int .u16 (fl : Int), .int .u16 (me : Int), .int .u64 0, .int .i64 0, .pointer none, .int .u16 (ti : Int), .int .u16 (da : Int), .int .u32 x12, .int .u32 x13, .int .u32 x14, .int .u64 x15, .int .u64 x16, .slice none 0 0, .int .u32 (ext : Int)]
theorem ncCloseI : (Tryz.prog.info? 271).bind (fun i => (i.methods.find? (·.name == "Close")).map (fun m => (m.path.toList, m.func))) = some ([], some (231, false)) := by kernel_rfl
theorem ncInfoSz : (Tryz.prog.info? 273).map (fun i => i.size) = some 1 := by kernel_rfl
theorem ncClose (k : Nat) (w : World) (nc : Nat) (v : Value) (h : w.cell? ⟨nc, 0, none⟩ = some v) (h1 : v.oneCell' = true) : (method (k + 1) 271 (.pointer (some ⟨nc, 0, none⟩)) "Close").run Tryz.prog w = .ok (231, .agg #[v]) w := by
  obtain ⟨i, hi, h1'⟩ := Option.bind_eq_some_iff.1 ncCloseI
  obtain ⟨m, hm, h2⟩ := Option.map_eq_some_iff.1 h1'
  simp only [Prod.mk.injEq] at h2
  obtain ⟨h3, h4⟩ := h2
  unfold method
  have hp : (program).run Tryz.prog w = .ok Tryz.prog w := rfl
  have hl : (loadVar 273 ⟨nc, 0, none⟩).run Tryz.prog w = .ok (.agg #[v]) w := run_loadVar_mid w nc 0 273 [v] _ (fun j u hj => by
    cases j with
    | zero => simp at hj; subst hj; exact h
    | succ j => simp at hj) Tryz.underlying273 rfl ncInfoSz
  have hpe : m.path.isEmpty = true := by
    have := congrArg List.length h3
    simpa using this
  have hnc : ∀ name : String, (Builtin.ssaWrapNilChk_ #[271] 271 #[.pointer (some ⟨nc, 0, none⟩), strVal "", strVal name]).run Tryz.prog w = .ok (.pointer (some ⟨nc, 0, none⟩)) w := fun _ => rfl
  have hg : (Place.get 271 (Place.val (Value.pointer (some ⟨nc, 0, none⟩)))).run Tryz.prog w = .ok (.pointer (some ⟨nc, 0, none⟩)) w := rfl
  have ha : (asAddr (Value.pointer (some ⟨nc, 0, none⟩))).run Tryz.prog w = .ok ⟨nc, 0, none⟩ w := rfl
  simp only [Sem.run_bind, typeInfo, hp, Result.andThen_ok, hi, Sem.run_pure, hm, h3, h4, follow, receiverAt, run_underlying Tryz.underlying271, hpe, hg, if_true]
  simp only [hnc, Result.andThen_ok, Sem.run_bind, ha, hl]
set_option maxRecDepth 100000 in
theorem ncCloseC (v : Value) (w : World) : Calls Tryz.prog 231 #[.agg #[v]] w fun e w' => e = .returned .nilIface ∧ Fr [] w w' := by
  go_enter Tryz.func231, Tryz.ntmps231
  go_wp2_with fail
  go_ret
  exact ⟨rfl, (Fr.refl _ _).alloc _⟩
end Go.Proofs.YtalgnjkdoaaacaaGreatDoor

/- fileWriter.close of a file that is not raw. -/
namespace Go.Proofs.YtalgnjkdoaaacaaGreatDoor
open Go Go.RowKit
open Zp
set_option maxRecDepth 100000 in
set_option maxHeartbeats 8000000 in
theorem fwCloseB (w : World) (base cw bw bf sb : Nat) (own : Option Nat) (T : By) (fw rc nc cc cr hh fh off n v : Nat) (nm cm : By) (nu : Bool) (crv rd fl me ti da ext : Nat)
    (hC : CW w base cw bw bf sb own T) (hT : T.length + 16 ≤ 4000000000) (hw : FwN w hh cw fw rc nc cc cr n v false) (hx : HN w hh fh off nm cm nu crv rd fl me ti da ext 0 0 none)
    (b2 : fl ≤ 65535) (hfl : fl / 8 % 2 = 1) (hv : v < 4294967296) (hn : n ≤ 4000000000) :
    Calls Tryz.prog 93 #[.pointer (some ⟨fw, 0, none⟩)] w fun e w' => e = .returned .nilIface ∧ ∃ own', CW w' base cw bw bf sb own' (T ++ ddB v n n) ∧ OwnN w own own' ∧ Blk w' fw 163 (fnC hh cw rc nc cc cr true) ∧ Blk w' fh 78 (fhC nm cm nu crv rd fl me ti da v n n ext (.slice none 0 0) 0 0 none) ∧ Fr (fw :: fh :: cwS cw bw bf sb own) w w' := by
  have n1 : hh ≠ fw := hx.h.ne_ hw.f (by decide)
  have n2 : fh ≠ fw := hx.f.ne_ hw.f (by decide)
  have n3 : nc ≠ fw := hw.k.ne_ hw.f (by decide)
  have n4 : rc ≠ fw := hw.r.ne_ hw.f (by decide)
  have n5 : cc ≠ fw := hw.c.ne_ hw.f (by decide)
  have n6 : cr ≠ fw := hw.s.ne_ hw.f (by decide)
  have g0 := hw.f.at_ 0 (.pointer (some ⟨hh, 0, none⟩)) rfl
  have g6 := hw.f.at_ 6 (.bool false) rfl
  have z6 := hw.f.frozen 6
  have e2 := hx.h.at_ 2 (.bool false) rfl
  have e0 := hx.h.at_ 0 (.pointer (some ⟨fh, 0, none⟩)) rfl
  have k0 := hw.k.at_ 0 (.iface 126 (.pointer (some ⟨cc, 0, none⟩))) rfl
  have g3 := hw.f.at_ 3 (.iface 271 (.pointer (some ⟨nc, 0, none⟩))) rfl
  have hF6 : Fr [fw] w (w.setCell ⟨fw, 6, none⟩ (.bool true)) := (Fr.refl _ _).setCell (.inl (by simp)) _
  have k0' : (w.setCell ⟨fw, 6, none⟩ (.bool true)).cell? ⟨nc, 0, none⟩ = some (.iface 126 (.pointer (some ⟨cc, 0, none⟩))) := (hw.k.fr hF6 (by simpa using n3)).at_ 0 _ rfl
  have hmt : (method 452 271 (.pointer (some ⟨nc, 0, none⟩)) "Close").run Tryz.prog (w.setCell ⟨fw, 6, none⟩ (.bool true)) = .ok (231, .agg #[.iface 126 (.pointer (some ⟨cc, 0, none⟩))]) (w.setCell ⟨fw, 6, none⟩ (.bool true)) := ncClose (450 + 1) _ nc _ k0' rfl
  have HW := Lib.hid hw
  have HX := Lib.hid hx
  have HC := Lib.hid hC
  have HF6 := Lib.hid hF6
  clear hw hx hC hF6 k0'
  go_enter Tryz.func93, Tryz.ntmps93
  go_wp2_with fail
  refine (ncCloseC _ _).mono ?_
  rintro e w1 ⟨rfl, hf1⟩
  have hF1 : Fr [fw] w w1 := (HF6.out).trans hf1 (by simp)
  have hfw1 : Blk w1 fw 163 (fnC hh cw rc nc cc cr true) := (HW.out.f.set_ 6 (.bool true)).fr hf1 (by simp)
  have hrc1 := HW.out.r.fr hF1 (by simpa using n4)
  have hcc1 := HW.out.c.fr hF1 (by simpa using n5)
  have hcr1 := HW.out.s.fr hF1 (by simpa using n6)
  have hhh1 := HX.out.h.fr hF1 (by simpa using n1)
  have hfh1 := HX.out.f.fr hF1 (by simpa using n2)
  have m1 : hh ≠ fh := hhh1.ne_ hfh1 (by decide)
  have m2 : rc ≠ fh := hrc1.ne_ hfh1 (by decide)
  have m3 : cc ≠ fh := hcc1.ne_ hfh1 (by decide)
  have m4 : cr ≠ fh := hcr1.ne_ hfh1 (by decide)
  have m5 : fw ≠ fh := hfw1.ne_ hfh1 (by decide)
  have hfh1 : Blk w1 fh 78 (fhE nm cm nu crv rd fl me ti da 0 0 0 0 0 ext) := hfh1
  have a0 := hfw1.at_ 0 (.pointer (some ⟨hh, 0, none⟩)) rfl
  have a2 := hfw1.at_ 2 (.pointer (some ⟨rc, 0, none⟩)) rfl
  have a4 := hfw1.at_ 4 (.pointer (some ⟨cc, 0, none⟩)) rfl
  have a5 := hfw1.at_ 5 (.pointer (some ⟨cr, 0, none⟩)) rfl
  have b0 := hhh1.at_ 0 (.pointer (some ⟨fh, 0, none⟩)) rfl
  have r1 := hrc1.at_ 1 (.int .i64 (n : Int)) rfl
  have s1 := hcc1.at_ 1 (.int .i64 (n : Int)) rfl
  have d12 := hfh1.at_ 12 (.int .u32 0) rfl
  have z12 := hfh1.frozen 12
  have d13 := hfh1.at_ 13 (.int .u32 0) rfl
  have z13 := hfh1.frozen 13
  have d14 := hfh1.at_ 14 (.int .u32 0) rfl
  have z14 := hfh1.frozen 14
  have d15 := hfh1.at_ 15 (.int .u64 0) rfl
  have z15 := hfh1.frozen 15
  have d16 := hfh1.at_ 16 (.int .u64 0) rfl
  have z16 := hfh1.frozen 16
  have hn4 : (n : Int) ≤ 4000000000 := by omega
  have hnl : decide (4294967295 < (n : Int)) = false := decide_eq_false (by omega)
  have HS := Lib.hid (hashSum cr v 159 w1 hcr1)
  have HF1 := Lib.hid hF1
  have HFW1 := Lib.hid hfw1
  have HRC1 := Lib.hid hrc1
  have HCC1 := Lib.hid hcc1
  have HHH1 := Lib.hid hhh1
  have HFH1 := Lib.hid hfh1
  clear hfw1 hrc1 hcc1 hhh1 hfh1
  clear hf1 hF1 hcr1 hmt g0 g6 z6 e2 e0 k0 g3
  go_wp2_with fail
  refine HS.out.mono ?_
  rintro e w2 ⟨rfl, hw2⟩
  rw [hw2]
  clear hw2 w2 HS
  go_upto_region 11 with fail
  clear a0 a2 a4 a5 b0 r1 s1 d12 z12 d13 z13 d14 z14 d15 z15 d16 z16
  obtain ⟨w2, hw2⟩ : ∃ w', w1.setCell ⟨fh, 12, none⟩ (.int .u32 (v : Int)) = w' := ⟨_, rfl⟩
  have hf2 : Fr [fh] w1 w2 := by rw [← hw2]; exact (Fr.refl [fh] w1).setCell (.inl (by simp)) _
  have hfh2 : Blk _ fh 78 (fhE nm cm nu crv rd fl me ti da (v : Int) 0 0 0 0 ext) := HFH1.out.set_ 12 (.int .u32 (v : Int))
  rw [hw2] at hfh2 ⊢
  clear hw2
  have hfw2 := HFW1.out.fr hf2 (by simpa using m5)
  have hrc2 := HRC1.out.fr hf2 (by simpa using m2)
  have hcc2 := HCC1.out.fr hf2 (by simpa using m3)
  have hhh2 := HHH1.out.fr hf2 (by simpa using m1)
  have a0 := hfw2.at_ 0 (.pointer (some ⟨hh, 0, none⟩)) rfl
  have a2 := hfw2.at_ 2 (.pointer (some ⟨rc, 0, none⟩)) rfl
  have a4 := hfw2.at_ 4 (.pointer (some ⟨cc, 0, none⟩)) rfl
  have a5 := hfw2.at_ 5 (.pointer (some ⟨cr, 0, none⟩)) rfl
  have b0 := hhh2.at_ 0 (.pointer (some ⟨fh, 0, none⟩)) rfl
  have r1 := hrc2.at_ 1 (.int .i64 (n : Int)) rfl
  have s1 := hcc2.at_ 1 (.int .i64 (n : Int)) rfl
  have d12 := hfh2.at_ 12 (.int .u32 (v : Int)) rfl
  have z12 := hfh2.frozen 12
  have d13 := hfh2.at_ 13 (.int .u32 0) rfl
  have z13 := hfh2.frozen 13
  have d14 := hfh2.at_ 14 (.int .u32 0) rfl
  have z14 := hfh2.frozen 14
  have d15 := hfh2.at_ 15 (.int .u64 0) rfl
  have z15 := hfh2.frozen 15
  have d16 := hfh2.at_ 16 (.int .u64 0) rfl
  have z16 := hfh2.frozen 16
  have HF2 := Lib.hid hf2
  clear hf2
  have HFW2 := Lib.hid hfw2
  have HRC2 := Lib.hid hrc2
  have HCC2 := Lib.hid hcc2
  have HHH2 := Lib.hid hhh2
  have HFH2 := Lib.hid hfh2
  clear hfw2 hrc2 hcc2 hhh2 hfh2
  go_upto_region 12 with fail
  clear a0 a2 a4 a5 b0 r1 s1 d12 z12 d13 z13 d14 z14 d15 z15 d16 z16
  obtain ⟨w3, hw3⟩ : ∃ w', w2.setCell ⟨fh, 15, none⟩ (.int .u64 (n : Int)) = w' := ⟨_, rfl⟩
  have hf3 : Fr [fh] w2 w3 := by rw [← hw3]; exact (Fr.refl [fh] w2).setCell (.inl (by simp)) _
  have hfh3 : Blk _ fh 78 (fhE nm cm nu crv rd fl me ti da (v : Int) 0 0 (n : Int) 0 ext) := HFH2.out.set_ 15 (.int .u64 (n : Int))
  rw [hw3] at hfh3 ⊢
  clear hw3
  have hfw3 := HFW2.out.fr hf3 (by simpa using m5)
  have hrc3 := HRC2.out.fr hf3 (by simpa using m2)
  have hcc3 := HCC2.out.fr hf3 (by simpa using m3)
  have hhh3 := HHH2.out.fr hf3 (by simpa using m1)
  have a0 := hfw3.at_ 0 (.pointer (some ⟨hh, 0, none⟩)) rfl
  have a2 := hfw3.at_ 2 (.pointer (some ⟨rc, 0, none⟩)) rfl
  have a4 := hfw3.at_ 4 (.pointer (some ⟨cc, 0, none⟩)) rfl
  have a5 := hfw3.at_ 5 (.pointer (some ⟨cr, 0, none⟩)) rfl
  have b0 := hhh3.at_ 0 (.pointer (some ⟨fh, 0, none⟩)) rfl
  have r1 := hrc3.at_ 1 (.int .i64 (n : Int)) rfl
  have s1 := hcc3.at_ 1 (.int .i64 (n : Int)) rfl
  have d12 := hfh3.at_ 12 (.int .u32 (v : Int)) rfl
  have z12 := hfh3.frozen 12
  have d13 := hfh3.at_ 13 (.int .u32 0) rfl
  have z13 := hfh3.frozen 13
  have d14 := hfh3.at_ 14 (.int .u32 0) rfl
  have z14 := hfh3.frozen 14
  have d15 := hfh3.at_ 15 (.int .u64 (n : Int)) rfl
  have z15 := hfh3.frozen 15
  have d16 := hfh3.at_ 16 (.int .u64 0) rfl
  have z16 := hfh3.frozen 16
  have HF3 := Lib.hid hf3
  clear hf3
  have HFW3 := Lib.hid hfw3
  have HRC3 := Lib.hid hrc3
  have HCC3 := Lib.hid hcc3
  have HHH3 := Lib.hid hhh3
  have HFH3 := Lib.hid hfh3
  clear hfw3 hrc3 hcc3 hhh3 hfh3
  go_upto_region 13 with fail
  clear a0 a2 a4 a5 b0 r1 s1 d12 z12 d13 z13 d14 z14 d15 z15 d16 z16
  obtain ⟨w4, hw4⟩ : ∃ w', w3.setCell ⟨fh, 16, none⟩ (.int .u64 (n : Int)) = w' := ⟨_, rfl⟩
  have hf4 : Fr [fh] w3 w4 := by rw [← hw4]; exact (Fr.refl [fh] w3).setCell (.inl (by simp)) _
  have hfh4 : Blk _ fh 78 (fhE nm cm nu crv rd fl me ti da (v : Int) 0 0 (n : Int) (n : Int) ext) := HFH3.out.set_ 16 (.int .u64 (n : Int))
  rw [hw4] at hfh4 ⊢
  clear hw4
  have hfw4 := HFW3.out.fr hf4 (by simpa using m5)
  have hrc4 := HRC3.out.fr hf4 (by simpa using m2)
  have hcc4 := HCC3.out.fr hf4 (by simpa using m3)
  have hhh4 := HHH3.out.fr hf4 (by simpa using m1)
  have a0 := hfw4.at_ 0 (.pointer (some ⟨hh, 0, none⟩)) rfl
  have a2 := hfw4.at_ 2 (.pointer (some ⟨rc, 0, none⟩)) rfl
  have a4 := hfw4.at_ 4 (.pointer (some ⟨cc, 0, none⟩)) rfl
  have a5 := hfw4.at_ 5 (.pointer (some ⟨cr, 0, none⟩)) rfl
  have b0 := hhh4.at_ 0 (.pointer (some ⟨fh, 0, none⟩)) rfl
  have r1 := hrc4.at_ 1 (.int .i64 (n : Int)) rfl
  have s1 := hcc4.at_ 1 (.int .i64 (n : Int)) rfl
  have d12 := hfh4.at_ 12 (.int .u32 (v : Int)) rfl
  have z12 := hfh4.frozen 12
  have d13 := hfh4.at_ 13 (.int .u32 0) rfl
  have z13 := hfh4.frozen 13
  have d14 := hfh4.at_ 14 (.int .u32 0) rfl
  have z14 := hfh4.frozen 14
  have d15 := hfh4.at_ 15 (.int .u64 (n : Int)) rfl
  have z15 := hfh4.frozen 15
  have d16 := hfh4.at_ 16 (.int .u64 (n : Int)) rfl
  have z16 := hfh4.frozen 16
  have HF4 := Lib.hid hf4
  clear hf4
  have HFW4 := Lib.hid hfw4
  have HRC4 := Lib.hid hrc4
  have HCC4 := Lib.hid hcc4
  have HHH4 := Lib.hid hhh4
  have HFH4 := Lib.hid hfh4
  clear hfw4 hrc4 hcc4 hhh4 hfh4
  go_upto_region 18 with fail
  clear a0 a2 a4 a5 b0 r1 s1 d12 z12 d13 z13 d14 z14 d15 z15 d16 z16
  obtain ⟨w5, hw5⟩ : ∃ w', w4.setCell ⟨fh, 13, none⟩ (.int .u32 (n : Int)) = w' := ⟨_, rfl⟩
  have hf5 : Fr [fh] w4 w5 := by rw [← hw5]; exact (Fr.refl [fh] w4).setCell (.inl (by simp)) _
  have hfh5 : Blk _ fh 78 (fhE nm cm nu crv rd fl me ti da (v : Int) (n : Int) 0 (n : Int) (n : Int) ext) := HFH4.out.set_ 13 (.int .u32 (n : Int))
  rw [hw5] at hfh5 ⊢
  clear hw5
  have hfw5 := HFW4.out.fr hf5 (by simpa using m5)
  have hrc5 := HRC4.out.fr hf5 (by simpa using m2)
  have hcc5 := HCC4.out.fr hf5 (by simpa using m3)
  have hhh5 := HHH4.out.fr hf5 (by simpa using m1)
  have a0 := hfw5.at_ 0 (.pointer (some ⟨hh, 0, none⟩)) rfl
  have a2 := hfw5.at_ 2 (.pointer (some ⟨rc, 0, none⟩)) rfl
  have a4 := hfw5.at_ 4 (.pointer (some ⟨cc, 0, none⟩)) rfl
  have a5 := hfw5.at_ 5 (.pointer (some ⟨cr, 0, none⟩)) rfl
  have b0 := hhh5.at_ 0 (.pointer (some ⟨fh, 0, none⟩)) rfl
  have r1 := hrc5.at_ 1 (.int .i64 (n : Int)) rfl
  have s1 := hcc5.at_ 1 (.int .i64 (n : Int)) rfl
  have d12 := hfh5.at_ 12 (.int .u32 (v : Int)) rfl
  have z12 := hfh5.frozen 12
  have d13 := hfh5.at_ 13 (.int .u32 (n : Int)) rfl
  have z13 := hfh5.frozen 13
  have d14 := hfh5.at_ 14 (.int .u32 0) rfl
  have z14 := hfh5.frozen 14
  have d15 := hfh5.at_ 15 (.int .u64 (n : Int)) rfl
  have z15 := hfh5.frozen 15
  have d16 := hfh5.at_ 16 (.int .u64 (n : Int)) rfl
  have z16 := hfh5.frozen 16
  have HF5 := Lib.hid hf5
  clear hf5
  have HFW5 := Lib.hid hfw5
  have HRC5 := Lib.hid hrc5
  have HCC5 := Lib.hid hcc5
  have HHH5 := Lib.hid hhh5
  have HFH5 := Lib.hid hfh5
  clear hfw5 hrc5 hcc5 hhh5 hfh5
  go_upto_region 19 with fail
  clear a0 a2 a4 a5 b0 r1 s1 d12 z12 d13 z13 d14 z14 d15 z15 d16 z16
  obtain ⟨w6, hw6⟩ : ∃ w', w5.setCell ⟨fh, 14, none⟩ (.int .u32 (n : Int)) = w' := ⟨_, rfl⟩
  have hf6 : Fr [fh] w5 w6 := by rw [← hw6]; exact (Fr.refl [fh] w5).setCell (.inl (by simp)) _
  have hfh6 : Blk _ fh 78 (fhE nm cm nu crv rd fl me ti da (v : Int) (n : Int) (n : Int) (n : Int) (n : Int) ext) := HFH5.out.set_ 14 (.int .u32 (n : Int))
  rw [hw6] at hfh6 ⊢
  clear hw6
  have hfw6 := HFW5.out.fr hf6 (by simpa using m5)
  have hrc6 := HRC5.out.fr hf6 (by simpa using m2)
  have hcc6 := HCC5.out.fr hf6 (by simpa using m3)
  have hhh6 := HHH5.out.fr hf6 (by simpa using m1)
  have a0 := hfw6.at_ 0 (.pointer (some ⟨hh, 0, none⟩)) rfl
  have a2 := hfw6.at_ 2 (.pointer (some ⟨rc, 0, none⟩)) rfl
  have a4 := hfw6.at_ 4 (.pointer (some ⟨cc, 0, none⟩)) rfl
  have a5 := hfw6.at_ 5 (.pointer (some ⟨cr, 0, none⟩)) rfl
  have b0 := hhh6.at_ 0 (.pointer (some ⟨fh, 0, none⟩)) rfl
  have r1 := hrc6.at_ 1 (.int .i64 (n : Int)) rfl
  have s1 := hcc6.at_ 1 (.int .i64 (n : Int)) rfl
  have d12 := hfh6.at_ 12 (.int .u32 (v : Int)) rfl
  have z12 := hfh6.frozen 12
  have d13 := hfh6.at_ 13 (.int .u32 (n : Int)) rfl
  have z13 := hfh6.frozen 13
  have d14 := hfh6.at_ 14 (.int .u32 (n : Int)) rfl
  have z14 := hfh6.frozen 14
  have d15 := hfh6.at_ 15 (.int .u64 (n : Int)) rfl
  have z15 := hfh6.frozen 15
  have d16 := hfh6.at_ 16 (.int .u64 (n : Int)) rfl
  have z16 := hfh6.frozen 16
  have HF6' := Lib.hid hf6
  clear hf6
  have HFW6 := Lib.hid hfw6
  have HRC6 := Lib.hid hrc6
  have HCC6 := Lib.hid hcc6
  have HHH6 := Lib.hid hhh6
  have HFH6 := Lib.hid hfh6
  clear hfw6 hrc6 hcc6 hhh6 hfh6
  clear a0 a2 a4 a5 b0 r1 s1 d12 z12 d13 z13 d14 z14 d15 z15 d16 z16
  have hFA : Fr [fw, fh] w w6 := ((((((HF1.out.mono (by simp)).trans HF2.out (by simp)).trans HF3.out (by simp)).trans HF4.out (by simp)).trans HF5.out (by simp)).trans HF6'.out (by simp))
  have hof := HC.out.offBlk HW.out.f (by decide) (by decide) (by decide) (by decide)
  have hoh := HC.out.offBlk HX.out.f (by decide) (by decide) (by decide) (by decide)
  have hC6 := HC.out.fr hFA (by simp; exact ⟨fun e => hof.1 e.symm, fun e => hoh.1 e.symm⟩) (by simp; exact ⟨fun e => hof.2.1 e.symm, fun e => hoh.2.1 e.symm⟩) (by simp; exact ⟨fun e => hof.2.2.1 e.symm, fun e => hoh.2.2.1 e.symm⟩) (by simp; exact ⟨fun e => hof.2.2.2.1 e.symm, fun e => hoh.2.2.2.1 e.symm⟩) (fun g hg => by simp; exact ⟨fun e => hof.2.2.2.2 (by rw [hg, e]), fun e => hoh.2.2.2.2 (by rw [hg, e])⟩)
  have HDW := Lib.hid (ddWrite w6 base cw bw bf sb own T fw hh fh fl v n _ _ _ hC6 hT HFW6.out rfl rfl HHH6.out rfl HFH6.out rfl b2 hfl rfl rfl rfl rfl rfl hv hn)
  have HFA := Lib.hid hFA
  clear hC6 hFA
  go_wp2_with fail
  refine HDW.out.mono ?_
  rintro e w7 ⟨rfl, own', hc7, ho7, hf7⟩
  have HC7 := Lib.hid hc7
  have HO7 := Lib.hid ho7
  have HF7 := Lib.hid hf7
  clear hc7 ho7 hf7
  go_wp2_with fail
  go_ret
  have hcf : fw ∉ cwS cw bw bf sb own := hof.not
  have hch : fh ∉ cwS cw bw bf sb own := hoh.not
  exact ⟨rfl, own', HC7.out, (show OwnN w own own from .inl rfl).trans HO7.out HFA.out.size, HFW6.out.fr HF7.out hcf, HFH6.out.fr HF7.out hch, (HFA.out.mono (S' := fw :: fh :: cwS cw bw bf sb own) (by simp)).trans HF7.out (fun s hs => .inl (by simp [hs]))⟩
end Go.Proofs.YtalgnjkdoaaacaaGreatDoor

/- The end of a file that is not raw: close, prepare; what Close asks. -/
namespace Go.Proofs.YtalgnjkdoaaacaaGreatDoor
open Go Go.RowKit
open Zp
/-- The record of a file whose content is whole. -/
def clW (x : WR) (v n : Nat) : WR := { x with cs := v, pk := n, sz := n }
theorem fwCloseN (w : World) (base cw bw bf sb : Nat) (own : Option Nat) (T : By) (dv : Value) (L : List WR) (x : WR) (nu : Bool) (fw rc nc cc cr n v : Nat) (h : PN w base cw bw bf sb own T dv L x nu fw rc nc cc cr n v)
    (hex : x.exb = []) (hok : (clW x v n).Ok) (hfl : x.fl / 8 % 2 = 1) (hT : T.length + 16 ≤ 4000000000) (hv : v < 4294967296) (hn : n ≤ 4000000000) :
    Calls Tryz.prog 93 #[.pointer (some ⟨fw, 0, none⟩)] w fun e w' => e = .returned .nilIface ∧ ∃ own', WS w' base cw bw bf sb own' (T ++ ddB v n n) dv (L ++ [clW x v n]) ∧ OwnN w own own' ∧ Fr (fw :: x.fh :: cwS cw bw bf sb own) w w' := by
  refine (fwCloseB w base cw bw bf sb own T fw rc nc cc cr x.hh x.fh x.off n v x.nm x.cm nu x.cr x.rd x.fl x.me x.ti x.da x.ext h.hC hT h.hw h.hx hok.a3 hfl hv hn).mono ?_
  rintro e w' ⟨rfl, own', hC', hO, hF', hX', hf⟩
  have hk : ∀ s ∈ fw :: x.fh :: cwS cw bw bf sb own, ∃ t cs, Blk w s t cs ∧ t ≠ 151 ∧ t ≠ 153 := fun s hs => by
    rcases List.mem_cons.1 hs with hs | hs
    · subst hs; exact ⟨_, _, h.hw.f, by decide, by decide⟩
    · rcases List.mem_cons.1 hs with hs | hs
      · subst hs; exact ⟨_, _, h.hx.f, by decide, by decide⟩
      · obtain ⟨t, cs, hb, hk⟩ := h.hC.typ hs
        exact ⟨t, cs, hb, by rcases hk with ⟨k, -⟩ | ⟨k, -⟩ | ⟨k, -⟩ | ⟨k, -⟩ <;> (rw [k]; decide), by rcases hk with ⟨k, -⟩ | ⟨k, -⟩ | ⟨k, -⟩ | ⟨k, -⟩ <;> (rw [k]; decide)⟩
  have hfar : ∀ y ∈ L, FarX w cw bw bf sb own y.fh (fw :: x.fh :: cwS cw bw bf sb own) := fun y hy s hs => by
    rcases List.mem_cons.1 hs with hs | hs
    · subst hs; exact .inr (.inr ⟨_, _, h.hw.f, by decide, .inl (by decide), by decide⟩)
    · rcases List.mem_cons.1 hs with hs | hs
      · subst hs; exact .inr (.inr ⟨_, _, h.hx.f, by decide, .inr (fun e => h.hnf y hy e.symm), by decide⟩)
      · exact .inr (.inl hs)
  have hhh : x.hh ∉ fw :: x.fh :: cwS cw bw bf sb own := fun hm => by
    obtain ⟨t, cs, hb, -, h2⟩ := hk _ hm
    exact h.hx.h.ne_ hb (fun e => h2 e.symm) rfl
  refine ⟨rfl, own', ⟨hC', ?_, fun y hy => ?_⟩, hO, hf⟩
  · have := rowB_fr h.hd hf (fun s hs => by
      obtain ⟨t, cs, hb, h1, -⟩ := hk s hs
      exact rowB_ty h.hd hb h1)
    simpa [clW] using this
  · rcases List.mem_append.1 hy with hy | hy
    · exact ⟨(h.hL y hy).1.frX h.hC hf hO (hfar y hy), (h.hL y hy).2⟩
    · have : y = clW x v n := by simpa using hy
      subst this
      refine ⟨⟨false, nu, 0, 0, none, none, 0, h.hx.h.fr hf hhh, ?_, .inl hex⟩, hok⟩
      have hl : (clW x v n).exb.length = 0 := by show x.exb.length = 0; rw [hex]; rfl
      rw [hl]
      exact hX'
set_option maxRecDepth 100000 in
set_option maxHeartbeats 4000000 in
/-- prepare, of a writer whose last file is open. -/
theorem prepCl (w : World) (zw cw n cd fh fw : Nat) (pd : Option Addr) (c : List UInt8) (Q : World → Prop) (hz : w.cell? ⟨zw, 2, none⟩ = some (.pointer (some ⟨fw, 0, none⟩))) (hg6 : w.cell? ⟨fw, 6, none⟩ = some (.bool false)) (hn : 0 < n)
    (hcl : Calls Tryz.prog 93 #[.pointer (some ⟨fw, 0, none⟩)] w fun e w' => e = .returned .nilIface ∧ Q w')
    (hQ : ∀ w', Q w' → Blk w' zw 136 (zwC cw (.slice pd n cd) (.pointer (some ⟨fw, 0, none⟩)) false c) ∧ DirLast w' pd n cd fh ∧ ∃ cf, Blk w' fh 78 cf) :
    Calls Tryz.prog 69 #[.pointer (some ⟨zw, 0, none⟩), .pointer (some ⟨fh, 0, none⟩)] w fun e w' => e = .returned .nilIface ∧ ∃ w1 m, Q w1 ∧ w' = w1.drewN m := by
  have HCL := Lib.hid hcl
  have HQ := Lib.hid hQ
  obtain ⟨j, hj, hjs⟩ := Option.map_eq_some_iff.1 infoFH
  have d0 : decide ((0 : Int) < (n : Int)) = true := decide_eq_true (by omega)
  have d1 : (0 : Int) < (n : Int) := by omega
  have d2 : decide (0 < n) = true := decide_eq_true hn
  clear hcl hQ
  go_enter Tryz.func69, Tryz.ntmps69
  go_wp2_with fail
  refine HCL.out.mono ?_
  rintro e w1 ⟨rfl, hq⟩
  obtain ⟨hz1, hd, cf, hfh⟩ := HQ.out w1 hq
  have HQ1 := Lib.hid hq
  rcases hd with rfl | ⟨g, hl, fl', rfl, h0, h1, h2, h3, h4, h5, cs', h6⟩
  · omega
  have h9 : n ≤ 9223372036854775807 := by unfold maxLen at h2; omega
  have e1 : IntKind.i64.wrap ((n : Int) - 1) = ((n - 1 : Nat) : Int) := by rw [IntWalk.i64_in _ (by unfold maxLen at h2; omega)]; omega
  have e2 : (n : Int) - 1 = ((n - 1 : Nat) : Int) := by omega
  have i1 : ((n - 1 : Nat) : Int) < (n : Int) := by omega
  have i0 : (0 : Int) ≤ ((n - 1 : Nat) : Int) := by omega
  obtain ⟨m, hm⟩ : ∃ m, n - 1 = m := ⟨_, rfl⟩
  rw [hm] at h3 e1 e2 i1 i0
  have k1 := hz1.at_ 1 (.slice (some ⟨g, 0, none⟩) n cd) rfl
  have hpe : ∀ k, (binOp .eql 69 (.pointer (some ⟨fl', 0, none⟩)) (.pointer (some ⟨fh, 0, none⟩))).run Tryz.prog (w1.drewN k) = .ok (.bool false) (w1.drewN k) := fun k => run_eql_ptr_other (w1.drewN k) Tryz.underlying69 hj (by rw [hjs]; decide) (by intro e; injection e with e1; exact h5 e1) (h6.drewN k) (hfh.drewN k)
  clear hm hq hz1 hfh h5 h6 hj hjs hz hg6
  go_wp2_with fail
  go_quiet (fail)
  go_wp2_with fail
  go_ret
  exact ⟨rfl, w1, _, HQ1.out, rfl⟩
/-- The last file's writer: none, or one of a file that is not raw; the text with what closing it adds. -/
def LastN (w : World) (base cw bw bf sb : Nat) (own : Option Nat) (T : By) (dv last : Value) (L : List WR) : Prop :=
  (last = .pointer none ∧ WS w base cw bw bf sb own T dv L) ∨
  ∃ T0 L0 x nu fw rc nc cc cr n v, last = .pointer (some ⟨fw, 0, none⟩) ∧ T = T0 ++ ddB v n n ∧ L = L0 ++ [clW x v n] ∧ PN w base cw bw bf sb own T0 dv L0 x nu fw rc nc cc cr n v ∧ x.exb = [] ∧ (clW x v n).Ok ∧ x.fl / 8 % 2 = 1 ∧ v < 4294967296 ∧ n ≤ 4000000000
/-- The blocks that closing the last file turns. -/
theorem PN.kinds {w : World} {base cw bw bf sb : Nat} {own : Option Nat} {T : By} {dv : Value} {L : List WR} {x : WR} {nu : Bool} {fw rc nc cc cr n v : Nat} (h : PN w base cw bw bf sb own T dv L x nu fw rc nc cc cr n v) : ∀ s ∈ fw :: x.fh :: cwS cw bw bf sb own, base ≤ s ∧ ∃ t cs, Blk w s t cs ∧ t ≠ 136 ∧ t ≠ 38 ∧ (t ≠ 78 ∨ s = x.fh) := fun s hs => by
  rcases List.mem_cons.1 hs with hs | hs
  · subst hs; exact ⟨h.lo.1, _, _, h.hw.f, by decide, by decide, .inl (by decide)⟩
  · rcases List.mem_cons.1 hs with hs | hs
    · subst hs; exact ⟨h.lo.2.2.2.2.2.1, _, _, h.hx.f, by decide, by decide, .inr rfl⟩
    · refine ⟨h.hC.ge s hs, ?_⟩
      obtain ⟨t, cs, hb, hk⟩ := h.hC.typ hs
      exact ⟨t, cs, hb, by rcases hk with ⟨k, -⟩ | ⟨k, -⟩ | ⟨k, -⟩ | ⟨k, -⟩ <;> (rw [k]; decide), by rcases hk with ⟨k, -⟩ | ⟨k, -⟩ | ⟨k, -⟩ | ⟨k, -⟩ <;> (rw [k]; decide), .inl (by rcases hk with ⟨k, -⟩ | ⟨k, -⟩ | ⟨k, -⟩ | ⟨k, -⟩ <;> (rw [k]; decide))⟩
theorem WS.dirLast {w : World} {base cw bw bf sb : Nat} {own : Option Nat} {T : By} {dv : Value} {L : List WR} {fh : Nat} {pd : Option Addr} {n cd : Nat} (h : WS w base cw bw bf sb own T dv L) (hdv : dv = .slice pd n cd) (hn : n = L.length) (hne : ∀ y ∈ L, y.fh ≠ fh) : DirLast w pd n cd fh := by
  subst hdv
  rcases List.eq_nil_or_concat L with rfl | ⟨L0, x, rfl⟩
  · exact .inl (by simpa using hn)
  · rw [List.concat_eq_append] at *
    obtain ⟨g, cap, hv, hg, hcell, hnc, hcm⟩ := own_cell h.hd (k := L0.length) (u := .pointer (some ⟨x.hh, 0, none⟩)) (by simp)
    obtain ⟨⟨rw_, nu, m0, m1, mp, a, cx, x1, x2, x3⟩, xok⟩ := h.hL x (by simp)
    injection hv with q1 q2 q3
    subst q1; subst q3
    have hn' : n = L0.length + 1 := by rw [hn]; simp
    exact .inr ⟨g, x.hh, x.fh, rfl, by omega, by rw [hn]; exact hnc, hcm, by rw [hn', Nat.add_sub_cancel]; exact hcell, x1.at_ 0 _ rfl, hne x (by simp), _, x2⟩
theorem WS.drewN {w : World} {base cw bw bf sb : Nat} {own : Option Nat} {T : By} {dv : Value} {L : List WR} (h : WS w base cw bw bf sb own T dv L) (m : Nat) : WS (w.drewN m) base cw bw bf sb own T dv L :=
  h.fr (h.hC.nil ((Fr.refl [] w).drewN m)) ((Fr.refl [] w).drewN m) (.inl rfl) (FarR.nil _ _ _ _ _ _) (by simp)
/-- prepare, ahead of a file that is not raw. -/
theorem prepN (w : World) (zw base cw bw bf sb fh : Nat) (own : Option Nat) (T c : By) (dv last : Value) (L : List WR) (cf : Array Value)
    (hz : Blk w zw 136 (zwC cw dv last false c)) (hl : LastN w base cw bw bf sb own T dv last L) (hfh : Blk w fh 78 cf) (hnf : ∀ y ∈ L, y.fh ≠ fh) (hU : UT w) (h18 : 14 ≤ base) (hbs : base ≤ w.heap.size) (hT : T.length ≤ 4000000000) :
    Calls Tryz.prog 69 #[.pointer (some ⟨zw, 0, none⟩), .pointer (some ⟨fh, 0, none⟩)] w (PrepN w zw base cw bw bf sb fh T c dv last L cf) := by
  rcases hl with ⟨rfl, hW⟩ | ⟨T0, L0, x, nu, fw, rc, nc, cc, cr, n, v, rfl, rfl, rfl, hP, hex, hok, hfl, hv, hn⟩
  · refine (prepR w zw base cw bw bf sb fh own T c dv (.pointer none) L cf hz hW (.inl rfl) hfh hnf).mono ?_
    rintro e w' ⟨rfl, hf⟩
    have hf' : Fr [] w w' := hf
    exact ⟨rfl, own, hW.fr (hW.hC.nil hf') hf' (.inl rfl) (FarR.nil _ _ _ _ _ _) (by simp), hz.fr hf' (by simp), hfh.fr hf' (by simp), hU.fr hf' (by simp) (Nat.le_trans h18 hbs), KE.of_fr hf' (by simp), hf'.below (by simp) hbs, hf'.size⟩
  · have hdd : (ddB v n n).length = 16 := by simp [ddB, le_length]
    rw [List.length_append, hdd] at hT
    have hkd := hP.kinds
    have hxf : x.fh ≠ fh := hnf (clW x v n) (by simp)
    have hzn : zw ∉ fw :: x.fh :: cwS cw bw bf sb own := fun hm => by
      obtain ⟨-, t, cs, hb, h1, -⟩ := hkd _ hm
      exact hz.ne_ hb (fun e => h1 e.symm) rfl
    have hfn : fh ∉ fw :: x.fh :: cwS cw bw bf sb own := fun hm => by
      obtain ⟨-, t, cs, hb, -, -, h3⟩ := hkd _ hm
      rcases h3 with h3 | h3
      · exact hfh.ne_ hb (fun e => h3 e.symm) rfl
      · exact hxf h3.symm
    obtain ⟨pd, cd, hdv⟩ := rowB_slice hP.hd
    subst hdv
    refine (prepCl w zw cw (L0.length + 1) cd fh fw pd c (fun w' => ∃ own', WS w' base cw bw bf sb own' (T0 ++ ddB v n n) (.slice pd (L0.length + 1) cd) (L0 ++ [clW x v n]) ∧ Fr (fw :: x.fh :: cwS cw bw bf sb own) w w') (hz.at_ 2 _ rfl) (hP.hw.f.at_ 6 _ rfl) (by omega)
      ((fwCloseN w base cw bw bf sb own T0 _ L0 x nu fw rc nc cc cr n v hP hex hok hfl hT hv hn).mono (fun e w' h => ⟨h.1, h.2.choose, h.2.choose_spec.1, h.2.choose_spec.2.2⟩)) ?_).mono ?_
    · rintro w' ⟨own', hW, hf⟩
      exact ⟨hz.fr hf hzn, hW.dirLast rfl (by simp) hnf, cf, hfh.fr hf hfn⟩
    · rintro e w' ⟨rfl, w1, m, ⟨own', hW, hf⟩, rfl⟩
      have hf' : Fr (fw :: x.fh :: cwS cw bw bf sb own) w (w1.drewN m) := hf.drewN m
      exact ⟨rfl, own', hW.drewN m, hz.fr hf' hzn, hfh.fr hf' hfn, hU.fr hf' (fun s hs => Nat.le_trans h18 (hkd s hs).1) (Nat.le_trans h18 hbs), KE.of_fr hf' (fun s hs => by
        obtain ⟨-, t, cs, hb, -, h2, -⟩ := hkd s hs
        exact .inr ⟨t, cs, hb, h2⟩), hf'.below (fun s hs => (hkd s hs).1) hbs, hf'.size⟩
/-- What Close asks of the last file's writer. -/
theorem LastN.c {w : World} {zw base cw bw bf sb : Nat} {own : Option Nat} {T : By} {dv last : Value} {c : By} {L : List WR} (h : LastN w base cw bw bf sb own T dv last L) (hz : Blk w zw 136 (zwC cw dv last false c)) (hbs : base ≤ w.heap.size) (hT : T.length ≤ 4000000000) : LastC w zw base cw bw bf sb own T dv last c L := by
  rcases h with ⟨rfl, hW⟩ | ⟨T0, L0, x, nu, fw, rc, nc, cc, cr, n, v, rfl, rfl, rfl, hP, hex, hok, hfl, hv, hn⟩
  · exact .inl ⟨rfl, hW⟩
  · have hdd : (ddB v n n).length = 16 := by simp [ddB, le_length]
    rw [List.length_append, hdd] at hT
    have hkd := hP.kinds
    refine .inr ⟨fw, rfl, hP.hw.f.at_ 6 _ rfl, (fwCloseN w base cw bw bf sb own T0 dv L0 x nu fw rc nc cc cr n v hP hex hok hfl hT hv hn).mono ?_⟩
    rintro e w' ⟨rfl, own', hW, -, hf⟩
    refine ⟨rfl, own', hW, hz.fr hf (fun hm => ?_), hf.below (fun s hs => (hkd s hs).1) hbs⟩
    obtain ⟨-, t, cs, hb, h1, -⟩ := hkd _ hm
    exact hz.ne_ hb (fun e => h1 e.symm) rfl
end Go.Proofs.YtalgnjkdoaaacaaGreatDoor

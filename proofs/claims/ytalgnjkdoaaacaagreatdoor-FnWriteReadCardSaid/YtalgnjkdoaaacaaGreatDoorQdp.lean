/- io.Copy out of an io.SectionReader. -/
import Derived.Test.YtalgnjkdoaaacaaGreatDoorQdj
import Derived.Test.YtalgnjkdoaaacaaGreatDoorQyr
import Derived.Test.YtalgnjkdoaaacaaGreatDoorQqa
import Derived.Deep.MidRow
set_option linter.unusedVariables false
set_option linter.unusedSimpArgs false
namespace Go.Proofs.YtalgnjkdoaaacaaGreatDoor
open Go Go.RowKit
open Zp
theorem CW.ge {w : World} {base cw bw bf sb : Nat} {own : Option Nat} {T : By} (h : CW w base cw bw bf sb own T) : ∀ s ∈ cwS cw bw bf sb own, base ≤ s := by
  obtain ⟨n, hb⟩ := h.hb
  intro s hs
  simp only [cwS, List.mem_cons, Option.mem_toList] at hs
  rcases hs with rfl | rfl | rfl | rfl | hs
  · exact h.lc
  · exact hb.lo.1
  · exact hb.lo.2.1
  · exact hb.lo.2.2.1
  · exact (hb.ne.2.2.2.2.2.2 s hs).1
/-- The loop's state: j bytes are copied. -/
structure CS (w1 : World) (base cw bw bf sb : Nat) (own : Option Nat) (T : By) (b r g q pk : Nat) (D : By) (j : Nat) (w : World) : Prop where
  b_ : Blk w b 198 #[strRd r, .int .i64 (q : Int), .int .i64 ((q + j : Nat) : Int), .int .i64 ((q + pk : Nat) : Int), .int .i64 (pk : Int)]
  bg : ∃ cur, Blk w g 5 cur ∧ cur.size = 32768
  wr : ∃ own', CW w base cw bw bf sb own' (T ++ D.take j) ∧ OwnN w1 own own'
  fr : Fr (b :: g :: cwS cw bw bf sb own) w1 w
/-- What a copy leaves. -/
def CpP (w : World) (base cw bw bf sb : Nat) (own : Option Nat) (b : Nat) (T : By) (e : Ending) (w' : World) : Prop :=
  ∃ own' n, e = .returned (.tuple #[.int .i64 n, .nilIface]) ∧ CW w' base cw bw bf sb own' T ∧ OwnN w own own' ∧ Fr (b :: cwS cw bw bf sb own) w w'
/-- How many bytes a section reader has read. -/
def secOff (w : World) (b q : Nat) : Nat := match w.cell? ⟨b, 2, none⟩ with
  | some (.int _ n) => n.toNat - q
  | _ => 0
theorem secOff_eq {w : World} {b q j : Nat} {v0 v1 v3 v4 : Value} (h : Blk w b 198 #[v0, v1, .int .i64 ((q + j : Nat) : Int), v3, v4]) : secOff w b q = j := by
  unfold secOff
  rw [h.at_ 2 _ rfl]
  show ((q + j : Nat) : Int).toNat - q = j
  omega
set_option maxRecDepth 100000 in
set_option maxHeartbeats 8000000 in
theorem cpFile (E : Errs) (B0 : Nat) (w : World) (b r q pk : Nat) (s : ByteArray) (base cw bw bf sb fw hh : Nat) (own : Option Nat) (T : By) (hE : Env E w) (hEB : EB E B0 w) (hB : B0 ≤ b) (hB2 : B0 ≤ base) (hb : Blk w b 198 #[strRd r, .int .i64 (q : Int), .int .i64 (q : Int), .int .i64 ((q + pk : Nat) : Int), .int .i64 (pk : Int)]) (hr : StrR w r s)
    (hne : b ≠ r) (hs : s.size ≤ 4000000000) (hq : q + pk ≤ s.size) (D : By) (hD : (s.data.toList.drop q).take pk = D)
    (hC : CW w base cw bw bf sb own T) (hT : T.length + pk ≤ 4000000000) (hf : Blk w fw 163 (fwC hh cw false)) (fhp off : Value) (hh2 : Blk w hh 153 #[fhp, off, .bool true]) :
    Calls Tryz.prog 92 #[.iface 132 (.pointer (some ⟨fw, 0, none⟩)), secV b, .slice none 0 0] w (CpP w base cw bw bf sb own b (T ++ D)) := by
  have hmk : ∀ w, (Instr.makeSlice 76 (.int .i64 32768) (.int .i64 32768)).run Tryz.prog w = .ok (.slice (some ⟨w.heap.size, 0, none⟩) 32768 32768) (w.alloc (.cells (zeros 32768) 5)) := fun w => run_makeBytes 32768 32768 (Nat.le_refl _) (by decide) w
  have hta1 : ∀ w, (Instr.typeAssert (secV b) 89 242 true).run Tryz.prog w = .ok (.tuple #[.nilIface, .bool false]) w := fun w => run_typeAssert_lacksB Tryz.underlying242 (by kernel_rfl) (by kernel_rfl) _ _ _
  have hta2 : ∀ w, (Instr.typeAssert (.iface 132 (.pointer (some ⟨fw, 0, none⟩))) 101 246 true).run Tryz.prog w = .ok (.tuple #[.nilIface, .bool false]) w := fun w => run_typeAssert_lacksB Tryz.underlying246 (by kernel_rfl) (by kernel_rfl) _ _ _
  have hta3 : ∀ w, (Instr.typeAssert (secV b) 89 249 true).run Tryz.prog w = .ok (.tuple #[.pointer none, .bool false]) w := fun w => by kernel_rfl
  have hel : ∀ w, (binOp .eql 76 (.slice none 0 0) (.slice none 0 0)).run Tryz.prog w = .ok (.bool true) w := fun w => run_eql_nil_slice w 76 5 none 0 0 0 0 Tryz.underlying76
  have hmt : ∀ W : World, (method 452 132 (.pointer (some ⟨fw, 0, none⟩)) "Write").run Tryz.prog W = .ok (203, .pointer (some ⟨fw, 0, none⟩)) W := fun W => by kernel_rfl
  have hna : ∀ W, (nilAhead 452 132 (.pointer (some ⟨fw, 0, none⟩)) "Write").run Tryz.prog W = .ok (some false) W := fun W => by kernel_rfl
  have hbt := hb
  have hoff := hC.offBlk hb (by decide) (by decide) (by decide) (by decide)
  have hoff2 := hC.offBlk hf (by decide) (by decide) (by decide) (by decide)
  have hoff3 := hC.offBlk hh2 (by decide) (by decide) (by decide) (by decide)
  have hn1 : fw ≠ b := hf.ne_ hb (by decide)
  have hn2 : hh ≠ b := hh2.ne_ hb (by decide)
  have hDl : D.length = pk := by rw [← hD, List.length_take, List.length_drop, ← Lib.size_eq]; omega
  have hA : CS (w.alloc (.cells (zeros 32768) 5)) base cw bw bf sb own T b r w.heap.size q pk D 0 (w.alloc (.cells (zeros 32768) 5)) :=
    ⟨hb.alloc _, ⟨_, Blk.new w _ _, zeros_size _⟩, ⟨own, by rw [List.take_zero, List.append_nil]; exact hC.nil ((Fr.refl [] w).alloc _), .inl rfl⟩, Fr.refl _ _⟩
  have hEr : ∀ w' S, Fr S w w' → (∀ s ∈ S, B0 ≤ s ∨ w.heap.size ≤ s) → Env E w' := fun w' S h1 h2 => hE.fr h1 (fun s hs => by have := h2 s hs; have := hEB.b18; have := hEB.le; omega) (Nat.le_trans hEB.b18 hEB.le)
  have HER := Lib.hid hEr
  clear hEr
  have hfr1 : Fr [] w (w.alloc (.cells (zeros 32768) 5)) := (Fr.refl [] w).alloc _
  have HA := Lib.hid hA
  have HE := Lib.hid hE
  have HEB := Lib.hid hEB
  have HSR := Lib.hid (Blk.fr hr hfr1 (by simp))
  have HFW := Lib.hid (hf.fr hfr1 (by simp))
  have HHH := Lib.hid (hh2.fr hfr1 (by simp))
  have HC := Lib.hid hC
  have HFR1 := Lib.hid hfr1
  have lr := Blk.lt hr
  have lf := hf.lt
  have lh := hh2.lt
  have hoffr := hC.offBlk (show Blk w r 122 _ from hr) (by decide) (by decide) (by decide) (by decide)
  have h18 : 14 ≤ w.heap.size := Nat.le_trans hEB.b18 hEB.le
  have hb18 := hEB.b18
  have hge := hC.ge
  have hgl : w.heap.size < (w.alloc (.cells (zeros 32768) 5)).heap.size := by simp
  have hbl := hb.lt
  have HSZ := Lib.hid (World.size_alloc w (.cells (zeros 32768) 5))
  clear hA hE hEB hr hf hh2 hC hb hbt hfr1
  go_enter Tryz.func92, Tryz.ntmps92
  go_wp2_with fail
  obtain ⟨w1, hw1⟩ : ∃ w1, w.alloc (.cells (zeros 32768) 5) = w1 := ⟨_, rfl⟩
  rw [hw1] at HA HSR HFW HHH HFR1 hgl HSZ ⊢
  clear hw1 hmk
  go_loopw [6, 7] (fun v6 v7 wr => ∃ j : Nat, j ≤ pk ∧ (∃ n, v6 = .int .i64 n) ∧ v7 = .nilIface ∧ CS w1 base cw bw bf sb own T b r w.heap.size q pk D j wr) (fun _ _ wr => pk - (secOff wr b q))
  case atStart => exact ⟨0, by omega, ⟨_, rfl⟩, rfl, HA.out⟩
  case round =>
    obtain ⟨j, hj, ⟨n6, rfl⟩, rfl, hal⟩ := hrel
    obtain ⟨hck, ⟨cur, hbg, hcs⟩, ⟨own1, hc1, ho1⟩, hfr⟩ := hal
    have hgo : Off w.heap.size cw bw bf sb own := HC.out.fresh (Nat.le_refl _)
    have hs1 : w.heap.size ≤ w1.heap.size := by omega
    have hg1 := hgo.next hgl ho1
    have hb1 := hoff.next (Nat.lt_of_lt_of_le hbl hs1) ho1
    have hSf : ∀ z, z < w.heap.size → Off z cw bw bf sb own → z ≠ b → z ∉ b :: w.heap.size :: cwS cw bw bf sb own := fun z hl hz hzb hm => by
      rcases List.mem_cons.1 hm with h | hm
      · exact hzb h
      · rcases List.mem_cons.1 hm with h | hm
        · omega
        · exact hz.not hm
    have hrr : StrR wr r s := Blk.fr HSR.out hfr (hSf r lr hoffr (fun e => hne e.symm))
    have hfw := HFW.out.fr hfr (hSf fw lf hoff2 hn1)
    have hhh := HHH.out.fr hfr (hSf hh lh hoff3 hn2)
    have hfrw : Fr (b :: w.heap.size :: cwS cw bw bf sb own) w wr := (HFR1.out.mono (by simp)).trans hfr (fun s hs => .inl hs)
    have hew := HER.out wr _ hfrw (fun s hs => by
      rcases List.mem_cons.1 hs with h | hs
      · rw [h]; exact .inl hB
      · rcases List.mem_cons.1 hs with h | hs
        · rw [h]; exact .inr (Nat.le_refl _)
        · exact .inl (Nat.le_trans hB2 (hge s hs)))
    have HSO := Lib.hid (secOff_eq hck)
    by_cases hlt : j < pk
    · obtain ⟨kk, hkk⟩ : ∃ kk, min 32768 (q + pk - (q + j)) = kk := ⟨_, rfl⟩
      have hk1 : kk ≤ 32768 := by omega
      have hk2 : j + kk ≤ pk := by omega
      have hk3 : 0 < kk := by omega
      obtain ⟨l, hl0⟩ : ∃ l, (s.data.toList.drop (q + j)).take kk = l := ⟨_, rfl⟩
      have HQ := Lib.hid (secRead_fr b r w.heap.size 0 32768 32768 q (q + j) (q + pk) pk kk s cur 5 wr hck hrr hbg (by omega) (by omega) (by omega) (by omega) hq hs (by omega) hkk.symm)
      rw [hl0] at HQ
      have hll : l.length = kk := by rw [← hl0, List.length_take, List.length_drop, ← Lib.size_eq]; omega
      have HLL := Lib.hid hll
      have hT' : D.take (j + kk) = D.take j ++ l := by rw [List.take_add, ← hl0, ← hD, List.drop_take, List.drop_drop, List.take_take, List.take_take, Nat.min_eq_left (by omega), Nat.min_eq_left (by omega)]
      have HT := Lib.hid hT'
      have hTl : (T ++ D.take j).length + l.length ≤ 4000000000 := by rw [List.length_append, List.length_take, hll]; omega
      have HC1 := Lib.hid hc1
      have HO1 := Lib.hid ho1
      have HF := Lib.hid hfr
      have HFW1 := Lib.hid hfw
      have HHH1 := Lib.hid hhh
      clear hck hrr hc1 ho1 hfr hfw hhh hew hl0 hkk hT' hll hfrw
      go_wp2_with fail
      refine HQ.out.mono ?_
      rintro e w2 ⟨rfl, hbg2, hck2, hf2⟩
      have hc2 : CW w2 base cw bw bf sb own1 (T ++ D.take j) := HC1.out.fr hf2 (by simp; exact ⟨fun e => hb1.1 e.symm, fun e => hg1.1 e.symm⟩) (by simp; exact ⟨fun e => hb1.2.1 e.symm, fun e => hg1.2.1 e.symm⟩) (by simp; exact ⟨fun e => hb1.2.2.1 e.symm, fun e => hg1.2.2.1 e.symm⟩) (by simp; exact ⟨fun e => hb1.2.2.2.1 e.symm, fun e => hg1.2.2.2.1 e.symm⟩) (fun g hg => by simp; exact ⟨fun e => hb1.2.2.2.2 (by rw [hg, e]), fun e => hg1.2.2.2.2 (by rw [hg, e])⟩)
      have hfw2 := HFW1.out.fr hf2 (by simp; exact ⟨hn1, by omega⟩)
      have hhh2 := HHH1.out.fr hf2 (by simp; exact ⟨hn2, by omega⟩)
      have hrd : Rd w2 w.heap.size 0 l := Rd.spl hbg2 (by rw [HLL.out]; omega)
      have hW := fun W (hW : Fr [] w2 W) => fwWrite W fw hh cw (.slice (some ⟨w.heap.size, 0, none⟩) l.length 32768) (WrP W base cw bw bf sb own1 (T ++ D.take j) l) .nilIface .nilIface (hfw2.fr hW (by simp)) ((hhh2.fr hW (by simp)).at_ 2 _ rfl) (some ⟨w.heap.size, 0, none⟩) l.length 32768 rfl (cwWrite W base cw bw bf sb own1 (T ++ D.take j) l w.heap.size 0 32768 _ (hc2.nil hW) hTl (.inr ⟨rfl, hrd.fr hW hbg2.lt (by simp), Nat.lt_of_lt_of_le hbg2.lt hW.size, hg1, by rw [HLL.out]; omega, by decide⟩)) (fun e w' h => ⟨_, _, h.choose_spec.1⟩)
      rw [HLL.out] at hW
      have HW := Lib.hid hW
      have HBG2 := Lib.hid hbg2
      have HCK2 := Lib.hid hck2
      have HF2 := Lib.hid hf2
      have hXt : True := trivial
      have i1 : (0 : Int) < (kk : Int) := by omega
      have i2 : (kk : Int) ≤ 32768 := by omega
      clear hbg2 hck2 hf2 hc2 hfw2 hhh2 hrd hW HQ
      go_wp2_with fail
      go_region_held3 (fun w' => True)
        ((first | exact hXt | exact trivial))
        ((first | (go_at_call 203; (with_reducible refine (HW.out _ ((Fr.refl [] w2).drew)).mono ?_); rintro e w3 ⟨own2, he, hc3, ho3, hf3⟩; rw [HLL.out] at he; subst he)))
      have HC3 := Lib.hid hc3
      have HO3 := Lib.hid ho3
      have HF3 := Lib.hid (fr0 ((Fr.refl [] w2).drew) hf3)
      clear hc3 ho3 hf3 HW
      go_wp2_with fail
      have hs2 : wr.heap.size ≤ w2.heap.size := HF2.out.size
      have hs3 : w1.heap.size ≤ wr.heap.size := HF.out.size
      have hfa : Fr (b :: w.heap.size :: cwS cw bw bf sb own) w1 w2 := HF.out.trans HF2.out (fun s hs => by
        rcases List.mem_cons.1 hs with h | hs
        · exact .inl (by simp [h])
        · exact .inl (by simp at hs; simp [hs]))
      have hfb : Fr (b :: w.heap.size :: cwS cw bw bf sb own) w1 w3 := Fr.own (S := [b, w.heap.size, cw, bw, bf, sb]) hfa HO1.out (S' := [cw, bw, bf, sb]) HF3.out (fun s hs => List.mem_cons_of_mem _ (List.mem_cons_of_mem _ hs))
      have hck3 := HCK2.out.fr HF3.out hb1.not
      rw [Nat.add_assoc] at hck3
      refine ⟨⟨j + kk, hk2, ⟨_, rfl⟩, rfl, hck3, ⟨_, HBG2.out.fr HF3.out hg1.not, by rw [spl_size (by rw [HLL.out]; omega)]; exact hcs⟩, ⟨own2, ?_, HO1.out.trans HO3.out (Nat.le_trans hs3 hs2)⟩, hfb⟩, ?_⟩
      · rw [HT.out, ← List.append_assoc]
        exact HC3.out
      · rw [HSO.out, secOff_eq hck3]
        omega
    · obtain rfl : j = pk := by omega
      have hDt : D.take j = D := List.take_of_length_le (by omega)
      rw [hDt] at hc1
      have HQ := Lib.hid (secRead_eof E b (.slice (some ⟨w.heap.size, 0, none⟩) 32768 32768) (strRd r) q (q + j) (q + j) j wr hew hck (Nat.le_refl _))
      have HC1 := Lib.hid hc1
      have HO1 := Lib.hid ho1
      have HF := Lib.hid hfr
      have HFRW := Lib.hid hfrw
      have HEW := Lib.hid hew
      clear hck hrr hc1 ho1 hfr hfw hhh hew hfrw hDt
      go_wp2_with fail
      refine HQ.out.mono ?_
      rintro e w2 ⟨rfl, hf2⟩
      have x1 := (HEW.out.fr hf2 (by simp) (Nat.le_trans h18 HFRW.out.size)).eof
      have x2 := neq_same E.eof w2
      have HF2 := Lib.hid hf2
      clear hf2 HQ
      go_wp2_with fail
      go_ret2
      refine ⟨own1, _, rfl, HC1.out.nil HF2.out, ?_, ?_⟩
      · exact (show OwnN w own own from .inl rfl).trans HO1.out hs1
      · exact ((HFR1.out.mono (S' := b :: cwS cw bw bf sb own) (by simp)).trans HF.out (fun s hs => by
          rcases List.mem_cons.1 hs with h | hs
          · exact .inl (by simp [h])
          · rcases List.mem_cons.1 hs with h | hs
            · exact .inr (by omega)
            · exact .inl (List.mem_cons_of_mem _ hs))).trans HF2.out (by simp)
set_option maxRecDepth 100000 in
set_option maxHeartbeats 8000000 in
theorem cpDir (E : Errs) (B0 : Nat) (w : World) (b r q : Nat) (hE : Env E w) (hEB : EB E B0 w) (hb : Blk w b 198 #[strRd r, .int .i64 (q : Int), .int .i64 (q : Int), .int .i64 (q : Int), .int .i64 0]) :
    Calls Tryz.prog 92 #[.iface 156 (.agg #[]), secV b, .slice none 0 0] w (fun e w' => e = .returned (.tuple #[.int .i64 0, .nilIface]) ∧ Fr [] w w') := by
  have hmk : ∀ w, (Instr.makeSlice 76 (.int .i64 32768) (.int .i64 32768)).run Tryz.prog w = .ok (.slice (some ⟨w.heap.size, 0, none⟩) 32768 32768) (w.alloc (.cells (zeros 32768) 5)) := fun w => run_makeBytes 32768 32768 (Nat.le_refl _) (by decide) w
  have hta1 : ∀ w, (Instr.typeAssert (secV b) 89 242 true).run Tryz.prog w = .ok (.tuple #[.nilIface, .bool false]) w := fun w => run_typeAssert_lacksB Tryz.underlying242 (by kernel_rfl) (by kernel_rfl) _ _ _
  have hta2 : ∀ w, (Instr.typeAssert (.iface 156 (.agg #[])) 101 246 true).run Tryz.prog w = .ok (.tuple #[.nilIface, .bool false]) w := fun w => run_typeAssert_lacksB Tryz.underlying246 (by kernel_rfl) (by kernel_rfl) _ _ _
  have hta3 : ∀ w, (Instr.typeAssert (secV b) 89 249 true).run Tryz.prog w = .ok (.tuple #[.pointer none, .bool false]) w := fun w => by kernel_rfl
  have hel : ∀ w, (binOp .eql 76 (.slice none 0 0) (.slice none 0 0)).run Tryz.prog w = .ok (.bool true) w := fun w => run_eql_nil_slice w 76 5 none 0 0 0 0 Tryz.underlying76
  have h18 : 14 ≤ w.heap.size := Nat.le_trans hEB.b18 hEB.le
  have hfr1 : Fr [] w (w.alloc (.cells (zeros 32768) 5)) := (Fr.refl [] w).alloc _
  have hew := hE.fr hfr1 (by simp) h18
  have HQ := Lib.hid (secRead_eof E b (.slice (some ⟨w.heap.size, 0, none⟩) 32768 32768) (strRd r) q q q 0 _ hew (hb.alloc _) (Nat.le_refl _))
  have HFR := Lib.hid hfr1
  have HEW := Lib.hid hew
  clear hb hE hew hfr1
  go_enter Tryz.func92, Tryz.ntmps92
  go_wp2_with fail
  obtain ⟨w1, hw1⟩ : ∃ w1, w.alloc (.cells (zeros 32768) 5) = w1 := ⟨_, rfl⟩
  rw [hw1] at HQ HFR HEW ⊢
  clear hw1 hmk
  go_loopw [6, 7] (fun v6 v7 wr => v6 = .int .i64 0 ∧ v7 = .nilIface ∧ wr = w1) (fun _ _ _ => 0)
  case atStart => exact ⟨rfl, rfl, rfl⟩
  case round =>
    obtain ⟨rfl, rfl, hwr⟩ := hrel
    rw [hwr]
    clear hwr wr
    go_wp2_with fail
    refine HQ.out.mono ?_
    rintro e w2 ⟨rfl, hf2⟩
    have x1 := (HEW.out.fr hf2 (by simp) (Nat.le_trans h18 HFR.out.size)).eof
    have x2 := neq_same E.eof w2
    have HF2 := Lib.hid hf2
    clear hf2 HQ
    go_wp2_with fail
    go_ret2
    exact ⟨rfl, HFR.out.trans HF2.out (by simp)⟩
set_option maxRecDepth 100000 in
theorem ioCopy (w : World) (d r : Value) (P : Ending → World → Prop) (h : Calls Tryz.prog 92 #[d, r, .slice none 0 0] w P) (hP : ∀ e w', P e w' → ∃ a b, e = .returned (.tuple #[a, b])) : Calls Tryz.prog 65 #[d, r] w P := by
  have H := Lib.hid h
  have HP := Lib.hid hP
  clear h hP
  go_enter Tryz.func65, Tryz.ntmps65
  go_wp2_with fail
  refine H.out.mono ?_
  intro e w1 h1
  obtain ⟨a, b, rfl⟩ := HP.out e w1 h1
  have H1 := Lib.hid h1
  clear h1
  go_wp2_with fail
  exact H1.out
end Go.Proofs.YtalgnjkdoaaacaaGreatDoor

/- CreateRaw, of a writer that holds some records. -/
namespace Go.Proofs.YtalgnjkdoaaacaaGreatDoor
open Go Go.RowKit
open Zp
/-- The last file's writer, of a raw file. -/
def LastR (w : World) (base cw : Nat) (last : Value) (L : List WR) : Prop :=
  last = .pointer none ∨ ∃ fw x, last = .pointer (some ⟨fw, 0, none⟩) ∧ base ≤ fw ∧ x ∈ L ∧ Blk w fw 163 (fwC x.hh cw false) ∧ w.cell? ⟨x.hh, 2, none⟩ = some (.bool true) ∧ x.fl / 8 % 2 = 0
/-- What closing the last file's writer turns. -/
def lastS : Value → List Nat
  | .pointer (some a) => [a.block]
  | _ => []
theorem LastR.typ {w : World} {base cw : Nat} {last : Value} {L : List WR} (h : LastR w base cw last L) {s : Nat} (hs : s ∈ lastS last) : base ≤ s ∧ ∃ cs, Blk w s 163 cs := by
  rcases h with rfl | ⟨fw, x, rfl, hb, -, hf, -⟩
  · simp [lastS] at hs
  · simp [lastS] at hs
    subst hs
    exact ⟨hb, _, hf⟩
theorem prepR (w : World) (zw base cw bw bf sb fh : Nat) (own : Option Nat) (T c : By) (dv last : Value) (L : List WR) (cf : Array Value)
    (hz : Blk w zw 136 (zwC cw dv last false c)) (hW : WS w base cw bw bf sb own T dv L) (hl : LastR w base cw last L) (hfh : Blk w fh 78 cf) (hn : ∀ x ∈ L, x.fh ≠ fh) :
    Calls Tryz.prog 69 #[.pointer (some ⟨zw, 0, none⟩), .pointer (some ⟨fh, 0, none⟩)] w fun e w' => e = .returned .nilIface ∧ Fr (lastS last) w w' := by
  rcases List.eq_nil_or_concat L with rfl | ⟨L0, x, rfl⟩
  · obtain ⟨p, cd, rfl⟩ := rowB_slice hW.hd
    have hln : last = .pointer none := by
      rcases hl with h | ⟨fw, x, _, _, hx, _⟩
      · exact h
      · simp at hx
    subst hln
    exact prepNone w zw cw 0 cd fh p c hz (.inl rfl) cf hfh
  · rw [List.concat_eq_append] at *
    have hrow := hW.hd
    obtain ⟨g, cap, hv, hg, hcell, hnc, hcm⟩ := own_cell hrow (k := L0.length) (u := .pointer (some ⟨x.hh, 0, none⟩)) (by simp)
    obtain ⟨⟨rw_, nu, m0, m1, mp, a, cx, x1, x2, x3⟩, xok⟩ := hW.hL x (by simp)
    have hDL : DirLast w (some ⟨g, 0, none⟩) (L0 ++ [x]).length cap fh := .inr ⟨g, x.hh, x.fh, rfl, by simp, hnc, hcm, by simpa using hcell, x1.at_ 0 _ rfl, hn x (by simp), _, x2⟩
    subst hv
    rcases hl with rfl | ⟨fw, y, rfl, hb, hy, hf, hr, hfl⟩
    · exact prepNone w zw cw _ cap fh _ c hz hDL cf hfh
    · obtain ⟨⟨rw', nu', n0, n1, np, b, cy, y1, y2, y3⟩, yok⟩ := hW.hL y hy
      have hrt : rw' = true := by
        have := y1.at_ 2 _ rfl
        rw [this] at hr
        simpa using hr
      subst hrt
      have hgl : g < w.heap.size := World.block_lt_of_cell? w _ hcell
      obtain ⟨-, -, cs, hbg⟩ := hW.dvne (s := g) rfl
      refine (prepOpen w zw cw cw _ cap fh fw _ c y.hh y.fh y.off y.nm y.cm nu' y.cr y.rd y.fl y.me y.ti y.da y.cs y.pk y.sz y.ext (.slice b y.exb.length cy) n0 n1 np hz (by simp) hDL ?_ ?_ cf hfh hf ⟨y1, y2⟩ yok.a3 hfl).mono (fun e w' h => ⟨h.1, h.2.2⟩)
      · intro g' hg'
        injection hg' with hg'
        injection hg' with hg'
        subst hg'
        exact ⟨hbg.ne_ hf (by decide), hgl⟩
      · intro g' hl' hg' hc'
        injection hg' with hg'
        injection hg' with hg'
        subst hg'
        have h1 : (L0 ++ [x]).length - 1 = L0.length := by simp
        rw [h1, hcell] at hc'
        have h2 : x.hh = hl' := by simpa using hc'
        subst h2
        exact ⟨x1.ne_ hf (by decide), x1.lt⟩
/-- The bytes ahead of a record's content. -/
def locW (x : WR) : By := locL x.rd x.fl x.me x.ti x.da x.cs x.pk x.sz x.nm x.exb
theorem locW_length (x : WR) : (locW x).length = 30 + x.nm.length + x.exb.length := by simp [locW, locL, sigL, le_length]; omega
/-- What CreateRaw leaves of a writer that holds some records. -/
def CrSP (w : World) (zw base cw bw bf sb : Nat) (own : Option Nat) (T c : By) (dv last : Value) (L : List WR) (r : WR) (e : Ending) (w' : World) : Prop :=
  ∃ own' dv' hh last', WS w' base cw bw bf sb own' (T ++ locW r) dv' (L ++ [{ r with hh := hh }]) ∧ OwnN w own own' ∧ Blk w' zw 136 (zwC cw dv' last' false c) ∧ LastR w' base cw last' (L ++ [{ r with hh := hh }]) ∧
    Fr (lastS last ++ r.fh :: zw :: (dv.ownBlock.toList ++ cwS cw bw bf sb own)) w w' ∧ w.heap.size ≤ hh ∧
    ((slash (bs r.nm) = true ∧ e = .returned (.tuple #[.iface 156 (.agg #[]), .nilIface])) ∨
     (slash (bs r.nm) = false ∧ ∃ fw, w.heap.size ≤ fw ∧ last' = .pointer (some ⟨fw, 0, none⟩) ∧ Blk w' fw 163 (fwC hh cw false) ∧ Blk w' hh 153 #[.pointer (some ⟨r.fh, 0, none⟩), .int .u64 (r.off : Int), .bool true] ∧ e = .returned (.tuple #[.iface 132 (.pointer (some ⟨fw, 0, none⟩)), .nilIface])))
set_option maxHeartbeats 4000000 in
theorem createS (w : World) (zw base cw bw bf sb : Nat) (own : Option Nat) (T c : By) (dv last : Value) (L : List WR) (r : WR) (nu : Bool) (m0 m1 : Int) (mp : Option Addr) (ea : Addr) (ec : Nat) (p13 p14 : Int)
    (hz : Blk w zw 136 (zwC cw dv last false c)) (hW : WS w base cw bw bf sb own T dv L) (hl : LastR w base cw last L) (hbs : base ≤ w.heap.size)
    (hf : Blk w r.fh 78 (fhD r.nm r.cm nu r.cr r.rd r.fl r.me r.ti r.da r.cs r.pk r.sz r.ext (.slice (some ea) r.exb.length ec) m0 m1 mp p13 p14)) (hnf : ∀ x ∈ L, x.fh ≠ r.fh)
    (hea : ExA w bf own (some ea) ec r.exb) (hok : r.Ok) (hfl : r.fl / 8 % 2 = 0) (hoff : r.off = T.length) (hL : L.length < 1000) (hT : T.length + 200000 ≤ 4000000000) :
    Calls Tryz.prog 52 #[.pointer (some ⟨zw, 0, none⟩), .pointer (some ⟨r.fh, 0, none⟩)] w (CrSP w zw base cw bw bf sb own T c dv last L r) := by
  have hp := prepR w zw base cw bw bf sb r.fh own T c dv last L _ hz hW hl hf hnf
  have hb9 := hok.a12; have hb10 := hok.a14; have hb8 := hok.a9; have hb7 := hok.a8
  refine (createRaw w zw base cw bw bf sb L.length base r.fh own T dv last c _ (lastS last) r.nm r.cm r.exb nu r.cr r.rd r.fl r.me r.ti r.da r.cs r.pk r.sz r.ext ea ec m0 m1 mp hz hW.hC hW.hd p13 p14 hf hp ?_ (by omega) hbs hT ?_ hok.a2 hok.a3 hok.a4 hok.a5 hok.a6 hok.a7 hok.a8 hok.a9 (by omega) (by omega) hfl).mono ?_
  · intro s hs
    obtain ⟨hb, cs, ht⟩ := hl.typ hs
    exact ⟨ht.lt, ht.ne_ hz (by decide), ht.ne_ hf (by decide), hW.hC.offBlk ht (by decide) (by decide) (by decide) (by decide), hW.dvty ht (by decide)⟩
  · rcases hea with h | ⟨ge, oe, h1, h2, ⟨cs, q, h3⟩, h4, h5, h6, h7⟩
    · exact .inl h
    · injection h1 with h1
      refine .inr ⟨ge, oe, h1, h2, heap_lt h3, hW.hC.offU h3 h4 h5, h6, h7, fun hm => ?_, neU h3 hf (by decide), neU h3 hz (by decide), fun hm => ?_⟩
      · obtain ⟨hb, cs, ht⟩ := hl.typ hm
        exact neU h3 ht (by decide) rfl
      · obtain ⟨-, -, cs, ht⟩ := hW.dvne hm
        exact neU h3 ht (by decide) rfl
  · rintro e w' ⟨own', dv', hh, last', k1, k2, k3, k4, k5, k6, k7, k8⟩
    have hfar : ∀ f, f ≠ r.fh → FarX w cw bw bf sb own f (lastS last ++ r.fh :: zw :: (dv.ownBlock.toList ++ cwS cw bw bf sb own)) := fun f hfn s hs => by
      simp only [List.mem_append, List.mem_cons] at hs
      rcases hs with hs | hs | hs | hs | hs
      · obtain ⟨hb, cs, ht⟩ := hl.typ hs
        exact .inr (.inr ⟨_, _, ht, by decide, .inl (by decide), by decide⟩)
      · subst hs
        exact .inr (.inr ⟨_, _, hf, by decide, .inr (fun e => hfn e.symm), by decide⟩)
      · subst hs
        exact .inr (.inr ⟨_, _, hz, by decide, .inl (by decide), by decide⟩)
      · obtain ⟨-, -, cs, ht⟩ := hW.dvne (s := s) (by simpa using hs)
        exact .inr (.inr ⟨_, _, ht, by decide, .inl (by decide), by decide⟩)
      · exact .inr (.inl (by simp only [cwS, List.mem_cons]; exact hs))
    have hx : RA w' bf own' { r with hh := hh } := ⟨true, nu, m0, m1, mp, some ea, ec, by show Blk w' hh _ _; rw [hoff]; exact k5.h, k5.f, hea.frX hW.hC k7 k2 (hfar (r.fh + 1) (by omega))⟩
    have hWS : WS w' base cw bw bf sb own' (T ++ locW r) dv' (L ++ [{ r with hh := hh }]) := ⟨k1, by simpa using k4, fun x hx' => by
      rcases List.mem_append.1 hx' with h | h
      · exact ⟨(hW.hL x h).1.frX hW.hC k7 k2 (hfar x.fh (hnf x h)), (hW.hL x h).2⟩
      · have : x = { r with hh := hh } := by simpa using h
        subst this
        exact ⟨hx, ⟨hok.a1, hok.a2, hok.a3, hok.a4, hok.a5, hok.a6, hok.a7, hok.a8, hok.a9, hok.a10, hok.a11, hok.a12, hok.a13, hok.a14⟩⟩⟩
    rcases k8 with ⟨s1, rfl, rfl⟩ | ⟨s1, fw, s2, rfl, s3, rfl⟩
    · exact ⟨own', dv', hh, .pointer none, hWS, k2, k3, .inl rfl, k7, k6, .inl ⟨s1, rfl⟩⟩
    · exact ⟨own', dv', hh, _, hWS, k2, k3, .inr ⟨fw, { r with hh := hh }, rfl, by omega, by simp, s3, k5.h.at_ 2 _ rfl, hfl⟩, k7, k6, .inr ⟨s1, fw, s2, rfl, s3, by rw [hoff]; exact k5.h, rfl⟩⟩
end Go.Proofs.YtalgnjkdoaaacaaGreatDoor

/- Writer.Copy. -/
namespace Go.Proofs.YtalgnjkdoaaacaaGreatDoor
open Go Go.RowKit
open Zp
/-- The block of a file, read from an archive, as the writer's header wants it; all that it tells lies below base. -/
def FileU (w : World) (base f : Nat) (h : Hd) (P z r : Nat) : Prop :=
  ∃ (ad : Addr) (db cap : Nat) (m0 m1 : Int) (mp : Option Addr) (nu : Bool), Blk w f fileT (hdrC (h.creator.toNat : Int) (h.reader.toNat : Int) (h.flags.toNat : Int) (h.method.toNat : Int) (h.time.toNat : Int) (h.date.toNat : Int) (h.crc.toNat : Int) (h.packed.toNat : Int) (h.size.toNat : Int) (h.packed.toNat : Int) (h.size.toNat : Int) (h.ext.toNat : Int) (P : Int) (bs h.name) (bs h.comment) nu (.slice (some ad) h.extra.length cap) m0 m1 mp z r) ∧
    (0 < h.extra.length → ad = ⟨db, h.name.length, none⟩) ∧ h.extra.length ≤ cap ∧ cap ≤ 200000 ∧ db < base ∧ (∃ cs, Blk w db byteT cs) ∧ Rd w db h.name.length h.extra ∧ f < base
theorem fileU_of {s : ByteArray} {U z r f p P B : Nat} {w : World} {h : Hd} (hF : FileAt s.data.toList U z r f p B w) (hc : CentralAt s.data.toList p h P) (hok : HdOk h) : FileU w w.heap.size f h (P + B) z r := by
  obtain ⟨v1, q1, v2, q2, ad, db, m0, m1, mp, d1, d2, hb, ha, h3, ⟨cs, h4⟩, h5, h6, h7⟩ := hF
  obtain ⟨o1, o2, o3, o4, o5, o6, ⟨o7, o8⟩, ⟨o9, o10⟩, ⟨o11, o12⟩, ⟨o13, o14⟩, o15, o16, o17⟩ := hok
  rw [hc.f4, hc.f6, hc.f8, hc.f10, hc.f12, hc.f14, hc.f16, hc.f20, hc.f24, hc.f28, hc.f30, hc.f32, hc.f38, hc.f42, hc.nm, hc.cm, ← Int.natCast_add] at hb
  rw [hc.f28, hc.f30] at ha
  rw [hc.f28, hc.f30, hc.ex] at h6
  exact ⟨ad, db, h.extra.length + h.comment.length, m0, m1, mp, _, hb, ha, by omega, by omega, h4.lt, ⟨cs, h4⟩, h6, hb.lt⟩
theorem FileU.below {w w' : World} {base f : Nat} {h : Hd} {P z r : Nat} (hF : FileU w base f h P z r) (hb : Below base w w') : FileU w' base f h P z r := by
  obtain ⟨ad, db, cap, m0, m1, mp, nu, h1, h2, h3, h4, h5, ⟨cs, h6⟩, h7, h8⟩ := hF
  exact ⟨ad, db, cap, m0, m1, mp, nu, h1.below hb h8, h2, h3, h4, h5, ⟨cs, h6.below hb h5⟩, h7.below hb h5, h8⟩
theorem fcU {w : World} {base f : Nat} {h : Hd} {P z r : Nat} (hF : FileU w base f h P z r) {v : Value} {cm : ByteArray} {B : Nat} (hz : Blk w z 66 (rdC r v cm B)) : FC w f z r P ⟨h.name.toArray⟩ h.flags.toNat h.method.toNat h.packed.toNat h.size.toNat h.crc.toNat := by
  obtain ⟨ad, db, cap, m0, m1, mp, nu, hb, h2, h3, h4, h5, ⟨cs, h6⟩, h7, h8⟩ := hF
  exact ⟨hb.at_ 0 _ rfl, hb.at_ 5 _ rfl, hb.at_ 6 _ rfl, hb.at_ 12 _ rfl, hb.at_ 15 _ rfl, hb.at_ 16 _ rfl, hb.at_ 19 _ rfl, hb.at_ 20 _ rfl, hb.at_ 21 _ rfl, hz.at_ 3 _ rfl, hb.lt, hz.lt⟩
theorem Blk.putAll {g : Nat} {t : TypeId} : ∀ (vs : List Value) (w : World) (o : Nat) (cs : Array Value), Blk w g t cs → o + vs.length ≤ cs.size → Blk (w.setCells g o vs) g t (cs.toList.take o ++ vs ++ cs.toList.drop (o + vs.length)).toArray
  | [], w, o, cs, h, _ => by
    simp only [List.append_nil, List.length_nil, Nat.add_zero, List.take_append_drop]
    exact h
  | v :: r, w, o, cs, h, hl => by
    rw [List.length_cons] at hl
    have := Blk.putAll r (w.setCell ⟨g, o, none⟩ v) (o + 1) (cs.setIfInBounds o v) (h.set_ o v) (by simp; omega)
    have e : (cs.setIfInBounds o v).toList.take (o + 1) ++ r ++ (cs.setIfInBounds o v).toList.drop (o + 1 + r.length) = cs.toList.take o ++ v :: r ++ cs.toList.drop (o + (v :: r).length) := by
      have hol : o < cs.toList.length := by simp; omega
      rw [Array.toList_setIfInBounds, List.take_add_one, List.take_set_of_le (Nat.le_refl o), List.getElem?_set_self hol, List.drop_set_of_lt (by omega), List.length_cons, show o + (r.length + 1) = o + 1 + r.length by omega]
      simp
    rw [e] at this
    exact this
theorem Fr.putAll {S : List Nat} {w : World} {g : Nat} (hg : g ∈ S ∨ w.heap.size ≤ g) : ∀ (vs : List Value) (w1 : World) (o : Nat), Fr S w w1 → Fr S w (w1.setCells g o vs)
  | [], _, _, h => h
  | v :: r, w1, o, h => Fr.putAll hg r (w1.setCell ⟨g, o, none⟩ v) (o + 1) (h.setCell hg v)
/-- The cells of a FileHeader that tells nothing. -/
abbrev fh0 : Array Value := #[.string ⟨#[]⟩, .string ⟨#[]⟩, .bool false, .int .u16 0, .int .u16 0, .int .u16 0, .int .u16 0, .int .u64 0, .int .i64 0, .pointer none, .int .u16 0, .int .u16 0, .int .u32 0, .int .u32 0, .int .u32 0, .int .u64 0, .int .u64 0, .slice none 0 0, .int .u32 0]
/-- A FileHeader laid anew. -/
theorem fh_new (w1 : World) (cs : List Value) (hc : cs.length = 19) : Blk ((w1.alloc (.cells fh0 78)).setCells w1.heap.size 0 cs) w1.heap.size 78 cs.toArray ∧ Fr [] w1 ((w1.alloc (.cells fh0 78)).setCells w1.heap.size 0 cs) := by
  refine ⟨?_, Fr.putAll (.inr (Nat.le_refl _)) cs _ 0 ((Fr.refl [] w1).alloc _)⟩
  have := Blk.putAll cs (w1.alloc (.cells fh0 78)) 0 fh0 (Blk.new _ _ _) (by rw [hc]; decide)
  rw [hc, show fh0.toList.drop (0 + 19) = [] from rfl, List.append_nil] at this
  exact this
/-- The cells of a FileHeader, as a list. -/
abbrev fhL (nm cm : ByteArray) (nu : Bool) (a3 a4 a5 a6 : Int) (m0 m1 : Int) (mp : Option Addr) (a10 a11 a12 a13 a14 a15 a16 : Int) (ex : Value) (a18 : Int) : List Value :=
  [.string nm, .string cm, .bool nu, .int .u16 a3, .int .u16 a4, .int .u16 a5, .int .u16 a6, .int .u64 m0, .int .i64 m1, .pointer mp, .int .u16 a10, .int .u16 a11, .int .u32 a12, .int .u32 a13, .int .u32 a14, .int .u64 a15, .int .u64 a16, ex, .int .u32 a18]
theorem fhL_one (nm cm : ByteArray) (nu : Bool) (a3 a4 a5 a6 : Int) (m0 m1 : Int) (mp : Option Addr) (a10 a11 a12 a13 a14 a15 a16 : Int) (p : Option Addr) (n c : Nat) (a18 : Int) : ∀ u ∈ fhL nm cm nu a3 a4 a5 a6 m0 m1 mp a10 a11 a12 a13 a14 a15 a16 (.slice p n c) a18, u.oneCell' = true := fun u hu => by
  simp only [fhL, List.mem_cons, List.not_mem_nil, or_false] at hu
  rcases hu with rfl | rfl | rfl | rfl | rfl | rfl | rfl | rfl | rfl | rfl | rfl | rfl | rfl | rfl | rfl | rfl | rfl | rfl | rfl <;> rfl
theorem infoFHs : (Tryz.prog.info? 78).map (fun i => i.size) = some 19 := by kernel_rfl
theorem range_fh {w : World} {f : Nat} {a3 a4 a5 a6 a10 a11 a12 a13 a14 a15 a16 a18 a21 : Int} {nm cm : ByteArray} {nu : Bool} {ex : Value} {m0 m1 : Int} {mp : Option Addr} {z r : Nat} (h : Blk w f fileT (hdrC a3 a4 a5 a6 a10 a11 a12 a13 a14 a15 a16 a18 a21 nm cm nu ex m0 m1 mp z r)) :
    w.rangeAt f 0 [.string nm, .string cm, .bool nu, .int .u16 a3, .int .u16 a4, .int .u16 a5, .int .u16 a6, .int .u64 m0, .int .i64 m1, .pointer mp, .int .u16 a10, .int .u16 a11, .int .u32 a12, .int .u32 a13, .int .u32 a14, .int .u64 a15, .int .u64 a16, ex, .int .u32 a18] := fun j v hv => by
    rw [Nat.zero_add]
    refine h.at_ j v ?_
    rcases Nat.lt_or_ge j 19 with hj | hj
    · have hh : ([.string nm, .string cm, .bool nu, .int .u16 a3, .int .u16 a4, .int .u16 a5, .int .u16 a6, .int .u64 m0, .int .i64 m1, .pointer mp, .int .u16 a10, .int .u16 a11, .int .u32 a12, .int .u32 a13, .int .u32 a14, .int .u64 a15, .int .u64 a16, ex, .int .u32 a18] ++ [.pointer (some ⟨z, 0, none⟩), strRd r, .int .i64 a21] : List Value)[j]? = some v := by rw [List.getElem?_append_left hj]; exact hv
      rw [List.getElem?_toArray]
      exact hh
    · rw [List.getElem?_eq_none (by simpa using hj)] at hv; cases hv
/-- A block of another kind is none of those that CreateRaw turns. -/
theorem CrSP.far {w : World} {zw base cw bw bf sb : Nat} {own : Option Nat} {T c : By} {dv last : Value} {L : List WR} {fh : Nat} {cf cz : Array Value} (hz : Blk w zw 136 cz) (hW : WS w base cw bw bf sb own T dv L) (hl : LastR w base cw last L) (hf : Blk w fh 78 cf) :
    ∀ s ∈ lastS last ++ fh :: zw :: (dv.ownBlock.toList ++ cwS cw bw bf sb own), ∃ t cs, Blk w s t cs ∧ (t = 163 ∨ t = 78 ∨ t = 136 ∨ t = 151 ∨ t = 130 ∨ t = 240 ∨ t = 95 ∨ t = 5) := fun s hs => by
  simp only [List.mem_append, List.mem_cons] at hs
  rcases hs with hs | hs | hs | hs | hs
  · obtain ⟨hb, cs, ht⟩ := hl.typ hs
    exact ⟨_, _, ht, .inl rfl⟩
  · subst hs; exact ⟨_, _, hf, .inr (.inl rfl)⟩
  · subst hs; exact ⟨_, _, hz, .inr (.inr (.inl rfl))⟩
  · obtain ⟨-, -, cs, ht⟩ := hW.dvne (s := s) (by simpa using hs)
    exact ⟨_, _, ht, .inr (.inr (.inr (.inl rfl)))⟩
  · obtain ⟨t, cs, hb, hk⟩ := hW.hC.typ (s := s) (by simp only [cwS, List.mem_cons]; exact hs)
    refine ⟨t, cs, hb, ?_⟩
    rcases hk with ⟨k, -⟩ | ⟨k, -⟩ | ⟨k, -⟩ | ⟨k, -⟩
    · exact .inr (.inr (.inr (.inr (.inl k))))
    · exact .inr (.inr (.inr (.inr (.inr (.inl k)))))
    · exact .inr (.inr (.inr (.inr (.inr (.inr (.inl k))))))
    · exact .inr (.inr (.inr (.inr (.inr (.inr (.inr k))))))
theorem CrSP.ge {w : World} {zw base cw bw bf sb : Nat} {own : Option Nat} {T : By} {dv last : Value} {L : List WR} {fh : Nat} (hzb : base ≤ zw) (hfb : base ≤ fh) (hW : WS w base cw bw bf sb own T dv L) (hl : LastR w base cw last L) :
    ∀ s ∈ lastS last ++ fh :: zw :: (dv.ownBlock.toList ++ cwS cw bw bf sb own), base ≤ s := fun s hs => by
  simp only [List.mem_append, List.mem_cons] at hs
  rcases hs with hs | hs | hs | hs | hs
  · exact (hl.typ hs).1
  · omega
  · omega
  · exact (hW.dvne (s := s) (by simpa using hs)).1
  · exact hW.hC.ge s (by simp only [cwS, List.mem_cons]; exact hs)
theorem LastR.fr {w w' : World} {base cw bw bf sb : Nat} {own : Option Nat} {T : By} {dv last : Value} {L : List WR} {S : List Nat} (h : LastR w base cw last L) (hW : WS w base cw bw bf sb own T dv L) (hf : Fr S w w') (hS : ∀ s ∈ S, w.heap.size ≤ s ∨ ∃ t cs, Blk w s t cs ∧ t ≠ 153 ∧ t ≠ 163) : LastR w' base cw last L := by
  rcases h with h | ⟨fw, x, rfl, hb, hx, hfw, hr, hfl⟩
  · exact .inl h
  · have hn : ∀ g t cs, Blk w g t cs → (t = 153 ∨ t = 163) → g ∉ S := fun g t cs hb ht hm => by
      rcases hS g hm with h | ⟨t', cs', hb', k1, k2⟩
      · have := hb.lt; omega
      · rcases ht with ht | ht
        · exact hb.ne_ hb' (fun e => k1 (by rw [← e, ht])) rfl
        · exact hb.ne_ hb' (fun e => k2 (by rw [← e, ht])) rfl
    obtain ⟨⟨rw_, nu, m0, m1, mp, a, cx, x1, x2, x3⟩, xok⟩ := hW.hL x hx
    exact .inr ⟨fw, x, rfl, hb, hx, hfw.fr hf (hn _ _ _ hfw (.inr rfl)), (hf.cell (p := ⟨x.hh, 2, none⟩) x1.lt (hn _ _ _ x1 (.inl rfl))).trans hr, hfl⟩
theorem CwS.ty {w : World} {base cw bw bf sb : Nat} {own : Option Nat} {T : By} (h : CW w base cw bw bf sb own T) : ∀ s ∈ cwS cw bw bf sb own, ∃ t cs, Blk w s t cs ∧ t ≠ 153 ∧ t ≠ 163 := fun s hs => by
  obtain ⟨t, cs, hb, hk⟩ := h.typ hs
  refine ⟨t, cs, hb, ?_, ?_⟩
  all_goals rcases hk with ⟨k, -⟩ | ⟨k, -⟩ | ⟨k, -⟩ | ⟨k, -⟩ <;> (rw [k]; decide)
/-- What Writer.Copy leaves. -/
def CpyP (w : World) (zw base cw bw bf sb : Nat) (T c : By) (L : List WR) (h : Hd) (D : By) (e : Ending) (w' : World) : Prop :=
  ∃ own' dv' last' x, e = .returned .nilIface ∧ WS w' base cw bw bf sb own' (T ++ localB h ++ D) dv' (L ++ [x]) ∧ Blk w' zw 136 (zwC cw dv' last' false c) ∧ LastR w' base cw last' (L ++ [x]) ∧ cenL x = centralB h T.length ∧ Below base w w'
set_option maxRecDepth 100000 in
set_option maxHeartbeats 8000000 in
theorem zwCopy (E : Errs) (B0 : Nat) (w : World) (zw base cw bw bf sb : Nat) (own : Option Nat) (T c : By) (dv last : Value) (L : List WR) (f z r P B : Nat) (h : Hd) (s : ByteArray) (D : By) (v : Value) (cm : ByteArray)
    (hE : Env E w) (hEB : EB E B0 w) (hB2 : B0 ≤ base) (hbs : base ≤ w.heap.size) (hzb : base ≤ zw)
    (hz : Blk w zw 136 (zwC cw dv last false c)) (hW : WS w base cw bw bf sb own T dv L) (hl : LastR w base cw last L)
    (hF : FileU w base f h P z r) (hok : HdOk h) (hfl : h.flags.toNat / 8 % 2 = 0) (hzr : Blk w z 66 (rdC r v cm B)) (hr : StrR w r s) (hrb : r < base)
    (hs : s.size ≤ 4000000000) (hP : P + 30 ≤ s.size) (hsig : num ((s.data.toList.drop P).take 4) = 67324752) (hpk : bodyAt s.data.toList P + h.packed.toNat ≤ s.size) (hD : (s.data.toList.drop (bodyAt s.data.toList P)).take h.packed.toNat = D)
    (hdir : slash (bs h.name) = true → h.packed.toNat = 0) (hL : L.length < 1000) (hT : T.length + 200000 + h.packed.toNat ≤ 4000000000) :
    Calls Tryz.prog 43 #[.pointer (some ⟨zw, 0, none⟩), .pointer (some ⟨f, 0, none⟩)] w (CpyP w zw base cw bw bf sb T c L h D) := by
  have hFC := fcU hF hzr
  have HO := Lib.hid (openRaw_ok E w f z r P _ _ _ _ _ _ s hFC hr hs hP hsig (by omega))
  have HE := Lib.hid hE
  have HEB := Lib.hid hEB
  have HZ := Lib.hid hz
  have HW := Lib.hid hW
  have HL := Lib.hid hl
  have HF := Lib.hid hF
  have HR := Lib.hid hr
  have HD := Lib.hid hD
  have HDR := Lib.hid hdir
  clear hE hEB hz hW hl hF hr hD hdir hFC hzr hsig
  obtain ⟨q, hq⟩ : ∃ q, bodyAt s.data.toList P = q := ⟨_, rfl⟩
  rw [hq] at HO hpk HD
  clear hq
  go_enter Tryz.func43, Tryz.ntmps43
  go_wp2_with fail
  refine HO.out.mono ?_
  rintro e w1 ⟨b, rfl, hbl, HBB0, hf1⟩
  have hfu := HF.out.below (hf1.below (by simp) hbs)
  obtain ⟨ad, db, cap, m0, m1, mp, nu, f1, f2, f3, f4, f5, ⟨fcs, f6⟩, f7, f8⟩ := hfu
  obtain ⟨xcr, hxcr⟩ : ∃ n, h.creator.toNat = n := ⟨_, rfl⟩
  obtain ⟨xrd, hxrd⟩ : ∃ n, h.reader.toNat = n := ⟨_, rfl⟩
  obtain ⟨xfl, hxfl⟩ : ∃ n, h.flags.toNat = n := ⟨_, rfl⟩
  obtain ⟨xme, hxme⟩ : ∃ n, h.method.toNat = n := ⟨_, rfl⟩
  obtain ⟨xti, hxti⟩ : ∃ n, h.time.toNat = n := ⟨_, rfl⟩
  obtain ⟨xda, hxda⟩ : ∃ n, h.date.toNat = n := ⟨_, rfl⟩
  obtain ⟨xcs, hxcs⟩ : ∃ n, h.crc.toNat = n := ⟨_, rfl⟩
  obtain ⟨xpk, hxpk⟩ : ∃ n, h.packed.toNat = n := ⟨_, rfl⟩
  obtain ⟨xsz, hxsz⟩ : ∃ n, h.size.toNat = n := ⟨_, rfl⟩
  obtain ⟨xext, hxext⟩ : ∃ n, h.ext.toNat = n := ⟨_, rfl⟩
  rw [hxcr, hxrd, hxfl, hxme, hxti, hxda, hxcs, hxpk, hxsz, hxext] at f1
  rw [hxfl] at hfl
  rw [hxpk] at hpk HBB0 hT
  have HXxcr := Lib.hid hxcr
  have HXxrd := Lib.hid hxrd
  have HXxfl := Lib.hid hxfl
  have HXxme := Lib.hid hxme
  have HXxti := Lib.hid hxti
  have HXxda := Lib.hid hxda
  have HXxcs := Lib.hid hxcs
  have HXxpk := Lib.hid hxpk
  have HXxsz := Lib.hid hxsz
  have HXxext := Lib.hid hxext
  clear hxcr hxrd hxfl hxme hxti hxda hxcs hxpk hxsz hxext
  have hrng : w1.rangeAt f 0 (fhL (bs h.name) (bs h.comment) nu (xcr : Int) (xrd : Int) (xfl : Int) (xme : Int) m0 m1 mp (xti : Int) (xda : Int) (xcs : Int) (xpk : Int) (xsz : Int) (xpk : Int) (xsz : Int) (.slice (some ad) h.extra.length cap) (xext : Int)) := range_fh f1
  have HRNG := Lib.hid hrng
  clear hrng
  have HF1 := Lib.hid hf1
  have HBB := Lib.hid HBB0
  have HFF := Lib.hid f1
  clear hf1 HBB0 f1
  go_upto_region 4 with fail
  refine wp_region_list ?_
  change wpList _ _ _ [_, _, _, _, _, _] _ _
  refine Go.Great.wpList_readTo rfl (some 17) rfl (.pointer (some ⟨f, 0, none⟩)) (by kernel_rfl) ?_
  refine Go.Great.wpList_readTo rfl (some 18) rfl (.pointer (some ⟨f, 0, none⟩)) (by kernel_rfl) ?_
  refine Go.Great.wpList_readTo rfl (some 19) rfl (.pointer (some ⟨f, 0, none⟩)) (by kernel_rfl) ?_
  refine wpList_load_mid rfl 78 (.tmp 19) rfl f 0 (by kernel_rfl) _ _ HRNG.out Tryz.underlying78 rfl infoFHs ?_
  refine Go.Great.wpList_runTo rfl (some 7) rfl (.pointer (some ⟨w1.heap.size, 0, none⟩)) (w1.alloc (.cells fh0 78)) (by kernel_rfl) ?_
  have hth : (w1.alloc (.cells fh0 78)).there w1.heap.size 0 (fhL (bs h.name) (bs h.comment) nu (xcr : Int) (xrd : Int) (xfl : Int) (xme : Int) m0 m1 mp (xti : Int) (xda : Int) (xcs : Int) (xpk : Int) (xsz : Int) (xpk : Int) (xsz : Int) (.slice (some ad) h.extra.length cap) (xext : Int)).toArray.size := fun j hj => ⟨by rw [Nat.zero_add, (Blk.new w1 78 fh0).cell]; have : j < 19 := hj; simp [this], (Blk.new w1 78 fh0).frozen _⟩
  refine wpList_store_mid rfl 78 (.tmp 7) (.tmp 20) rfl w1.heap.size 0 (fhL (bs h.name) (bs h.comment) nu (xcr : Int) (xrd : Int) (xfl : Int) (xme : Int) m0 m1 mp (xti : Int) (xda : Int) (xcs : Int) (xpk : Int) (xsz : Int) (xpk : Int) (xsz : Int) (.slice (some ad) h.extra.length cap) (xext : Int)).toArray (by kernel_rfl) (by kernel_rfl) hth infoFHs (all_oneCell_toArray (fhL_one _ _ _ _ _ _ _ _ _ _ _ _ _ _ _ _ _ _ _ _ _)) ?_
  obtain ⟨hfn, hfa⟩ := fh_new w1 (fhL (bs h.name) (bs h.comment) nu (xcr : Int) (xrd : Int) (xfl : Int) (xme : Int) m0 m1 mp (xti : Int) (xda : Int) (xcs : Int) (xpk : Int) (xsz : Int) (xpk : Int) (xsz : Int) (.slice (some ad) h.extra.length cap) (xext : Int)) rfl
  generalize (w1.alloc (.cells fh0 78)).setCells w1.heap.size 0 (fhL (bs h.name) (bs h.comment) nu (xcr : Int) (xrd : Int) (xfl : Int) (xme : Int) m0 m1 mp (xti : Int) (xda : Int) (xcs : Int) (xpk : Int) (xsz : Int) (xpk : Int) (xsz : Int) (.slice (some ad) h.extra.length cap) (xext : Int)).toArray.toList = wA at *
  have HFN := Lib.hid hfn
  have hF := HF1.out.trans hfa (by simp)
  have HFA := Lib.hid hF
  have hzA := HZ.out.fr hF (by simp)
  have hWA := HW.out.fr (HW.out.hC.nil hF) hF (.inl rfl) (FarR.nil _ _ _ _ _ _) (by simp)
  have hlA := HL.out.fr HW.out hF (by simp)
  have hbA := HBB.out.fr hfa (by simp)
  have hs1 := HF1.out.size
  have hnf : ∀ x ∈ L, x.fh ≠ w1.heap.size := fun x hx => by
    obtain ⟨⟨_, _, _, _, _, _, _, x1, x2, x3⟩, _⟩ := HW.out.hL x hx
    have := x2.lt
    omega
  have hgeC := HW.out.hC.ge
  have hea : ExA wA bf own (some ad) cap h.extra := by
    rcases Nat.eq_zero_or_pos h.extra.length with h0 | h0
    · exact .inl (List.length_eq_zero_iff.1 h0)
    · refine .inr ⟨db, h.name.length, by rw [f2 h0], f7.fr hfa f6.lt (by simp), ⟨fcs, (0, 0), f6.fr hfa (by simp)⟩, ?_, ?_, f3, by omega⟩
      · have := hgeC bf (by simp [cwS]); omega
      · intro hm
        have := hgeC db (by simp [cwS, hm])
        omega
  have hrok : WR.Ok ⟨h.name, h.comment, h.extra, xcr, xrd, xfl, xme, xti, xda, xcs, xpk, xsz, xext, T.length, 0, w1.heap.size⟩ := by
    obtain ⟨o1, o2, o3, o4, o5, o6, o7, o8, o9, o10, o11, o12, o13⟩ := hok
    obtain ⟨o1, o1'⟩ := o1
    obtain ⟨o2, o2'⟩ := o2
    obtain ⟨o3, o3'⟩ := o3
    obtain ⟨o4, o4'⟩ := o4
    obtain ⟨o5, o5'⟩ := o5
    obtain ⟨o6, o6'⟩ := o6
    have := HXxcr.out; have := HXxrd.out; have := HXxfl.out; have := HXxme.out; have := HXxti.out; have := HXxda.out; have := HXxcs.out; have := HXxpk.out; have := HXxsz.out; have := HXxext.out
    exact ⟨by show xcr ≤ _; omega, by show xrd ≤ _; omega, by show xfl ≤ _; omega, by show xme ≤ _; omega, by show xti ≤ _; omega, by show xda ≤ _; omega, by show xcs ≤ _; omega, by show xpk ≤ _; omega, by show xsz ≤ _; omega, by show xext ≤ _; omega, by show T.length ≤ _; omega, o11, o12, o13⟩
  have HCR := Lib.hid (createS wA zw base cw bw bf sb own T c dv last L ⟨h.name, h.comment, h.extra, xcr, xrd, xfl, xme, xti, xda, xcs, xpk, xsz, xext, T.length, 0, w1.heap.size⟩ nu m0 m1 mp ad cap (xpk : Int) (xsz : Int) hzA hWA hlA (Nat.le_trans hbs hF.size) hfn hnf hea hrok hfl rfl hL (by omega))
  have hfar := CrSP.far (c := c) hzA hWA hlA hfn
  have hgeS := CrSP.ge (fh := w1.heap.size) hzb (by omega) hWA hlA
  have HBA := Lib.hid hbA
  have HFAR := Lib.hid hfar
  have HGES := Lib.hid hgeS
  have hEA := HE.out.fr hF (by simp) (Nat.le_trans HEB.out.b18 HEB.out.le)
  have hEBA := HEB.out.fr hF (by simp)
  have HEA := Lib.hid hEA
  have HEBA := Lib.hid hEBA
  have HRA := Lib.hid (Blk.fr HR.out hF (by simp))
  have HZA := Lib.hid hzA
  have hlrA := Nat.lt_of_lt_of_le (Blk.lt HR.out) hF.size
  have hlocB : locW ⟨h.name, h.comment, h.extra, xcr, xrd, xfl, xme, xti, xda, xcs, xpk, xsz, xext, T.length, 0, w1.heap.size⟩ = localB h := by
    rw [localB, fieldsB, HXxrd.out, HXxfl.out, HXxme.out, HXxti.out, HXxda.out, HXxcs.out, HXxpk.out, HXxsz.out]
    rfl
  have hcenB : ∀ k, cenL ⟨h.name, h.comment, h.extra, xcr, xrd, xfl, xme, xti, xda, xcs, xpk, xsz, xext, T.length, k, w1.heap.size⟩ = centralB h T.length := fun k => by
    rw [centralB, fieldsB, HXxcr.out, HXxrd.out, HXxfl.out, HXxme.out, HXxti.out, HXxda.out, HXxcs.out, HXxpk.out, HXxsz.out, HXxext.out]
    rfl
  have hll : (localB h).length = 30 + h.name.length + h.extra.length := by rw [← hlocB]; exact locW_length _
  have hnl : h.name.length ≤ 60000 ∧ h.extra.length ≤ 60000 := by obtain ⟨_, _, _, _, _, _, _, _, _, _, h11, _, h13⟩ := hok; exact ⟨h11, h13⟩
  have HLOC := Lib.hid hlocB
  have HCEN := Lib.hid hcenB
  have hzh : Below base w wA := hF.below (by simp) hbs
  have HBW := Lib.hid hzh
  clear hfn hfa hF hzA hWA hlA hbA hnf hea hrok hfar hgeS hEA hEBA f2 f3 f4 f5 f6 f7 f8 hth HRNG hlocB hcenB hzh
  go_wp2_with fail
  refine HCR.out.mono ?_
  rintro e w3 ⟨own3, dv3, hh3, last3, hW3, ho3, hz3, hl3, hf3, hhh, hcase⟩
  have hE3 : Env E w3 := HEA.out.fr hf3 (fun s hs => by have := HGES.out s hs; have := HEB.out.b18; omega) (Nat.le_trans HEBA.out.b18 HEBA.out.le)
  have hEB3 := HEBA.out.fr hf3 (fun s hs => Nat.le_trans hB2 (HGES.out s hs))
  have hbn : ∀ g t cs, Blk wA g t cs → (t = 198 ∨ t = 122) → g ∉ lastS last ++ w1.heap.size :: zw :: (dv.ownBlock.toList ++ cwS cw bw bf sb own) := fun g t cs hb ht hm => by
    obtain ⟨t', cs', hb', hk⟩ := HFAR.out g hm
    refine hb.ne_ hb' ?_ rfl
    rcases ht with ht | ht <;> rcases hk with k | k | k | k | k | k | k | k <;> (rw [ht, k]; decide)
  have hb3 := HBA.out.fr hf3 (hbn _ _ _ HBA.out (.inl rfl))
  have hr3 : StrR w3 r s := Blk.fr HRA.out hf3 (hbn _ _ _ HRA.out (.inr rfl))
  have hB3 : Below base wA w3 := hf3.below HGES.out (Nat.le_trans hbs HFA.out.size)
  have hbr : b ≠ r := by omega
  rcases hcase with ⟨hsl, rfl⟩ | ⟨hsl, fw, hfw, rfl, hfwb, hhhb, rfl⟩
  · have hp0 := HDR.out hsl
    have hx0 : xpk = 0 := by have := HXxpk.out; omega
    subst hx0
    have hD0 : D = [] := by rw [← HD.out, hp0, List.take_zero]
    subst hD0
    have HCP := Lib.hid (ioCopy w3 _ (secV b) _ (cpDir E B0 w3 b r q hE3 hEB3 hb3) (fun e w' h => ⟨_, _, h.1⟩))
    have HW3 := Lib.hid hW3
    have HZ3 := Lib.hid hz3
    have HL3 := Lib.hid hl3
    have HB3 := Lib.hid hB3
    clear hE3 hEB3 hbn hb3 hr3 hW3 hz3 hl3 ho3 hf3 hB3
    go_wp2_with fail
    refine HCP.out.mono ?_
    rintro e w4 ⟨rfl, hf4⟩
    have HF4 := Lib.hid hf4
    clear hf4
    go_wp2_with fail
    go_ret
    refine ⟨own3, dv3, last3, _, rfl, ?_, HZ3.out.fr HF4.out (by simp), HL3.out.fr HW3.out HF4.out (by simp), HCEN.out hh3, (HBW.out.trans HB3.out).trans (HF4.out.below (by simp) (Nat.le_trans hbs (Nat.le_trans HFA.out.size HB3.out.size)))⟩
    have := HW3.out.fr (HW3.out.hC.nil HF4.out) HF4.out (.inl rfl) (FarR.nil _ _ _ _ _ _) (by simp)
    rw [HLOC.out] at this
    rw [List.append_nil]
    exact this
  · have hD' := HD.out
    rw [HXxpk.out] at hD'
    have HCP := Lib.hid (ioCopy w3 _ (secV b) _ (cpFile E B0 w3 b r q xpk s base cw bw bf sb fw hh3 own3 _ hE3 hEB3 (by have := HEB.out.le; omega) hB2 hb3 hr3 hbr hs (by omega) D hD' hW3.hC (by rw [HLOC.out, List.length_append]; omega) hfwb _ _ hhhb) (fun e w' h => by obtain ⟨_, n, h, _⟩ := h; exact ⟨_, _, h⟩))
    have HW3 := Lib.hid hW3
    have HZ3 := Lib.hid hz3
    have HL3 := Lib.hid hl3
    have HB3 := Lib.hid hB3
    have HBS3 := Lib.hid hb3
    clear hE3 hEB3 hbn hb3 hr3 hW3 hz3 hl3 ho3 hf3 hB3 hfwb hhhb hD'
    go_wp2_with fail
    refine HCP.out.mono ?_
    rintro e w4 ⟨own4, n4, rfl, hc4, ho4, hf4⟩
    have HF4 := Lib.hid hf4
    have HC4 := Lib.hid hc4
    have HO4 := Lib.hid ho4
    clear hf4 hc4 ho4
    go_wp2_with fail
    go_ret
    have hfr : FarR w3 cw bw bf sb own3 (b :: cwS cw bw bf sb own3) := fun s hs => by
      rcases List.mem_cons.1 hs with h | h
      · subst h; exact .inr (.inr ⟨_, _, HBS3.out, by decide, by decide, by decide⟩)
      · exact .inr (.inl h)
    refine ⟨own4, dv3, _, _, rfl, ?_, HZ3.out.fr HF4.out (fun hm => ?_), HL3.out.fr HW3.out HF4.out (fun s hs => ?_), HCEN.out hh3, (HBW.out.trans HB3.out).trans (HF4.out.below (fun s hs => ?_) (Nat.le_trans hbs (Nat.le_trans HFA.out.size HB3.out.size)))⟩
    · have := HW3.out.fr HC4.out HF4.out HO4.out hfr (fun s hs => by
        rcases List.mem_cons.1 hs with h | h
        · subst h; exact HW3.out.dvty HBS3.out (by decide)
        · exact HW3.out.dvcw h)
      rw [HLOC.out] at this
      exact this
    · rcases List.mem_cons.1 hm with h | h
      · exact HZ3.out.ne_ HBS3.out (by decide) h
      · exact (HW3.out.hC.offBlk HZ3.out (by decide) (by decide) (by decide) (by decide)).not h
    · rcases List.mem_cons.1 hs with h | h
      · subst h; exact .inr ⟨_, _, HBS3.out, by decide, by decide⟩
      · exact .inr (CwS.ty HW3.out.hC s h)
    · rcases List.mem_cons.1 hs with h | h
      · subst h; omega
      · exact HW3.out.hC.ge s h
end Go.Proofs.YtalgnjkdoaaacaaGreatDoor

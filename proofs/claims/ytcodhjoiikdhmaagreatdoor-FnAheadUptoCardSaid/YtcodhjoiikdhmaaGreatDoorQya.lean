/- What a file's block, read from an archive, tells as a header. -/
import Derived.Test.YtcodhjoiikdhmaaGreatDoorQxe
import Derived.Test.YtcodhjoiikdhmaaGreatDoorQva
import Derived.Deep.RegionHeld3
import Derived.Deep.AppendLies
import Derived.StillTailTactics
import Derived.Deep.MidRow
import Derived.Test.YtcodhjoiikdhmaaGreatDoorQta
set_option linter.unusedVariables false
set_option linter.unusedSimpArgs false
namespace Go.Proofs.YtcodhjoiikdhmaaGreatDoor
open Go Go.RowKit
open Zp
theorem and2048 (fl : Nat) (hf : fl ≤ 65535) : (bits BinOp.and IntKind.u16 (fl : Int) 2048 == 0) = decide (fl / 2048 % 2 = 0) := by
  have h := u16_and_nat fl 2048 (by omega) (by omega)
  rw [show ((2048 : Nat) : Int) = 2048 from rfl] at h
  rw [h]
  have h2 : fl &&& 2048 = 2048 * (fl / 2048 % 2) := by
    apply Nat.eq_of_testBit_eq
    intro i
    rw [Nat.testBit_and, show (2048 : Nat) = 2 ^ 11 by decide, Nat.testBit_two_pow, Nat.testBit_two_pow_mul]
    by_cases hi : 11 = i
    · subst hi
      simp [Nat.testBit_eq_decide_div_mod_eq]
    · simp only [hi, decide_false, Bool.and_false]
      by_cases h3 : 11 ≤ i
      · have : (fl / 2 ^ 11 % 2).testBit (i - 11) = false := Nat.testBit_lt_two_pow (Nat.lt_of_lt_of_le (Nat.mod_lt _ (by omega)) (by
          have : 2 ^ 1 ≤ 2 ^ (i - 11) := Nat.pow_le_pow_right (by omega) (by omega)
          exact this))
        simp [this]
      · simp [h3]
  rw [h2]
  rcases Nat.mod_two_eq_zero_or_one (fl / 2048) with h | h <;> simp [h]
theorem nonB_of {h : Hd} {v1 q1 v2 q2 : Bool} (hf : 0 ≤ h.flags ∧ h.flags ≤ 65535) (d1 : Det (bs h.name) 0 false v1 q1) (d2 : Det (bs h.comment) 0 false v2 q2) : nonB v1 q1 v2 q2 (h.flags.toNat : Int) = nonOf h := by
  unfold nonOf nonB
  rw [detV_eq d1, detV_eq d2, and2048 _ (by omega)]
  have hx : ((h.flags.tdiv 2048).tmod 2 == 0) = decide (h.flags.toNat / 2048 % 2 = 0) := by
    rw [Int.tdiv_eq_ediv_of_nonneg hf.1, Int.tmod_eq_emod_of_nonneg (by omega)]
    obtain ⟨n, hn⟩ : ∃ n : Nat, h.flags = (n : Int) := ⟨h.flags.toNat, by omega⟩
    rw [hn, Int.toNat_natCast]
    by_cases hz : n / 2048 % 2 = 0
    · rw [decide_eq_true hz, beq_iff_eq]; omega
    · rw [decide_eq_false hz, beq_eq_false_iff_ne]; omega
  rw [hx]
  cases v1 <;> cases v2 <;> cases q1 <;> cases q2 <;> simp
/-- The block of a file that tells the header h. -/
def FileH (w : World) (U f : Nat) (h : Hd) (P z r : Nat) : Prop :=
  ∃ (ad : Addr) (db cap : Nat) (m0 m1 : Int) (mp : Option Addr), Blk w f fileT (hdrC h.creator h.reader h.flags h.method h.time h.date h.crc h.packed h.size h.packed h.size h.ext (P : Int) (bs h.name) (bs h.comment) h.non (.slice (some ad) h.extra.length cap) m0 m1 mp z r) ∧
    (0 < h.extra.length → ad = ⟨db, h.name.length, none⟩) ∧ h.extra.length ≤ cap ∧ cap ≤ 200000 ∧ U ≤ db ∧ db < w.heap.size ∧ db ≠ f ∧ Rd w db h.name.length h.extra ∧ U ≤ f
theorem fileH_of {s : ByteArray} {U z r f p P B : Nat} {w : World} {h : Hd} (hF : FileAt s.data.toList U z r f p B w) (hc : CentralAt s.data.toList p h P) (hok : HdOk h) : FileH w U f { h with non := nonOf h } (P + B) z r := by
  obtain ⟨v1, q1, v2, q2, ad, db, m0, m1, mp, d1, d2, hb, ha, h3, ⟨cs, h4⟩, h5, h6, h7⟩ := hF
  obtain ⟨o1, o2, o3, o4, o5, o6, ⟨o7, o8⟩, ⟨o9, o10⟩, ⟨o11, o12⟩, ⟨o13, o14⟩, o15, o16, o17⟩ := hok
  rw [hc.f28, hc.nm] at d1
  rw [hc.f28, hc.f30, hc.f32, hc.cm] at d2
  rw [hc.f4, hc.f6, hc.f8, hc.f10, hc.f12, hc.f14, hc.f16, hc.f20, hc.f24, hc.f28, hc.f30, hc.f32, hc.f38, hc.f42, hc.nm, hc.cm] at hb
  rw [hc.f28, hc.f30] at ha
  rw [hc.f28, hc.f30, hc.ex] at h6
  have hnb := nonB_of (h := h) ⟨o3.1, o3.2⟩ d1 d2
  rw [hnb] at hb
  refine ⟨ad, db, h.extra.length + h.comment.length, m0, m1, mp, ?_, ha, by show h.extra.length ≤ _; omega, by omega, h3, h4.lt, h5, h6, h7⟩
  rw [Int.toNat_of_nonneg o1.1, Int.toNat_of_nonneg o2.1, Int.toNat_of_nonneg o3.1, Int.toNat_of_nonneg o4.1, Int.toNat_of_nonneg o5.1, Int.toNat_of_nonneg o6.1, Int.toNat_of_nonneg o7, Int.toNat_of_nonneg o9, Int.toNat_of_nonneg o11, Int.toNat_of_nonneg o13, ← Int.natCast_add] at hb
  exact hb
end Go.Proofs.YtcodhjoiikdhmaaGreatDoor

/- impl.header, impl.Read of an archive. -/
namespace Go.Proofs.YtcodhjoiikdhmaaGreatDoor
open Go Go.RowKit
open Zp
theorem Blk.setCells {g : Nat} {t : TypeId} : ∀ (vs : List Value) (w : World) (o : Nat) (cs : Array Value), Blk w g t cs → o + vs.length ≤ cs.size → Blk (w.setCells g o vs) g t (cs.toList.take o ++ vs ++ cs.toList.drop (o + vs.length)).toArray
  | [], w, o, cs, h, _ => by
    simp only [List.append_nil, List.length_nil, Nat.add_zero, List.take_append_drop]
    exact h
  | v :: r, w, o, cs, h, hl => by
    rw [List.length_cons] at hl
    have := Blk.setCells r (w.setCell ⟨g, o, none⟩ v) (o + 1) (cs.setIfInBounds o v) (h.set_ o v) (by simp; omega)
    have e : (cs.setIfInBounds o v).toList.take (o + 1) ++ r ++ (cs.setIfInBounds o v).toList.drop (o + 1 + r.length) = cs.toList.take o ++ v :: r ++ cs.toList.drop (o + (v :: r).length) := by
      have hol : o < cs.toList.length := by simp; omega
      rw [Array.toList_setIfInBounds, List.take_add_one, List.take_set_of_le (Nat.le_refl o), List.getElem?_set_self hol, List.drop_set_of_lt (by omega), List.length_cons, show o + (r.length + 1) = o + 1 + r.length by omega]
      simp
    rw [e] at this
    exact this
theorem Fr.setCells {S : List Nat} {w : World} {g : Nat} (hg : g ∈ S ∨ w.heap.size ≤ g) : ∀ (vs : List Value) (w1 : World) (o : Nat), Fr S w w1 → Fr S w (w1.setCells g o vs)
  | [], _, _, h => h
  | v :: r, w1, o, h => Fr.setCells hg r (w1.setCell ⟨g, o, none⟩ v) (o + 1) (h.setCell hg v)
theorem infoHdS : (Tryz.prog.info? 26).map (fun i => i.size) = some 14 := by kernel_rfl
set_option maxRecDepth 100000 in
set_option maxHeartbeats 4000000 in
theorem headerC (h : Hd) (hok : HdOk h) (U f P z r : Nat) (w : World) (hF : FileH w U f h P z r) :
    Calls Tryz.prog 42 #[.pointer (some ⟨f, 0, none⟩)] w fun e w' => e = .returned (.agg #[.string (bs h.name), .string (bs h.comment), .string (bs h.extra), .bool h.non, .int .i64 h.creator, .int .i64 h.reader, .int .i64 h.flags, .int .i64 h.method, .int .i64 h.time, .int .i64 h.date, .int .i64 h.crc, .int .i64 h.packed, .int .i64 h.size, .int .i64 h.ext]) ∧ Fr [] w w' := by
  obtain ⟨⟨b1, b2⟩, ⟨b3, b4⟩, ⟨b5, b6⟩, ⟨b7, b8⟩, ⟨b9, b10⟩, ⟨b11, b12⟩, ⟨b13, b14⟩, ⟨b15, b16⟩, ⟨b17, b18⟩, ⟨b19, b20⟩, -⟩ := hok
  obtain ⟨ad, db, cap, m0, m1, mp, hb, ha, hcap, hcap2, hU, hdb, hne, hrd, hUf⟩ := hF
  obtain ⟨wa, hwa⟩ : ∃ wa, w.alloc (.cells #[.string ⟨#[]⟩, .string ⟨#[]⟩, .string ⟨#[]⟩, .bool false, .int .i64 0, .int .i64 0, .int .i64 0, .int .i64 0, .int .i64 0, .int .i64 0, .int .i64 0, .int .i64 0, .int .i64 0, .int .i64 0] 26) = wa := ⟨_, rfl⟩
  have hfa : Fr [] w wa := by rw [← hwa]; exact (Fr.refl _ _).alloc _
  have hza : Blk wa w.heap.size 26 #[.string ⟨#[]⟩, .string ⟨#[]⟩, .string ⟨#[]⟩, .bool false, .int .i64 0, .int .i64 0, .int .i64 0, .int .i64 0, .int .i64 0, .int .i64 0, .int .i64 0, .int .i64 0, .int .i64 0, .int .i64 0] := by rw [← hwa]; exact Blk.new _ _ _
  have hba := hb.fr hfa (by simp)
  have hcv : (convert 66 9 (.slice (some ad) h.extra.length cap)).run Tryz.prog wa = .ok (.string (bs h.extra)) wa := conv_b _ ad db h.name.length h.extra.length cap h.extra rfl ha (hrd.fr hfa hdb (by simp))
  have hcv2 : (convert 66 9 (.slice (some ad) h.extra.length cap)).run Tryz.prog wa.drew = .ok (.string (bs h.extra)) wa.drew := conv_b _ ad db h.name.length h.extra.length cap h.extra rfl ha ((hrd.fr hfa hdb (by simp)).drew)
  have c0 : wa.cell? ⟨f, 0, none⟩ = some (.string (bs h.name)) := hba.at_ 0 _ rfl
  have c1 : wa.cell? ⟨f, 1, none⟩ = some (.string (bs h.comment)) := hba.at_ 1 _ rfl
  have c2 : wa.cell? ⟨f, 2, none⟩ = some (.bool h.non) := hba.at_ 2 _ rfl
  have c3 : wa.cell? ⟨f, 3, none⟩ = some (.int .u16 h.creator) := hba.at_ 3 _ rfl
  have c4 : wa.cell? ⟨f, 4, none⟩ = some (.int .u16 h.reader) := hba.at_ 4 _ rfl
  have c5 : wa.cell? ⟨f, 5, none⟩ = some (.int .u16 h.flags) := hba.at_ 5 _ rfl
  have c6 : wa.cell? ⟨f, 6, none⟩ = some (.int .u16 h.method) := hba.at_ 6 _ rfl
  have c10 : wa.cell? ⟨f, 10, none⟩ = some (.int .u16 h.time) := hba.at_ 10 _ rfl
  have c11 : wa.cell? ⟨f, 11, none⟩ = some (.int .u16 h.date) := hba.at_ 11 _ rfl
  have c12 : wa.cell? ⟨f, 12, none⟩ = some (.int .u32 h.crc) := hba.at_ 12 _ rfl
  have c15 : wa.cell? ⟨f, 15, none⟩ = some (.int .u64 h.packed) := hba.at_ 15 _ rfl
  have c16 : wa.cell? ⟨f, 16, none⟩ = some (.int .u64 h.size) := hba.at_ 16 _ rfl
  have c17 : wa.cell? ⟨f, 17, none⟩ = some (.slice (some ad) h.extra.length cap) := hba.at_ 17 _ rfl
  have c18 : wa.cell? ⟨f, 18, none⟩ = some (.int .u32 h.ext) := hba.at_ 18 _ rfl
  have i_creator : IntKind.i64.wrap h.creator = h.creator := IntWalk.i64_in _ (by omega)
  have i_reader : IntKind.i64.wrap h.reader = h.reader := IntWalk.i64_in _ (by omega)
  have i_flags : IntKind.i64.wrap h.flags = h.flags := IntWalk.i64_in _ (by omega)
  have i_method : IntKind.i64.wrap h.method = h.method := IntWalk.i64_in _ (by omega)
  have i_time : IntKind.i64.wrap h.time = h.time := IntWalk.i64_in _ (by omega)
  have i_date : IntKind.i64.wrap h.date = h.date := IntWalk.i64_in _ (by omega)
  have i_crc : IntKind.i64.wrap h.crc = h.crc := IntWalk.i64_in _ (by omega)
  have i_packed : IntKind.i64.wrap h.packed = h.packed := IntWalk.i64_in _ (by omega)
  have i_size : IntKind.i64.wrap h.size = h.size := IntWalk.i64_in _ (by omega)
  have i_ext : IntKind.i64.wrap h.ext = h.ext := IntWalk.i64_in _ (by omega)
  clear b1 b2 b3 b4 b5 b6 b7 b8 b9 b10 b11 b12 b13 b14 b15 b16 b17 b18 b19 b20
  have HZA := Lib.hid hza
  have HFA := Lib.hid hfa
  clear hb ha hrd hza hfa hba
  go_enter Tryz.func42, Tryz.ntmps42
  go_wp2_with fail
  try rw [hwa]
  clear hwa
  simp only [List.append_eq, List.cons_append, List.nil_append]
  go_still_tail 68, (by kernel_rfl)
  change wpList _ _ _ _ _ wa.drew
  have hth : wa.drew.there w.heap.size 0 14 := fun j hj => ⟨by rw [Nat.zero_add, HZA.out.drew.cell]; simp; exact hj, HZA.out.drew.frozen _⟩
  refine wpList_store_mid (by rfl) 26 (.tmp 2) (.tmp 70) (by rfl) w.heap.size 0 (hdL h).toArray (by kernel_rfl) (by kernel_rfl) hth infoHdS (all_oneCell_toArray (ones_hd h)) ?_
  have hb1 := Blk.setCells (hdL h).toArray.toList wa.drew 0 _ HZA.out.drew (by show 0 + 14 ≤ 14; omega)
  rw [show (#[Value.string ⟨#[]⟩, .string ⟨#[]⟩, .string ⟨#[]⟩, .bool false, .int .i64 0, .int .i64 0, .int .i64 0, .int .i64 0, .int .i64 0, .int .i64 0, .int .i64 0, .int .i64 0, .int .i64 0, .int .i64 0].toList.take 0 ++ (hdL h).toArray.toList ++ #[Value.string ⟨#[]⟩, .string ⟨#[]⟩, .string ⟨#[]⟩, .bool false, .int .i64 0, .int .i64 0, .int .i64 0, .int .i64 0, .int .i64 0, .int .i64 0, .int .i64 0, .int .i64 0, .int .i64 0, .int .i64 0].toList.drop (0 + (hdL h).toArray.toList.length)).toArray = (hdL h).toArray by kernel_rfl] at hb1
  have HB' := Lib.hid hb1
  have HF' := Lib.hid (Fr.setCells (.inr (Nat.le_refl _)) (hdL h).toArray.toList wa.drew 0 HFA.out.drew : Fr [] w (wa.drew.setCells w.heap.size 0 (hdL h).toArray.toList))
  clear hb1
  generalize wa.drew.setCells w.heap.size 0 (hdL h).toArray.toList = wz at *
  clear hth c0 c1 c2 c3 c4 c5 c6 c10 c11 c12 c15 c16 c17 c18 hcv hcv2 i_creator i_reader i_flags i_method i_time i_date i_crc i_packed i_size i_ext
  go_wp2_with fail
  refine bodyPost_ret (v := .agg (hdL h).toArray) (results_cell_row rfl _ _ _ _ _ _ _ rfl HB'.out rfl rfl infoHdS) rfl ⟨rfl, HF'.out⟩
end Go.Proofs.YtcodhjoiikdhmaaGreatDoor

/- impl.Read of an archive. -/
namespace Go.Proofs.YtcodhjoiikdhmaaGreatDoor
open Go Go.RowKit
open Zp
theorem FileH.fr {S : List Nat} {w w' : World} {U f P z r : Nat} {h : Hd} (hF : FileH w U f h P z r) (hf : Fr S w w') (hS : ∀ s ∈ S, s < U) : FileH w' U f h P z r := by
  obtain ⟨ad, db, cap, m0, m1, mp, hb, ha, hcap, hcap2, hU, hdb, hne, hrd, hUf⟩ := hF
  exact ⟨ad, db, cap, m0, m1, mp, hb.fr hf (fun hm => by have := hS _ hm; omega), ha, hcap, hcap2, hU, Nat.lt_of_lt_of_le hdb hf.size, hne, hrd.fr hf hdb (fun hm => by have := hS _ hm; omega), hUf⟩
theorem ownsRow_base {w : World} {b1 b2 : Nat} {e : TypeId} {size n : Nat} {v : Value} {xs : List Value} (h : w.ownsRow b1 e size v n xs) (hb : b2 ≤ b1) : w.ownsRow b2 e size v n xs := by
  obtain ⟨h0, h⟩ := h
  refine ⟨h0, ?_⟩
  rcases h with h | ⟨g, cap, cur, h1, h2, h3⟩
  · exact .inl h
  · exact .inr ⟨g, cap, cur, h1, Nat.le_trans hb h2, h3⟩
theorem hdOk_lh {e : Ent} (h : HdOk e.h) : HdOk (lh e) := h
/-- What Read answers of an archive of these entries. -/
def ReadP (w : World) (c : By) (l : List Ent) (x : Ending) (w' : World) : Prop := ∃ v, x = .returned (.agg #[.bool true, .string (bs c), v]) ∧ HL w' w.heap.size v (l.map lh) ∧ Fr [] w w'
/-- The loop's state. -/
def RdL (w2 : World) (og : Nat) (c : By) (l : List Ent) (k : Nat) (wr : World) : Prop :=
  ∃ v, Blk wr og 45 #[.bool true, .string (bs c), v] ∧ wr.ownsRow (og + 1) 26 14 v k (((l.take k).map lh).flatMap hdL) ∧ Fr [] w2 wr
set_option maxRecDepth 100000 in
set_option maxHeartbeats 8000000 in
theorem readOkC (E : Errs) (B0 : Nat) (w : World) (s : ByteArray) (c : By) (D F : Nat) (PS : List Nat) (B : Nat) (l : List Ent) (hW : WE E B0 w) (ha : ArcT s c PS.length D F PS B) (hl : PS.length = l.length)
    (hK : ∀ (k : Nat) (e : Ent), l[k]? = some e → HdOk e.h ∧ ∃ p P, PS[k]? = some p ∧ CentralAt s.data.toList p e.h P) :
    Calls Tryz.prog 28 #[.string s] w (ReadP w c l) := by
  obtain ⟨i0, hi0, hz0⟩ := Option.map_eq_some_iff.1 infoHd2
  simp only [Prod.mk.injEq] at hz0
  obtain ⟨hz1, hz2, hz3⟩ := hz0
  obtain ⟨z0, hz4, hz5⟩ := Option.map_eq_some_iff.1 hz1
  have HI0 := Lib.hid (And.intro hi0 (And.intro hz4 (And.intro hz2 (And.intro hz3 hz5))))
  clear hi0 hz1 hz2 hz3 hz4 hz5
  have hmany := ha.many
  have HW := Lib.hid hW
  have HA := Lib.hid ha
  have HK := Lib.hid hK
  have HL' := Lib.hid hl
  have HB0 := Lib.hid (Blk.new w 45 #[.bool false, .string ⟨#[]⟩, .slice none 0 0])
  have HF0 := Lib.hid ((Fr.refl [] w).alloc (.cells #[.bool false, .string ⟨#[]⟩, .slice none 0 0] 45))
  clear hW ha hK hl
  go_enter Tryz.func28, Tryz.ntmps28
  go_wp2_with fail
  refine (newStr _ s).mono ?_
  rintro e w1 ⟨rfl, hr1, hf1⟩
  have HF1 := Lib.hid (HF0.out.trans hf1 (by simp))
  have HB1 := Lib.hid (HB0.out.fr hf1 (by simp))
  have hq := nr_t E B0 w1 (w.alloc (.cells #[.bool false, .string ⟨#[]⟩, .slice none 0 0] 45)).heap.size s c PS.length D F PS B (HW.out.fr HF1.out (by simp)) HA.out (Nat.le_trans HW.out.eb.le HF0.out.size) hr1
  rw [World.size_alloc] at hq
  have HQ := Lib.hid hq
  clear hr1 hf1 hq
  go_wp2_with fail
  refine HQ.out.mono ?_
  rintro e w2 ⟨xe, U, d, q, gb, b, fs, pos', hxe, rfl, hI⟩
  rw [if_pos rfl]
  have hU2 := hI.low.2.2.2.2.2.2
  obtain ⟨v, hrd, hown⟩ := hI.rd
  have hlen := hI.len
  have hfiles : ∀ (k : Nat) (e : Ent), l[k]? = some e → ∃ f P, fs[k]? = some f ∧ FileH w2 U f (lh e) P w1.heap.size (w.heap.size + 1) := by
    intro k e hk
    obtain ⟨hok, p, P, hp, hc⟩ := HK.out k e hk
    have hkl : k < fs.length := by rw [hlen]; exact (List.getElem?_eq_some_iff.1 hp).1
    exact ⟨fs[k], P + B, List.getElem?_eq_getElem hkl, fileH_of (hI.files k fs[k] p (List.getElem?_eq_getElem hkl) hp) hc hok⟩
  have HFL := Lib.hid hfiles
  have HF2 := Lib.hid (HF1.out.trans (((Fr.refl [] w1).alloc (.cells rd0 78)).trans hI.fr (by simp)) (by simp))
  have hB2 := HB1.out.fr (((Fr.refl [] w1).alloc (.cells rd0 78)).trans hI.fr (by simp) : Fr [] w1 w2) (by simp)
  have HB2 := Lib.hid hB2
  have c2 := hrd.at_ 2 _ rfl
  have c1 := hrd.at_ 1 _ rfl
  have HOWN := Lib.hid hown
  have HRD := Lib.hid hrd
  obtain ⟨n, hn⟩ : ∃ n, fs.length = n := ⟨_, rfl⟩
  have hln : l.length = n := by have := HL'.out; omega
  have hvs : ∃ pa cap, v = .slice pa n cap := by
    rcases hown.2 with ⟨h1, h2⟩ | ⟨g, cap, cur, h1, _⟩
    · exact ⟨none, 0, by rw [h1]; congr 1; omega⟩
    · exact ⟨_, cap, by rw [h1, hn]⟩
  obtain ⟨pa, cap, rfl⟩ := hvs
  have hrb : w1.heap.size < w2.heap.size := hrd.lt
  have e2 : ∀ o, (w2.alloc o).cell? ⟨w1.heap.size, 1, none⟩ = some (.slice pa n cap) := fun o => (hrd.alloc o).at_ 1 _ rfl
  clear hI hown hrd hfiles hB2
  go_wp2_with fail
  have hL0 : RdL w2 w2.heap.size c l 0 (w2.alloc (.cells #[.bool true, .string (bs c), .slice none 0 0] 45)) := ⟨.slice none 0 0, Blk.new _ _ _, ⟨by simp, .inl ⟨rfl, rfl⟩⟩, (Fr.refl _ _).alloc _⟩
  have HL0 := Lib.hid hL0
  clear hL0 e2
  go_loopw [30] (fun v30 wr => ∃ k : Nat, k ≤ n ∧ v30 = .int .i64 (k : Int) ∧ RdL w2 w2.heap.size c l k wr) (fun v30 _ => n - (intOf v30).toNat)
  case atStart => exact ⟨0, by omega, rfl, HL0.out⟩
  case round =>
    obtain ⟨k, hk, rfl, vk, hbo, hown, hf⟩ := hrel
    obtain ⟨pk, ck, hvk⟩ : ∃ pk ck, vk = .slice pk k ck := by
      rcases hown.2 with ⟨h1, h2⟩ | ⟨g, cap, cur, h1, _⟩
      · exact ⟨none, 0, by rw [h1, h2]⟩
      · exact ⟨_, cap, h1⟩
    subst hvk
    have HBO := Lib.hid hbo
    have HO := Lib.hid hown
    have HF := Lib.hid hf
    by_cases hlt : k < n
    · have hkl : k < l.length := by omega
      obtain ⟨e, he⟩ : ∃ e, l[k] = e := ⟨_, rfl⟩
      have hle : l[k]? = some e := by rw [List.getElem?_eq_getElem hkl, he]
      have HT := Lib.hid (show (l.take (k + 1)).map lh = (l.take k).map lh ++ [lh e] by rw [List.take_add_one, hle]; simp)
      obtain ⟨f, P, hfk, hfh⟩ := HFL.out k e hle
      have hok := (HK.out k e hle).1
      obtain ⟨g, cap', hsl, hge, hcell, hnc, hcm⟩ := own_cell HOWN.out (k := k) (u := .pointer (some ⟨f, 0, none⟩)) (by rw [fptrs, List.getElem?_map, hfk]; rfl)
      injection hsl with q1 q2 q3
      subst q1; subst q3
      clear q2
      have hgl : g < w2.heap.size := World.block_lt_of_cell? w2 _ hcell
      have hcr := (hf.cell (p := ⟨g, k, none⟩) hgl (by simp)).trans hcell
      have i1 : (k : Int) < (n : Int) := by omega
      have HH := Lib.hid (fun (w' : World) (hw : Fr [] w2 w') => headerC (lh e) hok U f P w1.heap.size (w.heap.size + 1) w' (hfh.fr hw (by simp)))
      have s2 : wr.cell? ⟨w2.heap.size, 2, none⟩ = some (.slice pk k ck) := hbo.at_ 2 _ rfl
      have k1 : wr.drew.cell? ⟨w2.heap.size, 2, none⟩ = some (.slice pk k ck) := s2
      have k2 : Fr [] w2 wr.drew := hf.drew
      have hog : w2.heap.size < wr.heap.size := hbo.lt
      clear hbo hown hf hfh hok
      go_wp2_with fail
      go_region_law
        (first
          | (refine step_append_lies _ (by rfl) _ _ _ (by rfl) (w2.heap.size + 1) 26 i0 z0 14 136 Tryz.underlying43 HI0.out.1 HI0.out.2.1 HI0.out.2.2.1 HI0.out.2.2.2.1 HI0.out.2.2.2.2 (by omega) (.slice pk k ck) k (((l.take k).map lh).flatMap hdL) (by rfl) (ownsE_fr HO5.out ((Fr.refl [] w5).alloc (.cells (hdL (lh e)).toArray 26)) (by simp)) ⟨w5.heap.size, 0, none⟩ 1 1 (hdL (lh e)) (by rfl) (by rfl) (news_hd w5 (lh e)) (ones_hd (lh e)) (by omega) (by unfold maxLen; omega) (by omega) (by simp; omega) (w5.heap.size + 1) (by simp) ?_
             intro gg capg w6 hown6 hgrow6 hat6 hlt6
             have hne6 : (Value.slice pk k ck).ownBlock ≠ some w2.heap.size := fun h => by have := HO5.out.lt w2.heap.size h; omega
             have kkG : w6.cell? ⟨w2.heap.size, 2, none⟩ = some (.slice pk k ck) := (hgrow6.cell_far _ (by simp; omega) (Ne.symm hne6)).trans (kkA _)
             have zz : w6.frozen? ⟨w2.heap.size, 2, none⟩ = false := (hgrow6.frozen_far _ (by simp; omega) (Ne.symm hne6)).trans ((HB5.out.alloc _).frozen 2)
             have HBG := Lib.hid (show Blk w6 w2.heap.size 45 #[.bool true, .string (bs c), .slice pk k ck] from (hgrow6.block _ (by simp; omega) (Ne.symm hne6)).trans (HB5.out.alloc (.cells (hdL (lh e)).toArray 26)))
             have HO6 := Lib.hid hown6
             have HF6 := Lib.hid (show Fr [] w2 w6 from (HF5.out.alloc (.cells (hdL (lh e)).toArray 26)).trans (Fr.of_grown (S := (Value.slice pk k ck).ownBlock.toList) hgrow6 (fun g hg => .inl (by rw [hg]; simp))) (fun g hg => .inr (by have := (HO5.out.lt g (by simpa using hg)).1; omega)))
             clear hown6 hgrow6 hat6)
          | (go_simp; go_at_call 42; (with_reducible refine (HH.out _ k2).mono ?_); rintro e5 w5 ⟨rfl, hf5⟩
             have hb5 := Blk.fr (HBO.out.drew) hf5 (by simp)
             have HB5 := Lib.hid hb5
             have kk : w5.cell? ⟨w2.heap.size, 2, none⟩ = some (.slice pk k ck) := hb5.at_ 2 _ rfl
             have kkA : ∀ o, (w5.alloc o).cell? ⟨w2.heap.size, 2, none⟩ = some (.slice pk k ck) := fun o => (hb5.alloc o).at_ 2 _ rfl
             have HO5 := Lib.hid (ownsE_fr HO.out ((Fr.refl [] wr).drew.trans hf5 (by simp)) (by simp))
             have HF5 := Lib.hid (k2.trans hf5 (by simp))
             have h55 : w2.heap.size + 1 ≤ w5.heap.size := by have := hf5.size; simp at this; omega
             clear hb5 hf5))
      all_goals go_wp2_with fail
      all_goals refine ⟨⟨k + 1, by omega, by rw [Int.natCast_add]; rfl, _, HBG.out.set_ 2 _, ?_, HF6.out.setCell (.inr (Nat.le_refl _)) _⟩, by simp [intOf]; omega⟩
      all_goals rw [HT.out, List.flatMap_append, List.flatMap_singleton]
      all_goals exact ownsE_fr HO6.out ((Fr.refl [w2.heap.size] w6).setCell (p := ⟨w2.heap.size, 2, none⟩) (.inl (by simp)) _) (by simp)
    · obtain rfl : k = n := by omega
      have i1 : ¬ (k : Int) < (k : Int) := by omega
      have s0 : wr.cell? ⟨w2.heap.size, 0, none⟩ = some (.bool true) := hbo.at_ 0 _ rfl
      have s1 : wr.cell? ⟨w2.heap.size, 1, none⟩ = some (.string (bs c)) := hbo.at_ 1 _ rfl
      have s2 : wr.cell? ⟨w2.heap.size, 2, none⟩ = some (.slice pk k ck) := hbo.at_ 2 _ rfl
      have hrb0 : w.heap.size < w2.heap.size := HB2.out.lt
      have hB3 := HB2.out.fr hf (by simp)
      have r0 := hB3.at_ 0 _ rfl
      have r1 := hB3.at_ 1 _ rfl
      have r2 := hB3.at_ 2 _ rfl
      have z0 := hB3.frozen 0
      have z1 := hB3.frozen 1
      have z2 := hB3.frozen 2
      have HB3 := Lib.hid hB3
      clear hbo hown hf hB3
      go_wp2_with fail
      refine bodyPost_ret (v := .agg #[.bool true, .string (bs c), .slice pk k ck]) (results_cell_row rfl _ _ _ _ _ _ _ rfl (((HB3.out.set_ 0 (.bool true)).set_ 1 (.string (bs c))).set_ 2 (.slice pk k ck)) rfl rfl readRes) rfl ⟨.slice pk k ck, rfl, ?_, ?_⟩
      · have := HO.out
        rw [List.take_of_length_le (by omega)] at this
        unfold HL
        rw [List.length_map, hln]
        exact ownsRow_base (ownsE_fr this ((((Fr.refl [w.heap.size] wr).setCell (p := ⟨w.heap.size, 0, none⟩) (.inl (by simp)) _).setCell (p := ⟨w.heap.size, 1, none⟩) (.inl (by simp)) _).setCell (p := ⟨w.heap.size, 2, none⟩) (.inl (by simp)) _) (by simp; omega)) (by omega)
      · exact (((HF2.out.trans HF.out (by simp)).setCell (p := ⟨w.heap.size, 0, none⟩) (.inr (Nat.le_refl _)) _).setCell (p := ⟨w.heap.size, 1, none⟩) (.inr (Nat.le_refl _)) _).setCell (p := ⟨w.heap.size, 2, none⟩) (.inr (Nat.le_refl _)) _
end Go.Proofs.YtcodhjoiikdhmaaGreatDoor

/- FnExactRead: an archive is read as its comment and the headers of its files. -/
namespace Go.Proofs.YtcodhjoiikdhmaaGreatDoor
open Go Go.RowKit
open Zp
theorem readGood (E : Errs) (B0 : Nat) (w : World) (l : List Ent) (c X Y : By) (hW : WE E B0 w) (hall : ∀ e ∈ l, HdOk e.h ∧ e.data.length ≤ 1048576) (h1000 : l.length ≤ 1000) (hc : c.length ≤ 65535) (he : ends (X ++ archB l c ++ Y) = 1) (hX : X.length ≤ 1048576) (hY : Y.length ≤ 1000)
    (hb : X = [] ∨ EndAt (X ++ archB l c ++ Y) (filesB l).length) : Calls Tryz.prog 28 #[.string (bs (X ++ archB l c ++ Y))] w (ReadP w c l) := by
  have hT := arcT_of hall h1000 hc he hX hY hb
  have hpl := places_length l (X.length + (filesB l).length) 0
  rw [← hpl] at hT
  refine readOkC E B0 w _ c _ _ _ _ l hW hT hpl ?_
  intro k e hk
  obtain ⟨-, hp, hat, hok⟩ := parts_gen hall h1000 hc he hX hY hb hk
  exact ⟨hok, _, _, hp, hat.cen⟩
theorem readGood0 (E : Errs) (B0 : Nat) (w : World) (l : List Ent) (c : By) (hW : WE E B0 w) (hg : GoodP l c) : Calls Tryz.prog 28 #[.string (bs (archB l c))] w (ReadP w c l) := by
  obtain ⟨hall, h1000, hc, he⟩ := hg
  have h0 : archB l c = [] ++ archB l c ++ [] := by simp
  rw [h0]
  exact readGood E B0 w l c [] [] hW hall h1000 hc (by rw [← h0]; exact he) (by simp) (by simp) (.inl rfl)
theorem flags_ok {l : List Ent} (h : ∀ e ∈ l, HdOk e.h) : ∀ e ∈ l, 0 ≤ e.h.flags ∧ e.h.flags ≤ 65535 := fun e he => (h e he).2.2.1
set_option maxRecDepth 100000 in
set_option maxHeartbeats 8000000 in
theorem exactReadLaw (E : Errs) (B0 : Nat) (w : World) (l : List Ent) (c : By) (v : Value) (hW : WE E B0 w) (hv : SV w v l) (hM : ∀ e ∈ l, EntM e ∧ HdM e.h) (hc : c.length ≤ 9223372036854775807) :
    Calls Tryz.prog 13 #[v, .string (bs c)] w fun x w' => x = .returned (.bool true) ∧ Fr [] w w' := by
  have HFIT := Lib.hid (fits1C l (fun e he => (hM e he).1) v w hv)
  have HV := Lib.hid hv
  have HW := Lib.hid hW
  have HMM := Lib.hid hM
  clear hv hW hM
  go_enter Tryz.func13, Tryz.ntmps13
  go_wp2_with fail
  refine HFIT.out.mono ?_
  rintro x w1 ⟨b, rfl, hb, hf1⟩
  have HB := Lib.hid hb
  have HF1 := Lib.hid hf1
  clear hb hf1
  cases b with
  | false =>
    go_wp2_with fail
    go_ret
    exact ⟨rfl, HF1.out⟩
  | true =>
    by_cases hcc : c.length ≤ 2147483647
    case neg =>
      have i1 : 2147483647 < (c.length : Int) := by omega
      go_wp2_with fail
      go_ret
      exact ⟨rfl, HF1.out⟩
    have i1 : ¬ 2147483647 < (c.length : Int) := by omega
    have hfit := HB.out.1 (by first | rfl | trivial)
    have HI := Lib.hid (fun e (he : e ∈ l) => (HMM.out e he).2.i (hfit.2 e he))
    have hl31 := hfit.1
    clear hfit
    have hpos1 : 0 < w1.heap.size := by have := HF1.out.size; have := HW.out.h18; omega
    have HG := Lib.hid (goodC l HI.out c hcc v w1 (HV.out.fr HF1.out (by simp)) hpos1)
    go_wp2_with fail
    refine HG.out.mono ?_
    rintro x w2 ⟨b2, rfl, hb2, hf2⟩
    have HB2 := Lib.hid hb2
    have HF2 := Lib.hid (HF1.out.trans hf2 (by simp))
    clear hb2 hf2
    cases b2 with
    | false =>
      go_wp2_with fail
      go_ret
      exact ⟨rfl, HF2.out⟩
    | true =>
    have HGOOD := Lib.hid (HB2.out.1 (by first | rfl | trivial))
    clear HB2
    obtain ⟨s1, s2, e1, e2⟩ := goodArc HGOOD.out
    have h1000 := HGOOD.out.2.1
    have hok : ∀ e ∈ l, HdOk e.h := fun e he => (HGOOD.out.1 e he).1
    have HOK := Lib.hid hok
    have HAR := Lib.hid (archC l HI.out c v w2 (HV.out.fr HF2.out (by simp)) (by have := HF2.out.size; have := HW.out.h18; omega) (by omega) (by omega) (by omega) hcc)
    rw [archI_ok c hok] at HAR
    have HRG := Lib.hid (fun (w' : World) (hf : Fr [] w w') => readGood0 E B0 w' l c (HW.out.fr hf (by simp)) HGOOD.out)
    have HLI := Lib.hid (fun (w' : World) (hf : Fr [] w w') => listedC l HI.out (flags_ok HOK.out) hl31 v w' (HV.out.fr hf (by simp)))
    obtain ⟨X, hX⟩ : ∃ X, archB l c = X := ⟨_, rfl⟩
    rw [hX] at HAR HRG
    clear s1 s2 e1 e2 hok hX
    go_wp2_with fail
    refine HAR.out.mono ?_
    rintro x w3 ⟨rfl, hf3⟩
    have HF3 := Lib.hid (HF2.out.trans hf3 (by simp))
    clear hf3
    go_wp2_with fail
    refine (HRG.out _ HF3.out).mono ?_
    rintro x w4 ⟨v4, rfl, hh4, hf4⟩
    have HH4 := Lib.hid hh4
    have HF4 := Lib.hid (HF3.out.trans hf4 (by simp))
    clear hh4 hf4
    go_wp2_with fail
    refine (HLI.out _ HF4.out).mono ?_
    rintro x w5 ⟨v5, rfl, hh5, hf5⟩
    have HSA := Lib.hid (sameC (bs c) _ _ v4 v5 (l.map lh) w5 (HH4.out.fr hf5 (by simp)) hh5 (by rw [List.length_map]; exact hl31))
    have HF5 := Lib.hid (HF4.out.trans hf5 (by simp))
    clear hh5 hf5
    go_wp2_with fail
    refine HSA.out.mono ?_
    rintro x w6 ⟨rfl, hf6⟩
    have HF6 := Lib.hid (HF5.out.trans hf6 (by simp))
    have HRD := Lib.hid (readsC E B0 w6 (HW.out.fr HF6.out (by simp)))
    clear hf6
    go_wp2_with fail
    refine HRD.out.mono ?_
    rintro x w7 ⟨rfl, hf7⟩
    go_wp2_with fail
    go_ret
    exact ⟨rfl, HF6.out.trans hf7 (by simp)⟩
end Go.Proofs.YtcodhjoiikdhmaaGreatDoor

/- FnBehind: what stands behind an archive is not looked at. -/
namespace Go.Proofs.YtcodhjoiikdhmaaGreatDoor
open Go Go.RowKit
namespace Zp
def bulkE (e : Ent) : Nat := e.h.name.length + e.h.comment.length + e.h.extra.length + e.data.length
def bulkL : List Ent → Nat
  | [] => 0
  | e :: l => bulkE e + bulkL l
theorem filesI_bulk : ∀ l : List Ent, (filesI l).length ≤ 30 * l.length + bulkL l
  | [] => by simp [filesI]
  | e :: l => by
    have := filesI_bulk l
    simp only [filesI, List.length_append, localI_length, List.length_cons, bulkL, bulkE]
    omega
theorem dirI_bulk : ∀ (l : List Ent) (pos : Nat), (dirI pos l).length ≤ 46 * l.length + bulkL l
  | [], _ => by simp [dirI]
  | e :: l, pos => by
    have := dirI_bulk l (pos + (localI e.h ++ e.data).length)
    simp only [dirI, List.length_append, centralI_length, List.length_cons, bulkL, bulkE] at this ⊢
    omega
theorem bulk_stored : ∀ l : List Ent, bulkL (l.map storedE) = bulkL l
  | [] => rfl
  | e :: l => by
    have := bulk_stored l
    simp only [List.map_cons, bulkL, this]
    rfl
end Zp
open Zp
set_option maxRecDepth 100000 in
set_option maxHeartbeats 8000000 in
theorem behindLaw (E : Errs) (B0 : Nat) (w : World) (l : List Ent) (c m : By) (v : Value) (hW : WE E B0 w) (hv : SV w v l) (hM : ∀ e ∈ l, EntM e ∧ HdM e.h) (hc : c.length ≤ 9223372036854775807) (hm : m.length ≤ 9223372036854775807) (hbk : l.length ≤ 1048576 ∧ bulkL l ≤ 1048576) :
    Calls Tryz.prog 10 #[v, .string (bs c), .string (bs m)] w fun x w' => x = .returned (.bool true) ∧ Fr [] w w' := by
  have HFIT := Lib.hid (fits1C l (fun e he => (hM e he).1) v w hv)
  have HV := Lib.hid hv
  have HW := Lib.hid hW
  have HMM := Lib.hid hM
  have hb1 := filesI_bulk l
  have hb2 := dirI_bulk l 0
  have HB1 := Lib.hid hb1
  have HB2 := Lib.hid hb2
  have HBK := Lib.hid hbk
  clear hv hW hM hb1 hb2 hbk
  go_enter Tryz.func10, Tryz.ntmps10
  go_wp2_with fail
  refine HFIT.out.mono ?_
  rintro x w1 ⟨b, rfl, hb, hf1⟩
  have HB := Lib.hid hb
  have HF1 := Lib.hid hf1
  clear hb hf1
  cases b with
  | false =>
    go_wp2_with fail
    go_ret
    exact ⟨rfl, HF1.out⟩
  | true =>
    by_cases hcc : c.length ≤ 2147483647
    case neg =>
      have i1 : 2147483647 < (c.length : Int) := by omega
      go_wp2_with fail
      go_ret
      exact ⟨rfl, HF1.out⟩
    have i1 : ¬ 2147483647 < (c.length : Int) := by omega
    by_cases hmm : m.length ≤ 2147483647
    case neg =>
      have i2 : 2147483647 < (m.length : Int) := by omega
      go_wp2_with fail
      go_ret
      exact ⟨rfl, HF1.out⟩
    have i2 : ¬ 2147483647 < (m.length : Int) := by omega
    have hfit := HB.out.1 (by first | rfl | trivial)
    have HI := Lib.hid (fun e (he : e ∈ l) => (HMM.out e he).2.i (hfit.2 e he))
    have HL31 := Lib.hid hfit.1
    clear hfit
    have HAR := Lib.hid (archC l HI.out c v w1 (HV.out.fr HF1.out (by simp)) (by have := HF1.out.size; have := HW.out.h18; omega) (by have := HBK.out; omega) (by have := HBK.out; have := HB1.out; omega) (by have := HBK.out; have := HB2.out; omega) hcc)
    have hXl : (archI l c).length ≤ 4000000000 := by
      have := HBK.out; have := HB1.out; have := HB2.out
      rw [archI, List.length_append, List.length_append, endI_length]; omega
    obtain ⟨X, hX⟩ : ∃ X, archI l c = X := ⟨_, rfl⟩
    have HX := Lib.hid hX
    rw [hX] at HAR hXl
    clear hX
    go_wp2_with fail
    refine HAR.out.mono ?_
    rintro x w2 ⟨rfl, hf2⟩
    have HF2 := Lib.hid (HF1.out.trans hf2 (by simp))
    clear hf2
    have HG := Lib.hid (goodC l HI.out c hcc v w2 (HV.out.fr HF2.out (by simp)) (by have := HF2.out.size; have := HW.out.h18; omega))
    go_wp2_with fail
    refine HG.out.mono ?_
    rintro x w3 ⟨b2, rfl, hb2, hf3⟩
    have HB3 := Lib.hid hb2
    have HF3 := Lib.hid (HF2.out.trans hf3 (by simp))
    clear hb2 hf3
    cases b2 with
    | false =>
      go_wp2_with fail
      go_ret
      exact ⟨rfl, HF3.out⟩
    | true =>
    have HGOOD := Lib.hid (HB3.out.1 (by first | rfl | trivial))
    clear HB3
    by_cases hm1 : m.length ≤ 1000
    case neg =>
      have i3 : 1000 < (m.length : Int) := by omega
      have d3 : decide (1000 < m.length) = true := decide_eq_true (by omega)
      go_wp2_with fail
      go_ret
      exact ⟨rfl, HF3.out⟩
    have i3 : ¬ 1000 < (m.length : Int) := by omega
    have d3 : decide (1000 < m.length) = false := decide_eq_false (by omega)
    have HXA := Lib.hid (show archB l c = X by rw [← archI_ok c (fun e he => (HGOOD.out.1 e he).1)]; exact HX.out)
    have q1 : ¬ 9223372036854775807 < X.length + m.length := by omega
    go_wp2_with fail
    rw [bs_append]
    refine (endsC (bs (X ++ m)) w3 (by rw [bs_size, List.length_append]; omega)).mono ?_
    rintro x w4 ⟨rfl, rfl⟩
    by_cases h1 : ends (X ++ m) = 1
    case neg =>
      obtain ⟨z, hz⟩ : ∃ z : Nat, ends (bs (X ++ m)).data.toList = z := ⟨_, rfl⟩
      have hz1 : ¬ (z : Int) = 1 := by rw [bs_list] at hz; omega
      have hz2 : ((z : Int) != 1) = true := by simp; omega
      rw [hz]
      clear hz
      go_wp2_with fail
      all_goals go_ret
      all_goals exact ⟨rfl, HF3.out⟩
    have h1' : ((ends (bs (X ++ m)).data.toList : Nat) : Int) = 1 := by rw [bs_list, h1]; rfl
    rw [h1']
    clear h1'
    have h0 : [] ++ archB l c ++ m = X ++ m := by rw [HXA.out]; simp
    have HRG := Lib.hid (readGood E B0 w4 l c [] m (HW.out.fr HF3.out (by simp)) HGOOD.out.1 HGOOD.out.2.1 HGOOD.out.2.2.1 (by rw [h0]; exact h1) (by simp) hm1 (.inl rfl))
    rw [h0] at HRG
    have HLI := Lib.hid (fun (w' : World) (hf : Fr [] w w') => listedC l HI.out (flags_ok fun e he => (HGOOD.out.1 e he).1) HL31.out v w' (HV.out.fr hf (by simp)))
    have HLL := Lib.hid (show (l.map lh).length ≤ 2147483647 by rw [List.length_map]; exact HL31.out)
    clear h0 h1
    go_wp2_with fail
    rw [bs_append]
    refine HRG.out.mono ?_
    rintro x w5 ⟨v4, rfl, hh4, hf4⟩
    have HH4 := Lib.hid hh4
    have HF4 := Lib.hid (HF3.out.trans hf4 (by simp))
    clear hh4 hf4
    go_wp2_with fail
    refine (HLI.out _ HF4.out).mono ?_
    rintro x w6 ⟨v5, rfl, hh5, hf5⟩
    have HSA := Lib.hid (sameC (bs c) _ _ v4 v5 (l.map lh) w6 (HH4.out.fr hf5 (by simp)) hh5 HLL.out)
    have HF5 := Lib.hid (HF4.out.trans hf5 (by simp))
    clear hh5 hf5
    go_wp2_with fail
    refine HSA.out.mono ?_
    rintro x w7 ⟨rfl, hf6⟩
    have HF6 := Lib.hid (HF5.out.trans hf6 (by simp))
    have HRD := Lib.hid (readsC E B0 w7 (HW.out.fr HF6.out (by simp)))
    clear hf6
    go_wp2_with fail
    refine HRD.out.mono ?_
    rintro x w8 ⟨rfl, hf7⟩
    go_wp2_with fail
    go_ret
    exact ⟨rfl, HF6.out.trans hf7 (by simp)⟩
end Go.Proofs.YtcodhjoiikdhmaaGreatDoor

/- A slice of entries that came in, opened, with what it holds together. -/
namespace Go.Proofs.YtcodhjoiikdhmaaGreatDoor
open Go Go.RowKit Go.ChangeShapes Go.WideShapes
open Zp
theorem bulk_one {H : Type} (d : DataW H) : 1 ≤ Rows.uptoBulk d := by
  cases d with
  | lit l => cases l <;> simp [Rows.uptoBulk]
  | nil => simp [Rows.uptoBulk]
  | ptr d => simp [Rows.uptoBulk]
  | slice elems spare => simp [Rows.uptoBulk]
  | agg parts => simp [Rows.uptoBulk]
  | iface t d => simp [Rows.uptoBulk]
  | map entries => simp [Rows.uptoBulk]
  | held h => simp [Rows.uptoBulk]
theorem bulk_part {H : Type} {d : DataW H} {l : List (DataW H)} (h : d ∈ l) : Rows.uptoBulk d ≤ Rows.uptoBulkAll l := by
  induction l with
  | nil => cases h
  | cons x r ih =>
    simp only [Rows.uptoBulkAll]
    cases List.mem_cons.1 h with
    | inl e => subst e; omega
    | inr e => have := ih e; omega
theorem bulk_len {H : Type} (l : List (DataW H)) : l.length ≤ Rows.uptoBulkAll l := by
  induction l with
  | nil => simp [Rows.uptoBulkAll]
  | cons x r ih => have := bulk_one x; simp only [Rows.uptoBulkAll, List.length_cons]; omega
theorem bulk_map {H : Type} (f : Nat → Ent) (D : Nat → DataW H) (is : List Nat) (h : ∀ i ∈ is, bulkE (f i) ≤ Rows.uptoBulk (D i)) : bulkL (is.map f) ≤ Rows.uptoBulkAll (is.map D) := by
  induction is with
  | nil => simp [bulkL]
  | cons i r ih =>
    have h1 := h i (by simp)
    have h2 := ih (fun j hj => h j (by simp [hj]))
    simp only [List.map_cons, bulkL, Rows.uptoBulkAll]
    omega
section
variable {H : Type} {enc : TypeId × Value → H} {W : World} {base : Nat} {sp : Nat → Bool} {held : Bool}
set_option maxRecDepth 100000 in
set_option maxHeartbeats 4000000 in
set_option linter.unusedSimpArgs false in
theorem open_hdB {fuel : Nat} {cs : List Value} {x : DataW H × List MemPlace} (h : DataW.trod enc Tryz.prog W base sp held fuel 26 cs = some x) :
    ∃ h : Hd, cs = hdL h ∧ HdM h ∧ h.name.length ≤ 9223372036854775807 ∧ h.comment.length ≤ 9223372036854775807 ∧ h.extra.length ≤ 9223372036854775807 ∧ h.name.length + h.comment.length + h.extra.length ≤ Rows.uptoBulk x.1 := by
  obtain ⟨xs, n, rfl, hxx, hl, hxl, hf⟩ := DataW.trod_struct Tryz.underlying26 h
  rw [cellsHd] at hl
  clear h
  match cs, hl, xs, hxl, hf, hxx with
  | [c0, c1, c2, c3, c4, c5, c6, c7, c8, c9, c10, c11, c12, c13], _, [y0, y1, y2, y3, y4, y5, y6, y7, y8, y9, y10, y11, y12, y13], _, hf, hxx =>
    have g0 := hf 0 _ rfl
    simp [cellsStr, cellsBool, cellsInt] at g0
    have g1 := hf 1 _ rfl
    simp [cellsStr, cellsBool, cellsInt] at g1
    have g2 := hf 2 _ rfl
    simp [cellsStr, cellsBool, cellsInt] at g2
    have g3 := hf 3 _ rfl
    simp [cellsStr, cellsBool, cellsInt] at g3
    have g4 := hf 4 _ rfl
    simp [cellsStr, cellsBool, cellsInt] at g4
    have g5 := hf 5 _ rfl
    simp [cellsStr, cellsBool, cellsInt] at g5
    have g6 := hf 6 _ rfl
    simp [cellsStr, cellsBool, cellsInt] at g6
    have g7 := hf 7 _ rfl
    simp [cellsStr, cellsBool, cellsInt] at g7
    have g8 := hf 8 _ rfl
    simp [cellsStr, cellsBool, cellsInt] at g8
    have g9 := hf 9 _ rfl
    simp [cellsStr, cellsBool, cellsInt] at g9
    have g10 := hf 10 _ rfl
    simp [cellsStr, cellsBool, cellsInt] at g10
    have g11 := hf 11 _ rfl
    simp [cellsStr, cellsBool, cellsInt] at g11
    have g12 := hf 12 _ rfl
    simp [cellsStr, cellsBool, cellsInt] at g12
    have g13 := hf 13 _ rfl
    simp [cellsStr, cellsBool, cellsInt] at g13
    obtain ⟨s0, e0, rfl, z0⟩ := DataW.trod_string Tryz.underlying9 g0
    obtain ⟨s1, e1, rfl, z1⟩ := DataW.trod_string Tryz.underlying9 g1
    obtain ⟨s2, e2, rfl, z2⟩ := DataW.trod_string Tryz.underlying9 g2
    obtain ⟨b3, e3, -⟩ := DataW.trod_bool Tryz.underlying4 g3
    obtain ⟨n4, e4, -, w4⟩ := DataW.trod_int Tryz.underlying3 g4
    obtain ⟨n5, e5, -, w5⟩ := DataW.trod_int Tryz.underlying3 g5
    obtain ⟨n6, e6, -, w6⟩ := DataW.trod_int Tryz.underlying3 g6
    obtain ⟨n7, e7, -, w7⟩ := DataW.trod_int Tryz.underlying3 g7
    obtain ⟨n8, e8, -, w8⟩ := DataW.trod_int Tryz.underlying3 g8
    obtain ⟨n9, e9, -, w9⟩ := DataW.trod_int Tryz.underlying3 g9
    obtain ⟨n10, e10, -, w10⟩ := DataW.trod_int Tryz.underlying3 g10
    obtain ⟨n11, e11, -, w11⟩ := DataW.trod_int Tryz.underlying3 g11
    obtain ⟨n12, e12, -, w12⟩ := DataW.trod_int Tryz.underlying3 g12
    obtain ⟨n13, e13, -, w13⟩ := DataW.trod_int Tryz.underlying3 g13
    simp only [List.cons.injEq, and_true] at e0 e1 e2 e3 e4 e5 e6 e7 e8 e9 e10 e11 e12 e13
    subst e0 e1 e2 e3 e4 e5 e6 e7 e8 e9 e10 e11 e12 e13
    have hz : ∀ s : ByteArray, s.size ≤ maxLen → s.data.toList.length ≤ 9223372036854775807 := fun s h => by
      rw [← Lib.size_eq]
      unfold maxLen at h
      omega
    refine ⟨⟨s0.data.toList, s1.data.toList, s2.data.toList, b3, n4, n5, n6, n7, n8, n9, n10, n11, n12, n13⟩, ?_, ⟨bounds_i64 w4, bounds_i64 w5, bounds_i64 w6, bounds_i64 w7, bounds_i64 w8, bounds_i64 w9, bounds_i64 w10, bounds_i64 w11, bounds_i64 w12, bounds_i64 w13⟩, hz _ z0, hz _ z1, hz _ z2, ?_⟩
    · unfold hdL
      rw [← bs_of, ← bs_of, ← bs_of]
    · rw [hxx]
      simp only [List.map_cons, List.map_nil, Rows.uptoBulk, Rows.uptoBulkAll]
      omega
set_option maxRecDepth 100000 in
set_option maxHeartbeats 4000000 in
theorem open_entB {fuel : Nat} {cs : List Value} {x : DataW H × List MemPlace} (h : DataW.trod enc Tryz.prog W base sp held fuel 28 cs = some x) :
    ∃ e : Ent, cs = entL e ∧ EntM e ∧ HdM e.h ∧ bulkE e ≤ Rows.uptoBulk x.1 := by
  obtain ⟨xs, n, rfl, hxx, hl, hxl, hf⟩ := DataW.trod_struct Tryz.underlying28 h
  rw [cellsEn] at hl
  clear h
  match cs, hl, xs, hxl, hf, hxx with
  | [c0, c1, c2, c3, c4, c5, c6, c7, c8, c9, c10, c11, c12, c13, c14], _, [y0, y1], _, hf, hxx =>
    have g0 := hf 0 _ rfl
    have g1 := hf 1 _ rfl
    simp [cellsHd] at g0
    simp [cellsStr] at g1
    obtain ⟨h, e0, e1, e2, e3, e4, e6⟩ := open_hdB g0
    obtain ⟨s, e5, rfl, z⟩ := DataW.trod_string Tryz.underlying9 g1
    have hz : s.data.toList.length ≤ 9223372036854775807 := by
      rw [← Lib.size_eq]
      unfold maxLen at z
      omega
    refine ⟨⟨h, s.data.toList⟩, ?_, ⟨e2, e3, e4, hz⟩, e1, by rw [hxx]; simp only [bulkE, List.map_cons, List.map_nil, Rows.uptoBulk, Rows.uptoBulkAll]; omega⟩
    have hs : [c0, c1, c2, c3, c4, c5, c6, c7, c8, c9, c10, c11, c12, c13, c14] = hdL h ++ [.string (bs s.data.toList)] := by
      rw [← e0, ← bs_of, ← e5]
      rfl
    rw [hs]
    rfl
theorem open_svB {fuel : Nat} {cs : List Value} {x : DataW H × List MemPlace} (h : DataW.trod enc Tryz.prog W 0 sp held fuel 22 cs = some x) :
    ∃ v l, cs = [v] ∧ SV W v l ∧ (∀ e ∈ l, EntM e ∧ HdM e.h) ∧ l.length ≤ Rows.uptoBulk x.1 ∧ bulkL l ≤ Rows.uptoBulk x.1 := by
  rcases Deep.open_slice Tryz.underlying22 h with ⟨rfl, -⟩ | ⟨a, len, cap, m, n, D, Pl, rfl, -, hl, hm, hmm, hxx, hx⟩
  · exact ⟨_, [], rfl, ⟨none, 0, rfl, Nat.le_refl _, by unfold maxLen; omega, fun h => absurd rfl h⟩, (fun e he => by cases he), Nat.zero_le _, Nat.zero_le _⟩
  · have hlm : len ≤ m := by rw [hmm]; split <;> omega
    letI : Inhabited Ent := ⟨eAB⟩
    obtain ⟨f, hf⟩ := Deep.choose_lt (α := Ent) (n := len) (p := fun i e => W.cells? 0 (a.add (i * 15)) 15 = some (entL e) ∧ (EntM e ∧ HdM e.h) ∧ bulkE e ≤ Rows.uptoBulk (D i)) (fun i hi => by
      obtain ⟨cs', h1, h2⟩ := hx i (by omega)
      rw [cellsEn] at h1
      obtain ⟨e, rfl, h3, h4, h5⟩ := open_entB h2
      exact ⟨e, h1, ⟨h3, h4⟩, h5⟩)
    refine ⟨_, (List.range len).map f, rfl, ⟨some a, cap, by simp, by simpa using hl, hm, fun hne => ?_⟩, fun e he => ?_, ?_, ?_⟩
    · have hlen : 0 < len := by
        rcases Nat.eq_zero_or_pos len with h0 | h0
        · subst h0; exact absurd rfl hne
        · exact h0
      obtain ⟨b, o, sub⟩ := a
      have hc : ∀ i, i < len → ∀ j, j < 15 → W.cell? (((⟨b, o, sub⟩ : Addr).add (i * 15)).add j) = (entL (f i))[j]? := fun i hi j hj => (World.cells?_some (hf i hi).1).2.2 j hj
      have h00 := hc 0 hlen 0 (by omega)
      rw [Deep.add_add] at h00
      have h01 : W.cell? ⟨b, o, sub⟩ = some (.string (bs (f 0).h.name)) := by simpa [Addr.add, entL] using h00
      obtain rfl : sub = none := Go.Proofs.cell_spot h01
      have hlt : b < W.heap.size := by
        rcases Nat.lt_or_ge b W.heap.size with hlt | hge
        · exact hlt
        · unfold World.cell? at h01
          simp [Array.getElem?_eq_none hge] at h01
      refine ⟨b, o, rfl, hlt, fun i e hi j v hj => ?_⟩
      have hil : i < len := by
        have := (List.getElem?_eq_some_iff.1 hi).1
        simpa using this
      have hei : e = f i := by
        rw [List.getElem?_map, List.getElem?_range hil] at hi
        simpa using hi.symm
      subst hei
      have hj15 : j < 15 := by
        have := (List.getElem?_eq_some_iff.1 hj).1
        rwa [entL_length] at this
      have := hc i hil j hj15
      rw [Deep.add_add, Addr.add_lit, ← Nat.add_assoc, hj] at this
      exact this
    · obtain ⟨i, hi, rfl⟩ := List.mem_map.1 he
      exact (hf i (by simpa using hi)).2.1
    · rw [hxx]
      have := bulk_len ((List.range len).map D)
      simp only [List.length_map, List.length_range, Rows.uptoBulk] at this ⊢
      omega
    · rw [hxx]
      have := bulk_map f D (List.range len) (fun i hi => (hf i (by simpa using hi)).2.2)
      simp only [Rows.uptoBulk]
      omega
end
end Go.Proofs.YtcodhjoiikdhmaaGreatDoor

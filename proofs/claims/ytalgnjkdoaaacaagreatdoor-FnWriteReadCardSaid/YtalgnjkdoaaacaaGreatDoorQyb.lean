/- impl.header, impl.Read of an archive. -/
import Derived.Test.YtalgnjkdoaaacaaGreatDoorQxe0
import Derived.Deep.RegionHeld3
import Derived.Deep.AppendLies
import Derived.StillTailTactics
import Derived.Deep.MidRow
set_option linter.unusedVariables false
set_option linter.unusedSimpArgs false
namespace Go.Proofs.YtalgnjkdoaaacaaGreatDoor
open Go Go.RowKit
open Zp
theorem Blk.setCells {g : Nat} {t : TypeId} : ∀ (vs : List Value) (w : World) (o : Nat) (cs : Array Value), Blk w g t cs → o + vs.length ≤ cs.size → Blk (w.setCells g o vs) g t (cs.toList.take o ++ vs ++ cs.toList.drop (o + vs.length)).toArray
  | [], w, o, cs, h, _ => by
    simp only [List.append_nil, List.length_nil, Nat.add_zero, List.take_append_drop]
    exact h
  | v :: r, w, o, cs, h, hl => by
    rw [List.length_cons] at hl
    have := Blk.setCells r (w.setCell ⟨g, o, none⟩ v) (o + 1) (cs.setIfInBounds o v) (h.set_ o v) (by simp; omega)
    have e : (cs.setIfInBounds o v).toList.take (o + 1) ++ r ++ (cs.setIfInBounds o v).toList.drop (o + 1 + r.length) = cs.toList.take o ++ v :: r ++ cs.toList.drop (o + (v :: r).length) := by
      have hol : o < cs.toList.length := by simp; omega
      rw [Array.toList_setIfInBounds, List.take_add_one, List.take_set_of_le (Nat.le_refl o), List.getElem?_set_self hol, List.drop_set_of_lt (by omega), List.length_cons, show o + (r.length + 1) = o + 1 + r.length by omega]
      simp
    rw [e] at this
    exact this
theorem Fr.setCells {S : List Nat} {w : World} {g : Nat} (hg : g ∈ S ∨ w.heap.size ≤ g) : ∀ (vs : List Value) (w1 : World) (o : Nat), Fr S w w1 → Fr S w (w1.setCells g o vs)
  | [], _, _, h => h
  | v :: r, w1, o, h => Fr.setCells hg r (w1.setCell ⟨g, o, none⟩ v) (o + 1) (h.setCell hg v)
theorem infoHdS : (Tryz.prog.info? 36).map (fun i => i.size) = some 14 := by kernel_rfl
set_option maxRecDepth 100000 in
set_option maxHeartbeats 4000000 in
theorem headerC (h : Hd) (hok : HdOk h) (U f P z r : Nat) (w : World) (hF : FileH w U f h P z r) :
    Calls Tryz.prog 34 #[.pointer (some ⟨f, 0, none⟩)] w fun e w' => e = .returned (.agg #[.string (bs h.name), .string (bs h.comment), .string (bs h.extra), .bool h.non, .int .i64 h.creator, .int .i64 h.reader, .int .i64 h.flags, .int .i64 h.method, .int .i64 h.time, .int .i64 h.date, .int .i64 h.crc, .int .i64 h.packed, .int .i64 h.size, .int .i64 h.ext]) ∧ Fr [] w w' := by
  obtain ⟨⟨b1, b2⟩, ⟨b3, b4⟩, ⟨b5, b6⟩, ⟨b7, b8⟩, ⟨b9, b10⟩, ⟨b11, b12⟩, ⟨b13, b14⟩, ⟨b15, b16⟩, ⟨b17, b18⟩, ⟨b19, b20⟩, -⟩ := hok
  obtain ⟨ad, db, cap, m0, m1, mp, hb, ha, hcap, hcap2, hU, hdb, hne, hrd, hUf⟩ := hF
  obtain ⟨wa, hwa⟩ : ∃ wa, w.alloc (.cells #[.string ⟨#[]⟩, .string ⟨#[]⟩, .string ⟨#[]⟩, .bool false, .int .i64 0, .int .i64 0, .int .i64 0, .int .i64 0, .int .i64 0, .int .i64 0, .int .i64 0, .int .i64 0, .int .i64 0, .int .i64 0] 36) = wa := ⟨_, rfl⟩
  have hfa : Fr [] w wa := by rw [← hwa]; exact (Fr.refl _ _).alloc _
  have hza : Blk wa w.heap.size 36 #[.string ⟨#[]⟩, .string ⟨#[]⟩, .string ⟨#[]⟩, .bool false, .int .i64 0, .int .i64 0, .int .i64 0, .int .i64 0, .int .i64 0, .int .i64 0, .int .i64 0, .int .i64 0, .int .i64 0, .int .i64 0] := by rw [← hwa]; exact Blk.new _ _ _
  have hba := hb.fr hfa (by simp)
  have hcv : (convert 76 9 (.slice (some ad) h.extra.length cap)).run Tryz.prog wa = .ok (.string (bs h.extra)) wa := conv_b _ ad db h.name.length h.extra.length cap h.extra rfl ha (hrd.fr hfa hdb (by simp))
  have hcv2 : (convert 76 9 (.slice (some ad) h.extra.length cap)).run Tryz.prog wa.drew = .ok (.string (bs h.extra)) wa.drew := conv_b _ ad db h.name.length h.extra.length cap h.extra rfl ha ((hrd.fr hfa hdb (by simp)).drew)
  have c0 : wa.cell? ⟨f, 0, none⟩ = some (.string (bs h.name)) := hba.at_ 0 _ rfl
  have c1 : wa.cell? ⟨f, 1, none⟩ = some (.string (bs h.comment)) := hba.at_ 1 _ rfl
  have c2 : wa.cell? ⟨f, 2, none⟩ = some (.bool h.non) := hba.at_ 2 _ rfl
  have c3 : wa.cell? ⟨f, 3, none⟩ = some (.int .u16 h.creator) := hba.at_ 3 _ rfl
  have c4 : wa.cell? ⟨f, 4, none⟩ = some (.int .u16 h.reader) := hba.at_ 4 _ rfl
  have c5 : wa.cell? ⟨f, 5, none⟩ = some (.int .u16 h.flags) := hba.at_ 5 _ rfl
  have c6 : wa.cell? ⟨f, 6, none⟩ = some (.int .u16 h.method) := hba.at_ 6 _ rfl
  have c10 : wa.cell? ⟨f, 10, none⟩ = some (.int .u16 h.time) := hba.at_ 10 _ rfl
  have c11 : wa.cell? ⟨f, 11, none⟩ = some (.int .u16 h.date) := hba.at_ 11 _ rfl
  have c12 : wa.cell? ⟨f, 12, none⟩ = some (.int .u32 h.crc) := hba.at_ 12 _ rfl
  have c15 : wa.cell? ⟨f, 15, none⟩ = some (.int .u64 h.packed) := hba.at_ 15 _ rfl
  have c16 : wa.cell? ⟨f, 16, none⟩ = some (.int .u64 h.size) := hba.at_ 16 _ rfl
  have c17 : wa.cell? ⟨f, 17, none⟩ = some (.slice (some ad) h.extra.length cap) := hba.at_ 17 _ rfl
  have c18 : wa.cell? ⟨f, 18, none⟩ = some (.int .u32 h.ext) := hba.at_ 18 _ rfl
  have i_creator : IntKind.i64.wrap h.creator = h.creator := IntWalk.i64_in _ (by omega)
  have i_reader : IntKind.i64.wrap h.reader = h.reader := IntWalk.i64_in _ (by omega)
  have i_flags : IntKind.i64.wrap h.flags = h.flags := IntWalk.i64_in _ (by omega)
  have i_method : IntKind.i64.wrap h.method = h.method := IntWalk.i64_in _ (by omega)
  have i_time : IntKind.i64.wrap h.time = h.time := IntWalk.i64_in _ (by omega)
  have i_date : IntKind.i64.wrap h.date = h.date := IntWalk.i64_in _ (by omega)
  have i_crc : IntKind.i64.wrap h.crc = h.crc := IntWalk.i64_in _ (by omega)
  have i_packed : IntKind.i64.wrap h.packed = h.packed := IntWalk.i64_in _ (by omega)
  have i_size : IntKind.i64.wrap h.size = h.size := IntWalk.i64_in _ (by omega)
  have i_ext : IntKind.i64.wrap h.ext = h.ext := IntWalk.i64_in _ (by omega)
  clear b1 b2 b3 b4 b5 b6 b7 b8 b9 b10 b11 b12 b13 b14 b15 b16 b17 b18 b19 b20
  have HZA := Lib.hid hza
  have HFA := Lib.hid hfa
  clear hb ha hrd hza hfa hba
  go_enter Tryz.func34, Tryz.ntmps34
  go_wp2_with fail
  try rw [hwa]
  clear hwa
  simp only [List.append_eq, List.cons_append, List.nil_append]
  go_still_tail 68, (by kernel_rfl)
  change wpList _ _ _ _ _ wa.drew
  have hth : wa.drew.there w.heap.size 0 14 := fun j hj => ⟨by rw [Nat.zero_add, HZA.out.drew.cell]; simp; exact hj, HZA.out.drew.frozen _⟩
  refine wpList_store_mid (by rfl) 36 (.tmp 2) (.tmp 70) (by rfl) w.heap.size 0 (hdL h).toArray (by kernel_rfl) (by kernel_rfl) hth infoHdS (all_oneCell_toArray (ones_hd h)) ?_
  have hb1 := Blk.setCells (hdL h).toArray.toList wa.drew 0 _ HZA.out.drew (by show 0 + 14 ≤ 14; omega)
  rw [show (#[Value.string ⟨#[]⟩, .string ⟨#[]⟩, .string ⟨#[]⟩, .bool false, .int .i64 0, .int .i64 0, .int .i64 0, .int .i64 0, .int .i64 0, .int .i64 0, .int .i64 0, .int .i64 0, .int .i64 0, .int .i64 0].toList.take 0 ++ (hdL h).toArray.toList ++ #[Value.string ⟨#[]⟩, .string ⟨#[]⟩, .string ⟨#[]⟩, .bool false, .int .i64 0, .int .i64 0, .int .i64 0, .int .i64 0, .int .i64 0, .int .i64 0, .int .i64 0, .int .i64 0, .int .i64 0, .int .i64 0].toList.drop (0 + (hdL h).toArray.toList.length)).toArray = (hdL h).toArray by kernel_rfl] at hb1
  have HB' := Lib.hid hb1
  have HF' := Lib.hid (Fr.setCells (.inr (Nat.le_refl _)) (hdL h).toArray.toList wa.drew 0 HFA.out.drew : Fr [] w (wa.drew.setCells w.heap.size 0 (hdL h).toArray.toList))
  clear hb1
  generalize wa.drew.setCells w.heap.size 0 (hdL h).toArray.toList = wz at *
  clear hth c0 c1 c2 c3 c4 c5 c6 c10 c11 c12 c15 c16 c17 c18 hcv hcv2 i_creator i_reader i_flags i_method i_time i_date i_crc i_packed i_size i_ext
  go_wp2_with fail
  refine bodyPost_ret (v := .agg (hdL h).toArray) (results_cell_row rfl _ _ _ _ _ _ _ rfl HB'.out rfl rfl infoHdS) rfl ⟨rfl, HF'.out⟩
end Go.Proofs.YtalgnjkdoaaacaaGreatDoor

/- impl.Read of an archive. -/
namespace Go.Proofs.YtalgnjkdoaaacaaGreatDoor
open Go Go.RowKit
open Zp
theorem FileH.fr {S : List Nat} {w w' : World} {U f P z r : Nat} {h : Hd} (hF : FileH w U f h P z r) (hf : Fr S w w') (hS : ∀ s ∈ S, s < U) : FileH w' U f h P z r := by
  obtain ⟨ad, db, cap, m0, m1, mp, hb, ha, hcap, hcap2, hU, hdb, hne, hrd, hUf⟩ := hF
  exact ⟨ad, db, cap, m0, m1, mp, hb.fr hf (fun hm => by have := hS _ hm; omega), ha, hcap, hcap2, hU, Nat.lt_of_lt_of_le hdb hf.size, hne, hrd.fr hf hdb (fun hm => by have := hS _ hm; omega), hUf⟩
theorem ownsRow_base {w : World} {b1 b2 : Nat} {e : TypeId} {size n : Nat} {v : Value} {xs : List Value} (h : w.ownsRow b1 e size v n xs) (hb : b2 ≤ b1) : w.ownsRow b2 e size v n xs := by
  obtain ⟨h0, h⟩ := h
  refine ⟨h0, ?_⟩
  rcases h with h | ⟨g, cap, cur, h1, h2, h3⟩
  · exact .inl h
  · exact .inr ⟨g, cap, cur, h1, Nat.le_trans hb h2, h3⟩
theorem hdOk_lh {e : Ent} (h : HdOk e.h) : HdOk (lh e) := h
/-- What Read answers of an archive of these entries. -/
def ReadP (w : World) (c : By) (l : List Ent) (x : Ending) (w' : World) : Prop := ∃ v, x = .returned (.agg #[.bool true, .string (bs c), v]) ∧ HL w' w.heap.size v (l.map lh) ∧ Fr [] w w'
/-- The loop's state. -/
def RdL (w2 : World) (og : Nat) (c : By) (l : List Ent) (k : Nat) (wr : World) : Prop :=
  ∃ v, Blk wr og 28 #[.bool true, .string (bs c), v] ∧ wr.ownsRow (og + 1) 36 14 v k (((l.take k).map lh).flatMap hdL) ∧ Fr [] w2 wr
set_option maxRecDepth 100000 in
set_option maxHeartbeats 8000000 in
theorem readOkC (E : Errs) (B0 : Nat) (w : World) (s : ByteArray) (c : By) (D F : Nat) (PS : List Nat) (B : Nat) (l : List Ent) (hW : WE E B0 w) (ha : ArcT s c PS.length D F PS B) (hl : PS.length = l.length)
    (hK : ∀ (k : Nat) (e : Ent), l[k]? = some e → HdOk e.h ∧ ∃ p P, PS[k]? = some p ∧ CentralAt s.data.toList p e.h P) :
    Calls Tryz.prog 13 #[.string s] w (ReadP w c l) := by
  obtain ⟨i0, hi0, hz0⟩ := Option.map_eq_some_iff.1 infoHd2
  simp only [Prod.mk.injEq] at hz0
  obtain ⟨hz1, hz2, hz3⟩ := hz0
  obtain ⟨z0, hz4, hz5⟩ := Option.map_eq_some_iff.1 hz1
  have HI0 := Lib.hid (And.intro hi0 (And.intro hz4 (And.intro hz2 (And.intro hz3 hz5))))
  clear hi0 hz1 hz2 hz3 hz4 hz5
  have hmany := ha.many
  have HW := Lib.hid hW
  have HA := Lib.hid ha
  have HK := Lib.hid hK
  have HL' := Lib.hid hl
  have HB0 := Lib.hid (Blk.new w 28 #[.bool false, .string ⟨#[]⟩, .slice none 0 0])
  have HF0 := Lib.hid ((Fr.refl [] w).alloc (.cells #[.bool false, .string ⟨#[]⟩, .slice none 0 0] 28))
  clear hW ha hK hl
  go_enter Tryz.func13, Tryz.ntmps13
  go_wp2_with fail
  refine (newStr _ s).mono ?_
  rintro e w1 ⟨rfl, hr1, hf1⟩
  have HF1 := Lib.hid (HF0.out.trans hf1 (by simp))
  have HB1 := Lib.hid (HB0.out.fr hf1 (by simp))
  have hq := nr_t E B0 w1 (w.alloc (.cells #[.bool false, .string ⟨#[]⟩, .slice none 0 0] 28)).heap.size s c PS.length D F PS B (HW.out.fr HF1.out (by simp)) HA.out (Nat.le_trans HW.out.eb.le HF0.out.size) hr1
  rw [World.size_alloc] at hq
  have HQ := Lib.hid hq
  clear hr1 hf1 hq
  go_wp2_with fail
  refine HQ.out.mono ?_
  rintro e w2 ⟨xe, U, d, q, gb, b, fs, pos', hxe, rfl, hI⟩
  rw [if_pos rfl]
  have hU2 := hI.low.2.2.2.2.2.2
  obtain ⟨v, hrd, hown⟩ := hI.rd
  have hlen := hI.len
  have hfiles : ∀ (k : Nat) (e : Ent), l[k]? = some e → ∃ f P, fs[k]? = some f ∧ FileH w2 U f (lh e) P w1.heap.size (w.heap.size + 1) := by
    intro k e hk
    obtain ⟨hok, p, P, hp, hc⟩ := HK.out k e hk
    have hkl : k < fs.length := by rw [hlen]; exact (List.getElem?_eq_some_iff.1 hp).1
    exact ⟨fs[k], P + B, List.getElem?_eq_getElem hkl, fileH_of (hI.files k fs[k] p (List.getElem?_eq_getElem hkl) hp) hc hok⟩
  have HFL := Lib.hid hfiles
  have HF2 := Lib.hid (HF1.out.trans (((Fr.refl [] w1).alloc (.cells rd0 66)).trans hI.fr (by simp)) (by simp))
  have hB2 := HB1.out.fr (((Fr.refl [] w1).alloc (.cells rd0 66)).trans hI.fr (by simp) : Fr [] w1 w2) (by simp)
  have HB2 := Lib.hid hB2
  have c2 := hrd.at_ 2 _ rfl
  have c1 := hrd.at_ 1 _ rfl
  have HOWN := Lib.hid hown
  have HRD := Lib.hid hrd
  obtain ⟨n, hn⟩ : ∃ n, fs.length = n := ⟨_, rfl⟩
  have hln : l.length = n := by have := HL'.out; omega
  have hvs : ∃ pa cap, v = .slice pa n cap := by
    rcases hown.2 with ⟨h1, h2⟩ | ⟨g, cap, cur, h1, _⟩
    · exact ⟨none, 0, by rw [h1]; congr 1; omega⟩
    · exact ⟨_, cap, by rw [h1, hn]⟩
  obtain ⟨pa, cap, rfl⟩ := hvs
  have hrb : w1.heap.size < w2.heap.size := hrd.lt
  have e2 : ∀ o, (w2.alloc o).cell? ⟨w1.heap.size, 1, none⟩ = some (.slice pa n cap) := fun o => (hrd.alloc o).at_ 1 _ rfl
  clear hI hown hrd hfiles hB2
  go_wp2_with fail
  have hL0 : RdL w2 w2.heap.size c l 0 (w2.alloc (.cells #[.bool true, .string (bs c), .slice none 0 0] 28)) := ⟨.slice none 0 0, Blk.new _ _ _, ⟨by simp, .inl ⟨rfl, rfl⟩⟩, (Fr.refl _ _).alloc _⟩
  have HL0 := Lib.hid hL0
  clear hL0 e2
  go_loopw [30] (fun v30 wr => ∃ k : Nat, k ≤ n ∧ v30 = .int .i64 (k : Int) ∧ RdL w2 w2.heap.size c l k wr) (fun v30 _ => n - (intOf v30).toNat)
  case atStart => exact ⟨0, by omega, rfl, HL0.out⟩
  case round =>
    obtain ⟨k, hk, rfl, vk, hbo, hown, hf⟩ := hrel
    obtain ⟨pk, ck, hvk⟩ : ∃ pk ck, vk = .slice pk k ck := by
      rcases hown.2 with ⟨h1, h2⟩ | ⟨g, cap, cur, h1, _⟩
      · exact ⟨none, 0, by rw [h1, h2]⟩
      · exact ⟨_, cap, h1⟩
    subst hvk
    have HBO := Lib.hid hbo
    have HO := Lib.hid hown
    have HF := Lib.hid hf
    by_cases hlt : k < n
    · have hkl : k < l.length := by omega
      obtain ⟨e, he⟩ : ∃ e, l[k] = e := ⟨_, rfl⟩
      have hle : l[k]? = some e := by rw [List.getElem?_eq_getElem hkl, he]
      have HT := Lib.hid (show (l.take (k + 1)).map lh = (l.take k).map lh ++ [lh e] by rw [List.take_add_one, hle]; simp)
      obtain ⟨f, P, hfk, hfh⟩ := HFL.out k e hle
      have hok := (HK.out k e hle).1
      obtain ⟨g, cap', hsl, hge, hcell, hnc, hcm⟩ := own_cell HOWN.out (k := k) (u := .pointer (some ⟨f, 0, none⟩)) (by rw [fptrs, List.getElem?_map, hfk]; rfl)
      injection hsl with q1 q2 q3
      subst q1; subst q3
      clear q2
      have hgl : g < w2.heap.size := World.block_lt_of_cell? w2 _ hcell
      have hcr := (hf.cell (p := ⟨g, k, none⟩) hgl (by simp)).trans hcell
      have i1 : (k : Int) < (n : Int) := by omega
      have HH := Lib.hid (fun (w' : World) (hw : Fr [] w2 w') => headerC (lh e) hok U f P w1.heap.size (w.heap.size + 1) w' (hfh.fr hw (by simp)))
      have s2 : wr.cell? ⟨w2.heap.size, 2, none⟩ = some (.slice pk k ck) := hbo.at_ 2 _ rfl
      have k1 : wr.drew.cell? ⟨w2.heap.size, 2, none⟩ = some (.slice pk k ck) := s2
      have k2 : Fr [] w2 wr.drew := hf.drew
      have hog : w2.heap.size < wr.heap.size := hbo.lt
      clear hbo hown hf hfh hok
      go_wp2_with fail
      go_region_law
        (first
          | (refine step_append_lies _ (by rfl) _ _ _ (by rfl) (w2.heap.size + 1) 36 i0 z0 14 136 Tryz.underlying26 HI0.out.1 HI0.out.2.1 HI0.out.2.2.1 HI0.out.2.2.2.1 HI0.out.2.2.2.2 (by omega) (.slice pk k ck) k (((l.take k).map lh).flatMap hdL) (by rfl) (ownsE_fr HO5.out ((Fr.refl [] w5).alloc (.cells (hdL (lh e)).toArray 36)) (by simp)) ⟨w5.heap.size, 0, none⟩ 1 1 (hdL (lh e)) (by rfl) (by rfl) (news_hd w5 (lh e)) (ones_hd (lh e)) (by omega) (by unfold maxLen; omega) (by omega) (by simp; omega) (w5.heap.size + 1) (by simp) ?_
             intro gg capg w6 hown6 hgrow6 hat6 hlt6
             have hne6 : (Value.slice pk k ck).ownBlock ≠ some w2.heap.size := fun h => by have := HO5.out.lt w2.heap.size h; omega
             have kkG : w6.cell? ⟨w2.heap.size, 2, none⟩ = some (.slice pk k ck) := (hgrow6.cell_far _ (by simp; omega) (Ne.symm hne6)).trans (kkA _)
             have zz : w6.frozen? ⟨w2.heap.size, 2, none⟩ = false := (hgrow6.frozen_far _ (by simp; omega) (Ne.symm hne6)).trans ((HB5.out.alloc _).frozen 2)
             have HBG := Lib.hid (show Blk w6 w2.heap.size 28 #[.bool true, .string (bs c), .slice pk k ck] from (hgrow6.block _ (by simp; omega) (Ne.symm hne6)).trans (HB5.out.alloc (.cells (hdL (lh e)).toArray 36)))
             have HO6 := Lib.hid hown6
             have HF6 := Lib.hid (show Fr [] w2 w6 from (HF5.out.alloc (.cells (hdL (lh e)).toArray 36)).trans (Fr.of_grown (S := (Value.slice pk k ck).ownBlock.toList) hgrow6 (fun g hg => .inl (by rw [hg]; simp))) (fun g hg => .inr (by have := (HO5.out.lt g (by simpa using hg)).1; omega)))
             clear hown6 hgrow6 hat6)
          | (go_simp; go_at_call 34; (with_reducible refine (HH.out _ k2).mono ?_); rintro e5 w5 ⟨rfl, hf5⟩
             have hb5 := Blk.fr (HBO.out.drew) hf5 (by simp)
             have HB5 := Lib.hid hb5
             have kk : w5.cell? ⟨w2.heap.size, 2, none⟩ = some (.slice pk k ck) := hb5.at_ 2 _ rfl
             have kkA : ∀ o, (w5.alloc o).cell? ⟨w2.heap.size, 2, none⟩ = some (.slice pk k ck) := fun o => (hb5.alloc o).at_ 2 _ rfl
             have HO5 := Lib.hid (ownsE_fr HO.out ((Fr.refl [] wr).drew.trans hf5 (by simp)) (by simp))
             have HF5 := Lib.hid (k2.trans hf5 (by simp))
             have h55 : w2.heap.size + 1 ≤ w5.heap.size := by have := hf5.size; simp at this; omega
             clear hb5 hf5))
      all_goals go_wp2_with fail
      all_goals refine ⟨⟨k + 1, by omega, by rw [Int.natCast_add]; rfl, _, HBG.out.set_ 2 _, ?_, HF6.out.setCell (.inr (Nat.le_refl _)) _⟩, by simp [intOf]; omega⟩
      all_goals rw [HT.out, List.flatMap_append, List.flatMap_singleton]
      all_goals exact ownsE_fr HO6.out ((Fr.refl [w2.heap.size] w6).setCell (p := ⟨w2.heap.size, 2, none⟩) (.inl (by simp)) _) (by simp)
    · obtain rfl : k = n := by omega
      have i1 : ¬ (k : Int) < (k : Int) := by omega
      have s0 : wr.cell? ⟨w2.heap.size, 0, none⟩ = some (.bool true) := hbo.at_ 0 _ rfl
      have s1 : wr.cell? ⟨w2.heap.size, 1, none⟩ = some (.string (bs c)) := hbo.at_ 1 _ rfl
      have s2 : wr.cell? ⟨w2.heap.size, 2, none⟩ = some (.slice pk k ck) := hbo.at_ 2 _ rfl
      have hrb0 : w.heap.size < w2.heap.size := HB2.out.lt
      have hB3 := HB2.out.fr hf (by simp)
      have r0 := hB3.at_ 0 _ rfl
      have r1 := hB3.at_ 1 _ rfl
      have r2 := hB3.at_ 2 _ rfl
      have z0 := hB3.frozen 0
      have z1 := hB3.frozen 1
      have z2 := hB3.frozen 2
      have HB3 := Lib.hid hB3
      clear hbo hown hf hB3
      go_wp2_with fail
      refine bodyPost_ret (v := .agg #[.bool true, .string (bs c), .slice pk k ck]) (results_cell_row rfl _ _ _ _ _ _ _ rfl (((HB3.out.set_ 0 (.bool true)).set_ 1 (.string (bs c))).set_ 2 (.slice pk k ck)) rfl rfl readRes) rfl ⟨.slice pk k ck, rfl, ?_, ?_⟩
      · have := HO.out
        rw [List.take_of_length_le (by omega)] at this
        unfold HL
        rw [List.length_map, hln]
        exact ownsRow_base (ownsE_fr this ((((Fr.refl [w.heap.size] wr).setCell (p := ⟨w.heap.size, 0, none⟩) (.inl (by simp)) _).setCell (p := ⟨w.heap.size, 1, none⟩) (.inl (by simp)) _).setCell (p := ⟨w.heap.size, 2, none⟩) (.inl (by simp)) _) (by simp; omega)) (by omega)
      · exact (((HF2.out.trans HF.out (by simp)).setCell (p := ⟨w.heap.size, 0, none⟩) (.inr (Nat.le_refl _)) _).setCell (p := ⟨w.heap.size, 1, none⟩) (.inr (Nat.le_refl _)) _).setCell (p := ⟨w.heap.size, 2, none⟩) (.inr (Nat.le_refl _)) _
end Go.Proofs.YtalgnjkdoaaacaaGreatDoor

/- impl.Read of a good archive. -/
namespace Go.Proofs.YtalgnjkdoaaacaaGreatDoor
open Go Go.RowKit
open Zp
theorem readGood (E : Errs) (B0 : Nat) (w : World) (l : List Ent) (c X Y : By) (hW : WE E B0 w) (hall : ∀ e ∈ l, HdOk e.h ∧ e.data.length ≤ 1048576) (h1000 : l.length ≤ 1000) (hc : c.length ≤ 65535) (he : ends (X ++ archB l c ++ Y) = 1) (hX : X.length ≤ 1048576) (hY : Y.length ≤ 1000)
    (hb : X = [] ∨ EndAt (X ++ archB l c ++ Y) (filesB l).length) : Calls Tryz.prog 13 #[.string (bs (X ++ archB l c ++ Y))] w (ReadP w c l) := by
  have hT := arcT_of hall h1000 hc he hX hY hb
  have hpl := places_length l (X.length + (filesB l).length) 0
  rw [← hpl] at hT
  refine readOkC E B0 w _ c _ _ _ _ l hW hT hpl ?_
  intro k e hk
  obtain ⟨-, hp, hat, hok⟩ := parts_gen hall h1000 hc he hX hY hb hk
  exact ⟨hok, _, _, hp, hat.cen⟩
theorem readGood0 (E : Errs) (B0 : Nat) (w : World) (l : List Ent) (c : By) (hW : WE E B0 w) (hg : GoodP l c) : Calls Tryz.prog 13 #[.string (bs (archB l c))] w (ReadP w c l) := by
  obtain ⟨hall, h1000, hc, he⟩ := hg
  have h0 : archB l c = [] ++ archB l c ++ [] := by simp
  rw [h0]
  exact readGood E B0 w l c [] [] hW hall h1000 hc (by rw [← h0]; exact he) (by simp) (by simp) (.inl rfl)
theorem flags_ok {l : List Ent} (h : ∀ e ∈ l, HdOk e.h) : ∀ e ∈ l, 0 ≤ e.h.flags ∧ e.h.flags ≤ 65535 := fun e he => (h e he).2.2.1
end Go.Proofs.YtalgnjkdoaaacaaGreatDoor

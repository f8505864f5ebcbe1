/- What is told of a text: whether it must be told to be UTF-8. -/
import Derived.Test.YtalgnjkdoaaacaaGreatDoorQrd
import Derived.Test.YtalgnjkdoaaacaaGreatDoorQs
import Derived.Test.YtalgnjkdoaaacaaGreatDoorQrk
import Derived.Test.YtalgnjkdoaaacaaGreatDoorQqf
set_option linter.unusedVariables false
set_option linter.unusedSimpArgs false
namespace Go.Proofs.YtalgnjkdoaaacaaGreatDoor
open Go Go.RowKit
open Zp
theorem det_det {s : ByteArray} {i : Nat} {req v q : Bool} (h : Det s i req v q) : ∀ {v' q' : Bool}, Det s i req v' q' → v' = v ∧ q' = q := by
  induction h with
  | stop h1 =>
    intro v' q' h'
    cases h' with
    | stop _ => exact ⟨rfl, rfl⟩
    | plain h2 => omega
    | bad h2 => omega
    | need h2 => omega
  | plain h1 h2 h3 _ ih =>
    intro v' q' h'
    cases h' with
    | stop h4 => omega
    | plain h4 h5 h6 h7 =>
      rw [h2] at h5
      injection h5 with h8 h9
      subst h8; subst h9
      exact ih h7
    | bad h4 h5 h6 h7 =>
      rw [h2] at h5
      injection h5 with h8 h9
      subst h8; subst h9
      exact absurd h3 h6
    | need h4 h5 h6 h7 h8 =>
      rw [h2] at h5
      injection h5 with h9 h10
      subst h9; subst h10
      exact absurd h3 h6
  | bad h1 h2 h3 h30 =>
    intro v' q' h'
    cases h' with
    | stop h4 => omega
    | plain h4 h5 h6 h7 =>
      rw [h2] at h5
      injection h5 with h8 h9
      subst h8; subst h9
      exact absurd h6 h3
    | bad _ _ _ _ => exact ⟨rfl, rfl⟩
    | need h4 h5 h6 h7 h8 =>
      rw [h2] at h5
      injection h5 with h9 h10
      subst h9; subst h10
      exact absurd h30 h7
  | need h1 h2 h3 h30 _ ih =>
    intro v' q' h'
    cases h' with
    | stop h4 => omega
    | plain h4 h5 h6 h7 =>
      rw [h2] at h5
      injection h5 with h8 h9
      subst h8; subst h9
      exact absurd h6 h3
    | bad h4 h5 h6 h7 =>
      rw [h2] at h5
      injection h5 with h8 h9
      subst h8; subst h9
      exact absurd h7 h30
    | need h4 h5 h6 h7 h8 =>
      rw [h2] at h5
      injection h5 with h9 h10
      subst h9; subst h10
      exact ih h8
/-- What is told of a text: whether it is text, whether it must be told to be UTF-8. -/
noncomputable def detV (s : ByteArray) : Bool × Bool := @Classical.epsilon (Bool × Bool) ⟨(false, false)⟩ (fun p => Det s 0 false p.1 p.2)
theorem detV_eq {s : ByteArray} {v q : Bool} (h : Det s 0 false v q) : detV s = (v, q) := by
  have h1 : Det s 0 false (detV s).1 (detV s).2 := @Classical.epsilon_spec_aux (Bool × Bool) ⟨(false, false)⟩ (fun p => Det s 0 false p.1 p.2) ⟨(v, q), h⟩
  obtain ⟨e1, e2⟩ := det_det h h1
  exact Prod.ext e1 e2
theorem bsz (l : By) : (bs l).size = l.length := by show l.toArray.size = _; simp
/-- Whether a name and a comment are not told as UTF-8. -/
noncomputable def nonOf (h : Hd) : Bool := !(detV (bs h.name)).1 || !(detV (bs h.comment)).1 || (((detV (bs h.name)).2 || (detV (bs h.comment)).2) && ((h.flags.tdiv 2048).tmod 2 == 0))
end Go.Proofs.YtalgnjkdoaaacaaGreatDoor

/- Headers as a directory tells them, in a row. -/
namespace Go.Proofs.YtalgnjkdoaaacaaGreatDoor
open Go Go.RowKit
open Zp
/-- A header as a directory tells it. -/
noncomputable def lh (e : Ent) : Hd := { e.h with non := nonOf e.h }
/-- These headers lie in a row of the call's own. -/
def HL (w : World) (base : Nat) (v : Value) (l : List Hd) : Prop := w.ownsRow base 36 14 v l.length (l.flatMap hdL)
theorem infoHd2 : (Tryz.prog.info? 36).map (fun i => (i.zero.map (fun z => z.cells.size), i.size, i.bytes)) = some (some 14, 14, 136) := by kernel_rfl
theorem ones_hd (h : Hd) : ∀ u ∈ hdL h, u.oneCell' = true := by
  intro u hu
  simp only [hdL, List.mem_cons, List.not_mem_nil, or_false] at hu
  rcases hu with rfl | rfl | rfl | rfl | rfl | rfl | rfl | rfl | rfl | rfl | rfl | rfl | rfl | rfl <;> rfl
theorem news_hd (w : World) (h : Hd) : ∀ j u, (hdL h)[j]? = some u → (w.alloc (.cells (hdL h).toArray 36)).cell? ((⟨w.heap.size, 0, none⟩ : Addr).add j) = some u := fun j u hj => by
  rw [Addr.add_lit, Nat.zero_add]
  exact (Blk.new w 36 (hdL h).toArray).at_ j u (by simpa using hj)
theorem flatH_length (l : List Hd) : (l.flatMap hdL).length = l.length * 14 := by
  induction l with
  | nil => rfl
  | cons a l ih => rw [List.flatMap_cons, List.length_append, ih, show (hdL a).length = 14 from rfl, List.length_cons]; omega
end Go.Proofs.YtalgnjkdoaaacaaGreatDoor

/- Headers of a row, one by one. -/
namespace Go.Proofs.YtalgnjkdoaaacaaGreatDoor
open Go Go.RowKit
open Zp
theorem flatH_get : ∀ (l : List Hd) (i j : Nat) (e : Hd), l[i]? = some e → j < 14 → (l.flatMap hdL)[i * 14 + j]? = (hdL e)[j]?
  | [], i, j, e, h, _ => by simp at h
  | a :: l, 0, j, e, h, hj => by
    simp at h
    subst h
    rw [List.flatMap_cons, Nat.zero_mul, Nat.zero_add, List.getElem?_append_left (by show j < 14; exact hj)]
  | a :: l, i + 1, j, e, h, hj => by
    have := flatH_get l i j e (by simpa using h) hj
    rw [List.flatMap_cons, List.getElem?_append_right (by show 14 ≤ _; omega), show (i + 1) * 14 + j - (hdL a).length = i * 14 + j by show _ - 14 = _; omega, this]
theorem HL.len {w : World} {base : Nat} {v : Value} {l : List Hd} (h : HL w base v l) : ∃ p cap, v = .slice p l.length cap := by
  rcases h.2 with ⟨h1, h2⟩ | ⟨g, cap, cur, h1, h2, h3, h4, h5, h6, h7⟩
  · exact ⟨none, 0, by rw [h1, h2]⟩
  · exact ⟨_, cap, h1⟩
theorem HL.row {w : World} {base : Nat} {v : Value} {l : List Hd} (h : HL w base v l) (hl : l ≠ []) :
    ∃ g cap, v = .slice (some ⟨g, 0, none⟩) l.length cap ∧ base ≤ g ∧ g < w.heap.size ∧ l.length ≤ cap ∧ cap ≤ maxLen := by
  rcases h.2 with ⟨h1, h2⟩ | ⟨g, cap, cur, h1, h2, h3, h4, h5, h6, h7⟩
  · exact absurd (List.eq_nil_of_length_eq_zero h2) hl
  · exact ⟨g, cap, h1, h2, Blk.lt (t := 36) (cs := cur) h3, h4, h5⟩
theorem HL.range {w : World} {base g cap n : Nat} {l : List Hd} (h : HL w base (.slice (some ⟨g, 0, none⟩) n cap) l) {k : Nat} {e : Hd} (hk : l[k]? = some e) : w.rangeAt g (k * 14) (hdL e) := by
  intro j u hj
  have hj14 : j < 14 := (List.getElem?_eq_some_iff.1 hj).1
  have := h.cells (g := g) rfl (k * 14 + j) u (by rw [flatH_get l k j e hk hj14]; exact hj)
  rw [Addr.add_lit, Nat.zero_add] at this
  exact this
theorem cellsH {w : World} {g a : Nat} {h : Hd} (hb : w.rangeAt g a (hdL h)) : w.cell? ⟨g, a, none⟩ = some (.string (bs h.name)) ∧ w.cell? ⟨g, a + 1, none⟩ = some (.string (bs h.comment)) ∧ w.cell? ⟨g, a + 2, none⟩ = some (.string (bs h.extra)) ∧ w.cell? ⟨g, a + 3, none⟩ = some (.bool h.non) ∧ w.cell? ⟨g, a + 4, none⟩ = some (.int .i64 h.creator) ∧ w.cell? ⟨g, a + 5, none⟩ = some (.int .i64 h.reader) ∧ w.cell? ⟨g, a + 6, none⟩ = some (.int .i64 h.flags) ∧ w.cell? ⟨g, a + 7, none⟩ = some (.int .i64 h.method) ∧ w.cell? ⟨g, a + 8, none⟩ = some (.int .i64 h.time) ∧ w.cell? ⟨g, a + 9, none⟩ = some (.int .i64 h.date) ∧ w.cell? ⟨g, a + 10, none⟩ = some (.int .i64 h.crc) ∧ w.cell? ⟨g, a + 11, none⟩ = some (.int .i64 h.packed) ∧ w.cell? ⟨g, a + 12, none⟩ = some (.int .i64 h.size) ∧ w.cell? ⟨g, a + 13, none⟩ = some (.int .i64 h.ext) :=
  ⟨hb 0 _ rfl, hb 1 _ rfl, hb 2 _ rfl, hb 3 _ rfl, hb 4 _ rfl, hb 5 _ rfl, hb 6 _ rfl, hb 7 _ rfl, hb 8 _ rfl, hb 9 _ rfl, hb 10 _ rfl, hb 11 _ rfl, hb 12 _ rfl, hb 13 _ rfl⟩
theorem HL.fr {w w' : World} {S : List Nat} {base : Nat} {v : Value} {l : List Hd} (h : HL w base v l) (hf : Fr S w w') (hS : ∀ s ∈ S, s < base) : HL w' base v l := ownsE_fr h hf hS
end Go.Proofs.YtalgnjkdoaaacaaGreatDoor

/- impl.Read where the text is no archive: the contract. -/
namespace Go.Proofs.YtalgnjkdoaaacaaGreatDoor
open Go Go.RowKit
open Zp
/-- NewReader fails. -/
def NRbad (w : World) (e : Ending) (w' : World) : Prop := ∃ xe : Addr, e = .returned (.tuple #[.pointer none, errv xe]) ∧ Fr [] w w'
theorem readRes : (Tryz.prog.info? 28).map (fun i => i.size) = some 3 := by kernel_rfl
set_option maxRecDepth 100000 in
set_option maxHeartbeats 4000000 in
theorem readBadC (E : Errs) (B0 : Nat) (w : World) (s : ByteArray) (hW : WE E B0 w) (_hs : s.size ≤ 4000000000)
    (hNR : ∀ (w1 : World) (r : Nat), WE E B0 w1 → B0 ≤ r → StrR w1 r s → Calls Tryz.prog 32 #[strRd r, .int .i64 (s.size : Int)] w1 (NRbad w1)) :
    Calls Tryz.prog 13 #[.string s] w fun x w' => x = .returned (.agg #[.bool false, .string ⟨#[]⟩, .slice none 0 0]) ∧ Fr [] w w' := by
  have HW := Lib.hid hW
  have HN := Lib.hid hNR
  have HB0 := Lib.hid (Blk.new w 28 #[.bool false, .string ⟨#[]⟩, .slice none 0 0])
  have HF0 := Lib.hid ((Fr.refl [] w).alloc (.cells #[.bool false, .string ⟨#[]⟩, .slice none 0 0] 28))
  clear hW hNR
  go_enter Tryz.func13, Tryz.ntmps13
  go_wp2_with fail
  refine (newStr _ s).mono ?_
  rintro e w1 ⟨rfl, hr1, hf1⟩
  have HF1 := Lib.hid (HF0.out.trans hf1 (by simp))
  have HB1 := Lib.hid (HB0.out.fr hf1 (by simp))
  have hq := HN.out w1 _ (HW.out.fr HF1.out (by simp)) (Nat.le_trans HW.out.eb.le HF0.out.size) hr1
  rw [World.size_alloc] at hq
  have HQ := Lib.hid hq
  clear hr1 hf1 hq
  go_wp2_with fail
  refine HQ.out.mono ?_
  rintro e w2 ⟨xe, rfl, hf2⟩
  have HF2 := Lib.hid (HF1.out.trans hf2 (by simp))
  have hB2 := HB1.out.fr hf2 (by simp)
  have c0 := hB2.at_ 0 _ rfl
  have c1 := hB2.at_ 1 _ rfl
  have c2 := hB2.at_ 2 _ rfl
  have z0 := hB2.frozen 0
  have z1 := hB2.frozen 1
  have z2 := hB2.frozen 2
  have HB2 := Lib.hid hB2
  clear hf2 hB2
  go_wp2_with fail
  refine bodyPost_ret (v := .agg #[.bool false, .string ⟨#[]⟩, .slice none 0 0]) (results_cell_row rfl _ _ _ _ _ _ _ rfl (((HB2.out.set_ 0 (.bool false)).set_ 1 (.string ⟨#[]⟩)).set_ 2 (.slice none 0 0)) rfl rfl readRes) rfl ⟨rfl, ((HF2.out.setCell (.inr (Nat.le_refl _)) _).setCell (.inr (Nat.le_refl _)) _).setCell (.inr (Nat.le_refl _)) _⟩
theorem nrNoEnd (E : Errs) (B0 : Nat) (s : ByteArray) (hs : s.size ≤ 4000000000) (hno : NoEnd s.data.toList) (w1 : World) (r : Nat) (hW : WE E B0 w1) (_hr : B0 ≤ r) (hr : StrR w1 r s) : Calls Tryz.prog 32 #[strRd r, .int .i64 (s.size : Int)] w1 (NRbad w1) :=
  (nr_bad E B0 w1 r s hW.env hW.eb hr hs hno).mono fun _ _ h => ⟨_, h⟩
theorem nrMiss (E : Errs) (B0 : Nat) (s : ByteArray) (c : By) (many D F : Nat) (PS : List Nat) (B : Nat) (h : ArcT s c many D F PS B) (hm : PS.length ≠ many) (w1 : World) (r : Nat) (hW : WE E B0 w1) (hrr : B0 ≤ r) (hr : StrR w1 r s) :
    Calls Tryz.prog 32 #[strRd r, .int .i64 (s.size : Int)] w1 (NRbad w1) := by
  refine (nr_t E B0 w1 r s c many D F PS B hW h hrr hr).mono ?_
  rintro e w2 ⟨xe, U, d, q, gb, b, fs, pos', hxe, rfl, hI⟩
  rw [if_neg hm]
  exact ⟨xe, rfl, ((Fr.refl [] w1).alloc (.cells rd0 66)).trans hI.fr (by simp)⟩
theorem fieldOk (b : Bool) (x : ByteArray) (n m : Nat) (p : Option Addr) (w : World) : (Instr.field 28 (.agg #[.bool b, .string x, .slice p n m]) 0).run Tryz.prog w = .ok (.bool b) w := by kernel_rfl
theorem goodArc {l : List Ent} {c : By} (hg : GoodP l c) : (filesI l).length ≤ 1300000000 ∧ (dirI 0 l).length ≤ 1300000000 ∧ filesI l = filesB l ∧ dirI 0 l = dirB 0 l := by
  have hok : ∀ e ∈ l, HdOk e.h := fun e he => (hg.1 e he).1
  obtain ⟨s1, s2⟩ := size_small hg.1 hg.2.1
  exact ⟨s1, s2, filesI_ok hok, dirI_ok 0 hok⟩
end Go.Proofs.YtalgnjkdoaaacaaGreatDoor

/- What a file's block, read from an archive, tells as a header. -/
namespace Go.Proofs.YtalgnjkdoaaacaaGreatDoor
open Go Go.RowKit
open Zp
theorem and2048 (fl : Nat) (hf : fl ≤ 65535) : (bits BinOp.and IntKind.u16 (fl : Int) 2048 == 0) = decide (fl / 2048 % 2 = 0) := by
  have h := u16_and_nat fl 2048 (by omega) (by omega)
  rw [show ((2048 : Nat) : Int) = 2048 from rfl] at h
  rw [h]
  have h2 : fl &&& 2048 = 2048 * (fl / 2048 % 2) := by
    apply Nat.eq_of_testBit_eq
    intro i
    rw [Nat.testBit_and, show (2048 : Nat) = 2 ^ 11 by decide, Nat.testBit_two_pow, Nat.testBit_two_pow_mul]
    by_cases hi : 11 = i
    · subst hi
      simp [Nat.testBit_eq_decide_div_mod_eq]
    · simp only [hi, decide_false, Bool.and_false]
      by_cases h3 : 11 ≤ i
      · have : (fl / 2 ^ 11 % 2).testBit (i - 11) = false := Nat.testBit_lt_two_pow (Nat.lt_of_lt_of_le (Nat.mod_lt _ (by omega)) (by
          have : 2 ^ 1 ≤ 2 ^ (i - 11) := Nat.pow_le_pow_right (by omega) (by omega)
          exact this))
        simp [this]
      · simp [h3]
  rw [h2]
  rcases Nat.mod_two_eq_zero_or_one (fl / 2048) with h | h <;> simp [h]
theorem nonB_of {h : Hd} {v1 q1 v2 q2 : Bool} (hf : 0 ≤ h.flags ∧ h.flags ≤ 65535) (d1 : Det (bs h.name) 0 false v1 q1) (d2 : Det (bs h.comment) 0 false v2 q2) : nonB v1 q1 v2 q2 (h.flags.toNat : Int) = nonOf h := by
  unfold nonOf nonB
  rw [detV_eq d1, detV_eq d2, and2048 _ (by omega)]
  have hx : ((h.flags.tdiv 2048).tmod 2 == 0) = decide (h.flags.toNat / 2048 % 2 = 0) := by
    rw [Int.tdiv_eq_ediv_of_nonneg hf.1, Int.tmod_eq_emod_of_nonneg (by omega)]
    obtain ⟨n, hn⟩ : ∃ n : Nat, h.flags = (n : Int) := ⟨h.flags.toNat, by omega⟩
    rw [hn, Int.toNat_natCast]
    by_cases hz : n / 2048 % 2 = 0
    · rw [decide_eq_true hz, beq_iff_eq]; omega
    · rw [decide_eq_false hz, beq_eq_false_iff_ne]; omega
  rw [hx]
  cases v1 <;> cases v2 <;> cases q1 <;> cases q2 <;> simp
/-- The block of a file that tells the header h. -/
def FileH (w : World) (U f : Nat) (h : Hd) (P z r : Nat) : Prop :=
  ∃ (ad : Addr) (db cap : Nat) (m0 m1 : Int) (mp : Option Addr), Blk w f fileT (hdrC h.creator h.reader h.flags h.method h.time h.date h.crc h.packed h.size h.packed h.size h.ext (P : Int) (bs h.name) (bs h.comment) h.non (.slice (some ad) h.extra.length cap) m0 m1 mp z r) ∧
    (0 < h.extra.length → ad = ⟨db, h.name.length, none⟩) ∧ h.extra.length ≤ cap ∧ cap ≤ 200000 ∧ U ≤ db ∧ db < w.heap.size ∧ db ≠ f ∧ Rd w db h.name.length h.extra ∧ U ≤ f
theorem fileH_of {s : ByteArray} {U z r f p P B : Nat} {w : World} {h : Hd} (hF : FileAt s.data.toList U z r f p B w) (hc : CentralAt s.data.toList p h P) (hok : HdOk h) : FileH w U f { h with non := nonOf h } (P + B) z r := by
  obtain ⟨v1, q1, v2, q2, ad, db, m0, m1, mp, d1, d2, hb, ha, h3, ⟨cs, h4⟩, h5, h6, h7⟩ := hF
  obtain ⟨o1, o2, o3, o4, o5, o6, ⟨o7, o8⟩, ⟨o9, o10⟩, ⟨o11, o12⟩, ⟨o13, o14⟩, o15, o16, o17⟩ := hok
  rw [hc.f28, hc.nm] at d1
  rw [hc.f28, hc.f30, hc.f32, hc.cm] at d2
  rw [hc.f4, hc.f6, hc.f8, hc.f10, hc.f12, hc.f14, hc.f16, hc.f20, hc.f24, hc.f28, hc.f30, hc.f32, hc.f38, hc.f42, hc.nm, hc.cm] at hb
  rw [hc.f28, hc.f30] at ha
  rw [hc.f28, hc.f30, hc.ex] at h6
  have hnb := nonB_of (h := h) ⟨o3.1, o3.2⟩ d1 d2
  rw [hnb] at hb
  refine ⟨ad, db, h.extra.length + h.comment.length, m0, m1, mp, ?_, ha, by show h.extra.length ≤ _; omega, by omega, h3, h4.lt, h5, h6, h7⟩
  rw [Int.toNat_of_nonneg o1.1, Int.toNat_of_nonneg o2.1, Int.toNat_of_nonneg o3.1, Int.toNat_of_nonneg o4.1, Int.toNat_of_nonneg o5.1, Int.toNat_of_nonneg o6.1, Int.toNat_of_nonneg o7, Int.toNat_of_nonneg o9, Int.toNat_of_nonneg o11, Int.toNat_of_nonneg o13, ← Int.natCast_add] at hb
  exact hb
end Go.Proofs.YtalgnjkdoaaacaaGreatDoor

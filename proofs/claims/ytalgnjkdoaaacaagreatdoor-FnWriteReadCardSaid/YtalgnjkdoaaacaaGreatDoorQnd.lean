/- Reader.init: the loop over the headers, and what stands behind it. -/
import Derived.Test.YtalgnjkdoaaacaaGreatDoorQkf
set_option linter.unusedVariables false
set_option linter.unusedSimpArgs false
namespace Go.Proofs.YtalgnjkdoaaacaaGreatDoor
open Go Go.RowKit
open Zp
theorem IN.moved {w00 w w' : World} {U rb r d q gb b pos pos' B : Nat} {s cm : ByteArray} {x4 x6 x8 x10 x12 x16 x20 : Int} {fs ps : List Nat} (h : IN w00 U rb r d q gb b s cm B x4 x6 x8 x10 x12 x16 x20 fs ps pos w) (hf : Fr [q, gb, b] w w')
    (hb : BufR w' q gb b r s pos') (hne : rb ≠ q ∧ rb ≠ gb ∧ rb ≠ b ∧ d ≠ q ∧ d ≠ gb ∧ d ≠ b ∧ d ≠ rb ∧ r ≠ rb) : IN w00 U rb r d q gb b s cm B x4 x6 x8 x10 x12 x16 x20 fs ps pos' w' := by
  obtain ⟨v, hrd, hown⟩ := h.rd
  have hl := h.low
  refine ⟨⟨v, hrd.fr hf (by simp; omega), ?_⟩, fun i f p h1 h2 => (h.files i f p h1 h2).fr hf (by simp; omega), h.len, hb, h.de.fr hf (by simp; omega), h.fr.trans hf (by have := h.new; simp; omega), by have := hf.size; omega, h.new⟩
  refine ownsRow_fr hown hf (fun g cur hg _ hm => ?_)
  simp only [List.mem_cons, List.not_mem_nil, or_false] at hm
  obtain ⟨_, _, _, _, _, _, hbs⟩ := h.buf
  rcases hm with h | h | h
  · subst h; exact (hg.ne_ hbs.hq (by decide)) rfl
  · subst h; exact (hg.ne_ hbs.hgb (by decide)) rfl
  · subst h; exact (hg.ne_ hbs.hb (by decide)) rfl
theorem IN.alloc {w00 w : World} {U rb r d q gb b pos B : Nat} {s cm : ByteArray} {x4 x6 x8 x10 x12 x16 x20 : Int} {fs ps : List Nat} (h : IN w00 U rb r d q gb b s cm B x4 x6 x8 x10 x12 x16 x20 fs ps pos w) (o : Obj)
    (hne : rb ≠ q ∧ rb ≠ gb ∧ rb ≠ b ∧ d ≠ q ∧ d ≠ gb ∧ d ≠ b ∧ d ≠ rb ∧ r ≠ rb) : IN w00 U rb r d q gb b s cm B x4 x6 x8 x10 x12 x16 x20 fs ps pos (w.alloc o) :=
  h.moved ((Fr.refl _ w).alloc o) (h.buf.fr (S := []) ((Fr.refl _ w).alloc o) (by simp) (by simp) (by simp) (by simp)) hne
theorem eql_same' (a : Addr) (w : World) : (binOp .eql 56 (errv a) (errv a)).run Tryz.prog w = .ok (.bool true) w := eql_same a w
set_option maxRecDepth 100000 in
set_option maxHeartbeats 4000000 in
theorem rin_end (E : Errs) (B0 : Nat) (a : Act) (w00 w : World) (U rb r d q gb b : Nat) (s cm : ByteArray) (x4 x6 x8 x10 x12 x16 x20 : Int) (fs ps : List Nat) (pos B : Nat)
    (hE : Env E w) (hEB : EB E B0 w) (hB0 : B0 ≤ q ∧ B0 ≤ gb ∧ B0 ≤ b) (hA : FrI rb r s.size d q a) (hI : IN w00 U rb r d q gb b s cm B x4 x6 x8 x10 x12 x16 x20 fs ps pos w) (hs : s.size ≤ 4000000000) (hend : EndAt s.data.toList pos)
    (hne4 : rb ≠ q ∧ rb ≠ gb ∧ rb ≠ b ∧ d ≠ q ∧ d ≠ gb ∧ d ≠ b ∧ d ≠ rb ∧ r ≠ rb) (Q : Exit → Act → World → Prop)
    (hQ : ∀ x pos' a' w', (x = E.fmt ∨ x = E.unx) → FrI rb r s.size d q a' → slotOf a' 9 = errv x → IN w00 U rb r d q gb b s cm B x4 x6 x8 x10 x12 x16 x20 fs ps pos' w' → Q (.exit 0) a' w') :
    (rinLoop 14).wp Tryz.prog Q a w := by
  have hsz : s.data.toList.length = s.size := (Lib.size_eq s).symm
  have hlow := hI.low
  have hb18 := hI.buf.h18
  have HQ := Lib.hid hQ
  have hI1 := hI.alloc (.cells (hdrC 0 0 0 0 0 0 0 0 0 0 0 0 0 ⟨#[]⟩ ⟨#[]⟩ false (.slice none 0 0) 0 0 none rb r) fileT) hne4
  have hw1 : Fr [] w (w.alloc (.cells (hdrC 0 0 0 0 0 0 0 0 0 0 0 0 0 ⟨#[]⟩ ⟨#[]⟩ false (.slice none 0 0) 0 0 none rb r) fileT)) := (Fr.refl _ _).alloc _
  have hE1 := hE.fr hw1 (by simp) (by omega)
  have hEB1 := hEB.fr hw1 (by simp)
  have hs1 := fun W => eql_same' E.fmt W
  have hs2 := fun W => eql_same' E.unx W
  have HI := Lib.hid hI1
  have HE := Lib.hid hE1
  have HEB := Lib.hid hEB1
  have hend1 := hend.1
  have hend2 := hend.2
  rw [hsz] at hend1 hend2
  by_cases hsh : s.size < pos + 46
  · have HD := Lib.hid (hdr_cut E q gb b r w.heap.size pos s _ hE1 hI1.buf hend1 hs hsh)
    rw [frame145 hA.size hA.defers, hA.s0, hA.s1, hA.s2, hA.s7, hA.s11]
    clear hQ hI hw1 hE hA hE1 hEB hEB1 hI1 hend hend1 hend2
    conv => arg 2; whnf
    go_wp2_with fail
    refine HD.out.mono ?_
    rintro e w2 ⟨rfl, hbuf, hfr⟩
    have hEw := HE.out.fr hfr (by simp; omega) (by simp; omega)
    have e0 := hEw.fmt
    have e4 := hEw.unx
    have hn := eql_other (HEB.out.fr hfr (by simp; omega)) (E.m.2.2.2.2.1) E.m.1 HEB.out.ne.1
    have HI2 := Lib.hid (HI.out.moved hfr hbuf hne4)
    clear hEw hbuf hfr
    go_wp2_with fail
    exact HQ.out E.unx _ _ _ (.inr rfl) ⟨rfl, rfl, rfl, rfl, rfl, rfl, rfl⟩ rfl HI2.out
  · have hsg : num ((s.data.toList.drop pos).take 4) ≠ 33639248 := by omega
    have HD := Lib.hid (hdr_sig E q gb b r w.heap.size pos s _ hE1 hI1.buf (by omega) hs hsg)
    rw [frame145 hA.size hA.defers, hA.s0, hA.s1, hA.s2, hA.s7, hA.s11]
    clear hQ hI hw1 hE hA hE1 hEB hEB1 hI1 hend hend1 hend2 hsg
    conv => arg 2; whnf
    go_wp2_with fail
    refine HD.out.mono ?_
    rintro e w2 ⟨rfl, hbuf, hfr⟩
    have hEw := HE.out.fr hfr (by simp; omega) (by simp; omega)
    have e0 := hEw.fmt
    have e4 := hEw.unx
    have HI2 := Lib.hid (HI.out.moved hfr hbuf hne4)
    clear hEw hbuf hfr
    go_wp2_with fail
    exact HQ.out E.fmt _ _ _ (.inl rfl) ⟨rfl, rfl, rfl, rfl, rfl, rfl, rfl⟩ rfl HI2.out
/-- How many files a reader has. -/
def lenR (rb : Nat) (w : World) : Nat := match w.cell? ⟨rb, 1, none⟩ with
  | some (.slice _ n _) => n
  | _ => 0
theorem IN.lenR {w00 w : World} {U rb r d q gb b pos B : Nat} {s cm : ByteArray} {x4 x6 x8 x10 x12 x16 x20 : Int} {fs ps : List Nat} (h : IN w00 U rb r d q gb b s cm B x4 x6 x8 x10 x12 x16 x20 fs ps pos w) : lenR rb w = fs.length := by
  obtain ⟨v, hrd, hown⟩ := h.rd
  obtain ⟨a, c, rfl⟩ := own_shape hown
  simp [Proofs.YtalgnjkdoaaacaaGreatDoor.lenR, hrd.at_ 1 (.slice a fs.length c) rfl]
set_option maxRecDepth 100000 in
theorem rin_loop (E : Errs) (B0 : Nat) (a : Act) (w00 w : World) (U rb r d q gb b : Nat) (s cm : ByteArray) (x4 x6 x8 x10 x12 x16 x20 : Int) (PS : List Nat) (pos qe B : Nat) (hB4 : B ≤ 4000000000)
    (hE : Env E w00) (hU : UT w00) (hEB : EB E B0 w00) (hrb : B0 ≤ rb) (hA : FrI rb r s.size d q a) (hI : IN w00 U rb r d q gb b s cm B x4 x6 x8 x10 x12 x16 x20 [] [] pos w) (hs : s.size ≤ 4000000000) (hch : Chain s.data.toList pos PS qe) (hend : EndAt s.data.toList qe) (hlen : PS.length ≤ 100000)
    (hne4 : rb ≠ q ∧ rb ≠ gb ∧ rb ≠ b ∧ d ≠ q ∧ d ≠ gb ∧ d ≠ b ∧ d ≠ rb ∧ r ≠ rb) (Q : Exit → Act → World → Prop)
    (hQ : ∀ x pos' fs a' w', (x = E.fmt ∨ x = E.unx) → FrI rb r s.size d q a' → slotOf a' 9 = errv x → IN w00 U rb r d q gb b s cm B x4 x6 x8 x10 x12 x16 x20 fs PS pos' w' → Q (.exit 0) a' w') :
    (Code.loop (rinLoop 14)).wp Tryz.prog Q a w := by
  have h18 := hEB.b18
  have hle := hEB.le
  refine wp_loop (fun a w => ∃ fs ps rest pos, FrI rb r s.size d q a ∧ IN w00 U rb r d q gb b s cm B x4 x6 x8 x10 x12 x16 x20 fs ps pos w ∧ PS = ps ++ rest ∧ Chain s.data.toList pos rest qe) (fun _ w => PS.length + 1 - lenR rb w) ⟨[], [], PS, pos, hA, hI, rfl, hch⟩ ?_
  rintro a w ⟨fs, ps, rest, pos, hA, hI, hPS, hch⟩
  have hEw := hE.fr hI.fr (by simp; omega) (by omega)
  have hUw := hU.fr hI.fr (by simp; omega) (by omega)
  have hEBw := hEB.fr hI.fr (by simp; omega)
  have hnew := hI.new
  cases hch with
  | nil _ =>
    rw [List.append_nil] at hPS
    subst hPS
    refine rin_end E B0 a w00 w U rb r d q gb b s cm x4 x6 x8 x10 x12 x16 x20 fs PS _ B hEw hEBw (by omega) hA hI hs hend hne4 _ ?_
    intro x pos' a' w' h1 h2 h3 h4
    exact hQ x pos' fs a' w' h1 h2 h3 h4
  | @cons _ _ rest' hraw hch' =>
    have hl := hI.len
    have hpl : ps.length + 1 ≤ PS.length := by rw [hPS]; simp
    refine rin_round E a w00 w U rb r d q gb b s cm x4 x6 x8 x10 x12 x16 x20 fs ps pos B hB4 hEw hUw hA hI hs hraw (by omega) hne4 _ ?_
    intro f a' w' hA' hI'
    exact ⟨⟨fs ++ [f], ps ++ [pos], rest', _, hA', hI', by rw [hPS]; simp, hch'⟩, by rw [hI'.lenR, hI.lenR]; simp; omega⟩
end Go.Proofs.YtalgnjkdoaaacaaGreatDoor

/- Reader.init: ahead of the loop and behind it. -/
namespace Go.Proofs.YtalgnjkdoaaacaaGreatDoor
open Go Go.RowKit
open Zp
set_option maxRecDepth 100000 in
set_option maxHeartbeats 4000000 in
theorem rin21 (a : Act) (w : World) (rb r sz d q n : Nat) (ba : Option Addr) (bc : Nat) (cm cm' : ByteArray) (B : Int) (xe : Addr) (x4 x6 x8 x12 x16 x20 : Int) (x10 : Nat) (hA : FrI rb r sz d q a) (h9 : slotOf a 9 = errv xe)
    (hrd : Blk w rb 66 (rdC r (.slice ba n bc) cm B)) (hde : Blk w d 187 (deC x4 x6 x8 x10 x12 x16 x20 cm')) (hn : n ≤ 65535) (hx : x10 ≤ 65535) (Q : Exit → Act → World → Prop)
    (hQ : ∀ a' m, a'.defers = [] → a'.tmps.getD 6 undef = (if n = x10 then .nilIface else errv xe) → Q .ret a' (w.drewN m)) : (rinFrom 21).wp Tryz.prog Q a w := by
  have HQ := Lib.hid hQ
  have c1 := hrd.at_ 1 (.slice ba n bc) rfl
  have c3 := hde.at_ 3 (.int .u64 (x10 : Int)) rfl
  have v1 : IntKind.u16.wrap (n : Int) = (n : Int) := by rw [IntKind.wrap_u16]; omega
  have v2 : IntKind.u16.wrap (x10 : Int) = (x10 : Int) := by rw [IntKind.wrap_u16]; omega
  rw [frame145 hA.size hA.defers, hA.s0, hA.s1, hA.s2, hA.s7, hA.s11, h9]
  clear hQ hA h9
  conv => arg 2; whnf
  by_cases h : n = x10
  · have HH := Lib.hid h
    have t1 : ((n : Int) != (x10 : Int)) = false := by simp [h]
    clear h
    go_wp2_with fail
    go_quiet (fail)
    go_wp2_with fail
    exact HQ.out _ _ rfl (by rw [if_pos HH.out]; rfl)
  · have t1 : ((n : Int) != (x10 : Int)) = true := by simp; omega
    have HH := Lib.hid h
    clear h
    go_wp2_with fail
    go_quiet (fail)
    go_wp2_with fail
    exact HQ.out _ _ rfl (by rw [if_neg HH.out]; rfl)
theorem Chain.le {s : By} {p q : Nat} {ps : List Nat} (h : Chain s p ps q) (he : EndAt s q) : p ≤ s.length := by
  cases h with
  | nil _ => have := he.1; omega
  | cons hr _ => have := hr.len; omega
set_option maxRecDepth 100000 in
set_option maxHeartbeats 4000000 in
theorem rin8 (E : Errs) (B0 : Nat) (a : Act) (w00 w : World) (rb r d : Nat) (s cm : ByteArray) (v : Value) (x4 x6 x8 x12 x20 : Int) (x10 x16 : Nat) (PS : List Nat) (qe B : Nat) (hB4 : B + x16 ≤ 4000000000)
    (hE : Env E w00) (hU : UT w00) (hEB : EB E B0 w00) (hrb : B0 ≤ rb) (hrr : B0 ≤ r) (hr : StrR w00 r s) (hs : s.size ≤ 4000000000) (hch : Chain s.data.toList (B + x16) PS qe) (hend : EndAt s.data.toList qe) (hlen : PS.length ≤ 65535) (hx10 : x10 ≤ 65535)
    (hsz : a.tmps.size = 145) (hd : a.defers = []) (h0 : slotOf a 0 = .pointer (some ⟨rb, 0, none⟩)) (h1 : slotOf a 1 = strRd r) (h2 : slotOf a 2 = .int .i64 (s.size : Int)) (h7 : slotOf a 7 = .pointer (some ⟨d, 0, none⟩))
    (hfr : Fr [rb] w00 w) (hrd : Blk w rb 66 (rdC r v ⟨#[]⟩ B)) (hown : w.ownsRow w00.heap.size 67 1 v 0 []) (hde : Blk w d 187 (deC x4 x6 x8 x10 x12 x16 x20 cm)) (hdn : w00.heap.size ≤ d) (hrbl : rb < w00.heap.size) (hrne : r ≠ rb) (Q : Exit → Act → World → Prop)
    (hQ : ∀ xe U q gb b fs pos' a' w', (xe = E.fmt ∨ xe = E.unx) → a'.defers = [] → a'.tmps.getD 6 undef = (if PS.length = x10 then .nilIface else errv xe) → IN w00 U rb r d q gb b s cm B x4 x6 x8 x10 x12 x16 x20 fs PS pos' w' → Q .ret a' w') :
    (rinFrom 8).wp Tryz.prog Q a w := by
  have HQ := Lib.hid hQ
  have HFR := Lib.hid hfr
  have HRD := Lib.hid hrd
  have HOW := Lib.hid hown
  have HDE := Lib.hid hde
  have HR := Lib.hid hr
  have HE := Lib.hid hE
  have HU := Lib.hid hU
  have HEB := Lib.hid hEB
  have HCH := Lib.hid hch
  have HEN := Lib.hid hend
  have hdl := hde.lt
  have hrl := hr.lt
  have hdrb : d ≠ rb := by omega
  have c2 := hrd.at_ 2 (.string ⟨#[]⟩) rfl
  have f2 := hrd.frozen 2
  have c4 := hrd.at_ 4 (.int .i64 (B : Int)) rfl
  have e7 := hde.at_ 7 (.string cm) rfl
  have e5 := hde.at_ 5 (.int .u64 (x16 : Int)) rfl
  rw [frame145 hsz hd, h0, h1, h2, h7]
  clear hQ hE hU hEB hr hch hend hsz hd h0 h1 h2 h7 hfr hrd hown hde
  conv => arg 2; whnf
  go_wp2_with fail
  have hns := newSection_any r 0 s.size (by omega) (w.setCell ⟨rb, 2, none⟩ (.string cm))
  rw [Nat.zero_add] at hns
  refine hns.mono ?_
  rintro e w1 ⟨rfl, hw1⟩
  have hwz : (w.setCell ⟨rb, 2, none⟩ (.string cm)).heap.size = w.heap.size := by simp
  rw [hwz]
  have hset : Fr [rb] w (w.setCell ⟨rb, 2, none⟩ (.string cm)) := (Fr.refl _ w).setCell (.inl (by simp)) _
  have hF1 : Fr [rb] w w1 := by rw [hw1]; exact hset.alloc _
  have hS1 : SecR w1 w.heap.size r 0 0 s.size s.size := by
    have := Blk.new (w.setCell ⟨rb, 2, none⟩ (.string cm)) 198 #[strRd r, .int .i64 ((0 : Nat) : Int), .int .i64 ((0 : Nat) : Int), .int .i64 (s.size : Int), .int .i64 (s.size : Int)]
    rw [hwz] at this
    rw [hw1]
    exact this
  have hrd1 : Blk w1 rb 66 (rdC r v cm B) := by rw [hw1]; exact (HRD.out.set_ 2 (.string cm)).alloc _
  have hde1 : Blk w1 d 187 (deC x4 x6 x8 x10 x12 x16 x20 cm) := HDE.out.fr hF1 (by simpa using hdrb)
  have how1 : w1.ownsRow w00.heap.size 67 1 v 0 [] := ownsRow_fr HOW.out hF1 (fun g cur hg _ hm => by
    simp only [List.mem_singleton] at hm
    subst hm
    exact (hg.ne_ HRD.out (by decide)) rfl)
  have hbl := hS1.lt
  have c4 := hrd1.at_ 4 (.int .i64 (B : Int)) rfl
  have e5 := hde1.at_ 5 (.int .u64 (x16 : Int)) rfl
  have HF1 := Lib.hid hF1
  have HS1 := Lib.hid hS1
  have HRD1 := Lib.hid hrd1
  have HDE1 := Lib.hid hde1
  have HOW1 := Lib.hid how1
  obtain ⟨P, hP⟩ : ∃ P, B + x16 = P := ⟨_, rfl⟩
  have hPI : (B : Int) + (x16 : Int) = (P : Int) := by omega
  have v1 : IntKind.i64.wrap ((B : Int) + IntKind.i64.wrap (x16 : Int)) = (P : Int) := by rw [IntWalk.i64_in (x16 : Int) (by omega), IntWalk.i64_in _ (by omega)]; exact hPI
  have HV := Lib.hid v1
  have HSK := Lib.hid (secSeek_any w.heap.size (strRd r) 0 0 s.size s.size P w1.drew (Blk.drew hS1) (by omega))
  have HP := Lib.hid hP
  have HWZ := Lib.hid hwz
  have l0 : w.heap.size < w1.heap.size := hbl
  clear v1 hPI hw1 hset hF1 hS1 hrd1 hde1 how1 hns c2 f2 e7 hP hwz hbl
  go_wp2_with fail
  rename_i K hK
  have nb1 : rb ≠ w.heap.size := by have := HFR.out.size; omega
  have nb2 : d ≠ w.heap.size := by omega
  have KS := Lib.hid (show ∀ x, (w1.setCell ⟨w.heap.size, 2, none⟩ x).drew.cell? ⟨rb, 4, none⟩ = some (.int .i64 (B : Int)) ∧ (w1.setCell ⟨w.heap.size, 2, none⟩ x).drew.cell? ⟨d, 5, none⟩ = some (.int .u64 (x16 : Int)) from fun x => ⟨(World.cell?_setCell_far w1 ⟨w.heap.size, 2, none⟩ ⟨rb, 4, none⟩ x (by simpa using Ne.symm nb1)).trans c4, (World.cell?_setCell_far w1 ⟨w.heap.size, 2, none⟩ ⟨d, 5, none⟩ x (by simpa using Ne.symm nb2)).trans e5⟩)
  go_region_held3 (fun w' => w'.cell? ⟨rb, 4, none⟩ = some (.int .i64 (B : Int)) ∧ w'.cell? ⟨d, 5, none⟩ = some (.int .u64 (x16 : Int)))
    ((first | exact ⟨c4, e5⟩ | exact KS.out _ | assumption))
    ((first | (go_at_call 85; rw [HV.out]; (with_reducible refine HSK.out.mono ?_); rintro e w2 ⟨rfl, rfl⟩)))
  have hF2 : Fr [w.heap.size] w1 (w1.setCell ⟨w.heap.size, 2, none⟩ (.int .i64 (P : Int))).drew := ((Fr.refl _ w1).setCell (.inl (by simp)) _).drew
  have hS2 : SecR (w1.setCell ⟨w.heap.size, 2, none⟩ (.int .i64 (P : Int))).drew w.heap.size r 0 P s.size s.size := Blk.drew (Blk.set_ HS1.out 2 (.int .i64 (P : Int)))
  generalize (w1.setCell ⟨w.heap.size, 2, none⟩ (.int .i64 (P : Int))).drew = w2 at *
  have hsz2 := hF2.size
  have hrw : r < w.heap.size := by have := HFR.out.size; omega
  have hr2 : StrR w2 r s := Blk.fr (Blk.fr (Blk.fr HR.out HFR.out (by simpa using hrne)) HF1.out (by simpa using hrne)) hF2 (by simp; omega)
  have hPl : P ≤ s.size := by have := HCH.out.le HEN.out; rw [HP.out, ← Lib.size_eq] at this; exact this
  have hb18 := HEB.out.b18
  have hnw : w00.heap.size ≤ w.heap.size := HFR.out.size
  have HNB := Lib.hid (bufNewReader_any w.heap.size r P s w2 hS2 hr2 hPl (by have := HEB.out.le; omega))
  have HF2 := Lib.hid hF2
  clear c4 e5 KS HSK HV hF2 hS2 hr2
  go_wp2_with fail
  refine HNB.out.mono ?_
  rintro e w3 ⟨q, gb, rfl, hbuf, hq, hgb, hf3⟩
  have HBF := Lib.hid hbuf
  have HF3 := Lib.hid hf3
  clear hbuf hf3
  go_wp2_with fail
  rename_i K2 hK2
  have hsz3 := HF3.out.size
  have hrd3 := (HRD1.out.fr HF2.out (by simp; omega)).fr HF3.out (by simp)
  have hde3 := (HDE1.out.fr HF2.out (by simp; omega)).fr HF3.out (by simp)
  have how2 : w2.ownsRow w00.heap.size 67 1 v 0 [] := ownsRow_fr HOW1.out HF2.out (fun g cur hg _ hm => by
    simp only [List.mem_singleton] at hm
    subst hm
    exact (hg.ne_ HS1.out (by decide)) rfl)
  have how3 := ownsRow_fr how2 HF3.out (fun _ _ _ _ => by simp)
  have hfr3 : Fr [rb] w00 w3 := ((HFR.out.trans HF1.out (by simp)).trans HF2.out (by simp; omega)).trans HF3.out (by simp)
  have l4 := HBF.out.lt4
  have hbl := HS1.out.lt
  have nqr : rb ≠ q ∧ rb ≠ gb := by omega
  refine rin_loop E B0 _ w00 w3 w3.heap.size rb r d q gb w.heap.size s cm x4 x6 x8 x10 x12 x16 x20 PS P qe B (by omega) HE.out HU.out HEB.out hrb ⟨rfl, rfl, rfl, rfl, rfl, rfl, rfl⟩
    ⟨⟨v, hrd3, how3⟩, fun i f p h => by simp at h, rfl, HBF.out, hde3, hfr3, by have := hde3.lt; omega, by omega⟩ hs (HP.out ▸ HCH.out) HEN.out (by omega) (by omega) _ ?_
  intro xe pos' fs a' w' hxe hA' h9 hI'
  obtain ⟨v', hrd', hown'⟩ := hI'.rd
  obtain ⟨ba, bc, rfl⟩ := own_shape hown'
  have hfl : fs.length = PS.length := hI'.len
  refine hK2 _ _ (rin21 a' w' rb r s.size d q fs.length ba bc cm cm B xe x4 x6 x8 x12 x16 x20 x10 hA' h9 hrd' hI'.de (by omega) hx10 _ ?_)
  intro a2 m h1 h2
  rw [hfl] at h2
  exact HQ.out xe w3.heap.size q gb w.heap.size fs pos' a2 _ hxe h1 h2 (hI'.moved ((Fr.refl _ w').drewN m) (hI'.buf.fr (S := []) ((Fr.refl _ w').drewN m) (by simp) (by simp) (by simp) (by simp)) (by omega))
end Go.Proofs.YtalgnjkdoaaacaaGreatDoor

/- Reader.init, whole. -/
namespace Go.Proofs.YtalgnjkdoaaacaaGreatDoor
open Go Go.RowKit
open Zp
abbrev rd0 : Array Value := #[.nilIface, .slice none 0 0, .string ⟨#[]⟩, .map none, .int .i64 0]
theorem run_makeFiles (c : Nat) (hc : c ≤ 70000) (w : World) :
    (Instr.makeSlice 63 (.int .i64 0) (.int .u64 (c : Int))).run Tryz.prog w = .ok (.slice (some ⟨w.heap.size, 0, none⟩) 0 c) (w.alloc (.cells (madeCells #[.pointer none] c) 67)) := by
  obtain ⟨i, hi, h0, h1, h2⟩ := info_parts infoFile
  have := run_make_rowN (P := Tryz.prog) 63 67 i (.pointer none) Tryz.underlying63 hi h0 .i64 .u64 0 c (Nat.zero_le _) (by rw [h2]; omega) (by omega) w
  rw [h1, Nat.mul_one] at this
  exact this
set_option maxRecDepth 100000 in
set_option maxHeartbeats 4000000 in
theorem rin_ok (E : Errs) (B0 : Nat) (w : World) (rb r : Nat) (s cm : ByteArray) (x4 x6 x8 x20 : Int) (x10 x12 x16 : Nat) (PS : List Nat) (qe B : Nat) (hB4 : B + x16 ≤ 4000000000)
    (hrde : Calls Tryz.prog 84 #[strRd r, .int .i64 (s.size : Int)] w fun e w' => ∃ d, e = .returned (.tuple #[.pointer (some ⟨d, 0, none⟩), .int .i64 (B : Int), .nilIface]) ∧ w.heap.size ≤ d ∧ Blk w' d 187 (deC x4 x6 x8 x10 x12 x16 x20 cm) ∧ Fr [] w w')
    (hE : Env E w) (hU : UT w) (hEB : EB E B0 w) (hrb : B0 ≤ rb) (hrr : B0 ≤ r) (hr : StrR w r s) (hrd : Blk w rb 66 rd0) (hs : s.size ≤ 4000000000) (hx12 : x12 < s.size) (hch : Chain s.data.toList (B + x16) PS qe) (hend : EndAt s.data.toList qe) (hlen : PS.length ≤ 65535) (hx10 : x10 ≤ 65535) :
    Calls Tryz.prog 59 #[.pointer (some ⟨rb, 0, none⟩), strRd r, .int .i64 (s.size : Int)] w fun e w' => ∃ xe U d q gb b fs pos', (xe = E.fmt ∨ xe = E.unx) ∧ e = .returned (if PS.length = x10 then .nilIface else errv xe) ∧ IN w U rb r d q gb b s cm B x4 x6 x8 x10 x12 x16 x20 fs PS pos' w' := by
  have hrne : r ≠ rb := Blk.ne_ hr hrd (by decide)
  have HRDE := Lib.hid hrde
  have HE := Lib.hid hE
  have HU := Lib.hid hU
  have HEB := Lib.hid hEB
  have HR := Lib.hid hr
  have HRD := Lib.hid hrd
  have HCH := Lib.hid hch
  have HEN := Lib.hid hend
  have hrbl := hrd.lt
  clear hrde hE hU hEB hr hrd hch hend
  go_enter Tryz.func59, Tryz.ntmps59
  go_wp2_with fail
  refine HRDE.out.mono ?_
  rintro e w1 ⟨d, rfl, hd, hde, hf1⟩
  have hrd1 := HRD.out.fr hf1 (by simp)
  have c0 := hrd1.at_ 0 .nilIface rfl
  have c4 := hrd1.at_ 4 (.int .i64 0) rfl
  have f0 := hrd1.frozen 0
  have f4 := hrd1.frozen 4
  have hdr : d ≠ rb := by omega
  have hF2 : Fr [rb] w ((w1.setCell ⟨rb, 0, none⟩ (strRd r)).setCell ⟨rb, 4, none⟩ (.int .i64 (B : Int))) := ((hf1.mono (S' := [rb]) (by simp)).setCell (.inl (by simp)) _).setCell (.inl (by simp)) _
  have hrd2 : Blk ((w1.setCell ⟨rb, 0, none⟩ (strRd r)).setCell ⟨rb, 4, none⟩ (.int .i64 (B : Int))) rb 66 (rdC r (.slice none 0 0) ⟨#[]⟩ B) := (hrd1.set_ 0 _).set_ 4 _
  have hde2 := (hde.far (p := ⟨rb, 0, none⟩) hdr (strRd r)).far (p := ⟨rb, 4, none⟩) hdr (.int .i64 (B : Int))
  have HF2 := Lib.hid hF2
  have HRD2 := Lib.hid hrd2
  have HDE2 := Lib.hid hde2
  clear hrd1 hde hf1 hF2 hrd2 hde2
  go_upto_region 6 with fail
  rename_i K8 hK8 K hK
  have HK8 := Lib.hid hK8
  generalize ((w1.setCell ⟨rb, 0, none⟩ (Value.iface 59 (.pointer (some ⟨r, 0, none⟩)))).setCell ⟨rb, 4, none⟩ (.int .i64 (B : Int))) = w2 at *
  clear hK8 c0 c4 f0 f4
  have e4 := HDE2.out.at_ 4 (.int .u64 (x12 : Int)) rfl
  have e3 := HDE2.out.at_ 3 (.int .u64 (x10 : Int)) rfl
  have c1 := HRD2.out.at_ 1 (.slice none 0 0) rfl
  have f1 := HRD2.out.frozen 1
  have i1 : (x12 : Int) < (s.size : Int) := by omega
  have v0 : IntKind.u64.wrap (s.size : Int) = (s.size : Int) := by rw [IntKind.wrap_u64]; omega
  have v1 : IntKind.u64.wrap ((s.size : Int) - (x12 : Int)) = ((s.size - x12 : Nat) : Int) := by rw [IntKind.wrap_u64]; omega
  have hmk := fun W => run_makeFiles x10 (by omega) W
  have FIN : ∀ (v : Value) (a' : Act) (w3 : World), a'.tmps.size = 145 → a'.defers = [] → slotOf a' 0 = .pointer (some ⟨rb, 0, none⟩) → slotOf a' 1 = strRd r → slotOf a' 2 = .int .i64 (s.size : Int) → slotOf a' 7 = .pointer (some ⟨d, 0, none⟩) →
      Fr [rb] w2 w3 → Blk w3 rb 66 (rdC r v ⟨#[]⟩ B) → w3.ownsRow w.heap.size 67 1 v 0 [] → K8 a' w3 := by
    intro v a' w3 h1 h2 h3 h4 h5 h6 h7 h8 h9
    refine HK8.out _ _ (rin8 E B0 a' w w3 rb r d s cm v x4 x6 x8 x12 x20 x10 x16 PS qe B hB4 HE.out HU.out HEB.out hrb hrr HR.out hs HCH.out HEN.out hlen hx10 h1 h2 h3 h4 h5 h6 (HF2.out.trans h7 (by simp)) h8 h9 (HDE2.out.fr h7 (by simpa using hdr)) hd hrbl hrne _ ?_)
    intro xe U q gb b fs pos' a2 w4 k1 k2 k3 k4
    refine bodyPost_ret (R := fun e w' => ∃ xe U d q gb b fs pos', (xe = E.fmt ∨ xe = E.unx) ∧ e = .returned (if PS.length = x10 then .nilIface else errv xe) ∧ IN w U rb r d q gb b s cm B x4 x6 x8 x10 x12 x16 x20 fs PS pos' w') (v := if PS.length = x10 then .nilIface else errv xe) ?_ k2 ⟨xe, U, d, q, gb, b, fs, pos', k1, rfl, k4⟩
    rw [results_tmp rfl, k3]
  have HFIN := Lib.hid FIN
  clear FIN
  by_cases hp : x10 ≤ (s.size - x12) / 30
  · have dp : (x10 : Int) ≤ ((s.size - x12 : Nat) : Int) / 30 := by omega
    go_quiet (fail)
    clear v0 v1
    have c1' : ∀ o, (w2.alloc o).cell? ⟨rb, 1, none⟩ = some (.slice none 0 0) := fun o => (HRD2.out.alloc o).at_ 1 (.slice none 0 0) rfl
    have f1' : ∀ o, (w2.alloc o).frozen? ⟨rb, 1, none⟩ = false := fun o => (HRD2.out.alloc o).frozen 1
    clear c1 f1
    go_wp2_with fail
    have hset : Fr [rb] w2 (((w2.alloc (.cells (madeCells #[.pointer none] x10) 67)).setCell ⟨rb, 1, none⟩ (.slice (some ⟨w2.heap.size, 0, none⟩) 0 x10)).drewN nq) := (((Fr.refl _ w2).alloc _).setCell (.inl (by simp)) _).drewN nq
    have hown := World.ownsRow_made (base := w.heap.size) (e := 67) (size := 1) w2 (madeCells #[.pointer none] x10) x10 (by have := HF2.out.size; simpa using this) (by unfold maxLen; omega) (by rw [size_madeCells]; omega)
    refine HFIN.out (.slice (some ⟨w2.heap.size, 0, none⟩) 0 x10) _ _ rfl rfl rfl rfl rfl rfl hset ((((HRD2.out).alloc _).set_ 1 _).drewN nq) ?_
    refine ownsRow_fr hown (S := [rb]) (((Fr.refl _ _).setCell (.inl (by simp)) _).drewN nq) (fun g cur hg _ hm => ?_)
    simp only [List.mem_singleton] at hm
    subst hm
    exact (hg.ne_ (HRD2.out.alloc _) (by decide)) rfl
  · have dp : ((s.size - x12 : Nat) : Int) / 30 < (x10 : Int) := by omega
    go_quiet (fail)
    clear v0 v1
    go_wp2_with fail
    exact HFIN.out (.slice none 0 0) _ _ rfl rfl rfl rfl rfl rfl ((Fr.refl _ w2).drewN nq) (HRD2.out.drewN nq) (World.ownsRow_nil _ _ _ _)
end Go.Proofs.YtalgnjkdoaaacaaGreatDoor

/- NewReader. -/
namespace Go.Proofs.YtalgnjkdoaaacaaGreatDoor
open Go Go.RowKit
open Zp
set_option maxRecDepth 100000 in
set_option maxHeartbeats 4000000 in
theorem rin_bad (E : Errs) (w : World) (rb r : Nat) (s : ByteArray) (hE : Env E w) (hr : StrR w r s) (hw18 : 14 ≤ w.heap.size) (hs : s.size ≤ 4000000000) (hno : NoEnd s.data.toList) :
    Calls Tryz.prog 59 #[.pointer (some ⟨rb, 0, none⟩), strRd r, .int .i64 (s.size : Int)] w fun e w' => e = .returned (errv E.fmt) ∧ Fr [] w w' := by
  have HR := Lib.hid (rde_bad E w r s hE hr hw18 hs hno)
  clear hE hr hno
  go_enter Tryz.func59, Tryz.ntmps59
  go_wp2_with fail
  refine HR.out.mono ?_
  rintro e w1 ⟨rfl, hf⟩
  go_wp2_with fail
  go_ret
  exact ⟨rfl, hf⟩
set_option maxRecDepth 100000 in
set_option maxHeartbeats 4000000 in
theorem nr_bad (E : Errs) (B0 : Nat) (w : World) (r : Nat) (s : ByteArray) (hE : Env E w) (hEB : EB E B0 w) (hr : StrR w r s) (hs : s.size ≤ 4000000000) (hno : NoEnd s.data.toList) :
    Calls Tryz.prog 32 #[strRd r, .int .i64 (s.size : Int)] w fun e w' => e = .returned (.tuple #[.pointer none, errv E.fmt]) ∧ Fr [] w w' := by
  have h18 : 14 ≤ w.heap.size := Nat.le_trans hEB.b18 hEB.le
  have hw1 : Fr [] w (w.alloc (.cells rd0 66)) := (Fr.refl _ _).alloc _
  have HR := Lib.hid (rin_bad E (w.alloc (.cells rd0 66)) w.heap.size r s (hE.fr hw1 (by simp) h18) (Blk.fr hr hw1 (by simp)) (by simp; omega) hs hno)
  have HE := Lib.hid hE
  have HEB := Lib.hid hEB
  clear hE hEB hr hno hw1
  go_enter Tryz.func32, Tryz.ntmps32
  go_wp2_with fail
  refine HR.out.mono ?_
  rintro e w1 ⟨rfl, hf⟩
  have hF := ((Fr.refl [] w).alloc (.cells rd0 66)).trans hf (by simp)
  have hn := neq_other (HEB.out.fr hF (by simp)) E.m.1 E.m.2.2.2.2.2 HEB.out.ne.2.1
  have x5 := (HE.out.fr hF (by simp) h18).ins
  have HF := Lib.hid hF
  clear hF hf
  go_wp2_with fail
  go_ret2
  exact ⟨rfl, HF.out⟩
/-- What NewReader comes to where the directory's end has been found. -/
def NRp (E : Errs) (w : World) (r : Nat) (s cm : ByteArray) (x4 x6 x8 x20 : Int) (x10 x12 x16 : Nat) (PS : List Nat) (B : Nat) (e : Ending) (w' : World) : Prop :=
  ∃ xe U d q gb b fs pos', (xe = E.fmt ∨ xe = E.unx) ∧ e = .returned (if PS.length = x10 then .tuple #[.pointer (some ⟨w.heap.size, 0, none⟩), .nilIface] else .tuple #[.pointer none, errv xe]) ∧
      IN (w.alloc (.cells rd0 66)) U w.heap.size r d q gb b s cm B x4 x6 x8 x10 x12 x16 x20 fs PS pos' w'
set_option maxRecDepth 100000 in
set_option maxHeartbeats 4000000 in
theorem nr_ok (E : Errs) (B0 : Nat) (w : World) (r : Nat) (s cm : ByteArray) (x4 x6 x8 x20 : Int) (x10 x12 x16 : Nat) (PS : List Nat) (qe B : Nat) (hB4 : B + x16 ≤ 4000000000)
    (hrde : ∀ w, Env E w → EB E B0 w → StrR w r s → Calls Tryz.prog 84 #[strRd r, .int .i64 (s.size : Int)] w fun e w' => ∃ d, e = .returned (.tuple #[.pointer (some ⟨d, 0, none⟩), .int .i64 (B : Int), .nilIface]) ∧ w.heap.size ≤ d ∧ Blk w' d 187 (deC x4 x6 x8 x10 x12 x16 x20 cm) ∧ Fr [] w w')
    (hE : Env E w) (hU : UT w) (hEB : EB E B0 w) (hrr : B0 ≤ r) (hr : StrR w r s) (hs : s.size ≤ 4000000000) (hx12 : x12 < s.size) (hch : Chain s.data.toList (B + x16) PS qe) (hend : EndAt s.data.toList qe) (hlen : PS.length ≤ 65535) (hx10 : x10 ≤ 65535) :
    Calls Tryz.prog 32 #[strRd r, .int .i64 (s.size : Int)] w (NRp E w r s cm x4 x6 x8 x20 x10 x12 x16 PS B) := by
  have h18 : 14 ≤ w.heap.size := Nat.le_trans hEB.b18 hEB.le
  have hw1 : Fr [] w (w.alloc (.cells rd0 66)) := (Fr.refl _ _).alloc _
  have hE1 := hE.fr hw1 (by simp) h18
  have hEB1 := hEB.fr hw1 (by simp)
  have hr1 : StrR (w.alloc (.cells rd0 66)) r s := Blk.fr hr hw1 (by simp)
  have HR := Lib.hid (rin_ok E B0 (w.alloc (.cells rd0 66)) w.heap.size r s cm x4 x6 x8 x20 x10 x12 x16 PS qe B hB4 (hrde _ hE1 hEB1 hr1) hE1 (hU.fr hw1 (by simp) h18) hEB1 hEB.le hrr hr1 (Blk.new _ _ _) hs hx12 hch hend hlen hx10)
  have HE := Lib.hid hE
  have HEB := Lib.hid hEB
  clear hE hEB hr hch hw1 hE1 hEB1 hr1 hrde hU hend
  go_enter Tryz.func32, Tryz.ntmps32
  go_wp2_with fail
  refine HR.out.mono ?_
  rintro e w1 ⟨xe, U, d, q, gb, b, fs, pos', hxe, rfl, hI⟩
  have HI := Lib.hid hI
  have hF := ((Fr.refl [] w).alloc (.cells rd0 66)).trans hI.fr (by simp)
  have x5 := (HE.out.fr hF (by simp) h18).ins
  have hn := neq_other (HEB.out.fr hF (by simp)) E.m.1 E.m.2.2.2.2.2 HEB.out.ne.2.1
  have hn2 := neq_other (HEB.out.fr hF (by simp)) E.m.2.2.2.2.1 E.m.2.2.2.2.2 HEB.out.ne.2.2.1
  clear hF hI
  by_cases h : PS.length = x10
  · have HH := Lib.hid h
    rw [if_pos h]
    clear h
    go_wp2_with fail
    go_ret2
    exact ⟨xe, U, d, q, gb, b, fs, pos', hxe, by rw [if_pos HH.out]; rfl, HI.out⟩
  · have HH := Lib.hid h
    rw [if_neg h]
    clear h
    rcases hxe with rfl | rfl
    · go_wp2_with fail
      go_ret2
      exact ⟨_, U, d, q, gb, b, fs, pos', .inl rfl, by rw [if_neg HH.out]; rfl, HI.out⟩
    · go_wp2_with fail
      go_ret2
      exact ⟨_, U, d, q, gb, b, fs, pos', .inr rfl, by rw [if_neg HH.out]; rfl, HI.out⟩
end Go.Proofs.YtalgnjkdoaaacaaGreatDoor

/- readDirectoryHeader: an NTFS extra field (a loop of its own). -/
import Derived.Test.YtalgnjkdoaaacaaGreatDoorQg
import Derived.Deep.CutBlock
set_option linter.unusedVariables false
set_option linter.unusedSimpArgs false
namespace Go.Proofs.YtalgnjkdoaaacaaGreatDoor
open Go Go.RowKit
open Zp
theorem rb64d (p : Addr) (g o n c : Nat) (l : List UInt8) (w : World) (h : RB w p g o n c l) (hl : 8 ≤ l.length) :
    Calls Tryz.prog 117 #[.pointer (some p)] w fun e w' => (∃ z : Int, e = .returned (.int .u64 z)) ∧ Nx w p g o n c 8 (l.drop 8) w' := by
  match l, h, hl with
  | b0 :: b1 :: b2 :: b3 :: b4 :: b5 :: b6 :: b7 :: l, h, _ => exact rb64 p g o n c b0 b1 b2 b3 b4 b5 b6 b7 l w h
theorem num_take2 (l : By) : num (l.take 2) < 65536 := by
  have h1 := num_lt (l.take 2)
  have h2 : (256 : Nat) ^ (l.take 2).length ≤ 256 ^ 2 := Nat.pow_le_pow_right (by omega) (by rw [List.length_take]; omega)
  omega
theorem num_take4 (l : By) : num (l.take 4) < 4294967296 := by
  have h1 := num_lt (l.take 4)
  have h2 : (256 : Nat) ^ (l.take 4).length ≤ 256 ^ 4 := Nat.pow_le_pow_right (by omega) (by rw [List.length_take]; omega)
  omega
/-- How long the slice is to which a pointer points. -/
def lenAt (e : Nat) (w : World) : Nat := match w.cell? ⟨e, 0, none⟩ with
  | some (.slice _ n _) => n
  | _ => 0
theorem RB.lenAt {w : World} {e g o n c : Nat} {l : List UInt8} (h : RB w ⟨e, 0, none⟩ g o n c l) : lenAt e w = n := by
  obtain ⟨a, h1, _⟩ := h.cell
  simp [Proofs.YtalgnjkdoaaacaaGreatDoor.lenAt, h1]
theorem RB.fr {w w' : World} {p : Addr} {g o n c : Nat} {l : List UInt8} {S : List Nat} (h : RB w p g o n c l) (hf : Fr S w w') (hp : p.block < w.heap.size) (hg : g < w.heap.size) (h1 : p.block ∉ S) (h2 : g ∉ S) : RB w' p g o n c l := by
  obtain ⟨a, c1, c2⟩ := h.cell
  exact ⟨⟨a, (hf.cell hp h1).trans c1, c2⟩, (hf.frozen hp h1).trans h.free, h.rd.fr hf hg h2, h.len, h.cap, h.ne⟩
/-- The state of a loop over a slice of bytes that is taken piece by piece. -/
def Piece (w0 : World) (S : List Nat) (tm e2 db : Nat) (w : World) : Prop :=
  (∃ o n c l, RB w ⟨e2, 0, none⟩ db o n c l ∧ n ≤ 1000000) ∧ TM S w0 tm w ∧ e2 < w.heap.size ∧ db < w.heap.size
/-- A part of a slice in a variable of its own. -/
theorem RB.sub {w w1 : World} {p a : Addr} {g o n c k : Nat} {l : List UInt8} (h : RB w p g o n c l) (hf : Fr [p.block] w w1) (hk : k ≤ n) (ha : 0 < k → a = ⟨g, o, none⟩) (hg : g < w.heap.size) (t : TypeId) :
    RB (w1.alloc (.cells #[.slice (some a) k c] t)) ⟨w1.heap.size, 0, none⟩ g o k c (l.take k) := by
  have hB := Blk.new w1 t #[.slice (some a) k c]
  have hz := hf.size
  refine ⟨⟨a, hB.at_ 0 _ rfl, ha⟩, hB.frozen 0, ?_, by rw [List.length_take, h.len]; omega, by have := h.cap; omega, by show g ≠ w1.heap.size; omega⟩
  have h1 : Rd w g o (l.take k) := Rd.left (m := l.drop k) (by rw [List.take_append_drop]; exact h.rd)
  exact h1.fr (S := [p.block]) (hf.alloc _) hg (by simpa using h.ne)
set_option maxRecDepth 100000 in
set_option maxHeartbeats 4000000 in
theorem ntfs_round (a : Act) (w0 w : World) (f tm e e2 db : Nat) (hA : FrA f tm e a) (h24 : slotOf a 24 = .pointer (some ⟨e2, 0, none⟩)) (hP : Piece w0 [tm, e2] tm e2 db w) (hne : e2 ≠ tm) (hnd : db ≠ tm) (Q : Exit → Act → World → Prop)
    (hQ : ∀ x a' w', (x = .exit 2 ∨ x = .exit 4) → FrA f tm e a' → TM [tm, e2] w0 tm w' → Q x a' w')
    (hN : ∀ a' w', FrA f tm e a' → slotOf a' 24 = .pointer (some ⟨e2, 0, none⟩) → Piece w0 [tm, e2] tm e2 db w' → lenAt e2 w' < lenAt e2 w → Q .normal a' w') :
    (rdhLoop 64).wp Tryz.prog Q a w := by
  obtain ⟨⟨o, n, c, l, hr, hm⟩, ⟨⟨u, v, q, ht⟩, hf⟩, hel, hdl⟩ := hP
  have HQ := Lib.hid hQ
  have HN := Lib.hid hN
  have HT := Lib.hid ht
  have HF := Lib.hid hf
  have HL := Lib.hid hr.len
  have HR := Lib.hid hr
  have HLA := Lib.hid hr.lenAt
  obtain ⟨ad, ce, -⟩ := hr.cell
  rw [frame404 hA.size hA.defers, hA.s0, hA.s20, hA.s21, h24]
  clear hQ hN hA h24 ht hf hr
  conv => arg 2; whnf
  by_cases hn : n < 4
  · go_wp2_with fail
    exact HQ.out _ _ _ (.inr rfl) ⟨rfl, rfl, rfl, rfl, rfl⟩ ⟨⟨_, _, _, HT.out⟩, HF.out⟩
  · have hn1 : 4 ≤ n := by omega
    go_wp2_with fail
    refine (rb16d _ _ _ _ _ _ _ HR.out (by have := HL.out; omega)).mono ?_
    rintro e w2 ⟨rfl, hn2⟩
    have H2 := Lib.hid hn2
    obtain ⟨tag, htag⟩ : ∃ t, num (List.take 2 l) = t := ⟨_, rfl⟩
    have HTG := Lib.hid htag
    rw [htag]
    clear hn2 htag
    go_wp2_with fail
    refine (rb16d _ _ _ _ _ _ _ H2.out.nx (by have := HL.out; rw [List.length_drop]; omega)).mono ?_
    rintro e w3 ⟨rfl, hn3⟩
    obtain ⟨fs, hfs⟩ : ∃ t, num (List.take 2 (List.drop 2 l)) = t := ⟨_, rfl⟩
    have HFS := Lib.hid hfs
    rw [hfs]
    have H3 := Lib.hid hn3
    obtain ⟨ad3, ce3, -⟩ := hn3.nx.cell
    clear hn3 hfs
    have hfl : fs < 65536 := by rw [← HFS.out]; exact num_take2 _
    have htl : tag < 65536 := by rw [← HTG.out]; exact num_take2 _
    have hF3 := Lib.hid ((HF.out.trans (H2.out.fr.trans H3.out.fr (by simp)) (S' := [e2]) (by simp)))
    have hB3 := Lib.hid ((HT.out.fr H2.out.fr (by simpa using hne.symm)).fr H3.out.fr (by simpa using hne.symm))
    have hz3 := Lib.hid (show w3.heap.size = w.heap.size from H3.out.size.trans H2.out.size)
    by_cases hlt : n - 2 - 2 < fs
    · go_wp2_with fail
      exact HQ.out _ _ _ (.inl rfl) ⟨rfl, rfl, rfl, rfl, rfl⟩ ⟨⟨_, _, _, hB3.out⟩, hF3.out⟩
    · have hlt1 : fs ≤ n - 2 - 2 := by omega
      go_wp2_with fail
      refine (rbsub _ _ _ _ _ fs _ _ H3.out.nx hlt1 (by omega)).mono ?_
      rintro e w4 ⟨⟨ad4, rfl, had4⟩, hn4⟩
      have H4 := Lib.hid hn4
      have HAD := Lib.hid had4
      clear hn4 had4
      have hF4 := Lib.hid (hF3.out.trans H4.out.fr (by simp))
      have hB4 := Lib.hid (hB3.out.fr H4.out.fr (by simpa using hne.symm))
      have hz4 := Lib.hid (show w4.heap.size = w.heap.size from H4.out.size.trans hz3.out)
      have hP : ∀ w', Fr [tm] w4 w' → (∃ x y p, Blk w' tm 74 (tcells x y p)) → Piece w0 [tm, e2] tm e2 db w' ∧ lenAt e2 w' < lenAt e2 w := fun w' hw hx => by
        have hr := H4.out.nx.fr hw (by have := hz4.out; show e2 < _; omega) (by have := hz4.out; omega) (by simpa using hne) (by simpa using hnd)
        have hs := hw.size
        have hz := hz4.out
        refine ⟨⟨⟨_, _, _, _, hr, by omega⟩, ⟨hx, hF4.out.trans hw (by simp)⟩, by omega, by omega⟩, ?_⟩
        rw [hr.lenAt, HLA.out]; omega
      have HP := Lib.hid hP
      clear hP
      by_cases h1 : tag = 1
      · have b1 : ((tag : Int) != 1) = false := by simp [h1]
        by_cases h2 : fs = 24
        · have b2 : ((fs : Int) != 24) = false := by simp [h2]
          have HF24 := Lib.hid h2
          clear h1 h2
          go_wp2_with fail
          have HR5 := Lib.hid (H3.out.nx.sub (t := 194) H4.out.fr hlt1 HAD.out (by have := hz3.out; omega))
          refine (rb64d _ _ _ _ _ _ _ HR5.out (by have := HR5.out.len; have := HF24.out; omega)).mono ?_
          rintro e w5 ⟨⟨ts, rfl⟩, hn5⟩
          have hF5 := Lib.hid (((Fr.refl [] w4).alloc _).trans hn5.fr (by simp))
          have hz5 := Lib.hid hn5.size
          clear hn5
          go_wp2_with fail
          refine (tUTC _).mono ?_
          rintro e w6 ⟨rfl, rfl⟩
          go_wp2_with fail
          refine (tDate _ _ _ _ _ _ _ w5.heap.size _ (Blk.new w5 _ _)).mono ?_
          rintro e w7 ⟨x7, y7, p7, rfl, hf7⟩
          have hF7 := Lib.hid ((hF5.out.alloc (.cells utcCells 291)).trans hf7 (by simp))
          clear hf7
          go_wp2_with fail
          refine (tUnixOf _ _ _ _).mono ?_
          rintro e w8 ⟨x8, rfl, hf8⟩
          have hF8 := Lib.hid ((hF7.out.alloc (.cells (tcells x7 y7 p7) 74)).trans hf8 (by simp))
          clear hf8
          go_wp2_with fail
          refine (tUnix _ _ _).mono ?_
          rintro e w9 ⟨x9, y9, p9, rfl, hf9⟩
          have hF9 := Lib.hid (hF8.out.trans hf9 (by simp))
          have hB9 : Blk w9 tm 74 (tcells u v q) := hB4.out.fr hF9.out (by simp)
          clear hf9
          obtain ⟨c0, c1, c2, f0, f1, f2⟩ := timeFacts hB9
          go_wp2_with fail
          have hX := TM.put (S := [tm]) hB9 (hF9.out.mono (by simp)) (by simp) x9 y9 p9
          obtain ⟨p1, p2⟩ := HP.out _ hX.2 hX.1
          exact HN.out _ _ ⟨rfl, rfl, rfl, rfl, rfl⟩ rfl p1 p2
        · have b2 : ((fs : Int) != 24) = true := by simp; omega
          clear h1 h2
          go_wp2_with fail
          obtain ⟨p1, p2⟩ := HP.out _ ((Fr.refl [tm] w4).alloc _) ⟨_, _, _, hB4.out.alloc _⟩
          exact HN.out _ _ ⟨rfl, rfl, rfl, rfl, rfl⟩ rfl p1 p2
      · have b1 : ((tag : Int) != 1) = true := by simp; omega
        clear h1
        go_wp2_with fail
        obtain ⟨p1, p2⟩ := HP.out _ ((Fr.refl [tm] w4).alloc _) ⟨_, _, _, hB4.out.alloc _⟩
        exact HN.out _ _ ⟨rfl, rfl, rfl, rfl, rfl⟩ rfl p1 p2
set_option maxRecDepth 100000 in
theorem ntfs_loop (a : Act) (w0 w : World) (f tm e e2 db : Nat) (hA : FrA f tm e a) (h24 : slotOf a 24 = .pointer (some ⟨e2, 0, none⟩)) (hP : Piece w0 [tm, e2] tm e2 db w) (hne : e2 ≠ tm) (hnd : db ≠ tm) (Q : Exit → Act → World → Prop)
    (hQ : ∀ x a' w', (x = .exit 2 ∨ x = .exit 4) → FrA f tm e a' → TM [tm, e2] w0 tm w' → Q x a' w') : (Code.loop (rdhLoop 64)).wp Tryz.prog Q a w := by
  refine wp_loop (fun a w => FrA f tm e a ∧ slotOf a 24 = .pointer (some ⟨e2, 0, none⟩) ∧ Piece w0 [tm, e2] tm e2 db w) (fun _ w => lenAt e2 w) ⟨hA, h24, hP⟩ ?_
  rintro a w ⟨hA, h24, hP⟩
  refine ntfs_round a w0 w f tm e e2 db hA h24 hP hne hnd _ ?_ ?_
  · rintro x a' w' (rfl | rfl) h1 h2
    · exact hQ _ _ _ (.inl rfl) h1 h2
    · exact hQ _ _ _ (.inr rfl) h1 h2
  · intro a' w' h1 h2 h3 h4
    exact ⟨⟨h1, h2, h3⟩, h4⟩
set_option maxRecDepth 100000 in
set_option maxHeartbeats 4000000 in
theorem sw_ntfs (a : Act) (w : World) (f tm e e2 db o n c : Nat) (l : List UInt8) (hA : FrA f tm e a) (h24 : slotOf a 24 = .pointer (some ⟨e2, 0, none⟩)) (h243 : slotOf a 243 = .int .u16 10)
    (hr : RB w ⟨e2, 0, none⟩ db o n c l) (hne : e2 ≠ tm) (hnd : db ≠ tm) (hm : n ≤ 1000000) (hel : e2 < w.heap.size) (hdl : db < w.heap.size) (u v : Int) (q : Option Addr)
    (ht : Blk w tm 74 (tcells u v q)) (Q : Exit → Act → World → Prop) (hQ : ∀ x a' w', (x = .normal ∨ x = .exit 2) → FrA f tm e a' → TM [tm, e2] w tm w' → Q x a' w') :
    (rdhFrom 48).wp Tryz.prog Q a w := by
  have HQ := Lib.hid hQ
  have HT := Lib.hid ht
  have HL := Lib.hid hr.len
  have HR := Lib.hid hr
  obtain ⟨ad, ce, -⟩ := hr.cell
  rw [frame404 hA.size hA.defers, hA.s0, hA.s20, hA.s21, h24, h243]
  clear hQ hA h24 h243 ht hr
  conv => arg 2; whnf
  by_cases hn : n < 4
  · go_wp2_with fail
    exact HQ.out _ _ _ (.inr rfl) ⟨rfl, rfl, rfl, rfl, rfl⟩ ⟨⟨_, _, _, HT.out⟩, Fr.refl _ _⟩
  · go_wp2_with fail
    refine (rb32d _ _ _ _ _ _ _ HR.out (by have := HL.out; omega)).mono ?_
    rintro e w2 ⟨rfl, hn2⟩
    have H2 := Lib.hid hn2
    clear hn2
    have hF := Lib.hid (H2.out.fr.mono (S' := [tm, e2]) (by simp))
    have hB := Lib.hid (HT.out.fr H2.out.fr (by simpa using hne.symm))
    go_wp2_with fail
    refine ntfs_loop _ w w2 f tm e e2 db ⟨rfl, rfl, rfl, rfl, rfl⟩ rfl ⟨⟨_, _, _, _, H2.out.nx, by omega⟩, ⟨⟨_, _, _, hB.out⟩, hF.out⟩, by have := H2.out.size; omega, by have := H2.out.size; omega⟩ hne hnd _ ?_
    rintro x a' w' (rfl | rfl) h1 h2
    · exact HQ.out _ _ _ (.inr rfl) h1 h2
    · exact HQ.out _ _ _ (.inl rfl) h1 h2
end Go.Proofs.YtalgnjkdoaaacaaGreatDoor

/- readDirectoryHeader: the loop over the extra fields. -/
namespace Go.Proofs.YtalgnjkdoaaacaaGreatDoor
open Go Go.RowKit
open Zp
set_option maxRecDepth 100000 in
theorem rdh_switch (a : Act) (w : World) (f tm e e2 tag db o n c : Nat) (l : List UInt8) (C : Int → Int → Option Addr → Array Value) (a13 a14 a21 : Int) (hX : HX C a13 a14 a21) (m0 m1 : Int) (mp : Option Addr) (hf : Blk w f fileT (C m0 m1 mp))
    (hA : FrA f tm e a) (h24 : slotOf a 24 = .pointer (some ⟨e2, 0, none⟩)) (h243 : slotOf a 243 = .int .u16 (tag : Int))
    (hr : RB w ⟨e2, 0, none⟩ db o n c l) (hne : e2 ≠ tm) (hnd : db ≠ tm) (hm : n ≤ 1000000) (hel : e2 < w.heap.size) (hdl : db < w.heap.size) (u v : Int) (q : Option Addr)
    (ht : Blk w tm 74 (tcells u v q)) (Q : Exit → Act → World → Prop) (hQ : ∀ x a' w', (x = .normal ∨ x = .exit 2) → FrA f tm e a' → TM [tm, e2] w tm w' → Q x a' w') :
    (rdhFrom 48).wp Tryz.prog Q a w := by
  by_cases h1 : tag = 1
  · subst h1
    exact sw_zip64 a w f tm e e2 C a13 a14 a21 hX m0 m1 mp hf hA h24 h243 ⟨_, _, _, ht⟩ Q hQ
  · by_cases h2 : tag = 10
    · subst h2
      exact sw_ntfs a w f tm e e2 db o n c l hA h24 h243 hr hne hnd hm hel hdl u v q ht Q hQ
    · by_cases h3 : tag = 13 ∨ tag = 22613
      · exact sw_unix a w f tm e e2 tag db o n c l hA h24 h243 hr hne u v q ht Q hQ h3
      · by_cases h4 : tag = 21589
        · subst h4
          exact sw_ext a w f tm e e2 db o n c l hA h24 h243 hr hne u v q ht Q hQ
        · exact sw_other a w f tm e e2 tag hA h24 h243 ⟨_, _, _, ht⟩ Q hQ h1 h2 (by omega) (by omega) h4
set_option maxRecDepth 100000 in
theorem rdh85 (a : Act) (w : World) (f tm e : Nat) (v : Value) (hA : FrA f tm e a) (hc : w.cell? ⟨e, 0, none⟩ = some v) (hv : ∃ b n c, v = .slice b n c) (Q : Exit → Act → World → Prop)
    (hQ : ∀ a', FrA f tm w.heap.size a' → Q .normal a' (w.alloc (.cells #[v] 194))) : (rdhFrom 85).wp Tryz.prog Q a w := by
  obtain ⟨b, n, c, rfl⟩ := hv
  have HQ := Lib.hid hQ
  rw [frame404 hA.size hA.defers, hA.s0, hA.s20, hA.s21]
  clear hQ hA
  conv => arg 2; whnf
  go_wp2_with fail
  exact HQ.out _ ⟨rfl, rfl, rfl, rfl, rfl⟩
/-- The state of the loop over the extra fields. -/
def IX (w0 : World) (f tm db : Nat) (a : Act) (w : World) : Prop := ∃ e, FrA f tm e a ∧ w0.heap.size ≤ e ∧ Piece w0 [tm] tm e db w
def lenX (a : Act) (w : World) : Nat := match slotOf a 21 with
  | .pointer (some p) => lenAt p.block w
  | _ => 0
theorem lenX_of {f tm e : Nat} {a : Act} (h : FrA f tm e a) (w : World) : lenX a w = lenAt e w := by simp [lenX, h.s21]
set_option maxRecDepth 100000 in
set_option maxHeartbeats 4000000 in
theorem ext_round (a : Act) (w0 w : World) (f tm e db : Nat) (C : Int → Int → Option Addr → Array Value) (a13 a14 a21 : Int) (hX : HX C a13 a14 a21) (m0 m1 : Int) (mp : Option Addr) (hf : Blk w0 f fileT (C m0 m1 mp)) (hft : f ≠ tm) (htl : tm < w0.heap.size)
    (hA : FrA f tm e a) (he : w0.heap.size ≤ e) (hP : Piece w0 [tm] tm e db w) (hnd : db ≠ tm) (hdb : db < w0.heap.size) (Q : Exit → Act → World → Prop)
    (hQ : ∀ a' w', IX w0 f tm db a' w' → Q (.exit 1) a' w') (hN : ∀ a' w', IX w0 f tm db a' w' → lenX a' w' < lenAt e w → Q .normal a' w') :
    (rdhLoop 42).wp Tryz.prog Q a w := by
  obtain ⟨⟨o, n, c, l, hr, hm⟩, ⟨⟨u, v, q, ht⟩, hfr⟩, hel, hdl⟩ := hP
  have HQ := Lib.hid hQ
  have HN := Lib.hid hN
  have HT := Lib.hid ht
  have HF := Lib.hid hfr
  have HL := Lib.hid hr.len
  have HR := Lib.hid hr
  have HLA := Lib.hid hr.lenAt
  have HFB := Lib.hid hf
  have HX' := Lib.hid hX
  have hne : e ≠ tm := by omega
  obtain ⟨ad, ce, -⟩ := hr.cell
  rw [frame404 hA.size hA.defers, hA.s0, hA.s20, hA.s21]
  clear hQ hN hA ht hfr hr hf hX
  conv => arg 2; whnf
  by_cases hn : n < 4
  · go_wp2_with fail
    exact HQ.out _ _ ⟨e, ⟨rfl, rfl, rfl, rfl, rfl⟩, he, ⟨_, _, _, _, HR.out, hm⟩, ⟨⟨_, _, _, HT.out⟩, HF.out⟩, hel, hdl⟩
  · have hn1 : 4 ≤ n := by omega
    go_wp2_with fail
    refine (rb16d _ _ _ _ _ _ _ HR.out (by have := HL.out; omega)).mono ?_
    rintro _ w2 ⟨rfl, hn2⟩
    have H2 := Lib.hid hn2
    obtain ⟨tag, htag⟩ : ∃ t, num (List.take 2 l) = t := ⟨_, rfl⟩
    have HTG := Lib.hid htag
    rw [htag]
    clear hn2 htag
    go_wp2_with fail
    refine (rb16d _ _ _ _ _ _ _ H2.out.nx (by have := HL.out; rw [List.length_drop]; omega)).mono ?_
    rintro _ w3 ⟨rfl, hn3⟩
    obtain ⟨fs, hfs⟩ : ∃ t, num (List.take 2 (List.drop 2 l)) = t := ⟨_, rfl⟩
    have HFS := Lib.hid hfs
    rw [hfs]
    have H3 := Lib.hid hn3
    obtain ⟨ad3, ce3, -⟩ := hn3.nx.cell
    clear hn3 hfs
    have hfl : fs < 65536 := by rw [← HFS.out]; exact num_take2 _
    have htg : tag < 65536 := by rw [← HTG.out]; exact num_take2 _
    have hF3 := Lib.hid ((HF.out.trans (H2.out.fr.trans H3.out.fr (by simp)) (S' := [e]) (by simp; omega)))
    have hB3 := Lib.hid ((HT.out.fr H2.out.fr (by simpa using hne.symm)).fr H3.out.fr (by simpa using hne.symm))
    have hz3 := Lib.hid (show w3.heap.size = w.heap.size from H3.out.size.trans H2.out.size)
    by_cases hlt : n - 2 - 2 < fs
    · go_wp2_with fail
      exact HQ.out _ _ ⟨e, ⟨rfl, rfl, rfl, rfl, rfl⟩, he, ⟨_, _, _, _, H3.out.nx, by omega⟩, ⟨⟨_, _, _, hB3.out⟩, hF3.out⟩, by have := hz3.out; omega, by have := hz3.out; omega⟩
    · have hlt1 : fs ≤ n - 2 - 2 := by omega
      go_wp2_with fail
      refine (rbsub _ _ _ _ _ fs _ _ H3.out.nx hlt1 (by omega)).mono ?_
      rintro _ w4 ⟨⟨ad4, rfl, had4⟩, hn4⟩
      have H4 := Lib.hid hn4
      have HAD := Lib.hid had4
      clear hn4 had4
      have hF4 := Lib.hid (hF3.out.trans H4.out.fr (by simp; omega))
      have hB4 := Lib.hid (hB3.out.fr H4.out.fr (by simpa using hne.symm))
      have hz4 := Lib.hid (show w4.heap.size = w.heap.size from H4.out.size.trans hz3.out)
      have HR5 := Lib.hid (H3.out.nx.sub (t := 194) H4.out.fr hlt1 HAD.out (by have := hz3.out; omega))
      have hF5 := Lib.hid ((Fr.refl [] w4).alloc (.cells #[.slice (some ad4) fs (c - 2 - 2)] 194))
      go_upto_block 3 with fail
      rename_i K hK
      refine wp_block ?_
      refine rdh_switch _ _ f tm e w4.heap.size tag db _ fs _ _ C a13 a14 a21 HX'.out m0 m1 mp ((HFB.out.fr hF4.out (by simpa using hft)).alloc _) ⟨rfl, rfl, rfl, rfl, rfl⟩ rfl rfl HR5.out ?_ hnd (by omega) (by simp) (by simp; have := hz4.out; omega) u v q (hB4.out.alloc _) _ ?_
      · have := hB4.out.lt; omega
      · intro x a' w' hx hA' hT'
        have hsz := hT'.2.size
        have hz := hz4.out
        have hr' := (H4.out.nx.fr hF5.out (by show e < _; omega) (by omega) (by simp) (by simp)).fr hT'.2 (by simp; omega) (by simp; omega) (by simp; omega) (by simp; omega)
        have hc' := hr'.cell
        obtain ⟨ad6, c6, h6⟩ := hc'
        have hk : K a' w' := by
          refine hK _ _ (rdh85 a' w' f tm e _ hA' c6 ⟨_, _, _, rfl⟩ Q ?_)
          intro a2 hA2
          have hfw : Fr [tm] w4 w' := hF5.out.mono (S' := [tm]) (by simp) |>.trans hT'.2 (by simp)
          have hr2 := hr'.sub (t := 194) (k := n - 2 - 2 - fs) (Fr.refl _ w') (Nat.le_refl _) h6 (by simp at hsz; omega)
          have hX2 : IX w0 f tm db a2 (w'.alloc (.cells #[.slice (some ad6) (n - 2 - 2 - fs) (c - 2 - 2 - fs)] 194)) := by
            obtain ⟨⟨x1, y1, p1, hb1⟩, -⟩ := hT'
            exact ⟨_, hA2, by have := hF4.out.size; simp at hsz; omega, ⟨_, _, _, _, hr2, by omega⟩, ⟨⟨_, _, _, hb1.alloc _⟩, (hF4.out.trans hfw (by simp)).alloc _⟩, by simp, by simp at hsz ⊢; omega⟩
          exact HN.out _ _ hX2 (by rw [lenX_of hA2, hr2.lenAt, HLA.out]; omega)
        rcases hx with rfl | rfl
        · exact hk
        · exact hk
set_option maxRecDepth 100000 in
theorem ext_loop (a : Act) (w0 w : World) (f tm db : Nat) (C : Int → Int → Option Addr → Array Value) (a13 a14 a21 : Int) (hX : HX C a13 a14 a21) (m0 m1 : Int) (mp : Option Addr) (hf : Blk w0 f fileT (C m0 m1 mp)) (hft : f ≠ tm) (htl : tm < w0.heap.size)
    (hI : IX w0 f tm db a w) (hnd : db ≠ tm) (hdb : db < w0.heap.size) (Q : Exit → Act → World → Prop)
    (hQ : ∀ a' w', IX w0 f tm db a' w' → Q (.exit 1) a' w') : (Code.loop (rdhLoop 42)).wp Tryz.prog Q a w := by
  refine wp_loop (fun a w => IX w0 f tm db a w) (fun a w => lenX a w) hI ?_
  rintro a w ⟨e, hA, he, hP⟩
  refine ext_round a w0 w f tm e db C a13 a14 a21 hX m0 m1 mp hf hft htl hA he hP hnd hdb _ ?_ ?_
  · intro a' w' h
    exact hQ a' w' h
  · intro a' w' h1 h2
    exact ⟨h1, by rw [lenX_of hA]; exact h2⟩
end Go.Proofs.YtalgnjkdoaaacaaGreatDoor

/- readDirectoryHeader: from the extra fields on. -/
namespace Go.Proofs.YtalgnjkdoaaacaaGreatDoor
open Go Go.RowKit
open Zp
set_option maxRecDepth 100000 in
set_option maxHeartbeats 4000000 in
theorem rdh40 (a : Act) (w : World) (f db o x c : Nat) (l : List UInt8) (ad : Option Addr) (C : Int → Int → Option Addr → Array Value) (a10 a11 a13 a14 a21 : Int) (hC : HC C a10 a11) (hX : HX C a13 a14 a21) (m0 m1 : Int) (mp : Option Addr)
    (hs : a.tmps.size = 404) (hd : a.defers = []) (h0 : slotOf a 0 = .pointer (some ⟨f, 0, none⟩)) (hf : Blk w f fileT (C m0 m1 mp))
    (g17 : (C m0 m1 mp)[17]? = some (.slice ad x c)) (had : ∃ a, ad = some a ∧ (0 < x → a = ⟨db, o, none⟩)) (hl : l.length = x) (hxc : x ≤ c) (hx : x ≤ 1000000) (hrd : Rd w db o l) (hdb : db < w.heap.size) (Q : Exit → Act → World → Prop)
    (hQ : ∀ a' w', a'.defers = [] → a'.tmps.getD 4 undef = .nilIface → TF w f C w' → Q .ret a' w') :
    (rdhFrom 40).wp Tryz.prog Q a w := by
  obtain ⟨ad, rfl, had⟩ := had
  have HQ := Lib.hid hQ
  have HF := Lib.hid hf
  have c17 := hf.at_ 17 _ g17
  have hlt := hf.lt
  have HC' := Lib.hid hC
  have HX' := Lib.hid hX
  have HL := Lib.hid hl
  have HAD := Lib.hid had
  have HRD := Lib.hid hrd
  rw [frame404 hs hd, h0]
  clear hQ hf h0 hs hd hC hX g17 hl had hrd
  conv => arg 2; whnf
  go_wp2_with fail
  rename_i K0 hK0
  refine wp_label ?_
  refine hK0 _ _ ?_
  clear hK0 K0
  go_wp2_with fail
  rename_i K hK
  have hB1 := Blk.new w 74 t0cells
  have hB2 := Blk.new1 w (.cells t0cells 74) 194 #[.slice (some ad) x c]
  refine ext_loop _ (w.alloc (.cells t0cells 74)) _ f w.heap.size db C a13 a14 a21 HX'.out m0 m1 mp (HF.out.alloc _) (by omega) (by simp) ?_ (by omega) (by simp; omega) _ ?_
  · refine ⟨w.heap.size + 1, ⟨rfl, rfl, rfl, rfl, rfl⟩, by simp, ⟨o, x, c, l, ⟨⟨ad, hB2.at_ 0 _ rfl, HAD.out⟩, hB2.frozen 0, (HRD.out.fr (S := []) (((Fr.refl [] w).alloc _).alloc _) hdb (by simp)), HL.out, hxc, by show db ≠ w.heap.size + 1; omega⟩, hx⟩, ⟨⟨_, _, _, hB1.alloc _⟩, (Fr.refl _ _).alloc _⟩, by simp, by simp; omega⟩
  · rintro a' w' ⟨e, hA, he, hP⟩
    obtain ⟨-, ⟨⟨x1, y1, p1, hb1⟩, hfr⟩, -, -⟩ := hP
    refine hK _ _ (rdh_tail a' w' w' f w.heap.size C a10 a11 HC'.out m0 m1 mp x1 y1 p1 hA.size hA.defers hA.s0 hA.s20 ((HF.out.alloc _).fr hfr (by simp; omega)) hb1 (Fr.refl _ _) _ ?_)
    intro a2 w2 h1 h2 h3
    exact HQ.out _ _ h1 h2 ⟨h3.1, (((Fr.refl [f] w).alloc _).trans hfr (by simp)).trans h3.2 (by simp)⟩
end Go.Proofs.YtalgnjkdoaaacaaGreatDoor

/- readDirectoryHeader: name, extra fields, comment. -/
namespace Go.Proofs.YtalgnjkdoaaacaaGreatDoor
open Go Go.RowKit
open Zp
/-- The tables of package utf8. -/
def UT (w : World) : Prop := Lib.Utf8Tabs 12 13 w
theorem UT.fr {w w' : World} {S : List Nat} (h : UT w) (hf : Fr S w w') (hS : ∀ s ∈ S, 14 ≤ s) (hw : 14 ≤ w.heap.size) : UT w' := by
  have hb := hf.below (B := 14) hS hw
  exact ⟨fun c hc => (hb.cell (p := ⟨12, c, none⟩) (by simp)).trans (h.1 c hc), fun i hi => ⟨(hb.cell (p := ⟨13, 2 * i, none⟩) (by simp)).trans (h.2 i hi).1, (hb.cell (p := ⟨13, 2 * i + 1, none⟩) (by simp)).trans (h.2 i hi).2⟩⟩
abbrev sliceT : Nat := 76
abbrev byteT : Nat := 5
theorem sizeOf_byte : ∀ w, (Go.sizeOf byteT).run Tryz.prog w = .ok 1 w := fun _ => by kernel_rfl
theorem u8slice : Tryz.prog.underlying sliceT = some (.slice (Tryz.prog.elem sliceT)) := by kernel_rfl
theorem u8elem : Tryz.prog.elem sliceT = byteT := by kernel_rfl
/-- 's[l:h]' of a row of bytes. -/
theorem slice_mid (g o len cap l h : Nat) (hlh : l ≤ h) (hh : h ≤ cap) : ∃ ad : Addr, (l < cap → ad = ⟨g, o + l, none⟩) ∧
    ∀ W, (Instr.slice sliceT (.slice (some ⟨g, o, none⟩) len cap) (some (.int .i64 (l : Int))) (some (.int .i64 (h : Int))) none).run Tryz.prog W = .ok (.slice (some ad) (h - l) (cap - l)) W := by
  refine ⟨if cap = l then ⟨g, o, none⟩ else ⟨g, o + l, none⟩, fun hl => if_neg (by omega), fun W => ?_⟩
  rw [run_slice_lh W sliceT _ _ _ u8slice .i64 .i64 _ _ (by omega) (by omega) (by omega), u8elem, sizeOf_byte]
  by_cases h0 : l = 0
  · subst h0
    by_cases hne : cap = 0
    · subst hne; simp [Result.andThen, sliced]
    · simp [Result.andThen, sliced, Addr.add, hne]
  · by_cases hne : cap = l
    · subst hne; simp [Result.andThen, sliced]
    · simp [Result.andThen, sliced, Addr.add, hne, h0]
/-- 's[l:]' of a row of bytes. -/
theorem slice_from (g o len cap l : Nat) (hl : l ≤ len) (hc : len ≤ cap) : ∃ ad : Addr, (l < cap → ad = ⟨g, o + l, none⟩) ∧
    ∀ W, (Instr.slice sliceT (.slice (some ⟨g, o, none⟩) len cap) (some (.int .i64 (l : Int))) none none).run Tryz.prog W = .ok (.slice (some ad) (len - l) (cap - l)) W := by
  refine ⟨if cap = l then ⟨g, o, none⟩ else ⟨g, o + l, none⟩, fun hl => if_neg (by omega), fun W => ?_⟩
  rw [run_slice_l W sliceT _ _ _ u8slice .i64 _ (by omega) (by omega), u8elem, sizeOf_byte]
  by_cases h0 : l = 0
  · subst h0
    by_cases hne : cap = 0
    · subst hne; simp [Result.andThen, sliced]
    · simp [Result.andThen, sliced, Addr.add, hne]
  · by_cases hne : cap = l
    · subst hne; simp [Result.andThen, sliced]
    · simp [Result.andThen, sliced, Addr.add, hne, h0]
/-- 'string(b)'. -/
theorem conv_str (w : World) (a : Addr) (g o n cap : Nat) (l : List UInt8) (hl : l.length = n) (ha : 0 < n → a = ⟨g, o, none⟩) (hr : Rd w g o l) :
    (convert sliceT 9 (.slice (some a) n cap)).run Tryz.prog w = .ok (.string ⟨l.toArray⟩) w := by
  subst hl
  refine run_convert_bytes_back w sliceT 9 byteT a cap l Tryz.underlying76 (by kernel_rfl) (by kernel_rfl) fun j hj => ?_
  rw [ha (by omega)]
  have := hr j l[j] (List.getElem?_eq_getElem hj)
  unfold Addr.add
  split
  · rename_i h; subst h; exact this
  · exact this
/-- Whether a name and a comment are told not to be UTF-8. -/
def nonB (v1 q1 v2 q2 : Bool) (fl : Int) : Bool := if !v1 || !v2 then true else if !q1 && !q2 then false else bits .and .u16 fl 2048 == 0
/-- What the rest of a header comes to. -/
structure HdrOut (w : World) (q gb b r f pos n x c : Nat) (s : ByteArray) (a3 a4 a5 a6 a10 a11 a12 a13 a14 a15 a16 a18 a21 : Int) (z : Nat) (w' : World) : Prop where
  out : ∃ (v1 q1 v2 q2 : Bool) (ad : Addr) (db : Nat) (m0 m1 : Int) (mp : Option Addr),
    Det ⟨((s.data.toList.drop pos).take n).toArray⟩ 0 false v1 q1 ∧ Det ⟨((s.data.toList.drop (pos + n + x)).take c).toArray⟩ 0 false v2 q2 ∧
    Blk w' f fileT (hdrC a3 a4 a5 a6 a10 a11 a12 a13 a14 a15 a16 a18 a21 ⟨((s.data.toList.drop pos).take n).toArray⟩ ⟨((s.data.toList.drop (pos + n + x)).take c).toArray⟩ (nonB v1 q1 v2 q2 a5) (.slice (some ad) x (x + c)) m0 m1 mp z r) ∧
    (0 < x → ad = ⟨db, n, none⟩) ∧ w.heap.size ≤ db ∧ (∃ cs, Blk w' db byteT cs) ∧ Rd w' db n ((s.data.toList.drop (pos + n)).take x)
  buf : BufR w' q gb b r s (pos + (n + x + c))
  fr : Fr [q, gb, b, f] w w'
/-- What stands behind name, extra fields and comment. -/
def Rdh30 (w : World) (f g n x c r z : Nat) (nm cm : List UInt8) (a3 a4 a5 a6 a10 a11 a12 a13 a14 a15 a16 a18 a21 : Int) (w' : World) : Prop :=
  (∃ (v1 q1 v2 q2 : Bool) (ad : Addr) (m0 m1 : Int) (mp : Option Addr), Det ⟨nm.toArray⟩ 0 false v1 q1 ∧ Det ⟨cm.toArray⟩ 0 false v2 q2 ∧
    Blk w' f fileT (hdrC a3 a4 a5 a6 a10 a11 a12 a13 a14 a15 a16 a18 a21 ⟨nm.toArray⟩ ⟨cm.toArray⟩ (nonB v1 q1 v2 q2 a5) (.slice (some ad) x (x + c)) m0 m1 mp z r) ∧ (0 < x → ad = ⟨g, n, none⟩)) ∧ Fr [f] w w'
set_option maxRecDepth 100000 in
set_option maxHeartbeats 4000000 in
theorem rdh30 (a : Act) (w : World) (f g n x c N r z : Nat) (nm ex cm : List UInt8) (a3 a4 a5 a6 a10 a11 a12 a13 a14 a15 a16 a18 a21 : Int) (hU : UT w)
    (hn : n ≤ 65535) (hx : x ≤ 65535) (hc : c ≤ 65535) (hN : n + x + c = N) (n13 : a13 ≠ 4294967295) (n14 : a14 ≠ 4294967295) (n21 : a21 ≠ 4294967295)
    (hs : a.tmps.size = 404) (hd : a.defers = []) (h0 : slotOf a 0 = .pointer (some ⟨f, 0, none⟩))
    (h10 : slotOf a 10 = .int .i64 (n : Int)) (h11 : slotOf a 11 = .int .i64 (x : Int)) (h13 : slotOf a 13 = .slice (some ⟨g, 0, none⟩) N N)
    (r1 : Rd w g 0 nm) (r2 : Rd w g n ex) (r3 : Rd w g (n + x) cm) (lnm : nm.length = n) (lex : ex.length = x) (lcm : cm.length = c) (hg : g < w.heap.size) (hgf : g ≠ f)
    (hf : Blk w f fileT (hdrC a3 a4 a5 a6 a10 a11 a12 a13 a14 a15 a16 a18 a21 ⟨#[]⟩ ⟨#[]⟩ false (.slice none 0 0) 0 0 none z r)) (hf18 : 14 ≤ f) (hw18 : 14 ≤ w.heap.size) (Q : Exit → Act → World → Prop)
    (hQ : ∀ a' w', a'.defers = [] → a'.tmps.getD 4 undef = .nilIface → Rdh30 w f g n x c r z nm cm a3 a4 a5 a6 a10 a11 a12 a13 a14 a15 a16 a18 a21 w' → Q .ret a' w') :
    (rdhFrom 30).wp Tryz.prog Q a w := by
  obtain ⟨ad1, had1, hm1⟩ := slice_mid g 0 N N n (n + x) (by omega) (by omega)
  obtain ⟨ad2, had2, hm2⟩ := slice_from g 0 N N (n + x) (by omega) (Nat.le_refl _)
  rw [show n + x - n = x by omega, show N - n = x + c by omega, Int.natCast_add] at hm1
  rw [show N - (n + x) = c by omega, Int.natCast_add] at hm2
  have i1 : (n : Int) ≤ (N : Int) := by omega
  have B0 := hf.set_ 0 (.string ⟨nm.toArray⟩)
  have B1 := B0.set_ 17 (.slice (some ad1) x (x + c))
  have B2 := B1.set_ 1 (.string ⟨cm.toArray⟩)
  have k1 := conv_str w ⟨g, 0, none⟩ g 0 n N nm lnm (fun _ => rfl) r1
  have k2 := conv_str _ ad2 g (n + x) c c cm lcm (fun h => by rw [had2 (by omega), Nat.zero_add]) ((r3.far (p := ⟨f, 0, none⟩) hgf (.string ⟨nm.toArray⟩)).far (p := ⟨f, 17, none⟩) hgf (.slice (some ad1) x (x + c)))
  have c0 := hf.at_ 0 (.string ⟨#[]⟩) rfl
  have c1 := hf.at_ 1 (.string ⟨#[]⟩) rfl
  have c2 := hf.at_ 2 (.bool false) rfl
  have c17 := hf.at_ 17 (.slice none 0 0) rfl
  have f0 := hf.frozen 0
  have f1 := hf.frozen 1
  have f17 := hf.frozen 17
  have HQ := Lib.hid hQ
  have HU := Lib.hid hU
  have HF := Lib.hid hf
  have HB := Lib.hid B2
  have HN := Lib.hid hN
  have HA1 := Lib.hid had1
  have HLE := Lib.hid lex
  have HR2 := Lib.hid r2
  have HL1 := Lib.hid lnm
  have HL2 := Lib.hid lcm
  have HW := Lib.hid ((((Fr.refl [f] w).setCell (p := ⟨f, 0, none⟩) (.inl (by simp)) (.string ⟨nm.toArray⟩)).setCell (p := ⟨f, 17, none⟩) (.inl (by simp)) (.slice (some ad1) x (x + c))).setCell (p := ⟨f, 1, none⟩) (.inl (by simp)) (.string ⟨cm.toArray⟩))
  rw [frame404 hs hd, h0, h10, h11, h13]
  clear hQ hU hs hd h0 h10 h11 h13 hf B0 B1 B2 hN had1 had2 r1 r2 r3 lnm lex lcm
  conv => arg 2; whnf
  go_wp2_with fail
  have hz1 : (⟨nm.toArray⟩ : ByteArray).size ≤ 4000000000 := by show nm.toArray.size ≤ _; rw [List.size_toArray, HL1.out]; omega
  have hz2 : (⟨cm.toArray⟩ : ByteArray).size ≤ 4000000000 := by show cm.toArray.size ≤ _; rw [List.size_toArray, HL2.out]; omega
  have hs18 : ∀ s ∈ [f], 14 ≤ s := by simpa using hf18
  refine (detect_any _ _ hz1 (fun w' h => (HU.out.fr HW.out hs18 hw18).fr h (by simp) (by simpa [World.setCell] using hw18))).mono ?_
  rintro e w2 ⟨v1, q1, hd1, rfl, hf2⟩
  have HD1 := Lib.hid hd1
  have HW2 := Lib.hid (HW.out.trans hf2 (by simp))
  have HB2 := Lib.hid (HB.out.fr hf2 (by simp))
  clear hm1 hm2 i1 k1 k2 c0 c1 c2 c17 f0 f1 f17 hd1 hf2
  have c1 := HB2.out.at_ 1 (.string ⟨cm.toArray⟩) rfl
  go_wp2_with fail
  refine (detect_any _ _ hz2 (fun w' h => (HU.out.fr HW2.out hs18 hw18).fr h (by simp) (by have := HW2.out.size; omega))).mono ?_
  rintro e w3 ⟨v2, q2, hd2, rfl, hf3⟩
  have HD2 := Lib.hid hd2
  have HW3 := Lib.hid (HW2.out.trans hf3 (by simp))
  have hB3 := HB2.out.fr hf3 (by simp)
  have HB3 := Lib.hid (show Blk w3 f fileT (hdrC a3 a4 a5 a6 a10 a11 a12 a13 a14 a15 a16 a18 a21 ⟨nm.toArray⟩ ⟨cm.toArray⟩ false (.slice (some ad1) x (x + c)) 0 0 none z r) from hB3)
  clear c1 hd2 hf3 hB3 hz1 hz2
  have c2 := HB3.out.at_ 2 (.bool false) rfl
  have c5 := HB3.out.at_ 5 (.int .u16 a5) rfl
  have f2 := HB3.out.frozen 2
  go_upto_block 0 with fail
  rename_i K hK
  have HK := Lib.hid hK
  clear hK
  refine wp_block ?_
  have fin : ∀ (nu : Bool) (a' : Act), nu = nonB v1 q1 v2 q2 a5 → a'.tmps.size = 404 → a'.defers = [] → slotOf a' 0 = .pointer (some ⟨f, 0, none⟩) → K a' (w3.setCell ⟨f, 2, none⟩ (.bool nu)) := by
    intro nu a' hnu hs' hd' h0'
    subst hnu
    have hB4 := HB3.out.set_ 2 (.bool (nonB v1 q1 v2 q2 a5))
    have hN := HN.out
    have hr2 := (HR2.out.fr HW3.out hg (by simpa using hgf)).far (p := ⟨f, 2, none⟩) hgf (.bool (nonB v1 q1 v2 q2 a5))
    refine HK.out _ _ (rdh40 a' _ f g n x (x + c) ex (some ad1) (fun m0 m1 mp => hdrC a3 a4 a5 a6 a10 a11 a12 a13 a14 a15 a16 a18 a21 ⟨nm.toArray⟩ ⟨cm.toArray⟩ (nonB v1 q1 v2 q2 a5) (.slice (some ad1) x (x + c)) m0 m1 mp z r) a10 a11 a13 a14 a21 ⟨fun _ _ _ => rfl, fun _ _ _ => rfl, fun _ _ _ => rfl, fun _ _ _ => rfl, fun _ _ _ => rfl, fun _ _ _ _ _ _ => rfl⟩ ⟨fun _ _ _ => rfl, fun _ _ _ => rfl, fun _ _ _ => rfl, n13, n14, n21⟩ 0 0 none
      hs' hd' h0' hB4 rfl ⟨ad1, rfl, fun h => by rw [HA1.out (by omega), Nat.zero_add]⟩ HLE.out (by omega) (by omega) hr2 (by have := HW3.out.size; simp [World.setCell]; omega) _ ?_)
    intro a2 w2 h1 h2 h3
    obtain ⟨⟨m0, m1, mp, hb⟩, hfr⟩ := h3
    exact HQ.out _ _ h1 h2 ⟨⟨v1, q1, v2, q2, ad1, m0, m1, mp, HD1.out, HD2.out, hb, fun h => by rw [HA1.out (by omega), Nat.zero_add]⟩, (HW3.out.setCell (.inl (by simp)) _).trans hfr (by simp)⟩
  have HFIN := Lib.hid fin
  clear fin
  cases v1
  · go_wp2_with fail
    exact HFIN.out true _ rfl rfl rfl rfl
  · cases v2
    · go_wp2_with fail
      exact HFIN.out true _ rfl rfl rfl rfl
    · cases q1
      · cases q2
        · go_wp2_with fail
          exact HFIN.out false _ rfl rfl rfl rfl
        · go_wp2_with fail
          exact HFIN.out _ _ rfl rfl rfl rfl
      · go_wp2_with fail
        exact HFIN.out _ _ rfl rfl rfl rfl
set_option maxRecDepth 100000 in
set_option maxHeartbeats 4000000 in
theorem rdh26 (E : Errs) (a : Act) (w : World) (q gb b r f pos n x c : Nat) (s : ByteArray) (a3 a4 a5 a6 a10 a11 a12 a13 a14 a15 a16 a18 a21 : Int) (z : Nat) (hE : Env E w) (hU : UT w) (hB : BufR w q gb b r s pos)
    (hpos : pos + (n + x + c) ≤ s.size) (hs4 : s.size ≤ 4000000000) (hn : n ≤ 65535) (hx : x ≤ 65535) (hc : c ≤ 65535) (n13 : a13 ≠ 4294967295) (n14 : a14 ≠ 4294967295) (n21 : a21 ≠ 4294967295)
    (hs : a.tmps.size = 404) (hd : a.defers = []) (h0 : slotOf a 0 = .pointer (some ⟨f, 0, none⟩)) (h1 : slotOf a 1 = .iface 189 (.pointer (some ⟨q, 0, none⟩)))
    (h10 : slotOf a 10 = .int .i64 (n : Int)) (h11 : slotOf a 11 = .int .i64 (x : Int)) (h12 : slotOf a 12 = .int .i64 (c : Int))
    (hf : Blk w f fileT (hdrC a3 a4 a5 a6 a10 a11 a12 a13 a14 a15 a16 a18 a21 ⟨#[]⟩ ⟨#[]⟩ false (.slice none 0 0) 0 0 none z r)) (hf18 : 14 ≤ f) (hfq : f ≠ q ∧ f ≠ gb ∧ f ≠ b ∧ f ≠ r) (Q : Exit → Act → World → Prop)
    (hQ : ∀ a' w', a'.defers = [] → a'.tmps.getD 4 undef = .nilIface → HdrOut w q gb b r f pos n x c s a3 a4 a5 a6 a10 a11 a12 a13 a14 a15 a16 a18 a21 z w' → Q .ret a' w') :
    (rdhFrom 26).wp Tryz.prog Q a w := by
  have hlt := hB.lt4
  have hE18 := hB.h18
  have hfl := hf.lt
  obtain ⟨N, hN⟩ : ∃ N, n + x + c = N := ⟨_, rfl⟩
  have hNi : (n : Int) + (x : Int) + (c : Int) = (N : Int) := by omega
  have hmk : ∀ W, (Instr.makeSlice sliceT (.int .i64 ((n : Int) + (x : Int) + (c : Int))) (.int .i64 ((n : Int) + (x : Int) + (c : Int)))).run Tryz.prog W = .ok (.slice (some ⟨W.heap.size, 0, none⟩) N N) (W.alloc (.cells (zeros N) byteT)) := fun W => by
    rw [hNi]; exact run_makeBytes N N (Nat.le_refl _) (by omega) W
  have HR := Lib.hid (readFull_buf E q gb b r w.heap.size 0 N pos N byteT s (zeros N) (w.alloc (.cells (zeros N) byteT)) (hE.fr ((Fr.refl [] w).alloc _) (by simp) hE18.2) (hB.fr (S := []) ((Fr.refl [] w).alloc _) (by simp) (by simp) (by simp) (by simp))
    (Blk.new _ _ _) (by rw [zeros_size]; omega) (by omega) (by omega) (by omega) hE18.2 (by omega) hs4)
  have HNI := Lib.hid hNi
  have HNN := Lib.hid hN
  have HQ := Lib.hid hQ
  have HE := Lib.hid hE
  have HU := Lib.hid hU
  have HF := Lib.hid hf
  rw [frame404 hs hd, h0, h1, h10, h11, h12]
  clear hQ hE hU hB hs hd h0 h1 h10 h11 h12 hf hN hNi
  conv => arg 2; whnf
  go_wp2_with fail
  refine HR.out.mono ?_
  rintro e w1 h
  cases h with
  | part _ j h hp hr hf => exact absurd h (by have := HNN.out; omega)
  | end_ _ h hp hr hf => exact absurd hp (by have := HNN.out; omega)
  | all _ h hb hr hf1 =>
    have hN := HNN.out
    have hL : ((s.data.toList.drop pos).take N).length = N := by rw [List.length_take, List.length_drop, ← Lib.size_eq]; omega
    have hRD : Rd w1 w.heap.size 0 ((s.data.toList.drop pos).take N) := Rd.spl hb (by rw [zeros_size]; omega)
    have hsplit : (s.data.toList.drop pos).take N = (s.data.toList.drop pos).take n ++ ((s.data.toList.drop (pos + n)).take x ++ (s.data.toList.drop (pos + n + x)).take c) := by
      rw [← hN, Nat.add_assoc n x c, List.take_add, List.take_add, List.drop_drop, List.drop_drop]
    have lnm : ((s.data.toList.drop pos).take n).length = n := by rw [List.length_take, List.length_drop, ← Lib.size_eq]; omega
    have lex : ((s.data.toList.drop (pos + n)).take x).length = x := by rw [List.length_take, List.length_drop, ← Lib.size_eq]; omega
    have lcm : ((s.data.toList.drop (pos + n + x)).take c).length = c := by rw [List.length_take, List.length_drop, ← Lib.size_eq]; omega
    rw [hsplit] at hRD
    have r1 := hRD.left
    have r2 : Rd w1 w.heap.size n ((s.data.toList.drop (pos + n)).take x) := by have := hRD.right.left; rw [lnm, Nat.zero_add] at this; exact this
    have r3 : Rd w1 w.heap.size (n + x) ((s.data.toList.drop (pos + n + x)).take c) := by have := hRD.right.right; rw [lnm, lex, Nat.zero_add] at this; exact this
    have hfr1 : Fr [q, gb, b] w w1 := ((Fr.refl [q, gb, b] w).alloc (.cells (zeros N) byteT)).trans hf1 (by simp)
    have hF1 := HF.out.fr hfr1 (by simp; omega)
    have hU1 : UT w1 := HU.out.fr hfr1 (by simp; omega) hE18.2
    have hsz := hb.lt
    have hsz1 := hfr1.size
    have HR1 := Lib.hid r1
    have HR2 := Lib.hid r2
    have HR3 := Lib.hid r3
    have HBB := Lib.hid hb
    have HH := Lib.hid (And.intro hF1 (And.intro hU1 (And.intro hr hfr1)))
    clear hRD hsplit hL hb hr hf1 r1 r2 r3 hF1 hU1 hfr1 lnm lex lcm hN
    go_upto_if 145 with fail
    rename_i K hK
    have HK := Lib.hid hK
    clear hK hmk HR
    go_wp2_with fail
    refine HK.out _ _ (rdh30 _ w1 f w.heap.size n x c N r z _ _ _ a3 a4 a5 a6 a10 a11 a12 a13 a14 a15 a16 a18 a21 HH.out.2.1 hn hx hc HNN.out n13 n14 n21 rfl rfl rfl rfl rfl rfl HR1.out HR2.out HR3.out ?_ ?_ ?_ hsz (by omega) HH.out.1 hf18 (by omega) _ ?_)
    · rw [List.length_take, List.length_drop, ← Lib.size_eq]; have := HNN.out; omega
    · rw [List.length_take, List.length_drop, ← Lib.size_eq]; have := HNN.out; omega
    · rw [List.length_take, List.length_drop, ← Lib.size_eq]; have := HNN.out; omega
    · intro a' w' h1 h2 h3
      obtain ⟨⟨v1, q1, v2, q2, ad, m0, m1, mp, d1, d2, hb, ha⟩, hfr⟩ := h3
      obtain ⟨-, -, hbuf, hfr1⟩ := HH.out
      have hN := HNN.out
      refine HQ.out _ _ h1 h2 ⟨⟨v1, q1, v2, q2, ad, w.heap.size, m0, m1, mp, d1, d2, hb, ha, Nat.le_refl _, ⟨_, HBB.out.fr hfr (by simp; omega)⟩, HR2.out.fr hfr hsz (by simp; omega)⟩, ?_, ?_⟩
      · rw [hN]; exact hbuf.fr hfr (by simp; omega) (by simp; omega) (by simp; omega) (by simp; omega)
      · exact (hfr1.mono (S' := [q, gb, b, f]) (by simp)).trans hfr (by simp)
end Go.Proofs.YtalgnjkdoaaacaaGreatDoor

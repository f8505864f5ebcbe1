/- readDirectoryHeader: an NTFS extra field (a loop of its own). -/
import Derived.Test.YtcodhjoiikdhmaaGreatDoorQge
import Derived.Deep.CutBlock
set_option linter.unusedVariables false
set_option linter.unusedSimpArgs false
namespace Go.Proofs.YtcodhjoiikdhmaaGreatDoor
open Go Go.RowKit
open Zp
theorem rb64d (p : Addr) (g o n c : Nat) (l : List UInt8) (w : World) (h : RB w p g o n c l) (hl : 8 ≤ l.length) :
    Calls Tryz.prog 77 #[.pointer (some p)] w fun e w' => (∃ z : Int, e = .returned (.int .u64 z)) ∧ Nx w p g o n c 8 (l.drop 8) w' := by
  match l, h, hl with
  | b0 :: b1 :: b2 :: b3 :: b4 :: b5 :: b6 :: b7 :: l, h, _ => exact rb64 p g o n c b0 b1 b2 b3 b4 b5 b6 b7 l w h
theorem num_take2 (l : By) : num (l.take 2) < 65536 := by
  have h1 := num_lt (l.take 2)
  have h2 : (256 : Nat) ^ (l.take 2).length ≤ 256 ^ 2 := Nat.pow_le_pow_right (by omega) (by rw [List.length_take]; omega)
  omega
theorem num_take4 (l : By) : num (l.take 4) < 4294967296 := by
  have h1 := num_lt (l.take 4)
  have h2 : (256 : Nat) ^ (l.take 4).length ≤ 256 ^ 4 := Nat.pow_le_pow_right (by omega) (by rw [List.length_take]; omega)
  omega
/-- How long the slice is to which a pointer points. -/
def lenAt (e : Nat) (w : World) : Nat := match w.cell? ⟨e, 0, none⟩ with
  | some (.slice _ n _) => n
  | _ => 0
theorem RB.lenAt {w : World} {e g o n c : Nat} {l : List UInt8} (h : RB w ⟨e, 0, none⟩ g o n c l) : lenAt e w = n := by
  obtain ⟨a, h1, _⟩ := h.cell
  simp [Proofs.YtcodhjoiikdhmaaGreatDoor.lenAt, h1]
theorem RB.fr {w w' : World} {p : Addr} {g o n c : Nat} {l : List UInt8} {S : List Nat} (h : RB w p g o n c l) (hf : Fr S w w') (hp : p.block < w.heap.size) (hg : g < w.heap.size) (h1 : p.block ∉ S) (h2 : g ∉ S) : RB w' p g o n c l := by
  obtain ⟨a, c1, c2⟩ := h.cell
  exact ⟨⟨a, (hf.cell hp h1).trans c1, c2⟩, (hf.frozen hp h1).trans h.free, h.rd.fr hf hg h2, h.len, h.cap, h.ne⟩
/-- The state of a loop over a slice of bytes that is taken piece by piece. -/
def Piece (w0 : World) (S : List Nat) (tm e2 db : Nat) (w : World) : Prop :=
  (∃ o n c l, RB w ⟨e2, 0, none⟩ db o n c l ∧ n ≤ 1000000) ∧ TM S w0 tm w ∧ e2 < w.heap.size ∧ db < w.heap.size
/-- A part of a slice in a variable of its own. -/
theorem RB.sub {w w1 : World} {p a : Addr} {g o n c k : Nat} {l : List UInt8} (h : RB w p g o n c l) (hf : Fr [p.block] w w1) (hk : k ≤ n) (ha : 0 < k → a = ⟨g, o, none⟩) (hg : g < w.heap.size) (t : TypeId) :
    RB (w1.alloc (.cells #[.slice (some a) k c] t)) ⟨w1.heap.size, 0, none⟩ g o k c (l.take k) := by
  have hB := Blk.new w1 t #[.slice (some a) k c]
  have hz := hf.size
  refine ⟨⟨a, hB.at_ 0 _ rfl, ha⟩, hB.frozen 0, ?_, by rw [List.length_take, h.len]; omega, by have := h.cap; omega, by show g ≠ w1.heap.size; omega⟩
  have h1 : Rd w g o (l.take k) := Rd.left (m := l.drop k) (by rw [List.take_append_drop]; exact h.rd)
  exact h1.fr (S := [p.block]) (hf.alloc _) hg (by simpa using h.ne)
set_option maxRecDepth 100000 in
set_option maxHeartbeats 4000000 in
theorem ntfs_round (a : Act) (w0 w : World) (f tm e e2 db : Nat) (hA : FrA f tm e a) (h24 : slotOf a 24 = .pointer (some ⟨e2, 0, none⟩)) (hP : Piece w0 [tm, e2] tm e2 db w) (hne : e2 ≠ tm) (hnd : db ≠ tm) (Q : Exit → Act → World → Prop)
    (hQ : ∀ x a' w', (x = .exit 2 ∨ x = .exit 4) → FrA f tm e a' → TM [tm, e2] w0 tm w' → Q x a' w')
    (hN : ∀ a' w', FrA f tm e a' → slotOf a' 24 = .pointer (some ⟨e2, 0, none⟩) → Piece w0 [tm, e2] tm e2 db w' → lenAt e2 w' < lenAt e2 w → Q .normal a' w') :
    (rdhLoop 64).wp Tryz.prog Q a w := by
  obtain ⟨⟨o, n, c, l, hr, hm⟩, ⟨⟨u, v, q, ht⟩, hf⟩, hel, hdl⟩ := hP
  have HQ := Lib.hid hQ
  have HN := Lib.hid hN
  have HT := Lib.hid ht
  have HF := Lib.hid hf
  have HL := Lib.hid hr.len
  have HR := Lib.hid hr
  have HLA := Lib.hid hr.lenAt
  obtain ⟨ad, ce, -⟩ := hr.cell
  rw [frame404 hA.size hA.defers, hA.s0, hA.s20, hA.s21, h24]
  clear hQ hN hA h24 ht hf hr
  conv => arg 2; whnf
  by_cases hn : n < 4
  · go_wp2_with fail
    exact HQ.out _ _ _ (.inr rfl) ⟨rfl, rfl, rfl, rfl, rfl⟩ ⟨⟨_, _, _, HT.out⟩, HF.out⟩
  · have hn1 : 4 ≤ n := by omega
    go_wp2_with fail
    refine (rb16d _ _ _ _ _ _ _ HR.out (by have := HL.out; omega)).mono ?_
    rintro e w2 ⟨rfl, hn2⟩
    have H2 := Lib.hid hn2
    obtain ⟨tag, htag⟩ : ∃ t, num (List.take 2 l) = t := ⟨_, rfl⟩
    have HTG := Lib.hid htag
    rw [htag]
    clear hn2 htag
    go_wp2_with fail
    refine (rb16d _ _ _ _ _ _ _ H2.out.nx (by have := HL.out; rw [List.length_drop]; omega)).mono ?_
    rintro e w3 ⟨rfl, hn3⟩
    obtain ⟨fs, hfs⟩ : ∃ t, num (List.take 2 (List.drop 2 l)) = t := ⟨_, rfl⟩
    have HFS := Lib.hid hfs
    rw [hfs]
    have H3 := Lib.hid hn3
    obtain ⟨ad3, ce3, -⟩ := hn3.nx.cell
    clear hn3 hfs
    have hfl : fs < 65536 := by rw [← HFS.out]; exact num_take2 _
    have htl : tag < 65536 := by rw [← HTG.out]; exact num_take2 _
    have hF3 := Lib.hid ((HF.out.trans (H2.out.fr.trans H3.out.fr (by simp)) (S' := [e2]) (by simp)))
    have hB3 := Lib.hid ((HT.out.fr H2.out.fr (by simpa using hne.symm)).fr H3.out.fr (by simpa using hne.symm))
    have hz3 := Lib.hid (show w3.heap.size = w.heap.size from H3.out.size.trans H2.out.size)
    by_cases hlt : n - 2 - 2 < fs
    · go_wp2_with fail
      exact HQ.out _ _ _ (.inl rfl) ⟨rfl, rfl, rfl, rfl, rfl⟩ ⟨⟨_, _, _, hB3.out⟩, hF3.out⟩
    · have hlt1 : fs ≤ n - 2 - 2 := by omega
      go_wp2_with fail
      refine (rbsub _ _ _ _ _ fs _ _ H3.out.nx hlt1 (by omega)).mono ?_
      rintro e w4 ⟨⟨ad4, rfl, had4⟩, hn4⟩
      have H4 := Lib.hid hn4
      have HAD := Lib.hid had4
      clear hn4 had4
      have hF4 := Lib.hid (hF3.out.trans H4.out.fr (by simp))
      have hB4 := Lib.hid (hB3.out.fr H4.out.fr (by simpa using hne.symm))
      have hz4 := Lib.hid (show w4.heap.size = w.heap.size from H4.out.size.trans hz3.out)
      have hP : ∀ w', Fr [tm] w4 w' → (∃ x y p, Blk w' tm 85 (tcells x y p)) → Piece w0 [tm, e2] tm e2 db w' ∧ lenAt e2 w' < lenAt e2 w := fun w' hw hx => by
        have hr := H4.out.nx.fr hw (by have := hz4.out; show e2 < _; omega) (by have := hz4.out; omega) (by simpa using hne) (by simpa using hnd)
        have hs := hw.size
        have hz := hz4.out
        refine ⟨⟨⟨_, _, _, _, hr, by omega⟩, ⟨hx, hF4.out.trans hw (by simp)⟩, by omega, by omega⟩, ?_⟩
        rw [hr.lenAt, HLA.out]; omega
      have HP := Lib.hid hP
      clear hP
      by_cases h1 : tag = 1
      · have b1 : ((tag : Int) != 1) = false := by simp [h1]
        by_cases h2 : fs = 24
        · have b2 : ((fs : Int) != 24) = false := by simp [h2]
          have HF24 := Lib.hid h2
          clear h1 h2
          go_wp2_with fail
          have HR5 := Lib.hid (H3.out.nx.sub (t := 124) H4.out.fr hlt1 HAD.out (by have := hz3.out; omega))
          refine (rb64d _ _ _ _ _ _ _ HR5.out (by have := HR5.out.len; have := HF24.out; omega)).mono ?_
          rintro e w5 ⟨⟨ts, rfl⟩, hn5⟩
          have hF5 := Lib.hid (((Fr.refl [] w4).alloc _).trans hn5.fr (by simp))
          have hz5 := Lib.hid hn5.size
          clear hn5
          go_wp2_with fail
          refine (tUTC _).mono ?_
          rintro e w6 ⟨rfl, rfl⟩
          go_wp2_with fail
          refine (tDate _ _ _ _ _ _ _ w5.heap.size _ (Blk.new w5 _ _)).mono ?_
          rintro e w7 ⟨x7, y7, p7, rfl, hf7⟩
          have hF7 := Lib.hid ((hF5.out.alloc (.cells utcCells 192)).trans hf7 (by simp))
          clear hf7
          go_wp2_with fail
          refine (tUnixOf _ _ _ _).mono ?_
          rintro e w8 ⟨x8, rfl, hf8⟩
          have hF8 := Lib.hid ((hF7.out.alloc (.cells (tcells x7 y7 p7) 85)).trans hf8 (by simp))
          clear hf8
          go_wp2_with fail
          refine (tUnix _ _ _).mono ?_
          rintro e w9 ⟨x9, y9, p9, rfl, hf9⟩
          have hF9 := Lib.hid (hF8.out.trans hf9 (by simp))
          have hB9 : Blk w9 tm 85 (tcells u v q) := hB4.out.fr hF9.out (by simp)
          clear hf9
          obtain ⟨c0, c1, c2, f0, f1, f2⟩ := timeFacts hB9
          go_wp2_with fail
          have hX := TM.put (S := [tm]) hB9 (hF9.out.mono (by simp)) (by simp) x9 y9 p9
          obtain ⟨p1, p2⟩ := HP.out _ hX.2 hX.1
          exact HN.out _ _ ⟨rfl, rfl, rfl, rfl, rfl⟩ rfl p1 p2
        · have b2 : ((fs : Int) != 24) = true := by simp; omega
          clear h1 h2
          go_wp2_with fail
          obtain ⟨p1, p2⟩ := HP.out _ ((Fr.refl [tm] w4).alloc _) ⟨_, _, _, hB4.out.alloc _⟩
          exact HN.out _ _ ⟨rfl, rfl, rfl, rfl, rfl⟩ rfl p1 p2
      · have b1 : ((tag : Int) != 1) = true := by simp; omega
        clear h1
        go_wp2_with fail
        obtain ⟨p1, p2⟩ := HP.out _ ((Fr.refl [tm] w4).alloc _) ⟨_, _, _, hB4.out.alloc _⟩
        exact HN.out _ _ ⟨rfl, rfl, rfl, rfl, rfl⟩ rfl p1 p2
set_option maxRecDepth 100000 in
theorem ntfs_loop (a : Act) (w0 w : World) (f tm e e2 db : Nat) (hA : FrA f tm e a) (h24 : slotOf a 24 = .pointer (some ⟨e2, 0, none⟩)) (hP : Piece w0 [tm, e2] tm e2 db w) (hne : e2 ≠ tm) (hnd : db ≠ tm) (Q : Exit → Act → World → Prop)
    (hQ : ∀ x a' w', (x = .exit 2 ∨ x = .exit 4) → FrA f tm e a' → TM [tm, e2] w0 tm w' → Q x a' w') : (Code.loop (rdhLoop 64)).wp Tryz.prog Q a w := by
  refine wp_loop (fun a w => FrA f tm e a ∧ slotOf a 24 = .pointer (some ⟨e2, 0, none⟩) ∧ Piece w0 [tm, e2] tm e2 db w) (fun _ w => lenAt e2 w) ⟨hA, h24, hP⟩ ?_
  rintro a w ⟨hA, h24, hP⟩
  refine ntfs_round a w0 w f tm e e2 db hA h24 hP hne hnd _ ?_ ?_
  · rintro x a' w' (rfl | rfl) h1 h2
    · exact hQ _ _ _ (.inl rfl) h1 h2
    · exact hQ _ _ _ (.inr rfl) h1 h2
  · intro a' w' h1 h2 h3 h4
    exact ⟨⟨h1, h2, h3⟩, h4⟩
set_option maxRecDepth 100000 in
set_option maxHeartbeats 4000000 in
theorem sw_ntfs (a : Act) (w : World) (f tm e e2 db o n c : Nat) (l : List UInt8) (hA : FrA f tm e a) (h24 : slotOf a 24 = .pointer (some ⟨e2, 0, none⟩)) (h243 : slotOf a 243 = .int .u16 10)
    (hr : RB w ⟨e2, 0, none⟩ db o n c l) (hne : e2 ≠ tm) (hnd : db ≠ tm) (hm : n ≤ 1000000) (hel : e2 < w.heap.size) (hdl : db < w.heap.size) (u v : Int) (q : Option Addr)
    (ht : Blk w tm 85 (tcells u v q)) (Q : Exit → Act → World → Prop) (hQ : ∀ x a' w', (x = .normal ∨ x = .exit 2) → FrA f tm e a' → TM [tm, e2] w tm w' → Q x a' w') :
    (rdhFrom 48).wp Tryz.prog Q a w := by
  have HQ := Lib.hid hQ
  have HT := Lib.hid ht
  have HL := Lib.hid hr.len
  have HR := Lib.hid hr
  obtain ⟨ad, ce, -⟩ := hr.cell
  rw [frame404 hA.size hA.defers, hA.s0, hA.s20, hA.s21, h24, h243]
  clear hQ hA h24 h243 ht hr
  conv => arg 2; whnf
  by_cases hn : n < 4
  · go_wp2_with fail
    exact HQ.out _ _ _ (.inr rfl) ⟨rfl, rfl, rfl, rfl, rfl⟩ ⟨⟨_, _, _, HT.out⟩, Fr.refl _ _⟩
  · go_wp2_with fail
    refine (rb32d _ _ _ _ _ _ _ HR.out (by have := HL.out; omega)).mono ?_
    rintro e w2 ⟨rfl, hn2⟩
    have H2 := Lib.hid hn2
    clear hn2
    have hF := Lib.hid (H2.out.fr.mono (S' := [tm, e2]) (by simp))
    have hB := Lib.hid (HT.out.fr H2.out.fr (by simpa using hne.symm))
    go_wp2_with fail
    refine ntfs_loop _ w w2 f tm e e2 db ⟨rfl, rfl, rfl, rfl, rfl⟩ rfl ⟨⟨_, _, _, _, H2.out.nx, by omega⟩, ⟨⟨_, _, _, hB.out⟩, hF.out⟩, by have := H2.out.size; omega, by have := H2.out.size; omega⟩ hne hnd _ ?_
    rintro x a' w' (rfl | rfl) h1 h2
    · exact HQ.out _ _ _ (.inr rfl) h1 h2
    · exact HQ.out _ _ _ (.inl rfl) h1 h2
end Go.Proofs.YtcodhjoiikdhmaaGreatDoor

/- readDirectoryHeader: the loop over the extra fields. -/
namespace Go.Proofs.YtcodhjoiikdhmaaGreatDoor
open Go Go.RowKit
open Zp
set_option maxRecDepth 100000 in
theorem rdh_switch (a : Act) (w : World) (f tm e e2 tag db o n c : Nat) (l : List UInt8) (C : Int → Int → Option Addr → Array Value) (a13 a14 a21 : Int) (hX : HX C a13 a14 a21) (m0 m1 : Int) (mp : Option Addr) (hf : Blk w f fileT (C m0 m1 mp))
    (hA : FrA f tm e a) (h24 : slotOf a 24 = .pointer (some ⟨e2, 0, none⟩)) (h243 : slotOf a 243 = .int .u16 (tag : Int))
    (hr : RB w ⟨e2, 0, none⟩ db o n c l) (hne : e2 ≠ tm) (hnd : db ≠ tm) (hm : n ≤ 1000000) (hel : e2 < w.heap.size) (hdl : db < w.heap.size) (u v : Int) (q : Option Addr)
    (ht : Blk w tm 85 (tcells u v q)) (Q : Exit → Act → World → Prop) (hQ : ∀ x a' w', (x = .normal ∨ x = .exit 2) → FrA f tm e a' → TM [tm, e2] w tm w' → Q x a' w') :
    (rdhFrom 48).wp Tryz.prog Q a w := by
  by_cases h1 : tag = 1
  · subst h1
    exact sw_zip64 a w f tm e e2 C a13 a14 a21 hX m0 m1 mp hf hA h24 h243 ⟨_, _, _, ht⟩ Q hQ
  · by_cases h2 : tag = 10
    · subst h2
      exact sw_ntfs a w f tm e e2 db o n c l hA h24 h243 hr hne hnd hm hel hdl u v q ht Q hQ
    · by_cases h3 : tag = 13 ∨ tag = 22613
      · exact sw_unix a w f tm e e2 tag db o n c l hA h24 h243 hr hne u v q ht Q hQ h3
      · by_cases h4 : tag = 21589
        · subst h4
          exact sw_ext a w f tm e e2 db o n c l hA h24 h243 hr hne u v q ht Q hQ
        · exact sw_other a w f tm e e2 tag hA h24 h243 ⟨_, _, _, ht⟩ Q hQ h1 h2 (by omega) (by omega) h4
set_option maxRecDepth 100000 in
theorem rdh85 (a : Act) (w : World) (f tm e : Nat) (v : Value) (hA : FrA f tm e a) (hc : w.cell? ⟨e, 0, none⟩ = some v) (hv : ∃ b n c, v = .slice b n c) (Q : Exit → Act → World → Prop)
    (hQ : ∀ a', FrA f tm w.heap.size a' → Q .normal a' (w.alloc (.cells #[v] 124))) : (rdhFrom 85).wp Tryz.prog Q a w := by
  obtain ⟨b, n, c, rfl⟩ := hv
  have HQ := Lib.hid hQ
  rw [frame404 hA.size hA.defers, hA.s0, hA.s20, hA.s21]
  clear hQ hA
  conv => arg 2; whnf
  go_wp2_with fail
  exact HQ.out _ ⟨rfl, rfl, rfl, rfl, rfl⟩
/-- The state of the loop over the extra fields. -/
def IX (w0 : World) (f tm db : Nat) (a : Act) (w : World) : Prop := ∃ e, FrA f tm e a ∧ w0.heap.size ≤ e ∧ Piece w0 [tm] tm e db w
def lenX (a : Act) (w : World) : Nat := match slotOf a 21 with
  | .pointer (some p) => lenAt p.block w
  | _ => 0
theorem lenX_of {f tm e : Nat} {a : Act} (h : FrA f tm e a) (w : World) : lenX a w = lenAt e w := by simp [lenX, h.s21]
set_option maxRecDepth 100000 in
set_option maxHeartbeats 4000000 in
theorem ext_round (a : Act) (w0 w : World) (f tm e db : Nat) (C : Int → Int → Option Addr → Array Value) (a13 a14 a21 : Int) (hX : HX C a13 a14 a21) (m0 m1 : Int) (mp : Option Addr) (hf : Blk w0 f fileT (C m0 m1 mp)) (hft : f ≠ tm) (htl : tm < w0.heap.size)
    (hA : FrA f tm e a) (he : w0.heap.size ≤ e) (hP : Piece w0 [tm] tm e db w) (hnd : db ≠ tm) (hdb : db < w0.heap.size) (Q : Exit → Act → World → Prop)
    (hQ : ∀ a' w', IX w0 f tm db a' w' → Q (.exit 1) a' w') (hN : ∀ a' w', IX w0 f tm db a' w' → lenX a' w' < lenAt e w → Q .normal a' w') :
    (rdhLoop 42).wp Tryz.prog Q a w := by
  obtain ⟨⟨o, n, c, l, hr, hm⟩, ⟨⟨u, v, q, ht⟩, hfr⟩, hel, hdl⟩ := hP
  have HQ := Lib.hid hQ
  have HN := Lib.hid hN
  have HT := Lib.hid ht
  have HF := Lib.hid hfr
  have HL := Lib.hid hr.len
  have HR := Lib.hid hr
  have HLA := Lib.hid hr.lenAt
  have HFB := Lib.hid hf
  have HX' := Lib.hid hX
  have hne : e ≠ tm := by omega
  obtain ⟨ad, ce, -⟩ := hr.cell
  rw [frame404 hA.size hA.defers, hA.s0, hA.s20, hA.s21]
  clear hQ hN hA ht hfr hr hf hX
  conv => arg 2; whnf
  by_cases hn : n < 4
  · go_wp2_with fail
    exact HQ.out _ _ ⟨e, ⟨rfl, rfl, rfl, rfl, rfl⟩, he, ⟨_, _, _, _, HR.out, hm⟩, ⟨⟨_, _, _, HT.out⟩, HF.out⟩, hel, hdl⟩
  · have hn1 : 4 ≤ n := by omega
    go_wp2_with fail
    refine (rb16d _ _ _ _ _ _ _ HR.out (by have := HL.out; omega)).mono ?_
    rintro _ w2 ⟨rfl, hn2⟩
    have H2 := Lib.hid hn2
    obtain ⟨tag, htag⟩ : ∃ t, num (List.take 2 l) = t := ⟨_, rfl⟩
    have HTG := Lib.hid htag
    rw [htag]
    clear hn2 htag
    go_wp2_with fail
    refine (rb16d _ _ _ _ _ _ _ H2.out.nx (by have := HL.out; rw [List.length_drop]; omega)).mono ?_
    rintro _ w3 ⟨rfl, hn3⟩
    obtain ⟨fs, hfs⟩ : ∃ t, num (List.take 2 (List.drop 2 l)) = t := ⟨_, rfl⟩
    have HFS := Lib.hid hfs
    rw [hfs]
    have H3 := Lib.hid hn3
    obtain ⟨ad3, ce3, -⟩ := hn3.nx.cell
    clear hn3 hfs
    have hfl : fs < 65536 := by rw [← HFS.out]; exact num_take2 _
    have htg : tag < 65536 := by rw [← HTG.out]; exact num_take2 _
    have hF3 := Lib.hid ((HF.out.trans (H2.out.fr.trans H3.out.fr (by simp)) (S' := [e]) (by simp; omega)))
    have hB3 := Lib.hid ((HT.out.fr H2.out.fr (by simpa using hne.symm)).fr H3.out.fr (by simpa using hne.symm))
    have hz3 := Lib.hid (show w3.heap.size = w.heap.size from H3.out.size.trans H2.out.size)
    by_cases hlt : n - 2 - 2 < fs
    · go_wp2_with fail
      exact HQ.out _ _ ⟨e, ⟨rfl, rfl, rfl, rfl, rfl⟩, he, ⟨_, _, _, _, H3.out.nx, by omega⟩, ⟨⟨_, _, _, hB3.out⟩, hF3.out⟩, by have := hz3.out; omega, by have := hz3.out; omega⟩
    · have hlt1 : fs ≤ n - 2 - 2 := by omega
      go_wp2_with fail
      refine (rbsub _ _ _ _ _ fs _ _ H3.out.nx hlt1 (by omega)).mono ?_
      rintro _ w4 ⟨⟨ad4, rfl, had4⟩, hn4⟩
      have H4 := Lib.hid hn4
      have HAD := Lib.hid had4
      clear hn4 had4
      have hF4 := Lib.hid (hF3.out.trans H4.out.fr (by simp; omega))
      have hB4 := Lib.hid (hB3.out.fr H4.out.fr (by simpa using hne.symm))
      have hz4 := Lib.hid (show w4.heap.size = w.heap.size from H4.out.size.trans hz3.out)
      have HR5 := Lib.hid (H3.out.nx.sub (t := 124) H4.out.fr hlt1 HAD.out (by have := hz3.out; omega))
      have hF5 := Lib.hid ((Fr.refl [] w4).alloc (.cells #[.slice (some ad4) fs (c - 2 - 2)] 124))
      go_upto_block 3 with fail
      rename_i K hK
      refine wp_block ?_
      refine rdh_switch _ _ f tm e w4.heap.size tag db _ fs _ _ C a13 a14 a21 HX'.out m0 m1 mp ((HFB.out.fr hF4.out (by simpa using hft)).alloc _) ⟨rfl, rfl, rfl, rfl, rfl⟩ rfl rfl HR5.out ?_ hnd (by omega) (by simp) (by simp; have := hz4.out; omega) u v q (hB4.out.alloc _) _ ?_
      · have := hB4.out.lt; omega
      · intro x a' w' hx hA' hT'
        have hsz := hT'.2.size
        have hz := hz4.out
        have hr' := (H4.out.nx.fr hF5.out (by show e < _; omega) (by omega) (by simp) (by simp)).fr hT'.2 (by simp; omega) (by simp; omega) (by simp; omega) (by simp; omega)
        have hc' := hr'.cell
        obtain ⟨ad6, c6, h6⟩ := hc'
        have hk : K a' w' := by
          refine hK _ _ (rdh85 a' w' f tm e _ hA' c6 ⟨_, _, _, rfl⟩ Q ?_)
          intro a2 hA2
          have hfw : Fr [tm] w4 w' := hF5.out.mono (S' := [tm]) (by simp) |>.trans hT'.2 (by simp)
          have hr2 := hr'.sub (t := 124) (k := n - 2 - 2 - fs) (Fr.refl _ w') (Nat.le_refl _) h6 (by simp at hsz; omega)
          have hX2 : IX w0 f tm db a2 (w'.alloc (.cells #[.slice (some ad6) (n - 2 - 2 - fs) (c - 2 - 2 - fs)] 124)) := by
            obtain ⟨⟨x1, y1, p1, hb1⟩, -⟩ := hT'
            exact ⟨_, hA2, by have := hF4.out.size; simp at hsz; omega, ⟨_, _, _, _, hr2, by omega⟩, ⟨⟨_, _, _, hb1.alloc _⟩, (hF4.out.trans hfw (by simp)).alloc _⟩, by simp, by simp at hsz ⊢; omega⟩
          exact HN.out _ _ hX2 (by rw [lenX_of hA2, hr2.lenAt, HLA.out]; omega)
        rcases hx with rfl | rfl
        · exact hk
        · exact hk
set_option maxRecDepth 100000 in
theorem ext_loop (a : Act) (w0 w : World) (f tm db : Nat) (C : Int → Int → Option Addr → Array Value) (a13 a14 a21 : Int) (hX : HX C a13 a14 a21) (m0 m1 : Int) (mp : Option Addr) (hf : Blk w0 f fileT (C m0 m1 mp)) (hft : f ≠ tm) (htl : tm < w0.heap.size)
    (hI : IX w0 f tm db a w) (hnd : db ≠ tm) (hdb : db < w0.heap.size) (Q : Exit → Act → World → Prop)
    (hQ : ∀ a' w', IX w0 f tm db a' w' → Q (.exit 1) a' w') : (Code.loop (rdhLoop 42)).wp Tryz.prog Q a w := by
  refine wp_loop (fun a w => IX w0 f tm db a w) (fun a w => lenX a w) hI ?_
  rintro a w ⟨e, hA, he, hP⟩
  refine ext_round a w0 w f tm e db C a13 a14 a21 hX m0 m1 mp hf hft htl hA he hP hnd hdb _ ?_ ?_
  · intro a' w' h
    exact hQ a' w' h
  · intro a' w' h1 h2
    exact ⟨h1, by rw [lenX_of hA]; exact h2⟩
end Go.Proofs.YtcodhjoiikdhmaaGreatDoor

/- readDirectoryHeader: from the extra fields on. -/
namespace Go.Proofs.YtcodhjoiikdhmaaGreatDoor
open Go Go.RowKit
open Zp
set_option maxRecDepth 100000 in
set_option maxHeartbeats 4000000 in
theorem rdh40 (a : Act) (w : World) (f db o x c : Nat) (l : List UInt8) (ad : Option Addr) (C : Int → Int → Option Addr → Array Value) (a10 a11 a13 a14 a21 : Int) (hC : HC C a10 a11) (hX : HX C a13 a14 a21) (m0 m1 : Int) (mp : Option Addr)
    (hs : a.tmps.size = 404) (hd : a.defers = []) (h0 : slotOf a 0 = .pointer (some ⟨f, 0, none⟩)) (hf : Blk w f fileT (C m0 m1 mp))
    (g17 : (C m0 m1 mp)[17]? = some (.slice ad x c)) (had : ∃ a, ad = some a ∧ (0 < x → a = ⟨db, o, none⟩)) (hl : l.length = x) (hxc : x ≤ c) (hx : x ≤ 1000000) (hrd : Rd w db o l) (hdb : db < w.heap.size) (Q : Exit → Act → World → Prop)
    (hQ : ∀ a' w', a'.defers = [] → a'.tmps.getD 4 undef = .nilIface → TF w f C w' → Q .ret a' w') :
    (rdhFrom 40).wp Tryz.prog Q a w := by
  obtain ⟨ad, rfl, had⟩ := had
  have HQ := Lib.hid hQ
  have HF := Lib.hid hf
  have c17 := hf.at_ 17 _ g17
  have hlt := hf.lt
  have HC' := Lib.hid hC
  have HX' := Lib.hid hX
  have HL := Lib.hid hl
  have HAD := Lib.hid had
  have HRD := Lib.hid hrd
  rw [frame404 hs hd, h0]
  clear hQ hf h0 hs hd hC hX g17 hl had hrd
  conv => arg 2; whnf
  go_wp2_with fail
  rename_i K0 hK0
  refine wp_label ?_
  refine hK0 _ _ ?_
  clear hK0 K0
  go_wp2_with fail
  rename_i K hK
  have hB1 := Blk.new w 85 t0cells
  have hB2 := Blk.new1 w (.cells t0cells 85) 124 #[.slice (some ad) x c]
  refine ext_loop _ (w.alloc (.cells t0cells 85)) _ f w.heap.size db C a13 a14 a21 HX'.out m0 m1 mp (HF.out.alloc _) (by omega) (by simp) ?_ (by omega) (by simp; omega) _ ?_
  · refine ⟨w.heap.size + 1, ⟨rfl, rfl, rfl, rfl, rfl⟩, by simp, ⟨o, x, c, l, ⟨⟨ad, hB2.at_ 0 _ rfl, HAD.out⟩, hB2.frozen 0, (HRD.out.fr (S := []) (((Fr.refl [] w).alloc _).alloc _) hdb (by simp)), HL.out, hxc, by show db ≠ w.heap.size + 1; omega⟩, hx⟩, ⟨⟨_, _, _, hB1.alloc _⟩, (Fr.refl _ _).alloc _⟩, by simp, by simp; omega⟩
  · rintro a' w' ⟨e, hA, he, hP⟩
    obtain ⟨-, ⟨⟨x1, y1, p1, hb1⟩, hfr⟩, -, -⟩ := hP
    refine hK _ _ (rdh_tail a' w' w' f w.heap.size C a10 a11 HC'.out m0 m1 mp x1 y1 p1 hA.size hA.defers hA.s0 hA.s20 ((HF.out.alloc _).fr hfr (by simp; omega)) hb1 (Fr.refl _ _) _ ?_)
    intro a2 w2 h1 h2 h3
    exact HQ.out _ _ h1 h2 ⟨h3.1, (((Fr.refl [f] w).alloc _).trans hfr (by simp)).trans h3.2 (by simp)⟩
end Go.Proofs.YtcodhjoiikdhmaaGreatDoor

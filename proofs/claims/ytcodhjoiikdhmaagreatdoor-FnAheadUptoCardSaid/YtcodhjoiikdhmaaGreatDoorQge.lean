/- readDirectoryHeader: one extra field (the switch on its tag). -/
import Derived.Test.YtcodhjoiikdhmaaGreatDoorQgd
set_option linter.unusedVariables false
set_option linter.unusedSimpArgs false
namespace Go.Proofs.YtcodhjoiikdhmaaGreatDoor
open Go Go.RowKit
open Zp
/-- What the loop over the extra fields asks of a frame. -/
structure FrA (f tm e : Nat) (a : Act) : Prop where
  size : a.tmps.size = 404
  defers : a.defers = []
  s0 : slotOf a 0 = .pointer (some ⟨f, 0, none⟩)
  s20 : slotOf a 20 = .pointer (some ⟨tm, 0, none⟩)
  s21 : slotOf a 21 = .pointer (some ⟨e, 0, none⟩)
/-- A file's cells that the loop reads. -/
structure HX (C : Int → Int → Option Addr → Array Value) (a13 a14 a21 : Int) : Prop where
  g13 : ∀ x y p, (C x y p)[13]? = some (.int .u32 a13)
  g14 : ∀ x y p, (C x y p)[14]? = some (.int .u32 a14)
  g21 : ∀ x y p, (C x y p)[21]? = some (.int .i64 a21)
  n13 : a13 ≠ 4294967295
  n14 : a14 ≠ 4294967295
  n21 : a21 ≠ 4294967295
/-- Some time lies in block tm; nothing but it and the listed blocks has turned. -/
def TM (S : List Nat) (w : World) (tm : Nat) (w' : World) : Prop := (∃ x y p, Blk w' tm 85 (tcells x y p)) ∧ Fr S w w'
set_option maxRecDepth 100000 in
set_option maxHeartbeats 4000000 in
theorem sw_other (a : Act) (w : World) (f tm e e2 tag : Nat) (hA : FrA f tm e a) (h24 : slotOf a 24 = .pointer (some ⟨e2, 0, none⟩)) (h243 : slotOf a 243 = .int .u16 (tag : Int))
    (ht : ∃ x y p, Blk w tm 85 (tcells x y p)) (Q : Exit → Act → World → Prop) (hQ : ∀ x a' w', (x = .normal ∨ x = .exit 2) → FrA f tm e a' → TM [tm, e2] w tm w' → Q x a' w')
    (h1 : tag ≠ 1) (h2 : tag ≠ 10) (h3 : tag ≠ 13) (h4 : tag ≠ 22613) (h5 : tag ≠ 21589) : (rdhFrom 48).wp Tryz.prog Q a w := by
  have HQ := Lib.hid hQ
  have HT := Lib.hid ht
  have b1 : ((tag : Int) == 1) = false := by simp; omega
  have b2 : ((tag : Int) == 10) = false := by simp; omega
  have b3 : ((tag : Int) == 13) = false := by simp; omega
  have b4 : ((tag : Int) == 22613) = false := by simp; omega
  have b5 : ((tag : Int) == 21589) = false := by simp; omega
  rw [frame404 hA.size hA.defers, hA.s0, hA.s20, hA.s21, h24, h243]
  clear hQ hA h24 h243 ht h1 h2 h3 h4 h5
  conv => arg 2; whnf
  go_wp2_with fail
  exact HQ.out _ _ _ (.inl rfl) ⟨rfl, rfl, rfl, rfl, rfl⟩ ⟨HT.out, Fr.refl _ _⟩
set_option maxRecDepth 100000 in
set_option maxHeartbeats 4000000 in
theorem sw_zip64 (a : Act) (w : World) (f tm e e2 : Nat) (C : Int → Int → Option Addr → Array Value) (a13 a14 a21 : Int) (hX : HX C a13 a14 a21) (m0 m1 : Int) (mp : Option Addr) (hf : Blk w f fileT (C m0 m1 mp))
    (hA : FrA f tm e a) (h24 : slotOf a 24 = .pointer (some ⟨e2, 0, none⟩)) (h243 : slotOf a 243 = .int .u16 1)
    (ht : ∃ x y p, Blk w tm 85 (tcells x y p)) (Q : Exit → Act → World → Prop) (hQ : ∀ x a' w', (x = .normal ∨ x = .exit 2) → FrA f tm e a' → TM [tm, e2] w tm w' → Q x a' w') :
    (rdhFrom 48).wp Tryz.prog Q a w := by
  have HQ := Lib.hid hQ
  have HT := Lib.hid ht
  have c13 := hf.at_ 13 _ (hX.g13 _ _ _)
  have c14 := hf.at_ 14 _ (hX.g14 _ _ _)
  have c21 := hf.at_ 21 _ (hX.g21 _ _ _)
  have b13 : (a13 == 4294967295) = false := by simpa using hX.n13
  have b14 : (a14 == 4294967295) = false := by simpa using hX.n14
  have b21 : (a21 == 4294967295) = false := by simpa using hX.n21
  rw [frame404 hA.size hA.defers, hA.s0, hA.s20, hA.s21, h24, h243]
  clear hQ hA h24 h243 ht hX hf
  conv => arg 2; whnf
  go_wp2_with fail
  exact HQ.out _ _ _ (.inl rfl) ⟨rfl, rfl, rfl, rfl, rfl⟩ ⟨HT.out, Fr.refl _ _⟩
/-- A time is stored into block tm. -/
theorem TM.put {S : List Nat} {w w1 : World} {tm : Nat} {u v : Int} {q : Option Addr} (h : Blk w1 tm 85 (tcells u v q)) (hf : Fr S w w1) (hm : tm ∈ S) (x y : Int) (p : Option Addr) :
    TM S w tm (((w1.setCell ⟨tm, 0, none⟩ (.int .u64 x)).setCell ⟨tm, 1, none⟩ (.int .i64 y)).setCell ⟨tm, 2, none⟩ (.pointer p)) :=
  ⟨⟨x, y, p, ((h.set_ 0 _).set_ 1 _).set_ 2 _⟩, ((hf.setCell (.inl hm) _).setCell (.inl hm) _).setCell (.inl hm) _⟩
set_option maxRecDepth 100000 in
set_option maxHeartbeats 4000000 in
theorem sw_unix (a : Act) (w : World) (f tm e e2 tag db o n c : Nat) (l : List UInt8) (hA : FrA f tm e a) (h24 : slotOf a 24 = .pointer (some ⟨e2, 0, none⟩)) (h243 : slotOf a 243 = .int .u16 (tag : Int))
    (hr : RB w ⟨e2, 0, none⟩ db o n c l) (hne : e2 ≠ tm) (u v : Int) (q : Option Addr)
    (ht : Blk w tm 85 (tcells u v q)) (Q : Exit → Act → World → Prop) (hQ : ∀ x a' w', (x = .normal ∨ x = .exit 2) → FrA f tm e a' → TM [tm, e2] w tm w' → Q x a' w')
    (h3 : tag = 13 ∨ tag = 22613) : (rdhFrom 48).wp Tryz.prog Q a w := by
  have HQ := Lib.hid hQ
  have HT := Lib.hid ht
  have HR := Lib.hid hr
  have HL := Lib.hid hr.len
  have b1 : ((tag : Int) == 1) = false := by simp; omega
  have b2 : ((tag : Int) == 10) = false := by simp; omega
  have b3 : (((tag : Int) == 13) = true) ∨ (((tag : Int) == 13) = false ∧ ((tag : Int) == 22613) = true) := by rcases h3 with h | h <;> simp [h]
  obtain ⟨ad, ce, -⟩ := hr.cell
  rw [frame404 hA.size hA.defers, hA.s0, hA.s20, hA.s21, h24, h243]
  clear hQ hA h24 h243 ht h3 hr
  conv => arg 2; whnf
  by_cases hn : n < 8
  · rcases b3 with b3 | ⟨b3, b4⟩
    all_goals
      go_wp2_with fail
      exact HQ.out _ _ _ (.inr rfl) ⟨rfl, rfl, rfl, rfl, rfl⟩ ⟨⟨_, _, _, HT.out⟩, Fr.refl _ _⟩
  · rcases b3 with b3 | ⟨b3, b4⟩
    all_goals
      go_wp2_with fail
      refine (rb32d _ _ _ _ _ _ _ HR.out (by have := HL.out; omega)).mono ?_
      rintro e w2 ⟨rfl, hn2⟩
      have H2 := Lib.hid hn2
      clear hn2
      go_wp2_with fail
      refine (rb32d _ _ _ _ _ _ _ H2.out.nx (by have := HL.out; rw [List.length_drop]; omega)).mono ?_
      rintro e w3 ⟨rfl, hn3⟩
      have H3 := Lib.hid hn3
      clear hn3
      go_wp2_with fail
      refine (tUnix _ _ _).mono ?_
      rintro e w4 ⟨x, y, p, rfl, hf4⟩
      have hF := Lib.hid (((H2.out.fr.trans H3.out.fr (by simp)).trans hf4 (by simp)).mono (S' := [tm, e2]) (by simp))
      have hB := Lib.hid (((HT.out.fr H2.out.fr (by simpa using hne.symm)).fr H3.out.fr (by simpa using hne.symm)).fr hf4 (by simp))
      obtain ⟨c0, c1, c2, f0, f1, f2⟩ := timeFacts hB.out
      clear hf4
      go_wp2_with fail
      exact HQ.out _ _ _ (.inl rfl) ⟨rfl, rfl, rfl, rfl, rfl⟩ (TM.put hB.out hF.out (by simp) _ _ _)
set_option maxRecDepth 100000 in
set_option maxHeartbeats 4000000 in
theorem sw_ext (a : Act) (w : World) (f tm e e2 db o n c : Nat) (l : List UInt8) (hA : FrA f tm e a) (h24 : slotOf a 24 = .pointer (some ⟨e2, 0, none⟩)) (h243 : slotOf a 243 = .int .u16 21589)
    (hr : RB w ⟨e2, 0, none⟩ db o n c l) (hne : e2 ≠ tm) (u v : Int) (q : Option Addr)
    (ht : Blk w tm 85 (tcells u v q)) (Q : Exit → Act → World → Prop) (hQ : ∀ x a' w', (x = .normal ∨ x = .exit 2) → FrA f tm e a' → TM [tm, e2] w tm w' → Q x a' w') :
    (rdhFrom 48).wp Tryz.prog Q a w := by
  have HQ := Lib.hid hQ
  have HT := Lib.hid ht
  have HL := Lib.hid hr.len
  obtain ⟨ad, ce, -⟩ := hr.cell
  rw [frame404 hA.size hA.defers, hA.s0, hA.s20, hA.s21, h24, h243]
  by_cases hn : n < 5
  · clear hQ hA h24 h243 ht hr
    conv => arg 2; whnf
    go_wp2_with fail
    exact HQ.out _ _ _ (.inr rfl) ⟨rfl, rfl, rfl, rfl, rfl⟩ ⟨⟨_, _, _, HT.out⟩, Fr.refl _ _⟩
  · obtain ⟨b0, l', hl⟩ : ∃ b0 l', l = b0 :: l' := by
      cases l with
      | nil => have := hr.len; simp at this; omega
      | cons b l => exact ⟨_, _, rfl⟩
    subst hl
    have HR := Lib.hid hr
    clear hQ hA h24 h243 ht hr
    conv => arg 2; whnf
    go_wp2_with fail
    refine (rb8 _ _ _ _ _ b0 l' _ HR.out).mono ?_
    rintro e w2 ⟨rfl, hn2⟩
    have H2 := Lib.hid hn2
    clear hn2
    obtain ⟨bv, hbv⟩ : ∃ bv, (bits BinOp.and IntKind.u8 (b0.toNat : Int) 1 == 0) = bv := ⟨_, rfl⟩
    have hF := Lib.hid (H2.out.fr.mono (S' := [tm, e2]) (by simp))
    have hB := Lib.hid (HT.out.fr H2.out.fr (by simpa using hne.symm))
    cases bv
    · go_wp2_with fail
      refine (rb32d _ _ _ _ _ _ _ H2.out.nx (by have := HL.out; simp at this; omega)).mono ?_
      rintro e w3 ⟨rfl, hn3⟩
      have H3 := Lib.hid hn3
      clear hn3
      go_wp2_with fail
      refine (tUnix _ _ _).mono ?_
      rintro e w4 ⟨x, y, p, rfl, hf4⟩
      have hF2 := Lib.hid ((hF.out.trans H3.out.fr (by simp)).trans hf4 (by simp))
      have hB2 := Lib.hid ((hB.out.fr H3.out.fr (by simpa using hne.symm)).fr hf4 (by simp))
      obtain ⟨c0, c1, c2, f0, f1, f2⟩ := timeFacts hB2.out
      clear hf4
      go_wp2_with fail
      exact HQ.out _ _ _ (.inl rfl) ⟨rfl, rfl, rfl, rfl, rfl⟩ (TM.put hB2.out hF2.out (by simp) _ _ _)
    · go_wp2_with fail
      exact HQ.out _ _ _ (.inr rfl) ⟨rfl, rfl, rfl, rfl, rfl⟩ ⟨⟨_, _, _, hB.out⟩, hF.out⟩
end Go.Proofs.YtcodhjoiikdhmaaGreatDoor

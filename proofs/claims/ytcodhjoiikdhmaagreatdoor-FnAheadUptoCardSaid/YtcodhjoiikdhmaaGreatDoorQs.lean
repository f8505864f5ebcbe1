/- The library's contract of DecodeRuneInString, laid at this program. -/
import Derived.Test.YtcodhjoiikdhmaaGreatDoorProg
import Derived.Shelf.Unicode.DecodeAny
import Derived.Test.YtcodhjoiikdhmaaGreatDoorQw
import Derived.WalkKit
import Derived.WalkLawsBesides
import Derived.WalkSpells
import Derived.Handy
import Derived.IntWalk
import Derived.Lib.RuneCountTail
import Derived.Lib.DecodeN
import Derived.Shelf.Small.Utf8
set_option linter.unusedVariables false
set_option linter.unusedSimpArgs false
namespace Go.Proofs
open Go Go.Shelf Go.RowKit
def Tryz.lays197_ren : Go.Shelf.Ren := ⟨fun | 197 => 91 | 260 => 108 | n => n, fun | 9 => 9 | 21 => 21 | 3 => 3 | 4 => 4 | 5 => 5 | 105 => 176 | 119 => 207 | 0 => 0 | 46 => 121 | 139 => 210 | 138 => 209 | n => n, fun | 3 => 9 | 4 => 10 | n => n⟩
theorem Tryz.lays197 : Go.Proofs.Lays.n197 Tryz.prog Tryz.lays197_ren where
  mixed := by kernel_rfl
  f197 := Tryz.func91.trans (congrArg some (by kernel_rfl))
  f260 := Tryz.func108.trans (congrArg some (by kernel_rfl))
  t0 := Tryz.underlying0
  a0 := Tryz.isAgg0
  z0 := Tryz.sizeOf0
  v0 := Tryz.zeroValue0
  t3 := Tryz.underlying3
  a3 := Tryz.isAgg3
  z3 := Tryz.sizeOf3
  v3 := Tryz.zeroValue3
  t4 := Tryz.underlying4
  a4 := Tryz.isAgg4
  z4 := Tryz.sizeOf4
  v4 := Tryz.zeroValue4
  t5 := Tryz.underlying5
  a5 := Tryz.isAgg5
  z5 := Tryz.sizeOf5
  v5 := Tryz.zeroValue5
  t9 := Tryz.underlying9
  a9 := Tryz.isAgg9
  z9 := Tryz.sizeOf9
  v9 := Tryz.zeroValue9
  t21 := Tryz.underlying21
  a21 := Tryz.isAgg21
  z21 := Tryz.sizeOf21
  v21 := Tryz.zeroValue21
  t46 := Tryz.underlying121
  a46 := Tryz.isAgg121
  z46 := Tryz.sizeOf121
  v46 := Tryz.zeroValue121
  t105 := Tryz.underlying176
  a105 := Tryz.isAgg176
  z105 := Tryz.sizeOf176
  v105 := Tryz.zeroValue176
  t119 := Tryz.underlying207
  a119 := Tryz.isAgg207
  z119 := Tryz.sizeOf207
  t138 := Tryz.underlying209
  a138 := Tryz.isAgg209
  z138 := Tryz.sizeOf209
  v138 := Tryz.zeroValue209
  t139 := Tryz.underlying210
  a139 := Tryz.isAgg210
  z139 := Tryz.sizeOf210
  v139 := Tryz.zeroValue210
  g3 := by kernel_rfl
  g4 := by kernel_rfl
theorem YtcodhjoiikdhmaaGreatDoor.decodeRune (s : ByteArray) (w : World) (hT : Lib.Utf8Tabs 9 10 w) :
    Calls Tryz.prog 91 #[.string s] w fun e w' => e = .returned (.tuple #[.int .i32 (Lib.decodeGo s).1, .int .i64 (Lib.decodeGo s).2]) ∧ Below w.heap.size w w' := Any.utf8_DecodeRuneInString Tryz.lays197 s w hT
end Go.Proofs

/- detectUTF8: what it tells of a text, as a relation over the decoded runes. -/
namespace Go.Proofs
open Go Go.Shelf Go.RowKit
def Tryz.lays119_ren : Go.Shelf.Ren := ⟨fun | 119 => 92 | n => n, fun | 21 => 21 | 4 => 4 | n => n, fun | n => n⟩
theorem Tryz.lays119 : Go.Proofs.Lays.n119 Tryz.prog Tryz.lays119_ren where
  mixed := by kernel_rfl
  f119 := Tryz.func92.trans (congrArg some (by kernel_rfl))
  t4 := Tryz.underlying4
  a4 := Tryz.isAgg4
  z4 := Tryz.sizeOf4
  v4 := Tryz.zeroValue4
  t21 := Tryz.underlying21
  a21 := Tryz.isAgg21
  z21 := Tryz.sizeOf21
  v21 := Tryz.zeroValue21
theorem YtcodhjoiikdhmaaGreatDoor.validRune (r : Int) (w : World) :
    Calls Tryz.prog 92 #[.int .i32 r] w fun e w' => e = .returned (.bool (Lib.validRune r)) ∧ w' = w := Any.utf8_ValidRune Tryz.lays119 r w
end Go.Proofs
namespace Go.Proofs.YtcodhjoiikdhmaaGreatDoor
open Go Go.RowKit
/-- A rune that asks for nothing. -/
def PlainR (r : Nat) : Prop := 32 ≤ r ∧ r ≤ 125 ∧ r ≠ 92
instance (r : Nat) : Decidable (PlainR r) := inferInstanceAs (Decidable (_ ∧ _ ∧ _))
/-- A rune that is no text. -/
def BadR (r k : Nat) : Prop := Lib.validRune (r : Int) = false ∨ (r = 65533 ∧ k = 1)
instance (r k : Nat) : Decidable (BadR r k) := inferInstanceAs (Decidable (_ ∨ (_ ∧ _)))
def tailAt (s : ByteArray) (i : Nat) : ByteArray := s.extract i s.size
inductive Det (s : ByteArray) : Nat → Bool → Bool → Bool → Prop
  | stop {i : Nat} {req : Bool} : s.size ≤ i → Det s i req true req
  | plain {i r k : Nat} {req v q : Bool} : i < s.size → Utf8.decode s i = (r, k) → PlainR r → Det s (i + k) req v q → Det s i req v q
  | bad {i r k : Nat} {req : Bool} : i < s.size → Utf8.decode s i = (r, k) → ¬ PlainR r → BadR r k → Det s i req false false
  | need {i r k : Nat} {req v q : Bool} : i < s.size → Utf8.decode s i = (r, k) → ¬ PlainR r → ¬ BadR r k → Det s (i + k) true v q → Det s i req v q
theorem decN_le (n b0 b1 b2 b3 : Nat) (hn : 1 ≤ n) : (Lib.decodeN n b0 b1 b2 b3).2 ≤ n := by
  unfold Lib.decodeN
  repeat' split
  all_goals (simp only; omega)
theorem decN_ge (n b0 b1 b2 b3 : Nat) : 1 ≤ (Lib.decodeN n b0 b1 b2 b3).2 := by
  unfold Lib.decodeN
  repeat' split
  all_goals simp
theorem decN_rune (n b0 b1 b2 b3 : Nat) (h0 : b0 < 256) : (Lib.decodeN n b0 b1 b2 b3).1 ≤ 1114111 := by
  unfold Lib.decodeN
  repeat' split
  all_goals (simp only; omega)
theorem width_ge (s : ByteArray) (i : Nat) : 1 ≤ (Utf8.decode s i).2 := by rw [Lib.decode_at]; exact decN_ge _ _ _ _ _
theorem rune_max (s : ByteArray) (i : Nat) : (Utf8.decode s i).1 ≤ 1114111 := by rw [Lib.decode_at]; exact decN_rune _ _ _ _ _ (UInt8.toNat_lt _)
theorem decodeTail (s : ByteArray) (i : Nat) (h : i < s.size) : Lib.decodeGo (s.extract i s.size) = Utf8.decode s i := by
  unfold Lib.decodeGo
  rw [if_neg (by rw [Lib.tail_size]; omega), Lib.tail_decode, Nat.add_zero]
theorem width_le (s : ByteArray) (i : Nat) (h : i < s.size) : (Utf8.decode s i).2 ≤ s.size - i := by
  rw [Lib.decode_at]
  exact decN_le _ _ _ _ _ (by omega)
/-- The loop of detectUTF8. -/
def DUr (s : ByteArray) (w : World) (s2 s3 s4 : Value) (wx : World) : Prop :=
  ∃ (i : Nat) (req : Bool), s2 = .bool false ∧ s3 = .bool req ∧ s4 = .int .i64 (i : Int) ∧ i ≤ s.size ∧ Fr [] w wx ∧ ∀ v q, Det s i req v q → Det s 0 false v q
def DUp (s : ByteArray) (w : World) (e : Ending) (w' : World) : Prop := ∃ v q : Bool, Det s 0 false v q ∧ e = .returned (.tuple #[.bool v, .bool q]) ∧ Fr [] w w'
set_option maxRecDepth 100000 in
set_option maxHeartbeats 2000000 in
theorem detect_any (s : ByteArray) (w : World) (hs : s.size ≤ 4000000000) (hT : ∀ w', Fr [] w w' → Lib.Utf8Tabs 9 10 w') :
    Calls Tryz.prog 75 #[.string s] w (DUp s w) := by
  go_enter Tryz.func75, Tryz.ntmps75
  go_wp2_with fail
  go_loopw [2, 3, 4] (fun s2 s3 s4 wx => DUr s w s2 s3 s4 wx) (fun _ _ s4 _ => s.size - (intOf s4).toNat)
  case atStart => exact ⟨0, false, rfl, rfl, rfl, Nat.zero_le _, Fr.refl _ _, fun _ _ h => h⟩
  case round =>
    obtain ⟨i, req, rfl, rfl, rfl, hi, hf, hd⟩ := hrel
    have HD := Lib.hid hd
    have HF := Lib.hid hf
    have HT := Lib.hid (hT _ hf)
    clear hd hf
    by_cases hlt : i < s.size
    · obtain ⟨r, hr⟩ : ∃ r, (Utf8.decode s i).1 = r := ⟨_, rfl⟩
      obtain ⟨k, hk⟩ : ∃ k, (Utf8.decode s i).2 = k := ⟨_, rfl⟩
      have hdec := Lib.hid (show Utf8.decode s i = (r, k) from by rw [← hr, ← hk])
      have k1 : 1 ≤ k := hk ▸ width_ge s i
      have k2 : k ≤ s.size - i := hk ▸ width_le s i hlt
      have k3 : r ≤ 1114111 := hr ▸ rune_max s i
      clear hr hk
      have i1 : (i : Int) < (s.size : Int) := by omega
      have HC := Lib.hid (decodeTail s i hlt)
      have hC := Lib.hid (YtcodhjoiikdhmaaGreatDoor.decodeRune (s.extract i s.size) wr HT.out)
      have i2 : (i : Int) + (k : Int) ≤ (s.size : Int) := by omega
      have i3 : (1 : Int) ≤ (k : Int) := by omega
      have i4 : (r : Int) ≤ 1114111 := by omega
      obtain ⟨vr, hvr⟩ : ∃ b, Lib.validRune (r : Int) = b := ⟨_, rfl⟩
      have HV := Lib.hid (show ∀ W, Calls Tryz.prog 92 #[.int .i32 (r : Int)] W fun e w' => e = .returned (.bool vr) ∧ w' = W from fun W => by rw [← hvr]; exact YtcodhjoiikdhmaaGreatDoor.validRune (r : Int) W)
      have HR := Lib.hid (show BadR r k ↔ vr = false ∨ (r = 65533 ∧ k = 1) by unfold BadR; rw [hvr])
      clear hvr
      have hi2 : ((i : Int) + (k : Int)) = ((i + k : Nat) : Int) := by omega
      have HI := Lib.hid hi2
      clear hi2
      by_cases hp : PlainR r
      · have HP := Lib.hid hp
        have p1 : (32 : Int) ≤ (r : Int) := by have := hp.1; omega
        have p2 : (r : Int) ≤ 125 := by have := hp.2.1; omega
        have p3 : ((r : Int) == 92) = false := by have := hp.2.2; simp; omega
        clear hp
        go_wp2_with (first
          | (go_at_call 91; refine hC.out.mono ?_; rintro e w1 ⟨rfl, hb⟩; rw [HC.out, hdec.out])
          | fail)
        have hf2 := HF.out.trans (Fr.of_below hb (Nat.le_refl _) []) (fun _ h => .inl h)
        exact ⟨⟨i + k, req, rfl, rfl, by rw [HI.out], by omega, hf2, fun v q h => HD.out v q (.plain hlt hdec.out HP.out h)⟩, by rw [HI.out]; simp [intOf]; omega⟩
      · have HP := Lib.hid hp
        have HQ : 32 ≤ r → r ≤ 125 → ¬ r = 92 → False := fun a b c => hp ⟨a, b, c⟩
        have HQ := Lib.hid HQ
        clear hp
        go_wp2_with (first
          | (go_at_call 91; refine hC.out.mono ?_; rintro e w1 ⟨rfl, hb⟩; rw [HC.out, hdec.out])
          | (go_at_call 92; refine (HV.out _).mono ?_; rintro e w2 ⟨rfl, rfl⟩)
          | fail)
        all_goals have hf2 := HF.out.trans (Fr.of_below hb (Nat.le_refl _) []) (fun _ h => .inl h)
        all_goals first
          | (exfalso; refine HQ.out (by omega) (by omega) (fun hx => ?_); subst hx; simp_all; done)
          | (go_ret2
             refine ⟨false, false, HD.out _ _ (.bad hlt hdec.out HP.out (HR.out.2 ?_)), rfl, hf2⟩
             first
             | (left; simpa using ‹¬ vr = true›)
             | (right; refine ⟨by omega, ?_⟩; have hx := ‹((k : Int) == 1) = true›; simp only [beq_iff_eq] at hx; omega))
          | (refine ⟨⟨i + k, true, rfl, rfl, by rw [HI.out], by omega, hf2, fun v q h => HD.out v q (.need hlt hdec.out HP.out ?_ h)⟩, by rw [HI.out]; simp [intOf]; omega⟩
             rw [HR.out]
             rintro (hx | ⟨hx, hy⟩)
             · simp_all
             · first | omega | simp_all)
    · have i1 : (s.size : Int) ≤ (i : Int) := by omega
      go_wp2_with fail
      go_ret2
      exact ⟨true, req, HD.out _ _ (.stop (by omega)), rfl, HF.out⟩
end Go.Proofs.YtcodhjoiikdhmaaGreatDoor

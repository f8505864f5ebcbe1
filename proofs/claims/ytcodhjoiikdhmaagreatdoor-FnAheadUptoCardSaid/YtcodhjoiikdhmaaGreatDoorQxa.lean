/- spec.rune1: how many bytes the first sign of a text has. -/
import Derived.Test.YtcodhjoiikdhmaaGreatDoorQri
import Derived.Test.YtcodhjoiikdhmaaGreatDoorQs
set_option linter.unusedVariables false
set_option linter.unusedSimpArgs false
namespace Go.Proofs.YtcodhjoiikdhmaaGreatDoor
open Go Go.RowKit
open Zp
/-- How many bytes the first sign has, from the length and the first four bytes; 0: it is none. -/
def rnN (n b0 b1 b2 b3 : Nat) : Nat := if Lib.decodeN n b0 b1 b2 b3 = (65533, 1) then 0 else (Lib.decodeN n b0 b1 b2 b3).2
theorem rn1 (n b0 b1 b2 b3 : Nat) (h : b0 < 128) : rnN n b0 b1 b2 b3 = 1 := by
  have hd : Lib.decodeN n b0 b1 b2 b3 = (b0, 1) := by unfold Lib.decodeN; rw [if_pos h]
  unfold rnN
  rw [hd, if_neg (by simp; omega)]
def v2 (b0 b1 : Nat) : Nat := b0 % 32 * 64 + b1 % 64
theorem rnBad (n b0 b1 b2 b3 : Nat) (h : 128 ≤ b0) (h2 : ¬ (194 ≤ b0 ∧ b0 ≤ 223)) (h3 : ¬ (224 ≤ b0 ∧ b0 ≤ 239)) (h4 : ¬ (240 ≤ b0 ∧ b0 ≤ 244)) (hb : b0 < 256) : rnN n b0 b1 b2 b3 = 0 := by
  have hd : Lib.decodeN n b0 b1 b2 b3 = (65533, 1) := by
    unfold Lib.decodeN
    rw [if_neg (by omega)]
    split
    · rw [if_neg (by omega)]
    · rw [if_neg (by omega)]
      split
      · rw [if_neg (by omega)]
      · rfl
  unfold rnN
  rw [if_pos hd]
theorem rn_bad {n b0 b1 b2 b3 : Nat} (hd : Lib.decodeN n b0 b1 b2 b3 = (65533, 1)) : rnN n b0 b1 b2 b3 = 0 := by
  unfold rnN
  rw [if_pos hd]
theorem rn_ok {n b0 b1 b2 b3 r k : Nat} (hd : Lib.decodeN n b0 b1 b2 b3 = (r, k)) (hk : k ≠ 1) : rnN n b0 b1 b2 b3 = k := by
  unfold rnN
  rw [hd, if_neg (fun h => hk (by injection h))]
theorem rn2 (n b0 b1 b2 b3 : Nat) (h : 194 ≤ b0 ∧ b0 ≤ 223) : rnN n b0 b1 b2 b3 = if 1 < n ∧ b1 / 64 = 2 then 2 else 0 := by
  by_cases hc : 1 < n ∧ b1 / 64 = 2
  · rw [if_pos hc]
    exact rn_ok (r := b0 % 32 * 64 + b1 % 64) (by unfold Lib.decodeN; rw [if_neg (show ¬ b0 < 128 by omega), if_pos ⟨by omega, hc⟩, if_pos (by omega)]) (by decide)
  · rw [if_neg hc]
    exact rn_bad (by unfold Lib.decodeN; rw [if_neg (show ¬ b0 < 128 by omega), if_neg (fun hh => hc hh.2), if_neg (by omega), if_neg (by omega)])
set_option maxRecDepth 100000 in
theorem rn3 (n b0 b1 b2 b3 : Nat) (h : 224 ≤ b0 ∧ b0 ≤ 239) : rnN n b0 b1 b2 b3 = if ((1 < n ∧ b1 / 64 = 2) ∧ (2 < n ∧ b2 / 64 = 2)) ∧ 2048 ≤ b0 % 16 * 4096 + b1 % 64 * 64 + b2 % 64 ∧ ¬ (55296 ≤ b0 % 16 * 4096 + b1 % 64 * 64 + b2 % 64 ∧ b0 % 16 * 4096 + b1 % 64 * 64 + b2 % 64 ≤ 57343) then 3 else 0 := by
  by_cases hc : (1 < n ∧ b1 / 64 = 2) ∧ (2 < n ∧ b2 / 64 = 2)
  · obtain ⟨v, hv⟩ : ∃ v, b0 % 16 * 4096 + b1 % 64 * 64 + b2 % 64 = v := ⟨_, rfl⟩
    have hv2 : v ≤ 65535 := by omega
    by_cases hq : 2048 ≤ v ∧ ¬ (55296 ≤ v ∧ v ≤ 57343)
    · rw [hv, if_pos ⟨hc, hq⟩]
      exact rn_ok (r := v) (by unfold Lib.decodeN; rw [if_neg (show ¬ b0 < 128 by omega), if_neg (by omega), if_pos ⟨by omega, hc⟩, hv, if_pos (by omega)]) (by decide)
    · rw [hv, if_neg (fun hh => hq hh.2)]
      exact rn_bad (by unfold Lib.decodeN; rw [if_neg (show ¬ b0 < 128 by omega), if_neg (by omega), if_pos ⟨by omega, hc⟩, hv, if_neg (by omega)])
  · rw [if_neg (fun hh => hc hh.1)]
    exact rn_bad (by unfold Lib.decodeN; rw [if_neg (show ¬ b0 < 128 by omega), if_neg (by omega), if_neg (fun hh => hc hh.2), if_neg (by omega)])
theorem rn4 (n b0 b1 b2 b3 : Nat) (h : 240 ≤ b0 ∧ b0 ≤ 244) : rnN n b0 b1 b2 b3 = if ((1 < n ∧ b1 / 64 = 2) ∧ (2 < n ∧ b2 / 64 = 2) ∧ (3 < n ∧ b3 / 64 = 2)) ∧ 65536 ≤ b0 % 8 * 262144 + b1 % 64 * 4096 + b2 % 64 * 64 + b3 % 64 ∧ b0 % 8 * 262144 + b1 % 64 * 4096 + b2 % 64 * 64 + b3 % 64 ≤ 1114111 then 4 else 0 := by
  have a1 : ¬ b0 < 128 := by omega
  have a2 : ¬ b0 / 32 = 6 := by omega
  have a3 : ¬ b0 / 16 = 14 := by omega
  have a4 : b0 / 8 = 30 := by omega
  have hd : Lib.decodeN n b0 b1 b2 b3 = if (1 < n ∧ b1 / 64 = 2) ∧ (2 < n ∧ b2 / 64 = 2) ∧ (3 < n ∧ b3 / 64 = 2) then
      (if b0 % 8 * 262144 + b1 % 64 * 4096 + b2 % 64 * 64 + b3 % 64 ≥ 65536 ∧ (b0 % 8 * 262144 + b1 % 64 * 4096 + b2 % 64 * 64 + b3 % 64 < 55296 ∨ (57344 ≤ b0 % 8 * 262144 + b1 % 64 * 4096 + b2 % 64 * 64 + b3 % 64 ∧ b0 % 8 * 262144 + b1 % 64 * 4096 + b2 % 64 * 64 + b3 % 64 ≤ 1114111))
        then (b0 % 8 * 262144 + b1 % 64 * 4096 + b2 % 64 * 64 + b3 % 64, 4) else (65533, 1)) else (65533, 1) := by
    unfold Lib.decodeN
    rw [if_neg a1, if_neg (fun hh => a2 hh.1), if_neg (fun hh => a3 hh.1)]
    by_cases hc : (1 < n ∧ b1 / 64 = 2) ∧ (2 < n ∧ b2 / 64 = 2) ∧ (3 < n ∧ b3 / 64 = 2)
    · rw [if_pos ⟨a4, hc⟩, if_pos hc]
    · rw [if_neg (fun hh => hc hh.2), if_neg hc]
  generalize b0 % 8 * 262144 + b1 % 64 * 4096 + b2 % 64 * 64 + b3 % 64 = v at hd ⊢
  by_cases hc : (1 < n ∧ b1 / 64 = 2) ∧ (2 < n ∧ b2 / 64 = 2) ∧ (3 < n ∧ b3 / 64 = 2)
  · rw [if_pos hc] at hd
    by_cases hq : 65536 ≤ v ∧ v ≤ 1114111
    · rw [if_pos (by omega)] at hd
      rw [if_pos ⟨hc, hq⟩]
      exact rn_ok hd (by decide)
    · rw [if_neg (by omega)] at hd
      rw [if_neg (fun hh => hq hh.2)]
      exact rn_bad hd
  · rw [if_neg hc] at hd
    rw [if_neg (fun hh => hc hh.1)]
    exact rn_bad hd
/-- The value behind k bytes. -/
def vAt (f : Nat → Nat) (c0 : Nat) : Nat → Nat
  | 0 => c0
  | 1 => c0
  | k + 2 => vAt f c0 (k + 1) * 64 + f (k + 1) - 128
theorem vAt_le (f : Nat → Nat) (c0 L : Nat) (hL : L = 16000000) (hc : c0 ≤ 31) (hf : ∀ j, f j < 256) (k : Nat) (h1 : 1 ≤ k) (h4 : k ≤ 4) : vAt f c0 k ≤ L := by
  have f1 := hf 1
  have f2 := hf 2
  have f3 := hf 3
  have h : k = 1 ∨ k = 2 ∨ k = 3 ∨ k = 4 := by omega
  have e1 : vAt f c0 1 = c0 := rfl
  have e2 : vAt f c0 2 = vAt f c0 1 * 64 + f 1 - 128 := rfl
  have e3 : vAt f c0 3 = vAt f c0 2 * 64 + f 2 - 128 := rfl
  have e4 : vAt f c0 4 = vAt f c0 3 * 64 + f 3 - 128 := rfl
  rcases h with rfl | rfl | rfl | rfl <;> omega
/-- The loop of rune1. -/
def RuR (f : Nat → Nat) (c0 n : Nat) (w : World) (s3 s6 : Value) (wx : World) : Prop :=
  ∃ k : Nat, 1 ≤ k ∧ k ≤ n ∧ s6 = .int .i64 (k : Int) ∧ s3 = .int .i64 (vAt f c0 k : Int) ∧ (∀ j, 1 ≤ j → j < k → f j / 64 = 2) ∧ wx = w
end Go.Proofs.YtcodhjoiikdhmaaGreatDoor

/- The walk of spec.rune1. -/
namespace Go.Proofs.YtcodhjoiikdhmaaGreatDoor
open Go Go.RowKit
open Zp
def fB (T : ByteArray) (j : Nat) : Nat := (T.get! j).toNat
theorem fB_lt (T : ByteArray) (j : Nat) : fB T j < 256 := UInt8.toNat_lt _
theorem fB_get (T : ByteArray) (j : Nat) (h : j < T.size) : T[j].toNat = fB T j := by
  unfold fB
  congr 1
  show T.data[j] = T.data[j]!
  rw [getElem!_pos T.data j h]
def rnT (T : ByteArray) : Nat := rnN T.size (fB T 0) (fB T 1) (fB T 2) (fB T 3)
theorem within_t (n a b : Int) (w : World) (h : a ≤ n ∧ n ≤ b) : Calls Tryz.prog 48 #[.int .i64 n, .int .i64 a, .int .i64 b] w fun e w' => e = .returned (.bool true) ∧ w' = w := by
  have := withinC n a b w
  rwa [decide_eq_true h] at this
theorem within_f (n a b : Int) (w : World) (h : ¬ (a ≤ n ∧ n ≤ b)) : Calls Tryz.prog 48 #[.int .i64 n, .int .i64 a, .int .i64 b] w fun e w' => e = .returned (.bool false) ∧ w' = w := by
  have := withinC n a b w
  rwa [decide_eq_false h] at this
set_option maxRecDepth 100000 in
set_option maxHeartbeats 4000000 in
theorem rune1_one (T : ByteArray) (hs : 1 ≤ T.size) (hs4 : T.size ≤ 4000000000) (w : World) (hc : fB T 0 < 128) :
    Calls Tryz.prog 66 #[.string T] w fun e w' => e = .returned (.int .i64 (rnT T : Int)) ∧ w' = w := by
  obtain ⟨b0, hb0⟩ : ∃ b, fB T 0 = b := ⟨_, rfl⟩
  have hg0 : ∀ (h : 0 < T.size), T[0].toNat = b0 := fun h => (fB_get T 0 h).trans hb0
  have hb256 : b0 < 256 := by rw [← hb0]; exact fB_lt T 0
  rw [hb0] at hc
  have i0 : (0 : Int) < (T.size : Int) := by omega
  have hr : rnT T = 1 := by unfold rnT; exact rn1 _ _ _ _ _ (by rw [hb0]; exact hc)
  rw [hr]
  clear hr hb0
  go_enter Tryz.func66, Tryz.ntmps66
  go_wp2_with fail
  go_ret
  exact ⟨rfl, rfl⟩
set_option maxRecDepth 100000 in
set_option maxHeartbeats 4000000 in
theorem rune1_bad (T : ByteArray) (hs : 1 ≤ T.size) (hs4 : T.size ≤ 4000000000) (w : World) (hc : 128 ≤ fB T 0 ∧ ¬ (194 ≤ fB T 0 ∧ fB T 0 ≤ 223) ∧ ¬ (224 ≤ fB T 0 ∧ fB T 0 ≤ 239) ∧ ¬ (240 ≤ fB T 0 ∧ fB T 0 ≤ 244)) :
    Calls Tryz.prog 66 #[.string T] w fun e w' => e = .returned (.int .i64 (rnT T : Int)) ∧ w' = w := by
  obtain ⟨b0, hb0⟩ : ∃ b, fB T 0 = b := ⟨_, rfl⟩
  have hg0 : ∀ (h : 0 < T.size), T[0].toNat = b0 := fun h => (fB_get T 0 h).trans hb0
  have hb256 : b0 < 256 := by rw [← hb0]; exact fB_lt T 0
  rw [hb0] at hc
  have i0 : (0 : Int) < (T.size : Int) := by omega
  have hr : rnT T = 0 := by unfold rnT; rw [hb0]; exact rnBad _ _ _ _ _ hc.1 hc.2.1 hc.2.2.1 hc.2.2.2 hb256
  rw [hr]
  have i1 : (128 : Int) ≤ (b0 : Int) := by omega
  have W194 := Lib.hid (fun (w : World) => within_f (b0 : Int) 194 223 w (by omega))
  have W224 := Lib.hid (fun (w : World) => within_f (b0 : Int) 224 239 w (by omega))
  have W240 := Lib.hid (fun (w : World) => within_f (b0 : Int) 240 244 w (by omega))
  clear hr hb0 hc
  go_enter Tryz.func66, Tryz.ntmps66
  go_wp2_with (first | (go_at_call 48; (with_reducible refine (W194.out _).mono ?_); rintro e1 w1 ⟨rfl, hw1⟩; rw [hw1]; clear hw1 w1) | (go_at_call 48; (with_reducible refine (W224.out _).mono ?_); rintro e1 w1 ⟨rfl, hw1⟩; rw [hw1]; clear hw1 w1) | (go_at_call 48; (with_reducible refine (W240.out _).mono ?_); rintro e1 w1 ⟨rfl, hw1⟩; rw [hw1]; clear hw1 w1) | fail)
  go_ret
  exact ⟨rfl, rfl⟩
set_option maxRecDepth 100000 in
set_option maxHeartbeats 4000000 in
theorem rune1_2 (T : ByteArray) (hs : 1 ≤ T.size) (hs4 : T.size ≤ 4000000000) (w : World) (hc : 194 ≤ fB T 0 ∧ fB T 0 ≤ 223) :
    Calls Tryz.prog 66 #[.string T] w fun e w' => e = .returned (.int .i64 (rnT T : Int)) ∧ w' = w := by
  obtain ⟨b0, hb0⟩ : ∃ b, fB T 0 = b := ⟨_, rfl⟩
  have hg0 : ∀ (h : 0 < T.size), T[0].toNat = b0 := fun h => (fB_get T 0 h).trans hb0
  have hb256 : b0 < 256 := by rw [← hb0]; exact fB_lt T 0
  rw [hb0] at hc
  have i0 : (0 : Int) < (T.size : Int) := by omega
  have i1 : (128 : Int) ≤ (b0 : Int) := by omega
  have W194 := Lib.hid (fun (w : World) => within_t (b0 : Int) 194 223 w (by omega))
  obtain ⟨c0, hc0⟩ : ∃ c0 : Nat, b0 = c0 + 192 := ⟨b0 - 192, by omega⟩
  have hc31 : c0 ≤ 31 := by omega
  have hw0 : IntKind.i64.wrap ((b0 : Int) - 192) = (c0 : Int) := by rw [IntWalk.i64_in _ (by omega)]; omega
  have hrn : rnT T = rnN T.size (c0 + 192) (fB T 1) (fB T 2) (fB T 3) := by unfold rnT; rw [hb0, hc0]
  have HRN := Lib.hid hrn
  have HC := Lib.hid (show 194 ≤ c0 + 192 ∧ c0 + 192 ≤ 223 by omega)
  obtain ⟨sz, hsz⟩ : ∃ sz, T.size = sz := ⟨_, rfl⟩
  have HSZ := Lib.hid hsz
  have HB0 := Lib.hid hc0
  obtain ⟨R, hR⟩ : ∃ R, rnT T = R := ⟨_, rfl⟩
  have HR := Lib.hid hR
  rw [hR]
  clear hrn hb0 hc hc0 hR
  go_enter Tryz.func66, Tryz.ntmps66
  by_cases hlen : (sz : Int) < 2
  · have hr : rnT T = 0 := by
      rw [HRN.out, rn2 _ _ _ _ _ HC.out, if_neg (by rw [HSZ.out]; omega)]
    have HRR := Lib.hid hr
    clear hr
    go_wp2_with (first | (go_at_call 48; (with_reducible refine (W194.out _).mono ?_); rintro e1 w1 ⟨rfl, hw1⟩; rw [hw1]; clear hw1 w1) | fail)
    go_ret
    exact ⟨by rw [← HR.out, HRR.out]; rfl, rfl⟩
  go_wp2_with (first | (go_at_call 48; (with_reducible refine (W194.out _).mono ?_); rintro e1 w1 ⟨rfl, hw1⟩; rw [hw1]; clear hw1 w1) | fail)
  go_loopw [3, 6] (fun s3 s6 wr => RuR (fB T) c0 2 w s3 s6 wr) (fun _ s6 _ => 2 - (intOf s6).toNat)
  case atStart => exact ⟨1, by omega, by omega, rfl, rfl, fun j h1 h2 => by omega, rfl⟩
  case round =>
    obtain ⟨k, hk1, hkn, rfl, rfl, hcon, rfl⟩ := hrel
    by_cases hlt : k < 2
    · have i3 : (k : Int) < 2 := by omega
      have hgk : ∀ (h : k < T.size), T[k].toNat = fB T k := fun h => fB_get T k h
      have hbk := fB_lt T k
      have i4 : (k : Int) < (sz : Int) := by omega
      have i5 : k < sz := by omega
      have hv := vAt_le (fB T) c0 16000000 rfl hc31 (fB_lt T) k hk1 (by omega)
      have hvn : ∃ L : Nat, vAt (fB T) c0 k ≤ L ∧ L ≤ 16000000 := ⟨16000000, hv, Nat.le_refl _⟩
      obtain ⟨L, hv, hL⟩ := hvn
      have HL := Lib.hid hL
      have HCON := Lib.hid hcon
      clear hcon hL
      obtain ⟨x, hx⟩ : ∃ x, vAt (fB T) c0 k = x := ⟨_, rfl⟩
      obtain ⟨y, hy⟩ : ∃ y, fB T k = y := ⟨_, rfl⟩
      have HX := Lib.hid hx
      have HY := Lib.hid hy
      rw [hx] at hv ⊢
      rw [hy] at hgk hbk
      clear hx hy
      by_cases hcy : y / 64 = 2
      · have WK := Lib.hid (fun (w : World) => within_t (y : Int) 128 191 w (by omega))
        have he : wrap64 (wrap64 (wrap64 ((x : Int) * 64) + (y : Int)) - 128) = ((x * 64 + y - 128 : Nat) : Int) := by
          have hL := HL.out
          rw [IntWalk.wrap64_in ((x : Int) * 64) (by omega), IntWalk.wrap64_in ((x : Int) * 64 + (y : Int)) (by omega), IntWalk.wrap64_in _ (by omega)]
          omega
        have HE := Lib.hid he
        clear he
        go_wp2_with (first | (go_at_call 48; (with_reducible refine (WK.out _).mono ?_); rintro e1 w1 ⟨rfl, hw1⟩; rw [hw1]; clear hw1 w1) | fail)
        obtain ⟨k', rfl⟩ : ∃ k', k = k' + 1 := ⟨k - 1, by omega⟩
        refine ⟨⟨k' + 1 + 1, by omega, by omega, rfl, ?_, ?_, rfl⟩, by simp [intOf]; omega⟩
        · show Value.int .i64 (wrap64 (wrap64 (wrap64 ((x : Int) * 64) + (y : Int)) - 128)) = _
          rw [HE.out]
          show _ = Value.int .i64 ((vAt (fB T) c0 (k' + 1) * 64 + fB T (k' + 1) - 128 : Nat) : Int)
          rw [HX.out, HY.out]
        · intro j h1 h2
          by_cases hj : j = k' + 1
          · rw [hj, HY.out]; exact hcy
          · exact HCON.out j h1 (by omega)
      · have WK := Lib.hid (fun (w : World) => within_f (y : Int) 128 191 w (by omega))
        have hr : rnT T = 0 := by
          rw [HRN.out, rn2 _ _ _ _ _ HC.out, if_neg]
          intro h
          obtain rfl : k = 1 := by omega
          exact hcy (by rw [← HY.out]; exact h.2)
        have HRR := Lib.hid hr
        clear hr
        go_wp2_with (first | (go_at_call 48; (with_reducible refine (WK.out _).mono ?_); rintro e1 w1 ⟨rfl, hw1⟩; rw [hw1]; clear hw1 w1) | fail)
        go_ret
        exact ⟨by rw [← HR.out, HRR.out]; rfl, rfl⟩
    · obtain rfl : k = 2 := by omega
      obtain ⟨v, hv⟩ : ∃ v, vAt (fB T) c0 2 = v := ⟨_, rfl⟩
      have f1 := hcon 1 (by omega) (by omega)
      
      have g1 := fB_lt T 1
      have g2 := fB_lt T 2
      have g3 := fB_lt T 3
      have hvv : v = c0 * 64 + fB T 1 % 64 := by
        rw [← hv]
        show c0 * 64 + fB T 1 - 128 = _
        omega
      have hszn : 2 ≤ sz := by omega
      have HSN := Lib.hid hszn
      have HVV := Lib.hid hvv
      have HF := Lib.hid (f1)
      rw [hv]
      have hr : rnT T = 2 := by
        rw [HRN.out, rn2 _ _ _ _ _ HC.out, if_pos ⟨by rw [HSZ.out]; omega, HF.out⟩]
      have HRR := Lib.hid hr
      clear hr
      have hlo : ¬ v < 128 := by have := HC.out; omega
      have hhi : v ≤ 2047 := by omega
      have q1 : decide ((v : Int) < 128) = false := decide_eq_false (by omega)
      have q2 : decide ((1114111 : Int) < (v : Int)) = false := decide_eq_false (by omega)
      have WS := Lib.hid (fun (w : World) => within_f (v : Int) 55296 57343 w (by omega))
      clear hvv hv
      go_wp2_with (first | (go_at_call 48; (with_reducible refine (WS.out _).mono ?_); rintro e1 w1 ⟨rfl, hw1⟩; rw [hw1]; clear hw1 w1) | fail)
      go_ret
      exact ⟨by rw [← HR.out, HRR.out]; rfl, rfl⟩
set_option maxRecDepth 100000 in
set_option maxHeartbeats 4000000 in
theorem rune1_3 (T : ByteArray) (hs : 1 ≤ T.size) (hs4 : T.size ≤ 4000000000) (w : World) (hc : 224 ≤ fB T 0 ∧ fB T 0 ≤ 239) :
    Calls Tryz.prog 66 #[.string T] w fun e w' => e = .returned (.int .i64 (rnT T : Int)) ∧ w' = w := by
  obtain ⟨b0, hb0⟩ : ∃ b, fB T 0 = b := ⟨_, rfl⟩
  have hg0 : ∀ (h : 0 < T.size), T[0].toNat = b0 := fun h => (fB_get T 0 h).trans hb0
  have hb256 : b0 < 256 := by rw [← hb0]; exact fB_lt T 0
  rw [hb0] at hc
  have i0 : (0 : Int) < (T.size : Int) := by omega
  have i1 : (128 : Int) ≤ (b0 : Int) := by omega
  have W194 := Lib.hid (fun (w : World) => within_f (b0 : Int) 194 223 w (by omega))
  have W224 := Lib.hid (fun (w : World) => within_t (b0 : Int) 224 239 w (by omega))
  obtain ⟨c0, hc0⟩ : ∃ c0 : Nat, b0 = c0 + 224 := ⟨b0 - 224, by omega⟩
  have hc31 : c0 ≤ 31 := by omega
  have hw0 : IntKind.i64.wrap ((b0 : Int) - 224) = (c0 : Int) := by rw [IntWalk.i64_in _ (by omega)]; omega
  have hrn : rnT T = rnN T.size (c0 + 224) (fB T 1) (fB T 2) (fB T 3) := by unfold rnT; rw [hb0, hc0]
  have HRN := Lib.hid hrn
  have HC := Lib.hid (show 224 ≤ c0 + 224 ∧ c0 + 224 ≤ 239 by omega)
  obtain ⟨sz, hsz⟩ : ∃ sz, T.size = sz := ⟨_, rfl⟩
  have HSZ := Lib.hid hsz
  have HB0 := Lib.hid hc0
  obtain ⟨R, hR⟩ : ∃ R, rnT T = R := ⟨_, rfl⟩
  have HR := Lib.hid hR
  rw [hR]
  clear hrn hb0 hc hc0 hR
  go_enter Tryz.func66, Tryz.ntmps66
  by_cases hlen : (sz : Int) < 3
  · have hr : rnT T = 0 := by
      rw [HRN.out, rn3 _ _ _ _ _ HC.out, if_neg (by rw [HSZ.out]; omega)]
    have HRR := Lib.hid hr
    clear hr
    go_wp2_with (first | (go_at_call 48; (with_reducible refine (W194.out _).mono ?_); rintro e1 w1 ⟨rfl, hw1⟩; rw [hw1]; clear hw1 w1) | (go_at_call 48; (with_reducible refine (W224.out _).mono ?_); rintro e1 w1 ⟨rfl, hw1⟩; rw [hw1]; clear hw1 w1) | fail)
    go_ret
    exact ⟨by rw [← HR.out, HRR.out]; rfl, rfl⟩
  go_wp2_with (first | (go_at_call 48; (with_reducible refine (W194.out _).mono ?_); rintro e1 w1 ⟨rfl, hw1⟩; rw [hw1]; clear hw1 w1) | (go_at_call 48; (with_reducible refine (W224.out _).mono ?_); rintro e1 w1 ⟨rfl, hw1⟩; rw [hw1]; clear hw1 w1) | fail)
  go_loopw [3, 6] (fun s3 s6 wr => RuR (fB T) c0 3 w s3 s6 wr) (fun _ s6 _ => 3 - (intOf s6).toNat)
  case atStart => exact ⟨1, by omega, by omega, rfl, rfl, fun j h1 h2 => by omega, rfl⟩
  case round =>
    obtain ⟨k, hk1, hkn, rfl, rfl, hcon, rfl⟩ := hrel
    by_cases hlt : k < 3
    · have i3 : (k : Int) < 3 := by omega
      have hgk : ∀ (h : k < T.size), T[k].toNat = fB T k := fun h => fB_get T k h
      have hbk := fB_lt T k
      have i4 : (k : Int) < (sz : Int) := by omega
      have i5 : k < sz := by omega
      have hv := vAt_le (fB T) c0 16000000 rfl hc31 (fB_lt T) k hk1 (by omega)
      have hvn : ∃ L : Nat, vAt (fB T) c0 k ≤ L ∧ L ≤ 16000000 := ⟨16000000, hv, Nat.le_refl _⟩
      obtain ⟨L, hv, hL⟩ := hvn
      have HL := Lib.hid hL
      have HCON := Lib.hid hcon
      clear hcon hL
      obtain ⟨x, hx⟩ : ∃ x, vAt (fB T) c0 k = x := ⟨_, rfl⟩
      obtain ⟨y, hy⟩ : ∃ y, fB T k = y := ⟨_, rfl⟩
      have HX := Lib.hid hx
      have HY := Lib.hid hy
      rw [hx] at hv ⊢
      rw [hy] at hgk hbk
      clear hx hy
      by_cases hcy : y / 64 = 2
      · have WK := Lib.hid (fun (w : World) => within_t (y : Int) 128 191 w (by omega))
        have he : wrap64 (wrap64 (wrap64 ((x : Int) * 64) + (y : Int)) - 128) = ((x * 64 + y - 128 : Nat) : Int) := by
          have hL := HL.out
          rw [IntWalk.wrap64_in ((x : Int) * 64) (by omega), IntWalk.wrap64_in ((x : Int) * 64 + (y : Int)) (by omega), IntWalk.wrap64_in _ (by omega)]
          omega
        have HE := Lib.hid he
        clear he
        go_wp2_with (first | (go_at_call 48; (with_reducible refine (WK.out _).mono ?_); rintro e1 w1 ⟨rfl, hw1⟩; rw [hw1]; clear hw1 w1) | fail)
        obtain ⟨k', rfl⟩ : ∃ k', k = k' + 1 := ⟨k - 1, by omega⟩
        refine ⟨⟨k' + 1 + 1, by omega, by omega, rfl, ?_, ?_, rfl⟩, by simp [intOf]; omega⟩
        · show Value.int .i64 (wrap64 (wrap64 (wrap64 ((x : Int) * 64) + (y : Int)) - 128)) = _
          rw [HE.out]
          show _ = Value.int .i64 ((vAt (fB T) c0 (k' + 1) * 64 + fB T (k' + 1) - 128 : Nat) : Int)
          rw [HX.out, HY.out]
        · intro j h1 h2
          by_cases hj : j = k' + 1
          · rw [hj, HY.out]; exact hcy
          · exact HCON.out j h1 (by omega)
      · have WK := Lib.hid (fun (w : World) => within_f (y : Int) 128 191 w (by omega))
        have hr : rnT T = 0 := by
          rw [HRN.out, rn3 _ _ _ _ _ HC.out, if_neg]
          intro h
          have hk : k = 1 ∨ k = 2 := by omega
          rcases hk with rfl | rfl
          · exact hcy (by rw [← HY.out]; exact h.1.1.2)
          · exact hcy (by rw [← HY.out]; exact h.1.2.2)
        have HRR := Lib.hid hr
        clear hr
        go_wp2_with (first | (go_at_call 48; (with_reducible refine (WK.out _).mono ?_); rintro e1 w1 ⟨rfl, hw1⟩; rw [hw1]; clear hw1 w1) | fail)
        go_ret
        exact ⟨by rw [← HR.out, HRR.out]; rfl, rfl⟩
    · obtain rfl : k = 3 := by omega
      obtain ⟨v, hv⟩ : ∃ v, vAt (fB T) c0 3 = v := ⟨_, rfl⟩
      have f1 := hcon 1 (by omega) (by omega)
      have f2 := hcon 2 (by omega) (by omega)
      have g1 := fB_lt T 1
      have g2 := fB_lt T 2
      have g3 := fB_lt T 3
      have hvv : v = c0 * 4096 + fB T 1 % 64 * 64 + fB T 2 % 64 := by
        rw [← hv]
        show (c0 * 64 + fB T 1 - 128) * 64 + fB T 2 - 128 = _
        omega
      have hszn : 3 ≤ sz := by omega
      have HSN := Lib.hid hszn
      have HVV := Lib.hid hvv
      have HF := Lib.hid (And.intro f1 f2)
      rw [hv]
      have hm : (c0 + 224) % 16 = c0 := by have := HC.out; omega
      have HRV := Lib.hid (show rnT T = if 2048 ≤ v ∧ ¬ (55296 ≤ v ∧ v ≤ 57343) then 3 else 0 by
        rw [HRN.out, rn3 _ _ _ _ _ HC.out, hm, ← HVV.out]
        by_cases hq : 2048 ≤ v ∧ ¬ (55296 ≤ v ∧ v ≤ 57343)
        · rw [if_pos hq, if_pos ⟨⟨⟨by rw [HSZ.out]; omega, HF.out.1⟩, ⟨by rw [HSZ.out]; omega, HF.out.2⟩⟩, hq⟩]
        · rw [if_neg hq, if_neg (fun h => hq h.2)])
      have hmax : v ≤ 65535 := by omega
      clear hvv hv hm
      by_cases q1 : (v : Int) < 2048
      · have HRR := Lib.hid (show rnT T = 0 by rw [HRV.out, if_neg (by omega)])
        go_wp2_with fail
        go_ret
        exact ⟨by rw [← HR.out, HRR.out]; rfl, rfl⟩
      have q2 : decide ((1114111 : Int) < (v : Int)) = false := decide_eq_false (by omega)
      by_cases q3 : 55296 ≤ (v : Int) ∧ (v : Int) ≤ 57343
      · have WS := Lib.hid (fun (w : World) => within_t (v : Int) 55296 57343 w q3)
        have HRR := Lib.hid (show rnT T = 0 by rw [HRV.out, if_neg (by omega)])
        clear q3
        go_wp2_with (first | (go_at_call 48; (with_reducible refine (WS.out _).mono ?_); rintro e1 w1 ⟨rfl, hw1⟩; rw [hw1]; clear hw1 w1) | fail)
        go_ret
        exact ⟨by rw [← HR.out, HRR.out]; rfl, rfl⟩
      have WS := Lib.hid (fun (w : World) => within_f (v : Int) 55296 57343 w (by omega))
      have HRR := Lib.hid (show rnT T = 3 by rw [HRV.out, if_pos (by omega)])
      clear q3
      go_wp2_with (first | (go_at_call 48; (with_reducible refine (WS.out _).mono ?_); rintro e1 w1 ⟨rfl, hw1⟩; rw [hw1]; clear hw1 w1) | fail)
      go_ret
      exact ⟨by rw [← HR.out, HRR.out]; rfl, rfl⟩
set_option maxRecDepth 100000 in
set_option maxHeartbeats 4000000 in
theorem rune1_4 (T : ByteArray) (hs : 1 ≤ T.size) (hs4 : T.size ≤ 4000000000) (w : World) (hc : 240 ≤ fB T 0 ∧ fB T 0 ≤ 244) :
    Calls Tryz.prog 66 #[.string T] w fun e w' => e = .returned (.int .i64 (rnT T : Int)) ∧ w' = w := by
  obtain ⟨b0, hb0⟩ : ∃ b, fB T 0 = b := ⟨_, rfl⟩
  have hg0 : ∀ (h : 0 < T.size), T[0].toNat = b0 := fun h => (fB_get T 0 h).trans hb0
  have hb256 : b0 < 256 := by rw [← hb0]; exact fB_lt T 0
  rw [hb0] at hc
  have i0 : (0 : Int) < (T.size : Int) := by omega
  have i1 : (128 : Int) ≤ (b0 : Int) := by omega
  have W194 := Lib.hid (fun (w : World) => within_f (b0 : Int) 194 223 w (by omega))
  have W224 := Lib.hid (fun (w : World) => within_f (b0 : Int) 224 239 w (by omega))
  have W240 := Lib.hid (fun (w : World) => within_t (b0 : Int) 240 244 w (by omega))
  obtain ⟨c0, hc0⟩ : ∃ c0 : Nat, b0 = c0 + 240 := ⟨b0 - 240, by omega⟩
  have hc31 : c0 ≤ 31 := by omega
  have hw0 : IntKind.i64.wrap ((b0 : Int) - 240) = (c0 : Int) := by rw [IntWalk.i64_in _ (by omega)]; omega
  have hrn : rnT T = rnN T.size (c0 + 240) (fB T 1) (fB T 2) (fB T 3) := by unfold rnT; rw [hb0, hc0]
  have HRN := Lib.hid hrn
  have HC := Lib.hid (show 240 ≤ c0 + 240 ∧ c0 + 240 ≤ 244 by omega)
  obtain ⟨sz, hsz⟩ : ∃ sz, T.size = sz := ⟨_, rfl⟩
  have HSZ := Lib.hid hsz
  have HB0 := Lib.hid hc0
  obtain ⟨R, hR⟩ : ∃ R, rnT T = R := ⟨_, rfl⟩
  have HR := Lib.hid hR
  rw [hR]
  clear hrn hb0 hc hc0 hR
  go_enter Tryz.func66, Tryz.ntmps66
  by_cases hlen : (sz : Int) < 4
  · have hr : rnT T = 0 := by
      rw [HRN.out, rn4 _ _ _ _ _ HC.out, if_neg (by rw [HSZ.out]; omega)]
    have HRR := Lib.hid hr
    clear hr
    go_wp2_with (first | (go_at_call 48; (with_reducible refine (W194.out _).mono ?_); rintro e1 w1 ⟨rfl, hw1⟩; rw [hw1]; clear hw1 w1) | (go_at_call 48; (with_reducible refine (W224.out _).mono ?_); rintro e1 w1 ⟨rfl, hw1⟩; rw [hw1]; clear hw1 w1) | (go_at_call 48; (with_reducible refine (W240.out _).mono ?_); rintro e1 w1 ⟨rfl, hw1⟩; rw [hw1]; clear hw1 w1) | fail)
    go_ret
    exact ⟨by rw [← HR.out, HRR.out]; rfl, rfl⟩
  go_wp2_with (first | (go_at_call 48; (with_reducible refine (W194.out _).mono ?_); rintro e1 w1 ⟨rfl, hw1⟩; rw [hw1]; clear hw1 w1) | (go_at_call 48; (with_reducible refine (W224.out _).mono ?_); rintro e1 w1 ⟨rfl, hw1⟩; rw [hw1]; clear hw1 w1) | (go_at_call 48; (with_reducible refine (W240.out _).mono ?_); rintro e1 w1 ⟨rfl, hw1⟩; rw [hw1]; clear hw1 w1) | fail)
  go_loopw [3, 6] (fun s3 s6 wr => RuR (fB T) c0 4 w s3 s6 wr) (fun _ s6 _ => 4 - (intOf s6).toNat)
  case atStart => exact ⟨1, by omega, by omega, rfl, rfl, fun j h1 h2 => by omega, rfl⟩
  case round =>
    obtain ⟨k, hk1, hkn, rfl, rfl, hcon, rfl⟩ := hrel
    by_cases hlt : k < 4
    · have i3 : (k : Int) < 4 := by omega
      have hgk : ∀ (h : k < T.size), T[k].toNat = fB T k := fun h => fB_get T k h
      have hbk := fB_lt T k
      have i4 : (k : Int) < (sz : Int) := by omega
      have i5 : k < sz := by omega
      have hv := vAt_le (fB T) c0 16000000 rfl hc31 (fB_lt T) k hk1 (by omega)
      have hvn : ∃ L : Nat, vAt (fB T) c0 k ≤ L ∧ L ≤ 16000000 := ⟨16000000, hv, Nat.le_refl _⟩
      obtain ⟨L, hv, hL⟩ := hvn
      have HL := Lib.hid hL
      have HCON := Lib.hid hcon
      clear hcon hL
      obtain ⟨x, hx⟩ : ∃ x, vAt (fB T) c0 k = x := ⟨_, rfl⟩
      obtain ⟨y, hy⟩ : ∃ y, fB T k = y := ⟨_, rfl⟩
      have HX := Lib.hid hx
      have HY := Lib.hid hy
      rw [hx] at hv ⊢
      rw [hy] at hgk hbk
      clear hx hy
      by_cases hcy : y / 64 = 2
      · have WK := Lib.hid (fun (w : World) => within_t (y : Int) 128 191 w (by omega))
        have he : wrap64 (wrap64 (wrap64 ((x : Int) * 64) + (y : Int)) - 128) = ((x * 64 + y - 128 : Nat) : Int) := by
          have hL := HL.out
          rw [IntWalk.wrap64_in ((x : Int) * 64) (by omega), IntWalk.wrap64_in ((x : Int) * 64 + (y : Int)) (by omega), IntWalk.wrap64_in _ (by omega)]
          omega
        have HE := Lib.hid he
        clear he
        go_wp2_with (first | (go_at_call 48; (with_reducible refine (WK.out _).mono ?_); rintro e1 w1 ⟨rfl, hw1⟩; rw [hw1]; clear hw1 w1) | fail)
        obtain ⟨k', rfl⟩ : ∃ k', k = k' + 1 := ⟨k - 1, by omega⟩
        refine ⟨⟨k' + 1 + 1, by omega, by omega, rfl, ?_, ?_, rfl⟩, by simp [intOf]; omega⟩
        · show Value.int .i64 (wrap64 (wrap64 (wrap64 ((x : Int) * 64) + (y : Int)) - 128)) = _
          rw [HE.out]
          show _ = Value.int .i64 ((vAt (fB T) c0 (k' + 1) * 64 + fB T (k' + 1) - 128 : Nat) : Int)
          rw [HX.out, HY.out]
        · intro j h1 h2
          by_cases hj : j = k' + 1
          · rw [hj, HY.out]; exact hcy
          · exact HCON.out j h1 (by omega)
      · have WK := Lib.hid (fun (w : World) => within_f (y : Int) 128 191 w (by omega))
        have hr : rnT T = 0 := by
          rw [HRN.out, rn4 _ _ _ _ _ HC.out, if_neg]
          intro h
          have hk : k = 1 ∨ k = 2 ∨ k = 3 := by omega
          rcases hk with rfl | rfl | rfl
          · exact hcy (by rw [← HY.out]; exact h.1.1.2)
          · exact hcy (by rw [← HY.out]; exact h.1.2.1.2)
          · exact hcy (by rw [← HY.out]; exact h.1.2.2.2)
        have HRR := Lib.hid hr
        clear hr
        go_wp2_with (first | (go_at_call 48; (with_reducible refine (WK.out _).mono ?_); rintro e1 w1 ⟨rfl, hw1⟩; rw [hw1]; clear hw1 w1) | fail)
        go_ret
        exact ⟨by rw [← HR.out, HRR.out]; rfl, rfl⟩
    · obtain rfl : k = 4 := by omega
      obtain ⟨v, hv⟩ : ∃ v, vAt (fB T) c0 4 = v := ⟨_, rfl⟩
      have f1 := hcon 1 (by omega) (by omega)
      have f2 := hcon 2 (by omega) (by omega)
      have f3 := hcon 3 (by omega) (by omega)
      have g1 := fB_lt T 1
      have g2 := fB_lt T 2
      have g3 := fB_lt T 3
      have hvv : v = c0 * 262144 + fB T 1 % 64 * 4096 + fB T 2 % 64 * 64 + fB T 3 % 64 := by
        rw [← hv]
        show ((c0 * 64 + fB T 1 - 128) * 64 + fB T 2 - 128) * 64 + fB T 3 - 128 = _
        omega
      have hszn : 4 ≤ sz := by omega
      have HSN := Lib.hid hszn
      have HVV := Lib.hid hvv
      have HF := Lib.hid (And.intro f1 (And.intro f2 f3))
      rw [hv]
      have hm : (c0 + 240) % 8 = c0 := by have := HC.out; omega
      have HRV := Lib.hid (show rnT T = if 65536 ≤ v ∧ v ≤ 1114111 then 4 else 0 by
        rw [HRN.out, rn4 _ _ _ _ _ HC.out, hm, ← HVV.out]
        by_cases hq : 65536 ≤ v ∧ v ≤ 1114111
        · rw [if_pos hq, if_pos ⟨⟨⟨by rw [HSZ.out]; omega, HF.out.1⟩, ⟨by rw [HSZ.out]; omega, HF.out.2.1⟩, ⟨by rw [HSZ.out]; omega, HF.out.2.2⟩⟩, hq⟩]
        · rw [if_neg hq, if_neg (fun h => hq h.2)])
      have hmax : v ≤ 4000000 := by omega
      clear hvv hv hm
      by_cases q1 : (v : Int) < 65536
      · have HRR := Lib.hid (show rnT T = 0 by rw [HRV.out, if_neg (by omega)])
        go_wp2_with fail
        go_ret
        exact ⟨by rw [← HR.out, HRR.out]; rfl, rfl⟩
      by_cases q2 : (1114111 : Int) < (v : Int)
      · have HRR := Lib.hid (show rnT T = 0 by rw [HRV.out, if_neg (by omega)])
        go_wp2_with fail
        go_ret
        exact ⟨by rw [← HR.out, HRR.out]; rfl, rfl⟩
      have WS := Lib.hid (fun (w : World) => within_f (v : Int) 55296 57343 w (by omega))
      have HRR := Lib.hid (show rnT T = 4 by rw [HRV.out, if_pos (by omega)])
      go_wp2_with (first | (go_at_call 48; (with_reducible refine (WS.out _).mono ?_); rintro e1 w1 ⟨rfl, hw1⟩; rw [hw1]; clear hw1 w1) | fail)
      go_ret
      exact ⟨by rw [← HR.out, HRR.out]; rfl, rfl⟩
theorem rune1C (T : ByteArray) (hs : 1 ≤ T.size) (hs4 : T.size ≤ 4000000000) (w : World) :
    Calls Tryz.prog 66 #[.string T] w fun e w' => e = .returned (.int .i64 (rnT T : Int)) ∧ w' = w := by
  by_cases h1 : fB T 0 < 128
  · exact rune1_one T hs hs4 w h1
  by_cases h2 : 194 ≤ fB T 0 ∧ fB T 0 ≤ 223
  · exact rune1_2 T hs hs4 w h2
  by_cases h3 : 224 ≤ fB T 0 ∧ fB T 0 ≤ 239
  · exact rune1_3 T hs hs4 w h3
  by_cases h4 : 240 ≤ fB T 0 ∧ fB T 0 ≤ 244
  · exact rune1_4 T hs hs4 w h4
  exact rune1_bad T hs hs4 w ⟨by omega, h2, h3, h4⟩
end Go.Proofs.YtcodhjoiikdhmaaGreatDoor

/- spec.Valid: what detectUTF8 tells too. -/
namespace Go.Proofs.YtcodhjoiikdhmaaGreatDoor
open Go Go.RowKit
open Zp
theorem rnT_tail (s : ByteArray) (i : Nat) {r k : Nat} (h : Utf8.decode s i = (r, k)) : rnT (s.extract i s.size) = if (r, k) = (65533, 1) then 0 else k := by
  have h1 : Utf8.decode (s.extract i s.size) 0 = (r, k) := by rw [Lib.tail_decode, Nat.add_zero, h]
  rw [Lib.decode_at] at h1
  show rnN _ _ _ _ _ = _
  unfold rnN
  have h2 : Lib.decodeN (s.extract i s.size).size (fB (s.extract i s.size) 0) (fB (s.extract i s.size) 1) (fB (s.extract i s.size) 2) (fB (s.extract i s.size) 3) = (r, k) := h1
  rw [h2]
theorem decN_cases (n b0 b1 b2 b3 r k : Nat) (h : Lib.decodeN n b0 b1 b2 b3 = (r, k)) : (r = 65533 ∧ k = 1) ∨ (k = 1 ∧ r < 128 ∧ r = b0) ∨ (2 ≤ k ∧ 128 ≤ r ∧ (r < 55296 ∨ (57344 ≤ r ∧ r ≤ 1114111))) := by
  unfold Lib.decodeN at h
  split at h
  · injection h with h1 h2; subst h1; subst h2; exact .inr (.inl ⟨rfl, by omega, rfl⟩)
  · split at h
    · split at h
      · injection h with h1 h2; subst h1; subst h2; exact .inr (.inr ⟨by omega, by omega, by omega⟩)
      · injection h with h1 h2; subst h1; subst h2; exact .inl ⟨rfl, rfl⟩
    · split at h
      · split at h
        · rename_i hq
          injection h with h1 h2; subst h2
          rw [h1] at hq
          exact .inr (.inr ⟨by omega, by omega, by omega⟩)
        · injection h with h1 h2; subst h1; subst h2; exact .inl ⟨rfl, rfl⟩
      · split at h
        · split at h
          · rename_i hq
            injection h with h1 h2; subst h2
            rw [h1] at hq
            exact .inr (.inr ⟨by omega, by omega, by omega⟩)
          · injection h with h1 h2; subst h1; subst h2; exact .inl ⟨rfl, rfl⟩
        · injection h with h1 h2; subst h1; subst h2; exact .inl ⟨rfl, rfl⟩
theorem dec_cases (s : ByteArray) (i r k : Nat) (h : Utf8.decode s i = (r, k)) : (r = 65533 ∧ k = 1) ∨ (k = 1 ∧ r < 128 ∧ r = fB s i) ∨ (2 ≤ k ∧ 128 ≤ r ∧ Lib.validRune (r : Int) = true) := by
  rw [Lib.decode_at] at h
  rcases decN_cases _ _ _ _ _ _ _ h with h1 | h1 | ⟨h1, h2, h3⟩
  · exact .inl h1
  · exact .inr (.inl h1)
  · refine .inr (.inr ⟨h1, h2, ?_⟩)
    unfold Lib.validRune
    simp
    omega
end Go.Proofs.YtcodhjoiikdhmaaGreatDoor

/- The walk of spec.Valid; what it tells is told once. -/
namespace Go.Proofs.YtcodhjoiikdhmaaGreatDoor
open Go Go.RowKit
open Zp
def VaR (s : ByteArray) (w : World) (s4 s5 : Value) (wx : World) : Prop :=
  ∃ (i : Nat) (req : Bool), s4 = .bool req ∧ s5 = .int .i64 (i : Int) ∧ i ≤ s.size ∧ wx = w ∧ ∀ v q, Det s i req v q → Det s 0 false v q
def VaP (s : ByteArray) (w : World) (e : Ending) (w' : World) : Prop := ∃ v q : Bool, Det s 0 false v q ∧ e = .returned (.tuple #[.bool v, .bool q]) ∧ w' = w
set_option maxRecDepth 100000 in
set_option maxHeartbeats 4000000 in
theorem validC (s : ByteArray) (w : World) (hs : s.size ≤ 4000000000) :
    Calls Tryz.prog 57 #[.string s] w (VaP s w) := by
  obtain ⟨n, hn⟩ : ∃ n, s.size = n := ⟨_, rfl⟩
  have HN := Lib.hid hn
  have hs' : n ≤ 4000000000 := by rw [← hn]; exact hs
  clear hs
  go_enter Tryz.func57, Tryz.ntmps57
  go_wp2_with fail
  go_loopw [4, 5] (fun s4 s5 wx => VaR s w s4 s5 wx) (fun _ s5 _ => n - (intOf s5).toNat)
  case atStart => exact ⟨0, false, rfl, rfl, Nat.zero_le _, rfl, fun _ _ h => h⟩
  case round =>
    obtain ⟨i, req, rfl, rfl, hi, hwr, hd⟩ := hrel
    subst hwr
    have HD := Lib.hid hd
    clear hd
    rw [hn] at hi
    by_cases hlt : i < n
    · obtain ⟨r, hr⟩ : ∃ r, (Utf8.decode s i).1 = r := ⟨_, rfl⟩
      obtain ⟨k, hk⟩ : ∃ k, (Utf8.decode s i).2 = k := ⟨_, rfl⟩
      have hdec := Lib.hid (show Utf8.decode s i = (r, k) from by rw [← hr, ← hk])
      have k1 : 1 ≤ k := hk ▸ width_ge s i
      have k2 : k ≤ n - i := by have := width_le s i (by omega); rw [hk, hn] at this; exact this
      clear hr hk
      have i1 : (i : Int) < (n : Int) := by omega
      have i2 : (i : Int) ≤ (n : Int) := by omega
      have hT := Lib.hid (rune1C (s.extract i s.size) (by rw [Lib.tail_size]; omega) (by rw [Lib.tail_size]; omega) wr)
      have HRT := Lib.hid (rnT_tail s i hdec.out)
      have HCS := Lib.hid (dec_cases s i r k hdec.out)
      have HG := Lib.hid (show ∀ (h : i < s.size), s[i].toNat = fB s i from fun h => fB_get s i h)
      have hi2 : ((i : Int) + (k : Int)) = ((i + k : Nat) : Int) := by omega
      have HI := Lib.hid hi2
      have i3 : IntKind.i64.wrap ((i : Int) + (k : Int)) = (i : Int) + (k : Int) := IntWalk.i64_in _ (by omega)
      clear hi2
      rcases HCS.out with ⟨c1, c2⟩ | ⟨c1, c2, c3⟩ | ⟨c1, c2, c3⟩
      · have HRR := Lib.hid (show rnT (s.extract i s.size) = 0 by rw [HRT.out, c1, c2, if_pos rfl])
        have HB := Lib.hid (Det.bad (req := req) (show i < s.size by omega) hdec.out (fun h => by have := h.2.1; omega) (.inr ⟨c1, c2⟩))
        clear c1 c2
        rw [HRR.out, HN.out] at hT
        go_wp2_with (first | (go_at_call 66; (with_reducible refine hT.out.mono ?_); rintro e1 w1 ⟨rfl, hw1⟩; rw [hw1]; clear hw1 w1) | fail)
        go_ret2
        exact ⟨false, false, HD.out _ _ HB.out, rfl, rfl⟩
      · have HRR := Lib.hid (show rnT (s.extract i s.size) = 1 by rw [HRT.out, if_neg (fun h => by injection h with h1 h2; omega)]; exact c1)
        have hg : ∀ (h : i < s.size), s[i].toNat = r := fun h => (HG.out h).trans c3.symm
        subst c1
        rw [HRR.out, HN.out] at hT
        have hlt' : i < s.size := by omega
        by_cases hp : PlainR r
        · have HP := Lib.hid hp
          have p1 : (32 : Int) ≤ (r : Int) := by have := hp.1; omega
          have p2 : (r : Int) ≤ 125 := by have := hp.2.1; omega
          have p3 : ((r : Int) == 92) = false := by have := hp.2.2; simp; omega
          clear hp c3 c2
          go_wp2_with (first | (go_at_call 66; (with_reducible refine hT.out.mono ?_); rintro e1 w1 ⟨rfl, hw1⟩; rw [hw1]; clear hw1 w1) | fail)
          exact ⟨⟨i + 1, req, rfl, by rw [← HI.out]; rfl, by rw [HN.out]; omega, rfl, fun v q h => HD.out v q (.plain (by rw [HN.out]; omega) hdec.out HP.out h)⟩, by simp [intOf]; omega⟩
        · have HP := Lib.hid hp
          have HQ : 32 ≤ r → r ≤ 125 → ¬ r = 92 → False := fun a b c => hp ⟨a, b, c⟩
          have HQ := Lib.hid HQ
          have HBR := Lib.hid (show ¬ BadR r 1 by
            rintro (h | ⟨h, -⟩)
            · unfold Lib.validRune at h
              simp at h
              omega
            · omega)
          clear hp c3 c2
          go_wp2_with (first | (go_at_call 66; (with_reducible refine hT.out.mono ?_); rintro e1 w1 ⟨rfl, hw1⟩; rw [hw1]; clear hw1 w1) | fail)
          all_goals first
            | (exfalso; refine HQ.out (by omega) (by omega) (fun hx => ?_); subst hx; simp_all; done)
            | exact ⟨⟨i + 1, true, rfl, by rw [← HI.out]; rfl, by rw [HN.out]; omega, rfl, fun v q h => HD.out v q (.need (by rw [HN.out]; omega) hdec.out HP.out HBR.out h)⟩, by simp [intOf]; omega⟩
      · have HRR := Lib.hid (show rnT (s.extract i s.size) = k by rw [HRT.out, if_neg (fun h => by injection h with h1 h2; omega)])
        have HP := Lib.hid (show ¬ PlainR r from fun h => by have := h.2.1; omega)
        have HBR := Lib.hid (show ¬ BadR r k by
          rintro (h | ⟨h, h2⟩)
          · rw [c3] at h; cases h
          · omega)
        rw [HRR.out, HN.out] at hT
        have hk1 : (1 : Int) < (k : Int) := by omega
        have hk2 : ((k : Int) == 0) = false := by simp; omega
        clear c2 c3
        go_wp2_with (first | (go_at_call 66; (with_reducible refine hT.out.mono ?_); rintro e1 w1 ⟨rfl, hw1⟩; rw [hw1]; clear hw1 w1) | fail)
        exact ⟨⟨i + k, true, rfl, by rw [← HI.out], by rw [HN.out]; omega, rfl, fun v q h => HD.out v q (.need (by rw [HN.out]; omega) hdec.out HP.out HBR.out h)⟩, by simp [intOf]; omega⟩
    · have i1 : (n : Int) ≤ (i : Int) := by omega
      go_wp2_with fail
      go_ret2
      exact ⟨true, req, HD.out _ _ (.stop (by rw [HN.out]; omega)), rfl, rfl⟩
end Go.Proofs.YtcodhjoiikdhmaaGreatDoor

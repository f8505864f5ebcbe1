/- findSignatureInBlock: the last beginning of an end in a block. -/
import Derived.Test.YtcodhjoiikdhmaaGreatDoorQgj
set_option linter.unusedVariables false
set_option linter.unusedSimpArgs false
namespace Go.Proofs.YtcodhjoiikdhmaaGreatDoor
open Go Go.RowKit
open Zp
/-- What findSignatureInBlock tells of a text. -/
inductive FS (l : By) : Int → Prop
  | none : (∀ k, k + 22 ≤ l.length → ¬ occ l k) → FS l (-1)
  | trunc (k : Nat) : k + 22 ≤ l.length → occ l k → (∀ j, k < j → j + 22 ≤ l.length → ¬ occ l j) → l.length < k + 22 + num ((l.drop (k + 20)).take 2) → FS l (-1)
  | at_ (k : Nat) : k + 22 ≤ l.length → occ l k → (∀ j, k < j → j + 22 ≤ l.length → ¬ occ l j) → k + 22 + num ((l.drop (k + 20)).take 2) ≤ l.length → FS l k
theorem occ_iff {l : By} {k : Nat} {b0 b1 b2 b3 : UInt8} (h0 : l[k]? = some b0) (h1 : l[k + 1]? = some b1) (h2 : l[k + 2]? = some b2) (h3 : l[k + 3]? = some b3) :
    occ l k ↔ b0.toNat = 80 ∧ b1.toNat = 75 ∧ b2.toNat = 5 ∧ b3.toNat = 6 := by
  have e : (l.drop k).take 4 = [b0, b1, b2, b3] := by
    apply List.ext_getElem?
    intro i
    rcases i with _ | _ | _ | _ | i
    · simp [h0]
    · simp [h1]
    · simp [h2]
    · simp [h3]
    · rw [List.getElem?_eq_none (by rw [List.length_take]; omega)]; simp
  have hb : ∀ (b : UInt8) (n : Nat), n < 256 → (b = UInt8.ofNat n ↔ b.toNat = n) := fun b n hn => by
    rw [← UInt8.toNat_inj]; simp [Nat.mod_eq_of_lt hn]
  unfold occ sigE
  rw [e]
  simp only [List.cons.injEq, and_true]
  rw [show (80 : UInt8) = UInt8.ofNat 80 from rfl, show (75 : UInt8) = UInt8.ofNat 75 from rfl, show (5 : UInt8) = UInt8.ofNat 5 from rfl, show (6 : UInt8) = UInt8.ofNat 6 from rfl, hb _ _ (by decide), hb _ _ (by decide), hb _ _ (by decide), hb _ _ (by decide)]
theorem num2_of {l : By} {k : Nat} {a b : UInt8} (h0 : l[k]? = some a) (h1 : l[k + 1]? = some b) : num ((l.drop k).take 2) = a.toNat + 256 * b.toNat := by
  have e : (l.drop k).take 2 = [a, b] := by
    apply List.ext_getElem?
    intro i
    rcases i with _ | _ | i
    · simp [h0]
    · simp [h1]
    · rw [List.getElem?_eq_none (by rw [List.length_take]; omega)]; simp
  rw [e]; simp [num]
theorem i64_or_nat (a b : Nat) (ha : a < 65536) (hb : b < 65536) : bits .or .i64 (a : Int) (b : Int) = ((a ||| b : Nat) : Int) := by
  have hx : a ||| b < 2 ^ 16 := Nat.or_lt_two_pow (by omega) (by omega)
  show IntKind.i64.wrap ((BitVec.ofInt 64 (a : Int) ||| BitVec.ofInt 64 (b : Int)).toNat : Int) = _
  rw [BitVec.toNat_or, ofInt_u64 a (by omega), ofInt_u64 b (by omega)]
  exact IntWalk.i64_in _ (by omega)
theorem orI64 (a b : UInt8) (x : Nat) (hx : a.toNat + 256 * b.toNat = x) : bits BinOp.or IntKind.i64 (a.toNat : Int) ((b.toNat : Int) * 256) = (x : Int) := by
  have h0 := a.toNat_lt
  have h1 := b.toNat_lt
  have e : (b.toNat : Int) * 256 = ((256 * b.toNat : Nat) : Int) := by omega
  rw [e, i64_or_nat _ _ (by omega) (by omega), Nat.or_comm, nat_join 8 _ _ (by omega) (by omega), ← hx]
  omega
set_option maxRecDepth 100000 in
set_option maxHeartbeats 4000000 in
theorem findSig_any (g o c : Nat) (l : By) (w : World) (hr : Rd w g o l) (hl : l.length ≤ 4000000) (n : Nat) (hn : l.length = n) :
    Calls Tryz.prog 70 #[.slice (some ⟨g, o, none⟩) n c] w fun e w' => ∃ z : Int, e = .returned (.int .i64 z) ∧ FS l z ∧ ∃ m, w' = w.drewN m := by
  have HN := Lib.hid hn
  have HR := Lib.hid hr
  have hn4 : n ≤ 4000000 := by omega
  clear hr hn hl
  go_enter Tryz.func70, Tryz.ntmps70
  go_wp2_with fail
  go_loop [3] (fun v3 => ∃ z : Int, v3 = .int .i64 z ∧ z + 22 ≤ n ∧ -22 ≤ z ∧ ∀ j : Nat, z < j → j + 22 ≤ l.length → ¬ occ l j) (fun v3 => (intOf v3 + 22).toNat)
  case atStart => exact ⟨_, rfl, by omega, by omega, fun j h1 h2 => by have := HN.out; omega⟩
  case round =>
    obtain ⟨z, rfl, hz1, hz2, hz3⟩ := hrel
    have HZ := Lib.hid hz3
    clear hz3
    by_cases hz : 0 ≤ z
    · obtain ⟨k, rfl⟩ := Int.eq_ofNat_of_zero_le hz
      have hk : k + 22 ≤ n := by omega
      have hb : ∀ i, i < n → ∃ b, l[i]? = some b := fun i hi => ⟨l[i]'(by have := HN.out; omega), List.getElem?_eq_getElem _⟩
      obtain ⟨b0, q0⟩ := hb k (by omega)
      obtain ⟨b1, q1⟩ := hb (k + 1) (by omega)
      obtain ⟨b2, q2⟩ := hb (k + 2) (by omega)
      obtain ⟨b3, q3⟩ := hb (k + 3) (by omega)
      obtain ⟨b20, q20⟩ := hb (k + 20) (by omega)
      obtain ⟨b21, q21⟩ := hb (k + 21) (by omega)
      have hocc := occ_iff q0 q1 q2 q3
      have hnum := num2_of q20 q21
      have c0 := HR.out _ _ q0
      have c1 := HR.out _ _ q1
      have c2 := HR.out _ _ q2
      have c3 := HR.out _ _ q3
      have c20 := HR.out _ _ q20
      have c21 := HR.out _ _ q21
      have hO := Lib.hid hocc
      have hU := Lib.hid hnum
      clear q0 q1 q2 q3 q20 q21 hocc hnum hb
      have l20 := b20.toNat_lt
      have l21 := b21.toNat_lt
      by_cases h0 : b0.toNat = 80
      · have t0 : ((b0.toNat : Int) == 80) = true := by simp; omega
        by_cases h1 : b1.toNat = 75
        · have t1 : ((b1.toNat : Int) == 75) = true := by simp; omega
          by_cases h2 : b2.toNat = 5
          · have t2 : ((b2.toNat : Int) == 5) = true := by simp; omega
            by_cases h3 : b3.toNat = 6
            · have t3 : ((b3.toNat : Int) == 6) = true := by simp; omega
              have HO := Lib.hid (hO.out.2 ⟨h0, h1, h2, h3⟩)
              clear h0 h1 h2 h3
              go_wp2_with fail
              go_quiet (fail)
              obtain ⟨X, hX⟩ : ∃ X, b20.toNat + 256 * b21.toNat = X := ⟨_, rfl⟩
              have HX := Lib.hid hX
              rw [orI64 b20 b21 X hX]
              have hX6 : X ≤ 65535 := by omega
              clear hX c0 c1 c2 c3 c20 c21 t0 t1 t2 t3 l20 l21
              by_cases hle : k + 22 + X ≤ n
              · have i1 : (X : Int) + 22 + (k : Int) ≤ (n : Int) := by omega
                go_wp2_with fail
                go_ret
                refine ⟨_, rfl, .at_ k (by rw [HN.out]; exact hk) HO.out (fun j h1 h2 => HZ.out j (by omega) h2) (by rw [hU.out, HN.out, HX.out]; exact hle), _, rfl⟩
              · have i1 : (n : Int) < (X : Int) + 22 + (k : Int) := by omega
                go_wp2_with fail
                go_ret
                refine ⟨_, rfl, .trunc k (by rw [HN.out]; exact hk) HO.out (fun j h1 h2 => HZ.out j (by omega) h2) (by rw [hU.out, HN.out, HX.out]; omega), _, rfl⟩
            · have t3 : ((b3.toNat : Int) == 6) = false := by simp; omega
              have HO := Lib.hid (fun h => h3 (hO.out.1 h).2.2.2)
              clear h0 h1 h2 h3
              go_wp2_with fail
              exact ⟨⟨_, rfl, by omega, by omega, fun j h1 h2 => by
                by_cases hj : j = k
                · subst hj; exact HO.out
                · exact HZ.out j (by omega) h2⟩, by simp [intOf]; omega⟩
          · have t2 : ((b2.toNat : Int) == 5) = false := by simp; omega
            have HO := Lib.hid (fun h => h2 (hO.out.1 h).2.2.1)
            clear h0 h1 h2
            go_wp2_with fail
            exact ⟨⟨_, rfl, by omega, by omega, fun j h1 h2 => by
                by_cases hj : j = k
                · subst hj; exact HO.out
                · exact HZ.out j (by omega) h2⟩, by simp [intOf]; omega⟩
        · have t1 : ((b1.toNat : Int) == 75) = false := by simp; omega
          have HO := Lib.hid (fun h => h1 (hO.out.1 h).2.1)
          clear h0 h1
          go_wp2_with fail
          exact ⟨⟨_, rfl, by omega, by omega, fun j h1 h2 => by
                by_cases hj : j = k
                · subst hj; exact HO.out
                · exact HZ.out j (by omega) h2⟩, by simp [intOf]; omega⟩
      · have t0 : ((b0.toNat : Int) == 80) = false := by simp; omega
        have HO := Lib.hid (fun h => h0 (hO.out.1 h).1)
        clear h0
        go_wp2_with fail
        exact ⟨⟨_, rfl, by omega, by omega, fun j h1 h2 => by
                by_cases hj : j = k
                · subst hj; exact HO.out
                · exact HZ.out j (by omega) h2⟩, by simp [intOf]; omega⟩
    · go_wp2_with fail
      go_ret
      exact ⟨_, rfl, .none (fun j h1 => HZ.out j (by omega) h1), 0, rfl⟩
end Go.Proofs.YtcodhjoiikdhmaaGreatDoor

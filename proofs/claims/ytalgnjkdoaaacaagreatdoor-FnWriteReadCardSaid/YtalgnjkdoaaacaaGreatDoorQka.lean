/- findSignatureInBlock: the last beginning of an end in a block. -/
import Derived.Test.YtalgnjkdoaaacaaGreatDoorQgf
import Derived.Deep.CutBlock
set_option linter.unusedVariables false
set_option linter.unusedSimpArgs false
namespace Go.Proofs.YtalgnjkdoaaacaaGreatDoor
open Go Go.RowKit
open Zp
/-- What findSignatureInBlock tells of a text. -/
inductive FS (l : By) : Int → Prop
  | none : (∀ k, k + 22 ≤ l.length → ¬ occ l k) → FS l (-1)
  | trunc (k : Nat) : k + 22 ≤ l.length → occ l k → (∀ j, k < j → j + 22 ≤ l.length → ¬ occ l j) → l.length < k + 22 + num ((l.drop (k + 20)).take 2) → FS l (-1)
  | at_ (k : Nat) : k + 22 ≤ l.length → occ l k → (∀ j, k < j → j + 22 ≤ l.length → ¬ occ l j) → k + 22 + num ((l.drop (k + 20)).take 2) ≤ l.length → FS l k
theorem occ_iff {l : By} {k : Nat} {b0 b1 b2 b3 : UInt8} (h0 : l[k]? = some b0) (h1 : l[k + 1]? = some b1) (h2 : l[k + 2]? = some b2) (h3 : l[k + 3]? = some b3) :
    occ l k ↔ b0.toNat = 80 ∧ b1.toNat = 75 ∧ b2.toNat = 5 ∧ b3.toNat = 6 := by
  have e : (l.drop k).take 4 = [b0, b1, b2, b3] := by
    apply List.ext_getElem?
    intro i
    rcases i with _ | _ | _ | _ | i
    · simp [h0]
    · simp [h1]
    · simp [h2]
    · simp [h3]
    · rw [List.getElem?_eq_none (by rw [List.length_take]; omega)]; simp
  have hb : ∀ (b : UInt8) (n : Nat), n < 256 → (b = UInt8.ofNat n ↔ b.toNat = n) := fun b n hn => by
    rw [← UInt8.toNat_inj]; simp [Nat.mod_eq_of_lt hn]
  unfold occ sigE
  rw [e]
  simp only [List.cons.injEq, and_true]
  rw [show (80 : UInt8) = UInt8.ofNat 80 from rfl, show (75 : UInt8) = UInt8.ofNat 75 from rfl, show (5 : UInt8) = UInt8.ofNat 5 from rfl, show (6 : UInt8) = UInt8.ofNat 6 from rfl, hb _ _ (by decide), hb _ _ (by decide), hb _ _ (by decide), hb _ _ (by decide)]
theorem num2_of {l : By} {k : Nat} {a b : UInt8} (h0 : l[k]? = some a) (h1 : l[k + 1]? = some b) : num ((l.drop k).take 2) = a.toNat + 256 * b.toNat := by
  have e : (l.drop k).take 2 = [a, b] := by
    apply List.ext_getElem?
    intro i
    rcases i with _ | _ | i
    · simp [h0]
    · simp [h1]
    · rw [List.getElem?_eq_none (by rw [List.length_take]; omega)]; simp
  rw [e]; simp [num]
theorem i64_or_nat (a b : Nat) (ha : a < 65536) (hb : b < 65536) : bits .or .i64 (a : Int) (b : Int) = ((a ||| b : Nat) : Int) := by
  have hx : a ||| b < 2 ^ 16 := Nat.or_lt_two_pow (by omega) (by omega)
  show IntKind.i64.wrap ((BitVec.ofInt 64 (a : Int) ||| BitVec.ofInt 64 (b : Int)).toNat : Int) = _
  rw [BitVec.toNat_or, ofInt_u64 a (by omega), ofInt_u64 b (by omega)]
  exact IntWalk.i64_in _ (by omega)
theorem orI64 (a b : UInt8) (x : Nat) (hx : a.toNat + 256 * b.toNat = x) : bits BinOp.or IntKind.i64 (a.toNat : Int) ((b.toNat : Int) * 256) = (x : Int) := by
  have h0 := a.toNat_lt
  have h1 := b.toNat_lt
  have e : (b.toNat : Int) * 256 = ((256 * b.toNat : Nat) : Int) := by omega
  rw [e, i64_or_nat _ _ (by omega) (by omega), Nat.or_comm, nat_join 8 _ _ (by omega) (by omega), ← hx]
  omega
set_option maxRecDepth 100000 in
set_option maxHeartbeats 4000000 in
theorem findSig_any (g o c : Nat) (l : By) (w : World) (hr : Rd w g o l) (hl : l.length ≤ 4000000) (n : Nat) (hn : l.length = n) :
    Calls Tryz.prog 111 #[.slice (some ⟨g, o, none⟩) n c] w fun e w' => ∃ z : Int, e = .returned (.int .i64 z) ∧ FS l z ∧ ∃ m, w' = w.drewN m := by
  have HN := Lib.hid hn
  have HR := Lib.hid hr
  have hn4 : n ≤ 4000000 := by omega
  clear hr hn hl
  go_enter Tryz.func111, Tryz.ntmps111
  go_wp2_with fail
  go_loop [3] (fun v3 => ∃ z : Int, v3 = .int .i64 z ∧ z + 22 ≤ n ∧ -22 ≤ z ∧ ∀ j : Nat, z < j → j + 22 ≤ l.length → ¬ occ l j) (fun v3 => (intOf v3 + 22).toNat)
  case atStart => exact ⟨_, rfl, by omega, by omega, fun j h1 h2 => by have := HN.out; omega⟩
  case round =>
    obtain ⟨z, rfl, hz1, hz2, hz3⟩ := hrel
    have HZ := Lib.hid hz3
    clear hz3
    by_cases hz : 0 ≤ z
    · obtain ⟨k, rfl⟩ := Int.eq_ofNat_of_zero_le hz
      have hk : k + 22 ≤ n := by omega
      have hb : ∀ i, i < n → ∃ b, l[i]? = some b := fun i hi => ⟨l[i]'(by have := HN.out; omega), List.getElem?_eq_getElem _⟩
      obtain ⟨b0, q0⟩ := hb k (by omega)
      obtain ⟨b1, q1⟩ := hb (k + 1) (by omega)
      obtain ⟨b2, q2⟩ := hb (k + 2) (by omega)
      obtain ⟨b3, q3⟩ := hb (k + 3) (by omega)
      obtain ⟨b20, q20⟩ := hb (k + 20) (by omega)
      obtain ⟨b21, q21⟩ := hb (k + 21) (by omega)
      have hocc := occ_iff q0 q1 q2 q3
      have hnum := num2_of q20 q21
      have c0 := HR.out _ _ q0
      have c1 := HR.out _ _ q1
      have c2 := HR.out _ _ q2
      have c3 := HR.out _ _ q3
      have c20 := HR.out _ _ q20
      have c21 := HR.out _ _ q21
      have hO := Lib.hid hocc
      have hU := Lib.hid hnum
      clear q0 q1 q2 q3 q20 q21 hocc hnum hb
      have l20 := b20.toNat_lt
      have l21 := b21.toNat_lt
      by_cases h0 : b0.toNat = 80
      · have t0 : ((b0.toNat : Int) == 80) = true := by simp; omega
        by_cases h1 : b1.toNat = 75
        · have t1 : ((b1.toNat : Int) == 75) = true := by simp; omega
          by_cases h2 : b2.toNat = 5
          · have t2 : ((b2.toNat : Int) == 5) = true := by simp; omega
            by_cases h3 : b3.toNat = 6
            · have t3 : ((b3.toNat : Int) == 6) = true := by simp; omega
              have HO := Lib.hid (hO.out.2 ⟨h0, h1, h2, h3⟩)
              clear h0 h1 h2 h3
              go_wp2_with fail
              go_quiet (fail)
              obtain ⟨X, hX⟩ : ∃ X, b20.toNat + 256 * b21.toNat = X := ⟨_, rfl⟩
              have HX := Lib.hid hX
              rw [orI64 b20 b21 X hX]
              have hX6 : X ≤ 65535 := by omega
              clear hX c0 c1 c2 c3 c20 c21 t0 t1 t2 t3 l20 l21
              by_cases hle : k + 22 + X ≤ n
              · have i1 : (X : Int) + 22 + (k : Int) ≤ (n : Int) := by omega
                go_wp2_with fail
                go_ret
                refine ⟨_, rfl, .at_ k (by rw [HN.out]; exact hk) HO.out (fun j h1 h2 => HZ.out j (by omega) h2) (by rw [hU.out, HN.out, HX.out]; exact hle), _, rfl⟩
              · have i1 : (n : Int) < (X : Int) + 22 + (k : Int) := by omega
                go_wp2_with fail
                go_ret
                refine ⟨_, rfl, .trunc k (by rw [HN.out]; exact hk) HO.out (fun j h1 h2 => HZ.out j (by omega) h2) (by rw [hU.out, HN.out, HX.out]; omega), _, rfl⟩
            · have t3 : ((b3.toNat : Int) == 6) = false := by simp; omega
              have HO := Lib.hid (fun h => h3 (hO.out.1 h).2.2.2)
              clear h0 h1 h2 h3
              go_wp2_with fail
              exact ⟨⟨_, rfl, by omega, by omega, fun j h1 h2 => by
                by_cases hj : j = k
                · subst hj; exact HO.out
                · exact HZ.out j (by omega) h2⟩, by simp [intOf]; omega⟩
          · have t2 : ((b2.toNat : Int) == 5) = false := by simp; omega
            have HO := Lib.hid (fun h => h2 (hO.out.1 h).2.2.1)
            clear h0 h1 h2
            go_wp2_with fail
            exact ⟨⟨_, rfl, by omega, by omega, fun j h1 h2 => by
                by_cases hj : j = k
                · subst hj; exact HO.out
                · exact HZ.out j (by omega) h2⟩, by simp [intOf]; omega⟩
        · have t1 : ((b1.toNat : Int) == 75) = false := by simp; omega
          have HO := Lib.hid (fun h => h1 (hO.out.1 h).2.1)
          clear h0 h1
          go_wp2_with fail
          exact ⟨⟨_, rfl, by omega, by omega, fun j h1 h2 => by
                by_cases hj : j = k
                · subst hj; exact HO.out
                · exact HZ.out j (by omega) h2⟩, by simp [intOf]; omega⟩
      · have t0 : ((b0.toNat : Int) == 80) = false := by simp; omega
        have HO := Lib.hid (fun h => h0 (hO.out.1 h).1)
        clear h0
        go_wp2_with fail
        exact ⟨⟨_, rfl, by omega, by omega, fun j h1 h2 => by
                by_cases hj : j = k
                · subst hj; exact HO.out
                · exact HZ.out j (by omega) h2⟩, by simp [intOf]; omega⟩
    · go_wp2_with fail
      go_ret
      exact ⟨_, rfl, .none (fun j h1 => HZ.out j (by omega) h1), 0, rfl⟩
end Go.Proofs.YtalgnjkdoaaacaaGreatDoor

/- More frames as variables. -/
namespace Go.Proofs.YtalgnjkdoaaacaaGreatDoor
open Go Go.RowKit
noncomputable def rdeFrom (n : Nat) : Code := ((Tryz.f84.body.bind (sufAt n))).getD .skip
noncomputable def rdeLoop (n : Nat) : Code := ((Tryz.f84.body.bind (loopAt n))).getD .skip
set_option maxRecDepth 100000 in
theorem frame211 {a : Act} (hs : a.tmps.size = 211) (hd : a.defers = []) : a = ⟨#[slotOf a 0, slotOf a 1, slotOf a 2, slotOf a 3, slotOf a 4, slotOf a 5, slotOf a 6, slotOf a 7, slotOf a 8, slotOf a 9, slotOf a 10, slotOf a 11, slotOf a 12, slotOf a 13, slotOf a 14, slotOf a 15, slotOf a 16, slotOf a 17, slotOf a 18, slotOf a 19, slotOf a 20, slotOf a 21, slotOf a 22, slotOf a 23, slotOf a 24, slotOf a 25, slotOf a 26, slotOf a 27, slotOf a 28, slotOf a 29, slotOf a 30, slotOf a 31, slotOf a 32, slotOf a 33, slotOf a 34, slotOf a 35, slotOf a 36, slotOf a 37, slotOf a 38, slotOf a 39, slotOf a 40, slotOf a 41, slotOf a 42, slotOf a 43, slotOf a 44, slotOf a 45, slotOf a 46, slotOf a 47, slotOf a 48, slotOf a 49, slotOf a 50, slotOf a 51, slotOf a 52, slotOf a 53, slotOf a 54, slotOf a 55, slotOf a 56, slotOf a 57, slotOf a 58, slotOf a 59, slotOf a 60, slotOf a 61, slotOf a 62, slotOf a 63, slotOf a 64, slotOf a 65, slotOf a 66, slotOf a 67, slotOf a 68, slotOf a 69, slotOf a 70, slotOf a 71, slotOf a 72, slotOf a 73, slotOf a 74, slotOf a 75, slotOf a 76, slotOf a 77, slotOf a 78, slotOf a 79, slotOf a 80, slotOf a 81, slotOf a 82, slotOf a 83, slotOf a 84, slotOf a 85, slotOf a 86, slotOf a 87, slotOf a 88, slotOf a 89, slotOf a 90, slotOf a 91, slotOf a 92, slotOf a 93, slotOf a 94, slotOf a 95, slotOf a 96, slotOf a 97, slotOf a 98, slotOf a 99, slotOf a 100, slotOf a 101, slotOf a 102, slotOf a 103, slotOf a 104, slotOf a 105, slotOf a 106, slotOf a 107, slotOf a 108, slotOf a 109, slotOf a 110, slotOf a 111, slotOf a 112, slotOf a 113, slotOf a 114, slotOf a 115, slotOf a 116, slotOf a 117, slotOf a 118, slotOf a 119, slotOf a 120, slotOf a 121, slotOf a 122, slotOf a 123, slotOf a 124, slotOf a 125, slotOf a 126, slotOf a 127, slotOf a 128, slotOf a 129, slotOf a 130, slotOf a 131, slotOf a 132, slotOf a 133, slotOf a 134, slotOf a 135, slotOf a 136, slotOf a 137, slotOf a 138, slotOf a 139, slotOf a 140, slotOf a 141, slotOf a 142, slotOf a 143, slotOf a 144, slotOf a 145, slotOf a 146, slotOf a 147, slotOf a 148, slotOf a 149, slotOf a 150, slotOf a 151, slotOf a 152, slotOf a 153, slotOf a 154, slotOf a 155, slotOf a 156, slotOf a 157, slotOf a 158, slotOf a 159, slotOf a 160, slotOf a 161, slotOf a 162, slotOf a 163, slotOf a 164, slotOf a 165, slotOf a 166, slotOf a 167, slotOf a 168, slotOf a 169, slotOf a 170, slotOf a 171, slotOf a 172, slotOf a 173, slotOf a 174, slotOf a 175, slotOf a 176, slotOf a 177, slotOf a 178, slotOf a 179, slotOf a 180, slotOf a 181, slotOf a 182, slotOf a 183, slotOf a 184, slotOf a 185, slotOf a 186, slotOf a 187, slotOf a 188, slotOf a 189, slotOf a 190, slotOf a 191, slotOf a 192, slotOf a 193, slotOf a 194, slotOf a 195, slotOf a 196, slotOf a 197, slotOf a 198, slotOf a 199, slotOf a 200, slotOf a 201, slotOf a 202, slotOf a 203, slotOf a 204, slotOf a 205, slotOf a 206, slotOf a 207, slotOf a 208, slotOf a 209, slotOf a 210], []⟩ := frame_of hs hd
end Go.Proofs.YtalgnjkdoaaacaaGreatDoor

/- readDirectoryEnd: one look for the end. -/
namespace Go.Proofs.YtalgnjkdoaaacaaGreatDoor
open Go Go.RowKit
open Zp
/-- No end of an archive stands in the text, or its comment goes beyond it. -/
def NoEnd (s : By) : Prop := ∀ k, occ s k → k + 22 ≤ s.length → s.length < k + 22 + num ((s.drop (k + 20)).take 2)
/-- The only beginning of an end is whole and near the text's own end. -/
structure OkEnd (s : By) (e : Nat) : Prop where
  occ : occ s e
  uniq : ∀ k, Zp.occ s k → k = e
  fits : e + 22 + num ((s.drop (e + 20)).take 2) ≤ s.length
  near : s.length ≤ e + 66560
theorem occ_drop {s : By} {d k : Nat} : occ (s.drop d) k ↔ occ s (d + k) := by simp only [occ, List.drop_drop]
theorem fs_no {s : By} {d : Nat} {z : Int} (h : NoEnd s) (hf : FS (s.drop d) z) : z = -1 := by
  cases hf with
  | none _ => rfl
  | trunc _ _ _ _ _ => rfl
  | at_ k h1 h2 h3 h4 =>
    rw [List.length_drop] at h1 h4
    have := h _ (occ_drop.1 h2) (by omega)
    rw [List.drop_drop, show d + (k + 20) = d + k + 20 by omega] at h4
    omega
theorem fs_ok {s : By} {e d : Nat} {z : Int} (h : OkEnd s e) (hd : d ≤ s.length) (hf : FS (s.drop d) z) : (d ≤ e ∧ z = ((e - d : Nat) : Int)) ∨ (e < d ∧ z = -1) := by
  have hfit := h.fits
  by_cases hde : d ≤ e
  · refine .inl ⟨hde, ?_⟩
    have ho : occ (s.drop d) (e - d) := occ_drop.2 (by rw [show d + (e - d) = e by omega]; exact h.occ)
    cases hf with
    | none hn => exact absurd ho (hn _ (by rw [List.length_drop]; omega))
    | trunc k h1 h2 h3 h4 =>
      have := h.uniq _ (occ_drop.1 h2)
      rw [List.length_drop, List.drop_drop, show d + (k + 20) = e + 20 by omega] at h4
      omega
    | at_ k h1 h2 h3 h4 =>
      have := h.uniq _ (occ_drop.1 h2)
      omega
  · refine .inr ⟨by omega, ?_⟩
    cases hf with
    | none hn => rfl
    | trunc _ _ _ _ _ => rfl
    | at_ k h1 h2 h3 h4 =>
      have := h.uniq _ (occ_drop.1 h2)
      omega
/-- What the search for the end asks of a frame. -/
structure FrE (r sz g0 i : Nat) (a : Act) : Prop where
  size : a.tmps.size = 211
  defers : a.defers = []
  s0 : slotOf a 0 = strRd r
  s1 : slotOf a 1 = .int .i64 (sz : Int)
  s23 : slotOf a 23 = .slice (some ⟨g0, 0, none⟩) 2 2
  s24 : slotOf a 24 = .int .i64 2
  s25 : slotOf a 25 = .int .i64 (i : Int)
/-- The end has been found at p in the block that holds the last n bytes. -/
def Found (s : ByteArray) (w0 : World) (n p : Nat) (a : Act) (w : World) : Prop :=
  ∃ g : Nat, w0.heap.size ≤ g ∧ g < w.heap.size ∧ slotOf a 7 = .slice (some ⟨g, p, none⟩) (n - p) (n - p) ∧ slotOf a 8 = .int .i64 ((s.size : Int) - (n : Int) + (p : Int)) ∧ Rd w g 0 (s.data.toList.drop (s.size - n)) ∧ Fr [] w0 w
set_option maxRecDepth 100000 in
set_option maxHeartbeats 4000000 in
theorem rde8 (E : Errs) (a : Act) (w : World) (r g0 i n : Nat) (s : ByteArray) (hE : Env E w) (hr : StrR w r s) (hw18 : 14 ≤ w.heap.size) (hs : s.size ≤ 4000000000) (hn : n ≤ s.size) (hn4 : n ≤ 66560) (hi : i ≤ 1) (hn0 : 0 < n)
    (hA : FrE r s.size g0 i a) (h9 : slotOf a 9 = .int .i64 (i : Int)) (h10 : slotOf a 10 = .int .i64 (n : Int)) (Q : Exit → Act → World → Prop)
    (hF : ∀ (p : Nat) a' w', FS (s.data.toList.drop (s.size - n)) (p : Int) → FrE r s.size g0 i a' → Found s w n p a' w' → Q (.exit 0) a' w')
    (hM : ∀ a' w', FS (s.data.toList.drop (s.size - n)) (-1) → (i = 0 ∧ n ≠ s.size) → FrE r s.size g0 i a' → Fr [] w w' → Q .normal a' w')
    (hR : ∀ a' w', FS (s.data.toList.drop (s.size - n)) (-1) → (i = 1 ∨ n = s.size) → a'.defers = [] → a'.tmps.getD 4 undef = .pointer none → a'.tmps.getD 5 undef = .int .i64 0 → a'.tmps.getD 6 undef = errv E.fmt → Fr [] w w' → Q .ret a' w') :
    (rdeFrom 8).wp Tryz.prog Q a w := by
  have hmk := fun W => run_makeBytes n n (Nat.le_refl _) (by omega) W
  have hna : ∀ W, (nilAhead 452 59 (.pointer (some ⟨r, 0, none⟩)) "ReadAt").run Tryz.prog W = .ok (some false) W := fun W => by kernel_rfl
  have hl : (s.data.toList.drop (s.size - n)).length = n := by rw [List.length_drop, ← Lib.size_eq]; omega
  have htk : (s.data.toList.drop (s.size - n)).take n = s.data.toList.drop (s.size - n) := List.take_of_length_le (by omega)
  have q := readAt_full r w.heap.size 0 n n (s.size - n) s (zeros n) byteT (w.alloc (.cells (zeros n) byteT)) ((Blk.alloc hr _).at_ 0 _ rfl) (Blk.new _ _ _) hn0 (by rw [zeros_size]; omega) (by omega) hs
  rw [htk, show ((s.size - n : Nat) : Int) = (s.size : Int) - (n : Int) by omega] at q
  have HQ := Lib.hid q
  have i1 : (n : Int) ≤ (s.size : Int) := by omega
  have HF := Lib.hid hF
  have HM := Lib.hid hM
  have HR := Lib.hid hR
  have HE := Lib.hid hE
  have HL := Lib.hid hl
  have HRR := Lib.hid hr
  rw [frame211 hA.size hA.defers, hA.s0, hA.s1, hA.s23, hA.s24, hA.s25, h9, h10]
  clear q hF hM hR hE hl htk hr hA h9 h10
  conv => arg 2; whnf
  go_wp2_with fail
  refine HQ.out.mono ?_
  rintro e w1 ⟨rfl, hw⟩
  have hB1 : Blk w1 w.heap.size byteT (spl (zeros n) 0 (s.data.toList.drop (s.size - n))) := by rw [hw]; exact (Blk.new w _ _).row _
  have hF1 : Fr [] w w1 := by rw [hw]; exact ((Fr.refl [] w).alloc _).setRow (.inr (Nat.le_refl _)) _
  have hR1 := Rd.spl hB1 (by rw [zeros_size, HL.out]; omega)
  have HB1 := Lib.hid hB1
  have HF1 := Lib.hid hF1
  have HR1 := Lib.hid hR1
  have x1 := (HE.out.fr hF1 (by simp) hw18).fmt
  clear hw hB1 hF1 hR1 hmk hna HQ
  go_wp2_with fail
  refine (findSig_any w.heap.size 0 n _ w1 HR1.out (by rw [HL.out]; omega) n HL.out).mono ?_
  rintro e w2 ⟨z, rfl, hfs, m, rfl⟩
  have hz : z = -1 ∨ ∃ k : Nat, z = k ∧ k + 22 ≤ n := by
    cases hfs with
    | none _ => exact .inl rfl
    | trunc _ _ _ _ _ => exact .inl rfl
    | at_ k h1 _ _ _ => exact .inr ⟨k, rfl, by rw [HL.out] at h1; exact h1⟩
  have HFS := Lib.hid hfs
  clear hfs
  rcases hz with rfl | ⟨k, rfl, hk⟩
  · by_cases hi1 : i = 1
    · subst hi1
      go_wp2_with fail
      go_quiet (fail)
      go_wp2_with fail
      exact HR.out _ _ HFS.out (by simp) rfl rfl rfl rfl ((HF1.out.drewN _).drewN _)
    · obtain rfl : i = 0 := by omega
      by_cases hns : n = s.size
      · have HNS := Lib.hid hns
        have t1 : ((n : Int) == (s.size : Int)) = true := by rw [hns]; simp
        clear hns
        go_wp2_with fail
        go_quiet (fail)
        go_wp2_with fail
        exact HR.out _ _ HFS.out (.inr HNS.out) rfl rfl rfl rfl ((HF1.out.drewN _).drewN _)
      · have t1 : ((n : Int) == (s.size : Int)) = false := by simp; omega
        go_wp2_with fail
        exact HM.out _ _ HFS.out (by first | exact ⟨rfl, hns⟩ | exact ⟨trivial, hns⟩) ⟨rfl, rfl, rfl, rfl, rfl, rfl, rfl⟩ (HF1.out.drewN _)
  · have i2 : ¬ n = k := by omega
    have i3 : (k : Int) ≤ (n : Int) := by omega
    go_wp2_with fail
    exact HF.out k _ _ HFS.out ⟨rfl, rfl, rfl, rfl, rfl, rfl, rfl⟩ ⟨w.heap.size, Nat.le_refl _, HB1.out.lt, rfl, rfl, HR1.out, HF1.out.drewN _⟩
theorem neq_same (a : Addr) (w : World) : (binOp .neq 56 (errv a) (errv a)).run Tryz.prog w = .ok (.bool false) w := by
  obtain ⟨i, hi, hc⟩ := Option.map_eq_some_iff.1 infoErrPtr
  obtain ⟨j, hj, _⟩ := Option.map_eq_some_iff.1 infoErr
  simp only [binOp]
  simp [Op.equal, Op.maxDepth, run_equalIn_iface_ptr_same w 9998 a Tryz.underlying56 Tryz.underlying180 hi hc hj]
set_option maxRecDepth 100000 in
set_option maxHeartbeats 4000000 in
theorem rde8_0 (E : Errs) (a : Act) (w : World) (r g0 i : Nat) (s : ByteArray) (hE : Env E w) (hr : StrR w r s) (hw18 : 14 ≤ w.heap.size) (h0 : s.size = 0) (hi : i ≤ 1)
    (hA : FrE r s.size g0 i a) (h9 : slotOf a 9 = .int .i64 (i : Int)) (h10 : slotOf a 10 = .int .i64 0) (Q : Exit → Act → World → Prop)
    (hR : ∀ a' w', a'.defers = [] → a'.tmps.getD 4 undef = .pointer none → a'.tmps.getD 5 undef = .int .i64 0 → a'.tmps.getD 6 undef = errv E.fmt → Fr [] w w' → Q .ret a' w') :
    (rdeFrom 8).wp Tryz.prog Q a w := by
  have hmk : ∀ W, (Instr.makeSlice sliceT (.int .i64 0) (.int .i64 0)).run Tryz.prog W = .ok (.slice (some ⟨W.heap.size, 0, none⟩) 0 0) (W.alloc (.cells (zeros 0) byteT)) := fun W => run_makeBytes 0 0 (Nat.le_refl _) (by omega) W
  have hna : ∀ W, (nilAhead 452 59 (.pointer (some ⟨r, 0, none⟩)) "ReadAt").run Tryz.prog W = .ok (some false) W := fun W => by kernel_rfl
  have q := readAt_end E r 0 (.slice (some ⟨w.heap.size, 0, none⟩) 0 0) s (w.alloc (.cells (zeros 0) byteT)) (hE.fr ((Fr.refl [] w).alloc _) (by simp) hw18) ((Blk.alloc hr _).at_ 0 _ rfl) (by omega) (by omega)
  have hnq := fun W => neq_same E.eof W
  have HQ := Lib.hid q
  have HR := Lib.hid hR
  have HE := Lib.hid hE
  have x0 := (hE.fr ((Fr.refl [] w).alloc (.cells (zeros 0) byteT)) (by simp) hw18).eof
  have x1 := (hE.fr ((Fr.refl [] w).alloc (.cells (zeros 0) byteT)) (by simp) hw18).fmt
  have s1 : slotOf a 1 = .int .i64 0 := by rw [hA.s1, h0]; rfl
  rw [frame211 hA.size hA.defers, hA.s0, s1, hA.s23, hA.s24, hA.s25, h9, h10]
  clear q hR hE hr hA h9 h10 h0 s1
  conv => arg 2; whnf
  go_wp2_with fail
  refine HQ.out.mono ?_
  rintro e w1 ⟨rfl, m1, rfl⟩
  go_wp2_with fail
  refine (findSig_any w.heap.size 0 0 [] _ (Rd.nil_ _ _ _) (by simp) 0 rfl).mono ?_
  rintro e w2 ⟨z, rfl, hfs, m, rfl⟩
  have hz : z = -1 := by
    cases hfs with
    | none _ => rfl
    | trunc _ _ _ _ _ => rfl
    | at_ k h1 _ _ _ => simp at h1
  subst hz
  clear hfs
  have t1 : i = 0 ∨ i = 1 := by omega
  rcases t1 with rfl | rfl
  all_goals
    go_wp2_with fail
    go_quiet (fail)
    go_wp2_with fail
    refine HR.out _ _ rfl rfl rfl rfl ?_
    repeat (first | exact Fr.refl _ _ | apply Fr.drewN | apply Fr.drew | apply Fr.alloc)
end Go.Proofs.YtalgnjkdoaaacaaGreatDoor

/- readDirectoryEnd: the search for the end. -/
namespace Go.Proofs.YtalgnjkdoaaacaaGreatDoor
open Go Go.RowKit
open Zp
set_option maxRecDepth 100000 in
theorem rde18 (a : Act) (w : World) (r sz g0 : Nat) (hA : FrE r sz g0 0 a) (Q : Exit → Act → World → Prop) (hQ : ∀ a', FrE r sz g0 1 a' → Q .normal a' w) : (rdeFrom 18).wp Tryz.prog Q a w := by
  have HQ := Lib.hid hQ
  rw [frame211 hA.size hA.defers, hA.s0, hA.s1, hA.s23, hA.s24, hA.s25]
  clear hQ hA
  conv => arg 2; whnf
  go_wp2_with fail
  exact HQ.out _ ⟨rfl, rfl, rfl, rfl, rfl, rfl, rfl⟩
set_option maxRecDepth 100000 in
set_option maxHeartbeats 4000000 in
theorem rde_round (E : Errs) (a : Act) (w0 w : World) (r g0 i : Nat) (s : ByteArray) (hE : Env E w0) (hr : StrR w0 r s) (hw18 : 14 ≤ w0.heap.size) (hs : s.size ≤ 4000000000) (hi : i ≤ 1)
    (hA : FrE r s.size g0 i a) (hfr : Fr [] w0 w) (L : Nat) (hL : L = 66560) (hg : Blk w g0 2 #[.int .i64 1024, .int .i64 (L : Int)]) (Q : Exit → Act → World → Prop)
    (hF : ∀ n (p : Nat) a' w', n ≤ s.size → n ≤ 66560 → FS (s.data.toList.drop (s.size - n)) (p : Int) → FrE r s.size g0 i a' → Found s w0 n p a' w' → Q (.exit 0) a' w')
    (hM : ∀ a' w', i = 0 → FrE r s.size g0 1 a' → Fr [] w0 w' → Blk w' g0 2 #[.int .i64 1024, .int .i64 (L : Int)] → Q .normal a' w')
    (hR : ∀ n a' w', (n = s.size ∨ n = 66560) → FS (s.data.toList.drop (s.size - n)) (-1) → a'.defers = [] → a'.tmps.getD 4 undef = .pointer none → a'.tmps.getD 5 undef = .int .i64 0 → a'.tmps.getD 6 undef = errv E.fmt → Fr [] w0 w' → Q .ret a' w') :
    (rdeLoop 4).wp Tryz.prog Q a w := by
  have c0 := hg.at_ 0 (.int .i64 1024) rfl
  have c1 := hg.at_ 1 (.int .i64 (L : Int)) rfl
  have HLL := Lib.hid hL
  have HF := Lib.hid hF
  have HM := Lib.hid hM
  have HR := Lib.hid hR
  have HG := Lib.hid hg
  have HFR := Lib.hid hfr
  have HE1 := Lib.hid (hE.fr hfr (by simp) hw18)
  have HS1 := Lib.hid (Blk.fr hr hfr (by simp))
  have h18 : 14 ≤ w.heap.size := by have := hfr.size; omega
  have key : ∀ (n : Nat) (a' : Act) (K18 : Act → World → Prop) (hK18 : ∀ a w, (rdeFrom 18).wp Tryz.prog Q a w → K18 a w), n ≤ s.size → n ≤ 66560 → (n = 0 → s.size = 0) → (i = 1 → n = s.size ∨ n = 66560) → FrE r s.size g0 i a' → slotOf a' 9 = .int .i64 (i : Int) → slotOf a' 10 = .int .i64 (n : Int) →
      (rdeFrom 8).wp Tryz.prog (Exit.inBlock 1 (Exit.then K18 Q)) a' w := by
    intro n a' K18 hK18 h1 h2 hz h3 hA' h9 h10
    by_cases hn0 : n = 0
    · have hs0 := hz hn0
      · refine rde8_0 E a' w r g0 i s HE1.out HS1.out h18 hs0 hi hA' h9 (by rw [h10, hn0]; rfl) _ ?_
        intro a2 w2 d4 d5 d6 d7 hf2
        refine HR.out 0 a2 w2 (.inl hs0.symm) ?_ d4 d5 d6 d7 (HFR.out.trans hf2 (by simp))
        exact .none (fun k hk => by simp at hk)
    · refine rde8 E a' w r g0 i n s HE1.out HS1.out h18 hs h1 h2 hi (by omega) hA' h9 h10 _ ?_ ?_ ?_
      · intro p a2 w2 hfs hA2 ⟨g, g1, g2, g3, g4, g5, g6⟩
        exact HF.out n p a2 w2 h1 h2 hfs hA2 ⟨g, by have := HFR.out.size; omega, g2, g3, g4, g5, HFR.out.trans g6 (by simp)⟩
      · intro a2 w2 hfs ⟨hi0, hns⟩ hA2 hf2
        subst hi0
        exact hK18 _ _ (rde18 a2 w2 r s.size g0 hA2 Q fun a3 hA3 => HM.out a3 w2 rfl hA3 (HFR.out.trans hf2 (by simp)) (HG.out.fr hf2 (by simp)))
      · intro a2 w2 hfs hor d4 d5 d6 d7 hf2
        refine HR.out n a2 w2 ?_ hfs d4 d5 d6 d7 (HFR.out.trans hf2 (by simp))
        rcases hor with h | h
        · exact h3 h
        · exact .inl h
  have KEY := Lib.hid key
  rw [frame211 hA.size hA.defers, hA.s0, hA.s1, hA.s23, hA.s24, hA.s25]
  have hL1 : L ≤ 66560 := by omega
  have hL2 : 66000 ≤ L := by omega
  clear hF hM hR hg hfr hA key hE hr hL
  conv => arg 2; whnf
  have hi2 : i = 0 ∨ i = 1 := by omega
  rcases hi2 with rfl | rfl
  · by_cases hsz : s.size < 1024
    · go_upto_if 32 with fail
      rename_i K18 hK18 K hK
      have HK18 := Lib.hid hK18
      have HK := Lib.hid hK
      clear hK hK18
      go_wp2_with fail
      exact HK.out _ _ (KEY.out s.size _ K18 HK18.out (Nat.le_refl _) (by omega) id (fun _ => .inl rfl) ⟨rfl, rfl, rfl, rfl, rfl, rfl, rfl⟩ rfl rfl)
    · go_upto_if 32 with fail
      rename_i K18 hK18 K hK
      have HK18 := Lib.hid hK18
      have HK := Lib.hid hK
      clear hK hK18
      go_wp2_with fail
      exact HK.out _ _ (KEY.out 1024 _ K18 HK18.out (by omega) (by omega) (fun h => absurd h (by decide)) (fun h => absurd h (by decide)) ⟨rfl, rfl, rfl, rfl, rfl, rfl, rfl⟩ rfl rfl)
  · by_cases hsz : s.size < L
    · go_upto_if 32 with fail
      rename_i K18 hK18 K hK
      have HK18 := Lib.hid hK18
      have HK := Lib.hid hK
      clear hK hK18
      go_wp2_with fail
      exact HK.out _ _ (KEY.out s.size _ K18 HK18.out (Nat.le_refl _) (by omega) id (fun _ => .inl rfl) ⟨rfl, rfl, rfl, rfl, rfl, rfl, rfl⟩ rfl rfl)
    · go_upto_if 32 with fail
      rename_i K18 hK18 K hK
      have HK18 := Lib.hid hK18
      have HK := Lib.hid hK
      clear hK hK18
      go_wp2_with fail
      exact HK.out _ _ (KEY.out L _ K18 HK18.out (by omega) (by omega) (fun h => absurd h (by omega)) (fun _ => .inr HLL.out) ⟨rfl, rfl, rfl, rfl, rfl, rfl, rfl⟩ rfl rfl)
set_option maxRecDepth 100000 in
theorem rde_loop (E : Errs) (a : Act) (w0 w : World) (r g0 i : Nat) (s : ByteArray) (hE : Env E w0) (hr : StrR w0 r s) (hw18 : 14 ≤ w0.heap.size) (hs : s.size ≤ 4000000000) (hi : i ≤ 1)
    (hA : FrE r s.size g0 i a) (hfr : Fr [] w0 w) (L : Nat) (hL : L = 66560) (hg : Blk w g0 2 #[.int .i64 1024, .int .i64 (L : Int)]) (Q : Exit → Act → World → Prop)
    (hF : ∀ n (p : Nat) i a' w', n ≤ s.size → n ≤ 66560 → FS (s.data.toList.drop (s.size - n)) (p : Int) → FrE r s.size g0 i a' → Found s w0 n p a' w' → Q (.exit 0) a' w')
    (hR : ∀ n a' w', (n = s.size ∨ n = 66560) → FS (s.data.toList.drop (s.size - n)) (-1) → a'.defers = [] → a'.tmps.getD 4 undef = .pointer none → a'.tmps.getD 5 undef = .int .i64 0 → a'.tmps.getD 6 undef = errv E.fmt → Fr [] w0 w' → Q .ret a' w') :
    (Code.loop (rdeLoop 4)).wp Tryz.prog Q a w := by
  refine wp_loop (fun a w => ∃ i, i ≤ 1 ∧ FrE r s.size g0 i a ∧ Fr [] w0 w ∧ Blk w g0 2 #[.int .i64 1024, .int .i64 (L : Int)]) (fun a _ => 2 - (intOf (slotOf a 25)).toNat) ⟨i, hi, hA, hfr, hg⟩ ?_
  rintro a w ⟨i, hi, hA, hfr, hg⟩
  refine rde_round E a w0 w r g0 i s hE hr hw18 hs hi hA hfr L hL hg _ ?_ ?_ ?_
  · intro n p a' w' h1 h2 h3 h4 h5
    exact hF n p i a' w' h1 h2 h3 h4 h5
  · intro a' w' h0 h1 h2 h3
    subst h0
    exact ⟨⟨1, Nat.le_refl _, h1, h2, h3⟩, by rw [h1.s25, hA.s25]; simp [intOf]⟩
  · intro n a' w' h1 h2 h3 h4 h5 h6 h7
    exact hR n a' w' h1 h2 h3 h4 h5 h6 h7
end Go.Proofs.YtalgnjkdoaaacaaGreatDoor

/- readDirectoryEnd: the end's fields. -/
namespace Go.Proofs.YtalgnjkdoaaacaaGreatDoor
open Go Go.RowKit
open Zp
/-- The rest of a body from the statement on whose first region is n. -/
def sufG (n : Nat) : Code → Option Code
  | .seq a b => if firstReg a = some n then some (.seq a b) else match sufG n a with
    | some c => some c
    | none => sufG n b
  | .scope c => sufG n c
  | .block _ c => sufG n c
  | .loop c => sufG n c
  | .cond _ a b => match sufG n a with
    | some c => some c
    | none => sufG n b
  | _ => none
noncomputable def rdeG (n : Nat) : Code := ((Tryz.f84.body.bind (sufG n))).getD .skip
/-- The cells of a directory end. -/
abbrev deC (x4 x6 x8 x10 x12 x16 x20 : Int) (cm : ByteArray) : Array Value := #[.int .u32 x4, .int .u32 x6, .int .u64 x8, .int .u64 x10, .int .u64 x12, .int .u64 x16, .int .u16 x20, .string cm]
abbrev rbT : Nat := 194
theorem rbslice : Tryz.prog.underlying rbT = some (.slice (Tryz.prog.elem rbT)) := by kernel_rfl
theorem rbelem : Tryz.prog.elem rbT = byteT := by kernel_rfl
theorem conv_strB (w : World) (a : Addr) (g o n cap : Nat) (l : List UInt8) (hl : l.length = n) (ha : 0 < n → a = ⟨g, o, none⟩) (hr : Rd w g o l) :
    (convert rbT 9 (.slice (some a) n cap)).run Tryz.prog w = .ok (.string ⟨l.toArray⟩) w := by
  subst hl
  refine run_convert_bytes_back w rbT 9 byteT a cap l (by kernel_rfl) (by kernel_rfl) (by kernel_rfl) fun j hj => ?_
  rw [ha (by omega)]
  have := hr j l[j] (List.getElem?_eq_getElem hj)
  unfold Addr.add
  split
  · rename_i h; subst h; exact this
  · exact this
/-- What readDirectoryEnd leaves: the block of the end, and nothing else turned. -/
def DirEnd (w : World) (T : By) (d : Nat) (w' : World) : Prop := w.heap.size ≤ d ∧ Blk w' d 187 (deC (num ((T.drop 4).take 2)) (num ((T.drop 6).take 2)) (num ((T.drop 8).take 2)) (num ((T.drop 10).take 2)) (num ((T.drop 12).take 4)) (num ((T.drop 16).take 4)) (num ((T.drop 20).take 2)) ⟨((T.drop 22).take (num ((T.drop 20).take 2))).toArray⟩) ∧ Fr [] w w'
set_option maxRecDepth 100000 in
set_option maxHeartbeats 8000000 in
theorem rde19 (a : Act) (w : World) (r sz g p m e : Nat) (T : By) (hs : a.tmps.size = 211) (hd : a.defers = []) (h0 : slotOf a 0 = strRd r) (h1 : slotOf a 1 = .int .i64 (sz : Int))
    (h7 : slotOf a 7 = .slice (some ⟨g, p, none⟩) m m) (h8 : slotOf a 8 = .int .i64 (e : Int)) (hr : Rd w g p T) (hT : T.length = m) (hg : g < w.heap.size) (hm : 22 ≤ m) (hm4 : m ≤ 100000) (hsz : e + m = sz) (hsz4 : sz ≤ 4000000000)
    (hfit : num ((T.drop 20).take 2) + 22 ≤ m) (n10 : num ((T.drop 10).take 2) ≠ 65535) (n12 : num ((T.drop 12).take 4) ≠ 4294967295) (n16 : num ((T.drop 16).take 4) ≠ 4294967295)
    (B : Nat) (hbase : e = num ((T.drop 12).take 4) + num ((T.drop 16).take 4) + B) (Q : Exit → Act → World → Prop)
    (hQ : ∀ d a' w', a'.tmps.size = 211 → a'.defers = [] → slotOf a' 0 = strRd r → slotOf a' 1 = .int .i64 (sz : Int) → slotOf a' 5 = .int .i64 (B : Int) → slotOf a' 15 = .pointer (some ⟨d, 0, none⟩) → DirEnd w T d w' → (rdeG 39).wp Tryz.prog Q a' w') :
    (rdeFrom 19).wp Tryz.prog Q a w := by
  have HQ := Lib.hid hQ
  have HT := Lib.hid hT
  have HRd := Lib.hid hr
  have hB1 := Blk.new w rbT #[.slice (some ⟨g, p + 4, none⟩) (m - 4) (m - 4)]
  have R0 := Lib.hid (show RB (w.alloc (.cells #[.slice (some ⟨g, p + 4, none⟩) (m - 4) (m - 4)] rbT)) ⟨w.heap.size, 0, none⟩ g (p + 4) (m - 4) (m - 4) (T.drop 4) from ⟨⟨_, hB1.at_ 0 _ rfl, fun _ => rfl⟩, hB1.frozen 0, (hr.drop 4).fr (S := []) ((Fr.refl [] w).alloc _) hg (by simp), by rw [List.length_drop, hT], Nat.le_refl _, Nat.ne_of_lt hg⟩)
  have i4 : (4 : Int) ≤ (m : Int) := by omega
  have ne4 : ¬ m = 4 := by omega
  obtain ⟨x4, hx4⟩ : ∃ x, num ((T.drop 4).take 2) = x := ⟨_, rfl⟩
  have e4 := Lib.hid hx4
  have b4 : x4 < 65536 := by rw [← hx4]; exact num_take2 _
  obtain ⟨x6, hx6⟩ : ∃ x, num ((T.drop 6).take 2) = x := ⟨_, rfl⟩
  have e6 := Lib.hid hx6
  have b6 : x6 < 65536 := by rw [← hx6]; exact num_take2 _
  obtain ⟨x8, hx8⟩ : ∃ x, num ((T.drop 8).take 2) = x := ⟨_, rfl⟩
  have e8 := Lib.hid hx8
  have b8 : x8 < 65536 := by rw [← hx8]; exact num_take2 _
  obtain ⟨x10, hx10⟩ : ∃ x, num ((T.drop 10).take 2) = x := ⟨_, rfl⟩
  have e10 := Lib.hid hx10
  have b10 : x10 < 65536 := by rw [← hx10]; exact num_take2 _
  obtain ⟨x12, hx12⟩ : ∃ x, num ((T.drop 12).take 4) = x := ⟨_, rfl⟩
  have e12 := Lib.hid hx12
  have b12 : x12 < 4294967296 := by rw [← hx12]; exact num_take4 _
  obtain ⟨x16, hx16⟩ : ∃ x, num ((T.drop 16).take 4) = x := ⟨_, rfl⟩
  have e16 := Lib.hid hx16
  have b16 : x16 < 4294967296 := by rw [← hx16]; exact num_take4 _
  obtain ⟨x20, hx20⟩ : ∃ x, num ((T.drop 20).take 2) = x := ⟨_, rfl⟩
  have e20 := Lib.hid hx20
  have b20 : x20 < 65536 := by rw [← hx20]; exact num_take2 _
  rw [hx10] at n10
  rw [hx12] at n12
  rw [hx16] at n16
  rw [hx20] at hfit
  rw [hx12, hx16] at hbase
  have N10 := Lib.hid n10
  have N12 := Lib.hid n12
  have N16 := Lib.hid n16
  have HBS := Lib.hid hbase
  rw [frame211 hs hd, h0, h1, h7, h8]
  clear hQ hT hr hB1 hs hd h0 h1 h7 h8 n10 n12 n16 hbase hx4 hx6 hx8 hx10 hx12 hx16 hx20
  conv => arg 2; whnf
  go_wp2_with fail
  refine (rb16d _ _ _ _ _ _ _ R0.out (by rw [List.length_drop, HT.out]; omega)).mono ?_
  rintro _ w1 ⟨rfl, hn⟩
  rw [e4.out]
  simp only [List.drop_drop, Nat.reduceAdd] at hn
  have R1 := Lib.hid hn
  clear hn
  go_wp2_with fail
  refine (rb16d _ _ _ _ _ _ _ R1.out.nx (by rw [List.length_drop, HT.out]; omega)).mono ?_
  rintro _ w2 ⟨rfl, hn⟩
  rw [e6.out]
  simp only [List.drop_drop, Nat.reduceAdd] at hn
  have R2 := Lib.hid hn
  clear hn
  go_wp2_with fail
  refine (rb16d _ _ _ _ _ _ _ R2.out.nx (by rw [List.length_drop, HT.out]; omega)).mono ?_
  rintro _ w3 ⟨rfl, hn⟩
  rw [e8.out]
  simp only [List.drop_drop, Nat.reduceAdd] at hn
  have R3 := Lib.hid hn
  clear hn
  go_wp2_with fail
  refine (rb16d _ _ _ _ _ _ _ R3.out.nx (by rw [List.length_drop, HT.out]; omega)).mono ?_
  rintro _ w4 ⟨rfl, hn⟩
  rw [e10.out]
  simp only [List.drop_drop, Nat.reduceAdd] at hn
  have R4 := Lib.hid hn
  clear hn
  go_wp2_with fail
  refine (rb32d _ _ _ _ _ _ _ R4.out.nx (by rw [List.length_drop, HT.out]; omega)).mono ?_
  rintro _ w5 ⟨rfl, hn⟩
  rw [e12.out]
  simp only [List.drop_drop, Nat.reduceAdd] at hn
  have R5 := Lib.hid hn
  clear hn
  go_wp2_with fail
  refine (rb32d _ _ _ _ _ _ _ R5.out.nx (by rw [List.length_drop, HT.out]; omega)).mono ?_
  rintro _ w6 ⟨rfl, hn⟩
  rw [e16.out]
  simp only [List.drop_drop, Nat.reduceAdd] at hn
  have R6 := Lib.hid hn
  clear hn
  go_wp2_with fail
  refine (rb16d _ _ _ _ _ _ _ R6.out.nx (by rw [List.length_drop, HT.out]; omega)).mono ?_
  rintro _ w7 ⟨rfl, hn⟩
  rw [e20.out]
  simp only [List.drop_drop, Nat.reduceAdd] at hn
  have R7 := Lib.hid hn
  clear hn
  have hrb : RB w7 ⟨w.heap.size, 0, none⟩ g (p + 22) (m - 22) (m - 22) (T.drop 22) := by
    have := R7.out.nx
    simp only [Nat.add_assoc, Nat.sub_sub, Nat.reduceAdd] at this
    exact this
  have hF7 : Fr [] w w7 := by
    refine ((Fr.refl [] w).alloc (.cells #[.slice (some ⟨g, p + 4, none⟩) (m - 4) (m - 4)] rbT)).trans (S' := [w.heap.size]) (((((((R1.out.fr).trans R2.out.fr (by simp)).trans R3.out.fr (by simp)).trans R4.out.fr (by simp)).trans R5.out.fr (by simp)).trans R6.out.fr (by simp)).trans R7.out.fr (by simp)) (by simp)
  have HF7 := Lib.hid hF7
  have HRB := Lib.hid hrb
  obtain ⟨ad7, c7, had7⟩ := hrb.cell
  have hwl : w.heap.size < w7.heap.size := by
    have h1 := R7.out.size; have h2 := R6.out.size; have h3 := R5.out.size; have h4 := R4.out.size; have h5 := R3.out.size; have h6 := R2.out.size; have h7 := R1.out.size
    simp at h7
    omega
  obtain ⟨cm, hcm⟩ : ∃ l, (T.drop 22).take x20 = l := ⟨_, rfl⟩
  have lcm : cm.length = x20 := by rw [← hcm, List.length_take, List.length_drop, HT.out]; omega
  have rcm : Rd w7 g (p + 22) cm := by rw [← hcm]; exact Rd.left (m := (T.drop 22).drop x20) (by rw [List.take_append_drop]; exact hrb.rd)
  have hgl : g < w7.heap.size := by have := hF7.size; omega
  have k1 : ∀ o, (convert rbT 9 (.slice (some ad7) x20 (m - 22))).run Tryz.prog (w7.alloc o) = .ok (.string ⟨cm.toArray⟩) (w7.alloc o) := fun o => conv_strB _ ad7 g (p + 22) x20 (m - 22) cm lcm (fun h => had7 (by omega)) (rcm.fr (S := []) ((Fr.refl [] w7).alloc _) hgl (by simp))
  have c7' : ∀ o, (w7.alloc o).cell? ⟨w.heap.size, 0, none⟩ = some (.slice (some ad7) (m - 22) (m - 22)) := fun o => (((Fr.refl [] w7).alloc o).cell (p := ⟨w.heap.size, 0, none⟩) hwl (by simp)).trans c7
  have HCM := Lib.hid hcm
  have j1 : (x20 : Int) ≤ ((m - 22 : Nat) : Int) := by omega
  have t10 : ((x10 : Int) == 65535) = false := by have := N10.out; simp; omega
  have t12 : ((x12 : Int) == 4294967295) = false := by have := N12.out; simp; omega
  have t16 : ((x16 : Int) == 4294967295) = false := by have := N16.out; simp; omega
  have j12 : (x12 : Int) ≤ 9223372036854775807 := by omega
  have j16 : (x16 : Int) ≤ 9223372036854775807 := by omega
  clear R0 R1 R2 R3 R4 R5 R6 R7 hrb hF7 c7 had7 lcm rcm hcm
  obtain ⟨Y, hY⟩ : ∃ Y : Nat, Y = x16 + B := ⟨_, rfl⟩
  have hbs := HBS.out
  have v1 : IntKind.i64.wrap ((e : Int) - (x12 : Int)) = (Y : Int) := by rw [IntWalk.i64_in _ (by omega)]; omega
  have v2 : IntKind.i64.wrap ((Y : Int) - (x16 : Int)) = (B : Int) := by rw [IntWalk.i64_in _ (by omega)]; omega
  have v3 : ¬ ((B : Int) + (x16 : Int) < 0) := by omega
  have v4 : ((B : Int) + (x16 : Int) < (sz : Int)) := by omega
  have hYB := Lib.hid hY
  clear hbs hY
  go_wp2_with fail
  go_quiet (fail)
  clear v1 v2
  go_upto_if 188 with fail
  rename_i K hK
  have HK := Lib.hid hK
  clear hK
  go_wp2_with fail
  refine HK.out _ _ (HQ.out w7.heap.size _ _ rfl rfl rfl rfl rfl rfl ⟨HF7.out.size, ?_, (HF7.out.alloc _).drewN _⟩)
  rw [e4.out, e6.out, e8.out, e10.out, e12.out, e16.out, e20.out, HCM.out]
  exact (Blk.new _ _ _).drewN _
set_option maxRecDepth 100000 in
theorem rde39_0 (a : Act) (w : World) (r sz d : Nat) (hs : a.tmps.size = 211) (hd : a.defers = []) (h0 : slotOf a 0 = strRd r) (h1 : slotOf a 1 = .int .i64 (sz : Int)) (h5 : slotOf a 5 = .int .i64 0) (h15 : slotOf a 15 = .pointer (some ⟨d, 0, none⟩)) (Q : Exit → Act → World → Prop)
    (hQ : ∀ a', a'.defers = [] → a'.tmps.getD 4 undef = .pointer (some ⟨d, 0, none⟩) → a'.tmps.getD 5 undef = .int .i64 0 → a'.tmps.getD 6 undef = .nilIface → Q .ret a' w) :
    (rdeG 39).wp Tryz.prog Q a w := by
  have HQ := Lib.hid hQ
  rw [frame211 hs hd, h0, h1, h5, h15]
  clear hQ hs hd h0 h1 h5 h15
  conv => arg 2; whnf
  go_wp2_with fail
  exact HQ.out _ rfl rfl rfl rfl
end Go.Proofs.YtalgnjkdoaaacaaGreatDoor

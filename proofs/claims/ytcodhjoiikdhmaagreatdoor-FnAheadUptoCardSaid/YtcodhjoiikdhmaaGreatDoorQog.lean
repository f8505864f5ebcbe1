/- The checksum: UpdateIEEE, the hash's Write and Sum32. -/
import Derived.Test.YtcodhjoiikdhmaaGreatDoorQof
import Derived.Test.YtcodhjoiikdhmaaGreatDoorQnd
import Derived.Stop.Asserts
set_option linter.unusedVariables false
set_option linter.unusedSimpArgs false
namespace Go.Proofs.YtcodhjoiikdhmaaGreatDoor
open Go Go.RowKit
open Zp
def crcOf (c : Nat) (l : By) : Nat := upd (c ^^^ 4294967295) l ^^^ 4294967295
theorem crcOf_lt (c : Nat) (hc : c < 4294967296) (l : By) : crcOf c l < 4294967296 := xor_lt32 _ _ (upd_lt (xor_lt32 _ _ hc (by decide)) _) (by decide)
theorem crcOf_append (c : Nat) (l m : By) : crcOf c (l ++ m) = crcOf (crcOf c l) m := by
  unfold crcOf
  rw [upd_append, Nat.xor_assoc (upd _ l), Nat.xor_self, Nat.xor_zero]
theorem crcOf_nil (c : Nat) : crcOf c [] = c := by
  show c ^^^ 4294967295 ^^^ 4294967295 = c
  rw [Nat.xor_assoc, Nat.xor_self, Nat.xor_zero]
set_option maxRecDepth 100000 in
set_option maxHeartbeats 4000000 in
theorem updIEEE (gp o n cp c0 : Nat) (l : By) (w : World) (hr : Rd w gp o l) (hl : l.length = n) (hncp : n ≤ cp) (hn : cp ≤ 4000000000) (hc : c0 < 4294967296) (hg : gp < w.heap.size) :
    Calls Tryz.prog 148 #[.int .u32 (c0 : Int), .slice (some ⟨gp, o, none⟩) n cp] w fun e w' => e = .returned (u32v (crcOf c0 l)) ∧ Fr [] w w' := by
  go_enter Tryz.func148, Tryz.ntmps148
  go_wp2_with fail
  refine (makeTab w).mono ?_
  rintro e w1 ⟨rfl, cur, hB, hT, hF⟩
  go_wp2_with fail
  refine (sliceUpd w.heap.size gp o n cp c0 cur l w1 hB hT (hr.fr hF hg (by simp)) hl hncp hn hc).mono ?_
  rintro e w2 ⟨rfl, m, rfl⟩
  go_wp2_with fail
  go_ret
  exact ⟨rfl, hF.drewN m⟩
set_option maxRecDepth 100000 in
set_option maxHeartbeats 4000000 in
theorem hashWrite (h : Nat) (c0 : Nat) (th : TypeId) (gp o n cp : Nat) (l : By) (w : World) (hB : Blk w h th #[.int .u32 (c0 : Int)]) (hr : Rd w gp o l) (hl : l.length = n) (hncp : n ≤ cp) (hn : cp ≤ 4000000000) (hc : c0 < 4294967296) (hg : gp < w.heap.size) (hh : h < w.heap.size) :
    Calls Tryz.prog 145 #[.pointer (some ⟨h, 0, none⟩), .slice (some ⟨gp, o, none⟩) n cp] w fun e w' => e = .returned (.tuple #[.int .i64 (n : Int), .nilIface]) ∧ Blk w' h th #[.int .u32 (crcOf c0 l : Int)] ∧ Fr [h] w w' := by
  have c0c := hB.at_ 0 _ rfl
  go_enter Tryz.func145, Tryz.ntmps145
  have HC := Lib.hid (updIEEE gp o n cp c0 l w hr hl hncp hn hc hg)
  have HB := Lib.hid hB
  clear hr hB
  go_wp2_with fail
  refine HC.out.mono ?_
  rintro e w1 ⟨rfl, hF⟩
  have HB1 := HB.out.fr hF (by simp)
  have c1 := HB1.at_ 0 _ rfl
  have f1 := HB1.frozen 0
  have HB1 := Lib.hid HB1
  go_wp2_with fail
  go_ret2
  refine ⟨rfl, HB1.out.set_ 0 _, (hF.mono (by simp)).setCell (.inl (by simp)) _⟩
theorem hashSum (h : Nat) (c0 : Nat) (th : TypeId) (w : World) (hB : Blk w h th #[.int .u32 (c0 : Int)]) :
    Calls Tryz.prog 147 #[.pointer (some ⟨h, 0, none⟩)] w fun e w' => e = .returned (u32v c0) ∧ w' = w := by
  have c0c := hB.at_ 0 _ rfl
  clear hB
  go_enter Tryz.func147, Tryz.ntmps147
  go_wp2_with fail
  go_ret
  exact ⟨rfl, rfl⟩
end Go.Proofs.YtcodhjoiikdhmaaGreatDoor

/- Small functions of File.Open. -/
namespace Go.Proofs.YtcodhjoiikdhmaaGreatDoor
open Go Go.RowKit
open Zp
abbrev secV (b : Nat) : Value := .iface 100 (.pointer (some ⟨b, 0, none⟩))
abbrev nopV (b : Nat) : Value := .iface 170 (.agg #[secV b])
abbrev nopF : Value := .func (Fn.func 69) #[] #[]
set_option maxRecDepth 100000 in
set_option maxHeartbeats 4000000 in
theorem nopCloser_c (b : Nat) (w : World) : Calls Tryz.prog 69 #[secV b] w fun e w' => e = .returned (nopV b) ∧ ∃ m, w' = w.drewN m := by
  have hta : (Instr.typeAssert (secV b) 106 166 true).run Tryz.prog w = .ok (.tuple #[.nilIface, .bool false]) w := run_typeAssert_lacksB Tryz.underlying166 (by kernel_rfl) (by kernel_rfl) _ _ _
  go_enter Tryz.func69, Tryz.ntmps69
  go_wp2_with fail
  go_ret
  exact ⟨rfl, 0, rfl⟩
set_option maxRecDepth 100000 in
set_option maxHeartbeats 4000000 in
theorem decomp0 (w : World) (m : Nat) (hm : m ≤ 65535) : Calls Tryz.prog 61 #[.int .u16 (m : Int)] w fun e w' => e = .returned (if m = 0 then nopF else .nilFunc) ∧ w' = w := by
  go_enter Tryz.func61, Tryz.ntmps61
  by_cases h : m = 0
  · subst h
    go_wp2_with fail
    go_ret
    exact ⟨rfl, rfl⟩
  · have h' : (m : Int) ≠ 0 := by omega
    rw [if_neg h]
    go_wp2_with fail
    go_ret
    exact ⟨rfl, rfl⟩
theorem nilNil (w : World) : (binOp .eql 103 .nilFunc .nilFunc).run Tryz.prog w = .ok (.bool true) w := by kernel_rfl
theorem nopNil (w : World) : (binOp .eql 103 nopF .nilFunc).run Tryz.prog w = .ok (.bool false) w := by kernel_rfl
set_option maxRecDepth 100000 in
set_option maxHeartbeats 4000000 in
theorem decomp (w : World) (z m : Nat) (hm : m ≤ 65535) (hz : w.cell? ⟨z, 3, none⟩ = some (.map none)) : Calls Tryz.prog 52 #[.pointer (some ⟨z, 0, none⟩), .int .u16 (m : Int)] w fun e w' => e = .returned (if m = 0 then nopF else .nilFunc) ∧ ∃ n, w' = w.drewN n := by
  go_enter Tryz.func52, Tryz.ntmps52
  have hlk : (Instr.lookup 76 (.map none) (.int .u16 (m : Int)) false).run Tryz.prog w = .ok .nilFunc w := by kernel_rfl
  have hnn := nilNil w
  go_wp2_with fail
  refine (decomp0 w m hm).mono ?_
  rintro e w1 ⟨rfl, rfl⟩
  by_cases h : m = 0
  · rw [if_pos h]
    go_wp2_with fail
    go_ret
    exact ⟨rfl, 0, rfl⟩
  · rw [if_neg h]
    go_wp2_with fail
    go_ret
    exact ⟨rfl, 0, rfl⟩
theorem and8 (fl : Nat) (hf : fl ≤ 65535) : (bits BinOp.and IntKind.u16 (fl : Int) 8 != 0) = decide (fl / 8 % 2 = 1) := by
  have h := u16_and_nat fl 8 (by omega) (by omega)
  rw [show ((8 : Nat) : Int) = 8 from rfl] at h
  rw [h]
  have h2 : fl &&& 8 = 8 * (fl / 8 % 2) := by
    apply Nat.eq_of_testBit_eq
    intro i
    rw [Nat.testBit_and, show (8 : Nat) = 2 ^ 3 by decide, Nat.testBit_two_pow, Nat.testBit_two_pow_mul]
    by_cases hi : 3 = i
    · subst hi
      simp [Nat.testBit_eq_decide_div_mod_eq]
    · simp only [hi, decide_false, Bool.and_false]
      by_cases h3 : 3 ≤ i
      · have : (fl / 2 ^ 3 % 2).testBit (i - 3) = false := Nat.testBit_lt_two_pow (Nat.lt_of_lt_of_le (Nat.mod_lt _ (by omega)) (by
          have : 2 ^ 1 ≤ 2 ^ (i - 3) := Nat.pow_le_pow_right (by omega) (by omega)
          exact this))
        simp [this]
      · simp [h3]
  rw [h2]
  rcases Nat.mod_two_eq_zero_or_one (fl / 8) with h | h <;> simp [h]
set_option maxRecDepth 100000 in
set_option maxHeartbeats 4000000 in
theorem hasDD (w : World) (f fl : Nat) (hf : fl ≤ 65535) (h5 : w.cell? ⟨f, 5, none⟩ = some (.int .u16 (fl : Int))) : Calls Tryz.prog 53 #[.pointer (some ⟨f, 0, none⟩)] w fun e w' => e = .returned (.bool (decide (fl / 8 % 2 = 1))) ∧ w' = w := by
  have h := and8 fl hf
  go_enter Tryz.func53, Tryz.ntmps53
  go_wp2_with fail
  go_ret
  refine ⟨?_, rfl⟩
  rw [← h]
  rfl
def slash (s : ByteArray) : Bool := s.data.toList.getLast? == some 47
theorem slash0 (s : ByteArray) (h : s.size = 0) : slash s = false := by
  have : s.data.toList = [] := List.eq_nil_of_length_eq_zero (by simpa using h)
  rw [slash, this]
  rfl
theorem slash1 (s : ByteArray) (h : 1 ≤ s.size) : ((s.extract (s.size - 1) s.size).toList == [47]) = slash s := by
  rw [ByteArray.toList_eq, ByteArray.data_extract, Array.toList_extract, slash]
  have hl : s.data.toList.length = s.size := by simp
  generalize s.data.toList = l at hl
  rw [← hl] at h ⊢
  rcases List.eq_nil_or_concat l with rfl | ⟨m, b, rfl⟩
  · simp at h
  · simp
set_option maxRecDepth 100000 in
set_option maxHeartbeats 4000000 in
theorem hasSuf0 (w : World) (s : ByteArray) (hs : s.size ≤ 4000000000) : Calls Tryz.prog 60 #[.string s, .string ⟨#[47]⟩] w fun e w' => e = .returned (.bool (slash s)) ∧ ∃ m, w' = w.drewN m := by
  go_enter Tryz.func60, Tryz.ntmps60
  by_cases h : s.size = 0
  · rw [slash0 s h]
    have h1 : (s.size : Int) = 0 := by omega
    go_wp2_with fail
    go_ret
    exact ⟨rfl, 0, rfl⟩
  · have HS := Lib.hid (slash1 s (by omega))
    have h1 : (1 : Int) ≤ (s.size : Int) := by omega
    go_wp2_with fail
    go_ret
    refine ⟨?_, 0, rfl⟩
    rw [← HS.out]
    rfl
set_option maxRecDepth 100000 in
set_option maxHeartbeats 4000000 in
theorem hasSuf (w : World) (s : ByteArray) (hs : s.size ≤ 4000000000) : Calls Tryz.prog 50 #[.string s, .string ⟨#[47]⟩] w fun e w' => e = .returned (.bool (slash s)) ∧ ∃ m, w' = w.drewN m := by
  go_enter Tryz.func50, Tryz.ntmps50
  go_wp2_with fail
  refine (hasSuf0 w s hs).mono ?_
  rintro e w1 ⟨rfl, m, rfl⟩
  go_wp2_with fail
  go_ret
  exact ⟨rfl, m, rfl⟩
end Go.Proofs.YtcodhjoiikdhmaaGreatDoor

/- spec.Bytes. -/
import Derived.Test.YtcodhjoiikdhmaaGreatDoorQp
import Derived.Test.YtcodhjoiikdhmaaGreatDoorQap
import Derived.Test.YtcodhjoiikdhmaaGreatDoorQog
set_option linter.unusedVariables false
set_option linter.unusedSimpArgs false
namespace Go.Proofs.YtcodhjoiikdhmaaGreatDoor
open Go Go.RowKit
open Zp
theorem u8_tmod (n : Int) : (n.tmod 256) % 256 = ((UInt8.ofNat (n % 256).toNat).toNat : Int) := by
  have h1 : (UInt8.ofNat (n % 256).toNat).toNat = (n % 256).toNat := by
    have : (n % 256).toNat < 256 := by omega
    simp [Nat.mod_eq_of_lt this]
  rw [h1]
  have := Int.tmod_add_mul_tdiv n 256
  omega
set_option maxRecDepth 100000 in
set_option maxHeartbeats 4000000 in
theorem bytesC (n0 : Int) (k : Nat) (w : World) (hk : k ≤ 8) (hn1 : -9223372036854775808 ≤ n0) (hn2 : n0 ≤ 9223372036854775807) (hw : 0 < w.heap.size) :
    Calls Tryz.prog 45 #[.int .i64 n0, .int .i64 (k : Int)] w fun e w' => e = .returned (.string ⟨(leI k n0).toArray⟩) ∧ Fr [] w w' := by
  go_enter Tryz.func45, Tryz.ntmps45
  go_wp2_with fail
  go_loopw [0, 1, 5] (fun v0 v1 v5 wr => ∃ (j : Nat) (n : Int) (l : By), j ≤ k ∧ v0 = .int .i64 n ∧ v1 = .int .i64 (j : Int) ∧ OB wr w.heap.size 0 v5 l ∧ l.length + j = k ∧ l ++ leI j n = leI k n0 ∧ -9223372036854775808 ≤ n ∧ n ≤ 9223372036854775807 ∧ Fr [] w wr) (fun _ v1 _ _ => (intOf v1).toNat)
  case atStart =>
    exact ⟨k, n0, [], Nat.le_refl _, rfl, rfl, ⟨w.heap.size, 0, #[], rfl, Nat.le_refl _, by omega, Blk.new w _ _, Nat.le_refl _, by unfold maxLen; omega, rfl, rfl⟩, by simp, rfl, hn1, hn2, (Fr.refl _ _).alloc _⟩
  case round =>
    obtain ⟨j, n, l, hj, rfl, rfl, hob, hlen, hl, h1, h2, hf⟩ := hrel
    cases j with
    | zero =>
      have hcv := hob.str
      obtain ⟨g, cap, rfl, -⟩ := hob.rd
      have HE := Lib.hid (show leI k n0 = l by rw [← hl]; simp [leI])
      have HF := Lib.hid hf
      clear hf hl hob hlen
      go_wp2_with fail
      go_ret
      exact ⟨by rw [HE.out]; rfl, HF.out⟩
    | succ j =>
      have hb := u8_tmod n
      have hz := hf.size
      obtain ⟨v', w3, hrun, ho3, g', hg1, hg2, hf3⟩ := append_b (wr.alloc (.cells #[.int .u8 (n.tmod 256 % 256)] 5)) w.heap.size 0 u5 l [UInt8.ofNat (n % 256).toNat] wr.heap.size 0 1
        (hob.fr ((Fr.refl [] _).alloc _) (by simp)) (Rd.of_blk (Blk.new wr _ _) (fun i b hi => by
          cases i with
          | zero => simp at hi; subst hi; rw [hb]; rfl
          | succ i => simp at hi)) (by simp; omega) (by simp; omega) (by simp)
      obtain ⟨g, cap, cur, rfl, -⟩ := hob
      have HL := Lib.hid hl
      have HF := Lib.hid ((hf.alloc (.cells #[.int .u8 (n.tmod 256 % 256)] 5)).trans hf3 (by simp; omega))
      have HO := Lib.hid ho3
      have hq : -9223372036854775808 ≤ n.tdiv 256 ∧ n.tdiv 256 ≤ 9223372036854775807 := by
        have e1 := Int.tmod_add_mul_tdiv n 256
        have e2 := Int.tmod_lt_of_pos n (show (0 : Int) < 256 by decide)
        have e3 := Int.lt_tmod_of_pos n (show (0 : Int) < 256 by decide)
        generalize n.tdiv 256 = d at *
        generalize n.tmod 256 = m at *
        omega
      rw [List.length_singleton] at hrun
      have HB := Lib.hid hb
      clear hl hf hf3 ho3 hb
      go_wp2_with (at_builtin; refine wpList_append_run rfl _ _ 66 rfl _ _ _ _ rfl rfl hrun ?_)
      exact ⟨⟨j, n.tdiv 256, _, by omega, rfl, rfl, HO.out, by simp; omega, by rw [← HL.out]; simp [leI], hq.1, hq.2, HF.out⟩, by simp [intOf]⟩
end Go.Proofs.YtcodhjoiikdhmaaGreatDoor

/- spec.CRC. -/
namespace Go.Proofs.YtcodhjoiikdhmaaGreatDoor
open Go Go.RowKit
open Zp
set_option maxRecDepth 100000 in
set_option maxHeartbeats 4000000 in
theorem crcC (s : ByteArray) (w : World) (hs : s.size ≤ 4000000000) :
    Calls Tryz.prog 47 #[.string s] w fun e w' => e = .returned (.int .i64 (crcOf 0 s.data.toList : Int)) ∧ w' = w := by
  have hsg : IntKind.u32.signed = false := rfl
  go_enter Tryz.func47, Tryz.ntmps47
  go_wp2_with fail
  go_loop [3, 4] (fun v3 v4 => ∃ k : Nat, k ≤ s.size ∧ v4 = .int .i64 (k : Int) ∧ v3 = .int .u32 ((upd 4294967295 (s.data.toList.take k) : Nat) : Int)) (fun _ v4 => s.size - (intOf v4).toNat)
  case atStart => exact ⟨0, by omega, rfl, rfl⟩
  case round =>
    obtain ⟨k, hk, rfl, rfl⟩ := hrel
    obtain ⟨c, hc⟩ : ∃ c, upd 4294967295 (s.data.toList.take k) = c := ⟨_, rfl⟩
    have hc4 : c < 4294967296 := by rw [← hc]; exact upd_lt (by omega) _
    have HC := Lib.hid hc
    rw [hc]
    clear hc
    by_cases hlt : k < s.size
    · have hb : s.data.toList[k]? = some s[k] := by
        rw [Array.getElem?_toList, Array.getElem?_eq_getElem (by simpa using hlt)]; rfl
      have hb8 := s[k].toNat_lt
      have HB := Lib.hid (take_snocB _ k _ hb)
      clear hb
      go_wp2_with fail
      rw [u32_xor_nat c _ hc4 (by omega)]
      have HSN := Lib.hid (show upd c [s[k]] = sn 8 (c ^^^ s[k].toNat) from rfl)
      obtain ⟨c1, hc1⟩ : ∃ c1, c ^^^ s[k].toNat = c1 := ⟨_, rfl⟩
      have hc14 : c1 < 4294967296 := by rw [← hc1]; exact xor_lt32 _ _ hc4 (by omega)
      have HC1 := Lib.hid hc1
      rw [hc1]
      clear hc1
      go_loop [3, 5] (fun v3 v5 => ∃ j : Nat, j ≤ 8 ∧ v5 = .int .i64 (j : Int) ∧ v3 = .int .u32 ((sn j c1 : Nat) : Int)) (fun _ v5 => 8 - (intOf v5).toNat)
      case atStart => exact ⟨0, by omega, rfl, by simp [sn]⟩
      case round =>
        obtain ⟨j, hj, rfl, rfl⟩ := hrel
        obtain ⟨d, hd⟩ : ∃ d, sn j c1 = d := ⟨_, rfl⟩
        have hd4 : d < 4294967296 := by rw [← hd]; exact sn_lt j hc14
        have HD := Lib.hid hd
        have HA := and1 d hd4
        rw [hd]
        clear hd
        by_cases hj8 : j < 8
        · by_cases hodd : d % 2 = 1
          · have t1 : (bits BinOp.and IntKind.u32 (d : Int) 1 == 1) = true := by rw [HA]; simp; omega
            clear HA
            have HO1 := Lib.hid (s1_odd d hd4 hodd)
            clear hodd
            go_wp2_with fail
            exact ⟨⟨j + 1, by omega, by rw [Int.natCast_add]; rfl, by rw [HO1.out, sn_succ', HD.out]⟩, by simp [intOf]; omega⟩
          · have t1 : (bits BinOp.and IntKind.u32 (d : Int) 1 == 1) = false := by rw [HA]; simp; omega
            clear HA
            have HO1 := Lib.hid (s1_even d hodd)
            clear hodd
            go_wp2_with fail
            exact ⟨⟨j + 1, by omega, by rw [Int.natCast_add]; rfl, by rw [HO1.out, sn_succ', HD.out]⟩, by simp [intOf]; omega⟩
        · obtain rfl : j = 8 := by omega
          clear HA
          go_wp2_with fail
          exact ⟨⟨k + 1, by omega, by rw [Int.natCast_add]; rfl, by rw [HB.out, upd_append, HC.out, HSN.out, HC1.out, HD.out]⟩, by simp [intOf]; omega⟩
    · obtain rfl : k = s.size := by omega
      go_wp2_with fail
      go_ret
      refine ⟨?_, rfl⟩
      have h1 := u32_xor_nat c 4294967295 hc4 (by omega)
      have h2 := xor_lt32 c 4294967295 hc4 (by omega)
      have h3 : crcOf 0 s.data.toList = c ^^^ 4294967295 := by
        rw [← HC.out, List.take_of_length_le (by rw [← Lib.size_eq]; omega)]
        unfold crcOf
        rw [Nat.zero_xor]
      show Ending.returned (.int .i64 (wrap64 (bits BinOp.xor IntKind.u32 (c : Int) ((4294967295 : Nat) : Int)))) = _
      rw [h1, h3]
      congr 2
      unfold wrap64
      omega
end Go.Proofs.YtcodhjoiikdhmaaGreatDoor

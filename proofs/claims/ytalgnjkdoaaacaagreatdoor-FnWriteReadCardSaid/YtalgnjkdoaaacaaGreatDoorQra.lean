/- spec.Bytes. -/
import Derived.Test.YtalgnjkdoaaacaaGreatDoorQp
import Derived.Test.YtalgnjkdoaaacaaGreatDoorQap
import Derived.Test.YtalgnjkdoaaacaaGreatDoorQof
import Derived.Deep.RegionHeld3
set_option linter.unusedVariables false
set_option linter.unusedSimpArgs false
namespace Go.Proofs.YtalgnjkdoaaacaaGreatDoor
open Go Go.RowKit
open Zp
theorem u8_tmod (n : Int) : (n.tmod 256) % 256 = ((UInt8.ofNat (n % 256).toNat).toNat : Int) := by
  have h1 : (UInt8.ofNat (n % 256).toNat).toNat = (n % 256).toNat := by
    have : (n % 256).toNat < 256 := by omega
    simp [Nat.mod_eq_of_lt this]
  rw [h1]
  have := Int.tmod_add_mul_tdiv n 256
  omega
set_option maxRecDepth 100000 in
set_option maxHeartbeats 4000000 in
theorem bytesC (n0 : Int) (k : Nat) (w : World) (hk : k ≤ 8) (hn1 : -9223372036854775808 ≤ n0) (hn2 : n0 ≤ 9223372036854775807) (hw : 0 < w.heap.size) :
    Calls Tryz.prog 57 #[.int .i64 n0, .int .i64 (k : Int)] w fun e w' => e = .returned (.string ⟨(leI k n0).toArray⟩) ∧ Fr [] w w' := by
  go_enter Tryz.func57, Tryz.ntmps57
  go_wp2_with fail
  go_loopw [0, 1, 5] (fun v0 v1 v5 wr => ∃ (j : Nat) (n : Int) (l : By), j ≤ k ∧ v0 = .int .i64 n ∧ v1 = .int .i64 (j : Int) ∧ OB wr w.heap.size 0 v5 l ∧ l.length + j = k ∧ l ++ leI j n = leI k n0 ∧ -9223372036854775808 ≤ n ∧ n ≤ 9223372036854775807 ∧ Fr [] w wr) (fun _ v1 _ _ => (intOf v1).toNat)
  case atStart =>
    exact ⟨k, n0, [], Nat.le_refl _, rfl, rfl, ⟨w.heap.size, 0, #[], rfl, Nat.le_refl _, by omega, Blk.new w _ _, Nat.le_refl _, by unfold maxLen; omega, rfl, rfl⟩, by simp, rfl, hn1, hn2, (Fr.refl _ _).alloc _⟩
  case round =>
    obtain ⟨j, n, l, hj, rfl, rfl, hob, hlen, hl, h1, h2, hf⟩ := hrel
    cases j with
    | zero =>
      have hcv := hob.str
      obtain ⟨g, cap, rfl, -⟩ := hob.rd
      have HE := Lib.hid (show leI k n0 = l by rw [← hl]; simp [leI])
      have HF := Lib.hid hf
      clear hf hl hob hlen
      go_wp2_with fail
      go_ret
      exact ⟨by rw [HE.out]; rfl, HF.out⟩
    | succ j =>
      have hb := u8_tmod n
      have hz := hf.size
      obtain ⟨v', w3, hrun, ho3, g', hg1, hg2, hf3⟩ := append_b (wr.alloc (.cells #[.int .u8 (n.tmod 256 % 256)] 5)) w.heap.size 0 u5 l [UInt8.ofNat (n % 256).toNat] wr.heap.size 0 1
        (hob.fr ((Fr.refl [] _).alloc _) (by simp)) (Rd.of_blk (Blk.new wr _ _) (fun i b hi => by
          cases i with
          | zero => simp at hi; subst hi; rw [hb]; rfl
          | succ i => simp at hi)) (by simp; omega) (by simp; omega) (by simp)
      obtain ⟨g, cap, cur, rfl, -⟩ := hob
      have HL := Lib.hid hl
      have HF := Lib.hid ((hf.alloc (.cells #[.int .u8 (n.tmod 256 % 256)] 5)).trans hf3 (by simp; omega))
      have HO := Lib.hid ho3
      have hq : -9223372036854775808 ≤ n.tdiv 256 ∧ n.tdiv 256 ≤ 9223372036854775807 := by
        have e1 := Int.tmod_add_mul_tdiv n 256
        have e2 := Int.tmod_lt_of_pos n (show (0 : Int) < 256 by decide)
        have e3 := Int.lt_tmod_of_pos n (show (0 : Int) < 256 by decide)
        generalize n.tdiv 256 = d at *
        generalize n.tmod 256 = m at *
        omega
      rw [List.length_singleton] at hrun
      have HB := Lib.hid hb
      clear hl hf hf3 ho3 hb
      go_wp2_with (at_builtin; refine wpList_append_run rfl _ _ 76 rfl _ _ _ _ rfl rfl hrun ?_)
      exact ⟨⟨j, n.tdiv 256, _, by omega, rfl, rfl, HO.out, by simp; omega, by rw [← HL.out]; simp [leI], hq.1, hq.2, HF.out⟩, by simp [intOf]⟩
end Go.Proofs.YtalgnjkdoaaacaaGreatDoor

/- spec.CRC. -/
namespace Go.Proofs.YtalgnjkdoaaacaaGreatDoor
open Go Go.RowKit
open Zp
set_option maxRecDepth 100000 in
set_option maxHeartbeats 4000000 in
theorem crcC (s : ByteArray) (w : World) (hs : s.size ≤ 4000000000) :
    Calls Tryz.prog 88 #[.string s] w fun e w' => e = .returned (.int .i64 (crcOf 0 s.data.toList : Int)) ∧ w' = w := by
  have hsg : IntKind.u32.signed = false := rfl
  go_enter Tryz.func88, Tryz.ntmps88
  go_wp2_with fail
  go_loop [3, 4] (fun v3 v4 => ∃ k : Nat, k ≤ s.size ∧ v4 = .int .i64 (k : Int) ∧ v3 = .int .u32 ((upd 4294967295 (s.data.toList.take k) : Nat) : Int)) (fun _ v4 => s.size - (intOf v4).toNat)
  case atStart => exact ⟨0, by omega, rfl, rfl⟩
  case round =>
    obtain ⟨k, hk, rfl, rfl⟩ := hrel
    obtain ⟨c, hc⟩ : ∃ c, upd 4294967295 (s.data.toList.take k) = c := ⟨_, rfl⟩
    have hc4 : c < 4294967296 := by rw [← hc]; exact upd_lt (by omega) _
    have HC := Lib.hid hc
    rw [hc]
    clear hc
    by_cases hlt : k < s.size
    · have hb : s.data.toList[k]? = some s[k] := by
        rw [Array.getElem?_toList, Array.getElem?_eq_getElem (by simpa using hlt)]; rfl
      have hb8 := s[k].toNat_lt
      have HB := Lib.hid (take_snocB _ k _ hb)
      clear hb
      go_wp2_with fail
      rw [u32_xor_nat c _ hc4 (by omega)]
      have HSN := Lib.hid (show upd c [s[k]] = sn 8 (c ^^^ s[k].toNat) from rfl)
      obtain ⟨c1, hc1⟩ : ∃ c1, c ^^^ s[k].toNat = c1 := ⟨_, rfl⟩
      have hc14 : c1 < 4294967296 := by rw [← hc1]; exact xor_lt32 _ _ hc4 (by omega)
      have HC1 := Lib.hid hc1
      rw [hc1]
      clear hc1
      go_loop [3, 5] (fun v3 v5 => ∃ j : Nat, j ≤ 8 ∧ v5 = .int .i64 (j : Int) ∧ v3 = .int .u32 ((sn j c1 : Nat) : Int)) (fun _ v5 => 8 - (intOf v5).toNat)
      case atStart => exact ⟨0, by omega, rfl, by simp [sn]⟩
      case round =>
        obtain ⟨j, hj, rfl, rfl⟩ := hrel
        obtain ⟨d, hd⟩ : ∃ d, sn j c1 = d := ⟨_, rfl⟩
        have hd4 : d < 4294967296 := by rw [← hd]; exact sn_lt j hc14
        have HD := Lib.hid hd
        have HA := and1 d hd4
        rw [hd]
        clear hd
        by_cases hj8 : j < 8
        · by_cases hodd : d % 2 = 1
          · have t1 : (bits BinOp.and IntKind.u32 (d : Int) 1 == 1) = true := by rw [HA]; simp; omega
            clear HA
            have HO1 := Lib.hid (s1_odd d hd4 hodd)
            clear hodd
            go_wp2_with fail
            exact ⟨⟨j + 1, by omega, by rw [Int.natCast_add]; rfl, by rw [HO1.out, sn_succ', HD.out]⟩, by simp [intOf]; omega⟩
          · have t1 : (bits BinOp.and IntKind.u32 (d : Int) 1 == 1) = false := by rw [HA]; simp; omega
            clear HA
            have HO1 := Lib.hid (s1_even d hodd)
            clear hodd
            go_wp2_with fail
            exact ⟨⟨j + 1, by omega, by rw [Int.natCast_add]; rfl, by rw [HO1.out, sn_succ', HD.out]⟩, by simp [intOf]; omega⟩
        · obtain rfl : j = 8 := by omega
          clear HA
          go_wp2_with fail
          exact ⟨⟨k + 1, by omega, by rw [Int.natCast_add]; rfl, by rw [HB.out, upd_append, HC.out, HSN.out, HC1.out, HD.out]⟩, by simp [intOf]; omega⟩
    · obtain rfl : k = s.size := by omega
      go_wp2_with fail
      go_ret
      refine ⟨?_, rfl⟩
      have h1 := u32_xor_nat c 4294967295 hc4 (by omega)
      have h2 := xor_lt32 c 4294967295 hc4 (by omega)
      have h3 : crcOf 0 s.data.toList = c ^^^ 4294967295 := by
        rw [← HC.out, List.take_of_length_le (by rw [← Lib.size_eq]; omega)]
        unfold crcOf
        rw [Nat.zero_xor]
      show Ending.returned (.int .i64 (wrap64 (bits BinOp.xor IntKind.u32 (c : Int) ((4294967295 : Nat) : Int)))) = _
      rw [h1, h3]
      congr 2
      unfold wrap64
      omega
end Go.Proofs.YtalgnjkdoaaacaaGreatDoor

/- spec.fields, Local, Central, End. -/
namespace Go.Proofs.YtalgnjkdoaaacaaGreatDoor
open Go Go.RowKit
open Zp
abbrev bs (l : By) : ByteArray := ⟨l.toArray⟩
theorem bs_append (a b : By) : bs a ++ bs b = bs (a ++ b) := by
  apply ByteArray.ext
  simp [bs]
def hdL (h : Hd) : List Value := [.string (bs h.name), .string (bs h.comment), .string (bs h.extra), .bool h.non, .int .i64 h.creator, .int .i64 h.reader, .int .i64 h.flags, .int .i64 h.method, .int .i64 h.time, .int .i64 h.date, .int .i64 h.crc, .int .i64 h.packed, .int .i64 h.size, .int .i64 h.ext]
def I64 (n : Int) : Prop := -9223372036854775808 ≤ n ∧ n ≤ 9223372036854775807
structure HdI (h : Hd) : Prop where
  creator : I64 h.creator
  reader : I64 h.reader
  flags : I64 h.flags
  method : I64 h.method
  time : I64 h.time
  date : I64 h.date
  crc : I64 h.crc
  packed : I64 h.packed
  size : I64 h.size
  ext : I64 h.ext
  nm : h.name.length ≤ 2147483647
  cm : h.comment.length ≤ 2147483647
  ex : h.extra.length ≤ 2147483647
theorem bytes2 (n : Int) (w : World) (hn : I64 n) (hw : 0 < w.heap.size) : Calls Tryz.prog 57 #[.int .i64 n, .int .i64 2] w fun e w' => e = .returned (.string (bs (leI 2 n))) ∧ Fr [] w w' := bytesC n 2 w (by omega) hn.1 hn.2 hw
theorem bytes4 (n : Int) (w : World) (hn : I64 n) (hw : 0 < w.heap.size) : Calls Tryz.prog 57 #[.int .i64 n, .int .i64 4] w fun e w' => e = .returned (.string (bs (leI 4 n))) ∧ Fr [] w w' := bytesC n 4 w (by omega) hn.1 hn.2 hw
theorem mkH {h : Hd} {g : Nat} {w0 w : World} (hb : Blk w g 36 (hdL h).toArray) (hf : Fr [] w0 w) : w.cell? ⟨g, 0, none⟩ = some (.string (bs h.name)) ∧ w.cell? ⟨g, 1, none⟩ = some (.string (bs h.comment)) ∧ w.cell? ⟨g, 2, none⟩ = some (.string (bs h.extra)) ∧ w.cell? ⟨g, 3, none⟩ = some (.bool h.non) ∧ w.cell? ⟨g, 4, none⟩ = some (.int .i64 h.creator) ∧ w.cell? ⟨g, 5, none⟩ = some (.int .i64 h.reader) ∧ w.cell? ⟨g, 6, none⟩ = some (.int .i64 h.flags) ∧ w.cell? ⟨g, 7, none⟩ = some (.int .i64 h.method) ∧ w.cell? ⟨g, 8, none⟩ = some (.int .i64 h.time) ∧ w.cell? ⟨g, 9, none⟩ = some (.int .i64 h.date) ∧ w.cell? ⟨g, 10, none⟩ = some (.int .i64 h.crc) ∧ w.cell? ⟨g, 11, none⟩ = some (.int .i64 h.packed) ∧ w.cell? ⟨g, 12, none⟩ = some (.int .i64 h.size) ∧ w.cell? ⟨g, 13, none⟩ = some (.int .i64 h.ext) ∧ Blk w g 36 (hdL h).toArray ∧ Fr [] w0 w :=
  ⟨hb.at_ 0 _ rfl, hb.at_ 1 _ rfl, hb.at_ 2 _ rfl, hb.at_ 3 _ rfl, hb.at_ 4 _ rfl, hb.at_ 5 _ rfl, hb.at_ 6 _ rfl, hb.at_ 7 _ rfl, hb.at_ 8 _ rfl, hb.at_ 9 _ rfl, hb.at_ 10 _ rfl, hb.at_ 11 _ rfl, hb.at_ 12 _ rfl, hb.at_ 13 _ rfl, hb, hf⟩
theorem blkH {h : Hd} {g : Nat} {w0 w : World} (hs : w.cell? ⟨g, 0, none⟩ = some (.string (bs h.name)) ∧ w.cell? ⟨g, 1, none⟩ = some (.string (bs h.comment)) ∧ w.cell? ⟨g, 2, none⟩ = some (.string (bs h.extra)) ∧ w.cell? ⟨g, 3, none⟩ = some (.bool h.non) ∧ w.cell? ⟨g, 4, none⟩ = some (.int .i64 h.creator) ∧ w.cell? ⟨g, 5, none⟩ = some (.int .i64 h.reader) ∧ w.cell? ⟨g, 6, none⟩ = some (.int .i64 h.flags) ∧ w.cell? ⟨g, 7, none⟩ = some (.int .i64 h.method) ∧ w.cell? ⟨g, 8, none⟩ = some (.int .i64 h.time) ∧ w.cell? ⟨g, 9, none⟩ = some (.int .i64 h.date) ∧ w.cell? ⟨g, 10, none⟩ = some (.int .i64 h.crc) ∧ w.cell? ⟨g, 11, none⟩ = some (.int .i64 h.packed) ∧ w.cell? ⟨g, 12, none⟩ = some (.int .i64 h.size) ∧ w.cell? ⟨g, 13, none⟩ = some (.int .i64 h.ext) ∧ Blk w g 36 (hdL h).toArray ∧ Fr [] w0 w) : Blk w g 36 (hdL h).toArray ∧ Fr [] w0 w := by
  obtain ⟨_, _, _, _, _, _, _, _, _, _, _, _, _, _, hb, hf⟩ := hs
  exact ⟨hb, hf⟩
theorem keepH {h : Hd} {g : Nat} {w0 w w' : World} (hs : w.cell? ⟨g, 0, none⟩ = some (.string (bs h.name)) ∧ w.cell? ⟨g, 1, none⟩ = some (.string (bs h.comment)) ∧ w.cell? ⟨g, 2, none⟩ = some (.string (bs h.extra)) ∧ w.cell? ⟨g, 3, none⟩ = some (.bool h.non) ∧ w.cell? ⟨g, 4, none⟩ = some (.int .i64 h.creator) ∧ w.cell? ⟨g, 5, none⟩ = some (.int .i64 h.reader) ∧ w.cell? ⟨g, 6, none⟩ = some (.int .i64 h.flags) ∧ w.cell? ⟨g, 7, none⟩ = some (.int .i64 h.method) ∧ w.cell? ⟨g, 8, none⟩ = some (.int .i64 h.time) ∧ w.cell? ⟨g, 9, none⟩ = some (.int .i64 h.date) ∧ w.cell? ⟨g, 10, none⟩ = some (.int .i64 h.crc) ∧ w.cell? ⟨g, 11, none⟩ = some (.int .i64 h.packed) ∧ w.cell? ⟨g, 12, none⟩ = some (.int .i64 h.size) ∧ w.cell? ⟨g, 13, none⟩ = some (.int .i64 h.ext) ∧ Blk w g 36 (hdL h).toArray ∧ Fr [] w0 w) (hf : Fr [] w w') : w'.cell? ⟨g, 0, none⟩ = some (.string (bs h.name)) ∧ w'.cell? ⟨g, 1, none⟩ = some (.string (bs h.comment)) ∧ w'.cell? ⟨g, 2, none⟩ = some (.string (bs h.extra)) ∧ w'.cell? ⟨g, 3, none⟩ = some (.bool h.non) ∧ w'.cell? ⟨g, 4, none⟩ = some (.int .i64 h.creator) ∧ w'.cell? ⟨g, 5, none⟩ = some (.int .i64 h.reader) ∧ w'.cell? ⟨g, 6, none⟩ = some (.int .i64 h.flags) ∧ w'.cell? ⟨g, 7, none⟩ = some (.int .i64 h.method) ∧ w'.cell? ⟨g, 8, none⟩ = some (.int .i64 h.time) ∧ w'.cell? ⟨g, 9, none⟩ = some (.int .i64 h.date) ∧ w'.cell? ⟨g, 10, none⟩ = some (.int .i64 h.crc) ∧ w'.cell? ⟨g, 11, none⟩ = some (.int .i64 h.packed) ∧ w'.cell? ⟨g, 12, none⟩ = some (.int .i64 h.size) ∧ w'.cell? ⟨g, 13, none⟩ = some (.int .i64 h.ext) ∧ Blk w' g 36 (hdL h).toArray ∧ Fr [] w0 w' :=
  mkH ((blkH hs).1.fr hf (by simp)) ((blkH hs).2.trans hf (by simp))
theorem posH {h : Hd} {g : Nat} {w0 w : World} (hs : w.cell? ⟨g, 0, none⟩ = some (.string (bs h.name)) ∧ w.cell? ⟨g, 1, none⟩ = some (.string (bs h.comment)) ∧ w.cell? ⟨g, 2, none⟩ = some (.string (bs h.extra)) ∧ w.cell? ⟨g, 3, none⟩ = some (.bool h.non) ∧ w.cell? ⟨g, 4, none⟩ = some (.int .i64 h.creator) ∧ w.cell? ⟨g, 5, none⟩ = some (.int .i64 h.reader) ∧ w.cell? ⟨g, 6, none⟩ = some (.int .i64 h.flags) ∧ w.cell? ⟨g, 7, none⟩ = some (.int .i64 h.method) ∧ w.cell? ⟨g, 8, none⟩ = some (.int .i64 h.time) ∧ w.cell? ⟨g, 9, none⟩ = some (.int .i64 h.date) ∧ w.cell? ⟨g, 10, none⟩ = some (.int .i64 h.crc) ∧ w.cell? ⟨g, 11, none⟩ = some (.int .i64 h.packed) ∧ w.cell? ⟨g, 12, none⟩ = some (.int .i64 h.size) ∧ w.cell? ⟨g, 13, none⟩ = some (.int .i64 h.ext) ∧ Blk w g 36 (hdL h).toArray ∧ Fr [] w0 w) : 0 < w.heap.size := Nat.lt_of_le_of_lt (Nat.zero_le _) (blkH hs).1.lt
set_option maxRecDepth 100000 in
set_option maxHeartbeats 8000000 in
theorem fieldsC (h : Hd) (hI : HdI h) (w : World) :
    Calls Tryz.prog 62 #[.agg #[.string (bs h.name), .string (bs h.comment), .string (bs h.extra), .bool h.non, .int .i64 h.creator, .int .i64 h.reader, .int .i64 h.flags, .int .i64 h.method, .int .i64 h.time, .int .i64 h.date, .int .i64 h.crc, .int .i64 h.packed, .int .i64 h.size, .int .i64 h.ext]] w fun e w' => e = .returned (.string (bs (fieldsI h))) ∧ Fr [] w w' := by
  obtain ⟨i1, i2, i3, i4, i5, i6, i7, i8, i9, i10, -, -, -⟩ := hI
  go_enter Tryz.func62, Tryz.ntmps62
  go_wp2_with fail
  have k0 := mkH (h := h) (Blk.new w 36 (hdL h).toArray) ((Fr.refl [] w).alloc (.cells (hdL h).toArray 36))
  obtain ⟨w1, hw1⟩ : ∃ w1, w.alloc (.cells (hdL h).toArray 36) = w1 := ⟨_, rfl⟩
  rw [hw1] at k0
  unfold hdL at hw1
  rw [hw1]
  clear hw1
  obtain ⟨g, hg⟩ : ∃ g, w.heap.size = g := ⟨_, rfl⟩
  rw [hg] at k0 ⊢
  clear hg
  have k1 := keepH k0 ((Fr.refl [] _).drew)
  go_region_held3 (fun w' => w'.cell? ⟨g, 0, none⟩ = some (.string (bs h.name)) ∧ w'.cell? ⟨g, 1, none⟩ = some (.string (bs h.comment)) ∧ w'.cell? ⟨g, 2, none⟩ = some (.string (bs h.extra)) ∧ w'.cell? ⟨g, 3, none⟩ = some (.bool h.non) ∧ w'.cell? ⟨g, 4, none⟩ = some (.int .i64 h.creator) ∧ w'.cell? ⟨g, 5, none⟩ = some (.int .i64 h.reader) ∧ w'.cell? ⟨g, 6, none⟩ = some (.int .i64 h.flags) ∧ w'.cell? ⟨g, 7, none⟩ = some (.int .i64 h.method) ∧ w'.cell? ⟨g, 8, none⟩ = some (.int .i64 h.time) ∧ w'.cell? ⟨g, 9, none⟩ = some (.int .i64 h.date) ∧ w'.cell? ⟨g, 10, none⟩ = some (.int .i64 h.crc) ∧ w'.cell? ⟨g, 11, none⟩ = some (.int .i64 h.packed) ∧ w'.cell? ⟨g, 12, none⟩ = some (.int .i64 h.size) ∧ w'.cell? ⟨g, 13, none⟩ = some (.int .i64 h.ext) ∧ Blk w' g 36 (hdL h).toArray ∧ Fr [] w w')
    ((first | exact kk | exact k1 | assumption))
    ((first
      | (go_at_call 57; (with_reducible first | refine (bytes2 _ _ (by assumption) (posH (by assumption))).mono ?_ | refine (bytes4 _ _ (by assumption) (posH (by assumption))).mono ?_); rintro e w2 ⟨rfl, hf⟩; have kk := keepH (by assumption) hf)))
  have HK := Lib.hid (blkH kk).2
  clear k0 k1 kk
  go_wp2_with fail
  go_ret
  refine ⟨?_, HK.out⟩
  rw [fieldsI, ← bs_append, ← bs_append, ← bs_append, ← bs_append, ← bs_append, ← bs_append]
  rfl
end Go.Proofs.YtalgnjkdoaaacaaGreatDoor

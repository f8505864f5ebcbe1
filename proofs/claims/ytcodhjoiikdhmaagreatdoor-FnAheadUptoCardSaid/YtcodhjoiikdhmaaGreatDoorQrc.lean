/- spec.fields, Local, Central, End. -/
import Derived.Test.YtcodhjoiikdhmaaGreatDoorQra
import Derived.Deep.RegionHeld3
set_option linter.unusedVariables false
set_option linter.unusedSimpArgs false
namespace Go.Proofs.YtcodhjoiikdhmaaGreatDoor
open Go Go.RowKit
open Zp
abbrev bs (l : By) : ByteArray := ⟨l.toArray⟩
theorem bs_append (a b : By) : bs a ++ bs b = bs (a ++ b) := by
  apply ByteArray.ext
  simp [bs]
def hdL (h : Hd) : List Value := [.string (bs h.name), .string (bs h.comment), .string (bs h.extra), .bool h.non, .int .i64 h.creator, .int .i64 h.reader, .int .i64 h.flags, .int .i64 h.method, .int .i64 h.time, .int .i64 h.date, .int .i64 h.crc, .int .i64 h.packed, .int .i64 h.size, .int .i64 h.ext]
def I64 (n : Int) : Prop := -9223372036854775808 ≤ n ∧ n ≤ 9223372036854775807
structure HdI (h : Hd) : Prop where
  creator : I64 h.creator
  reader : I64 h.reader
  flags : I64 h.flags
  method : I64 h.method
  time : I64 h.time
  date : I64 h.date
  crc : I64 h.crc
  packed : I64 h.packed
  size : I64 h.size
  ext : I64 h.ext
  nm : h.name.length ≤ 2147483647
  cm : h.comment.length ≤ 2147483647
  ex : h.extra.length ≤ 2147483647
theorem bytes2 (n : Int) (w : World) (hn : I64 n) (hw : 0 < w.heap.size) : Calls Tryz.prog 45 #[.int .i64 n, .int .i64 2] w fun e w' => e = .returned (.string (bs (leI 2 n))) ∧ Fr [] w w' := bytesC n 2 w (by omega) hn.1 hn.2 hw
theorem bytes4 (n : Int) (w : World) (hn : I64 n) (hw : 0 < w.heap.size) : Calls Tryz.prog 45 #[.int .i64 n, .int .i64 4] w fun e w' => e = .returned (.string (bs (leI 4 n))) ∧ Fr [] w w' := bytesC n 4 w (by omega) hn.1 hn.2 hw
theorem mkH {h : Hd} {g : Nat} {w0 w : World} (hb : Blk w g 26 (hdL h).toArray) (hf : Fr [] w0 w) : w.cell? ⟨g, 0, none⟩ = some (.string (bs h.name)) ∧ w.cell? ⟨g, 1, none⟩ = some (.string (bs h.comment)) ∧ w.cell? ⟨g, 2, none⟩ = some (.string (bs h.extra)) ∧ w.cell? ⟨g, 3, none⟩ = some (.bool h.non) ∧ w.cell? ⟨g, 4, none⟩ = some (.int .i64 h.creator) ∧ w.cell? ⟨g, 5, none⟩ = some (.int .i64 h.reader) ∧ w.cell? ⟨g, 6, none⟩ = some (.int .i64 h.flags) ∧ w.cell? ⟨g, 7, none⟩ = some (.int .i64 h.method) ∧ w.cell? ⟨g, 8, none⟩ = some (.int .i64 h.time) ∧ w.cell? ⟨g, 9, none⟩ = some (.int .i64 h.date) ∧ w.cell? ⟨g, 10, none⟩ = some (.int .i64 h.crc) ∧ w.cell? ⟨g, 11, none⟩ = some (.int .i64 h.packed) ∧ w.cell? ⟨g, 12, none⟩ = some (.int .i64 h.size) ∧ w.cell? ⟨g, 13, none⟩ = some (.int .i64 h.ext) ∧ Blk w g 26 (hdL h).toArray ∧ Fr [] w0 w :=
  ⟨hb.at_ 0 _ rfl, hb.at_ 1 _ rfl, hb.at_ 2 _ rfl, hb.at_ 3 _ rfl, hb.at_ 4 _ rfl, hb.at_ 5 _ rfl, hb.at_ 6 _ rfl, hb.at_ 7 _ rfl, hb.at_ 8 _ rfl, hb.at_ 9 _ rfl, hb.at_ 10 _ rfl, hb.at_ 11 _ rfl, hb.at_ 12 _ rfl, hb.at_ 13 _ rfl, hb, hf⟩
theorem blkH {h : Hd} {g : Nat} {w0 w : World} (hs : w.cell? ⟨g, 0, none⟩ = some (.string (bs h.name)) ∧ w.cell? ⟨g, 1, none⟩ = some (.string (bs h.comment)) ∧ w.cell? ⟨g, 2, none⟩ = some (.string (bs h.extra)) ∧ w.cell? ⟨g, 3, none⟩ = some (.bool h.non) ∧ w.cell? ⟨g, 4, none⟩ = some (.int .i64 h.creator) ∧ w.cell? ⟨g, 5, none⟩ = some (.int .i64 h.reader) ∧ w.cell? ⟨g, 6, none⟩ = some (.int .i64 h.flags) ∧ w.cell? ⟨g, 7, none⟩ = some (.int .i64 h.method) ∧ w.cell? ⟨g, 8, none⟩ = some (.int .i64 h.time) ∧ w.cell? ⟨g, 9, none⟩ = some (.int .i64 h.date) ∧ w.cell? ⟨g, 10, none⟩ = some (.int .i64 h.crc) ∧ w.cell? ⟨g, 11, none⟩ = some (.int .i64 h.packed) ∧ w.cell? ⟨g, 12, none⟩ = some (.int .i64 h.size) ∧ w.cell? ⟨g, 13, none⟩ = some (.int .i64 h.ext) ∧ Blk w g 26 (hdL h).toArray ∧ Fr [] w0 w) : Blk w g 26 (hdL h).toArray ∧ Fr [] w0 w := by
  obtain ⟨_, _, _, _, _, _, _, _, _, _, _, _, _, _, hb, hf⟩ := hs
  exact ⟨hb, hf⟩
theorem keepH {h : Hd} {g : Nat} {w0 w w' : World} (hs : w.cell? ⟨g, 0, none⟩ = some (.string (bs h.name)) ∧ w.cell? ⟨g, 1, none⟩ = some (.string (bs h.comment)) ∧ w.cell? ⟨g, 2, none⟩ = some (.string (bs h.extra)) ∧ w.cell? ⟨g, 3, none⟩ = some (.bool h.non) ∧ w.cell? ⟨g, 4, none⟩ = some (.int .i64 h.creator) ∧ w.cell? ⟨g, 5, none⟩ = some (.int .i64 h.reader) ∧ w.cell? ⟨g, 6, none⟩ = some (.int .i64 h.flags) ∧ w.cell? ⟨g, 7, none⟩ = some (.int .i64 h.method) ∧ w.cell? ⟨g, 8, none⟩ = some (.int .i64 h.time) ∧ w.cell? ⟨g, 9, none⟩ = some (.int .i64 h.date) ∧ w.cell? ⟨g, 10, none⟩ = some (.int .i64 h.crc) ∧ w.cell? ⟨g, 11, none⟩ = some (.int .i64 h.packed) ∧ w.cell? ⟨g, 12, none⟩ = some (.int .i64 h.size) ∧ w.cell? ⟨g, 13, none⟩ = some (.int .i64 h.ext) ∧ Blk w g 26 (hdL h).toArray ∧ Fr [] w0 w) (hf : Fr [] w w') : w'.cell? ⟨g, 0, none⟩ = some (.string (bs h.name)) ∧ w'.cell? ⟨g, 1, none⟩ = some (.string (bs h.comment)) ∧ w'.cell? ⟨g, 2, none⟩ = some (.string (bs h.extra)) ∧ w'.cell? ⟨g, 3, none⟩ = some (.bool h.non) ∧ w'.cell? ⟨g, 4, none⟩ = some (.int .i64 h.creator) ∧ w'.cell? ⟨g, 5, none⟩ = some (.int .i64 h.reader) ∧ w'.cell? ⟨g, 6, none⟩ = some (.int .i64 h.flags) ∧ w'.cell? ⟨g, 7, none⟩ = some (.int .i64 h.method) ∧ w'.cell? ⟨g, 8, none⟩ = some (.int .i64 h.time) ∧ w'.cell? ⟨g, 9, none⟩ = some (.int .i64 h.date) ∧ w'.cell? ⟨g, 10, none⟩ = some (.int .i64 h.crc) ∧ w'.cell? ⟨g, 11, none⟩ = some (.int .i64 h.packed) ∧ w'.cell? ⟨g, 12, none⟩ = some (.int .i64 h.size) ∧ w'.cell? ⟨g, 13, none⟩ = some (.int .i64 h.ext) ∧ Blk w' g 26 (hdL h).toArray ∧ Fr [] w0 w' :=
  mkH ((blkH hs).1.fr hf (by simp)) ((blkH hs).2.trans hf (by simp))
theorem posH {h : Hd} {g : Nat} {w0 w : World} (hs : w.cell? ⟨g, 0, none⟩ = some (.string (bs h.name)) ∧ w.cell? ⟨g, 1, none⟩ = some (.string (bs h.comment)) ∧ w.cell? ⟨g, 2, none⟩ = some (.string (bs h.extra)) ∧ w.cell? ⟨g, 3, none⟩ = some (.bool h.non) ∧ w.cell? ⟨g, 4, none⟩ = some (.int .i64 h.creator) ∧ w.cell? ⟨g, 5, none⟩ = some (.int .i64 h.reader) ∧ w.cell? ⟨g, 6, none⟩ = some (.int .i64 h.flags) ∧ w.cell? ⟨g, 7, none⟩ = some (.int .i64 h.method) ∧ w.cell? ⟨g, 8, none⟩ = some (.int .i64 h.time) ∧ w.cell? ⟨g, 9, none⟩ = some (.int .i64 h.date) ∧ w.cell? ⟨g, 10, none⟩ = some (.int .i64 h.crc) ∧ w.cell? ⟨g, 11, none⟩ = some (.int .i64 h.packed) ∧ w.cell? ⟨g, 12, none⟩ = some (.int .i64 h.size) ∧ w.cell? ⟨g, 13, none⟩ = some (.int .i64 h.ext) ∧ Blk w g 26 (hdL h).toArray ∧ Fr [] w0 w) : 0 < w.heap.size := Nat.lt_of_le_of_lt (Nat.zero_le _) (blkH hs).1.lt
set_option maxRecDepth 100000 in
set_option maxHeartbeats 8000000 in
theorem fieldsC (h : Hd) (hI : HdI h) (w : World) :
    Calls Tryz.prog 54 #[.agg #[.string (bs h.name), .string (bs h.comment), .string (bs h.extra), .bool h.non, .int .i64 h.creator, .int .i64 h.reader, .int .i64 h.flags, .int .i64 h.method, .int .i64 h.time, .int .i64 h.date, .int .i64 h.crc, .int .i64 h.packed, .int .i64 h.size, .int .i64 h.ext]] w fun e w' => e = .returned (.string (bs (fieldsI h))) ∧ Fr [] w w' := by
  obtain ⟨i1, i2, i3, i4, i5, i6, i7, i8, i9, i10, -, -, -⟩ := hI
  go_enter Tryz.func54, Tryz.ntmps54
  go_wp2_with fail
  have k0 := mkH (h := h) (Blk.new w 26 (hdL h).toArray) ((Fr.refl [] w).alloc (.cells (hdL h).toArray 26))
  obtain ⟨w1, hw1⟩ : ∃ w1, w.alloc (.cells (hdL h).toArray 26) = w1 := ⟨_, rfl⟩
  rw [hw1] at k0
  unfold hdL at hw1
  rw [hw1]
  clear hw1
  obtain ⟨g, hg⟩ : ∃ g, w.heap.size = g := ⟨_, rfl⟩
  rw [hg] at k0 ⊢
  clear hg
  have k1 := keepH k0 ((Fr.refl [] _).drew)
  go_region_held3 (fun w' => w'.cell? ⟨g, 0, none⟩ = some (.string (bs h.name)) ∧ w'.cell? ⟨g, 1, none⟩ = some (.string (bs h.comment)) ∧ w'.cell? ⟨g, 2, none⟩ = some (.string (bs h.extra)) ∧ w'.cell? ⟨g, 3, none⟩ = some (.bool h.non) ∧ w'.cell? ⟨g, 4, none⟩ = some (.int .i64 h.creator) ∧ w'.cell? ⟨g, 5, none⟩ = some (.int .i64 h.reader) ∧ w'.cell? ⟨g, 6, none⟩ = some (.int .i64 h.flags) ∧ w'.cell? ⟨g, 7, none⟩ = some (.int .i64 h.method) ∧ w'.cell? ⟨g, 8, none⟩ = some (.int .i64 h.time) ∧ w'.cell? ⟨g, 9, none⟩ = some (.int .i64 h.date) ∧ w'.cell? ⟨g, 10, none⟩ = some (.int .i64 h.crc) ∧ w'.cell? ⟨g, 11, none⟩ = some (.int .i64 h.packed) ∧ w'.cell? ⟨g, 12, none⟩ = some (.int .i64 h.size) ∧ w'.cell? ⟨g, 13, none⟩ = some (.int .i64 h.ext) ∧ Blk w' g 26 (hdL h).toArray ∧ Fr [] w w')
    ((first | exact kk | exact k1 | assumption))
    ((first
      | (go_at_call 45; (with_reducible first | refine (bytes2 _ _ (by assumption) (posH (by assumption))).mono ?_ | refine (bytes4 _ _ (by assumption) (posH (by assumption))).mono ?_); rintro e w2 ⟨rfl, hf⟩; have kk := keepH (by assumption) hf)))
  have HK := Lib.hid (blkH kk).2
  clear k0 k1 kk
  go_wp2_with fail
  go_ret
  refine ⟨?_, HK.out⟩
  rw [fieldsI, ← bs_append, ← bs_append, ← bs_append, ← bs_append, ← bs_append, ← bs_append]
  rfl
end Go.Proofs.YtcodhjoiikdhmaaGreatDoor

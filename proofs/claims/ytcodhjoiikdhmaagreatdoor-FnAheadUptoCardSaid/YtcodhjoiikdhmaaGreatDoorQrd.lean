/- spec.Local. -/
import Derived.Test.YtcodhjoiikdhmaaGreatDoorQrc
set_option linter.unusedVariables false
set_option linter.unusedSimpArgs false
namespace Go.Proofs.YtcodhjoiikdhmaaGreatDoor
open Go Go.RowKit
open Zp
set_option maxRecDepth 100000 in
set_option maxHeartbeats 8000000 in
theorem localC (h : Hd) (hI : HdI h) (w : World) :
    Calls Tryz.prog 39 #[.agg #[.string (bs h.name), .string (bs h.comment), .string (bs h.extra), .bool h.non, .int .i64 h.creator, .int .i64 h.reader, .int .i64 h.flags, .int .i64 h.method, .int .i64 h.time, .int .i64 h.date, .int .i64 h.crc, .int .i64 h.packed, .int .i64 h.size, .int .i64 h.ext]] w fun e w' => e = .returned (.string (bs (localI h))) ∧ Fr [] w w' := by
  obtain ⟨i1, i2, i3, i4, i5, i6, i7, i8, i9, i10, i11, i12, i13⟩ := id hI
  have n1 : I64 (h.name.length : Int) := ⟨by omega, by omega⟩
  have n2 : I64 (h.extra.length : Int) := ⟨by omega, by omega⟩
  have n3 : I64 (h.comment.length : Int) := ⟨by omega, by omega⟩
  have z1 := fieldsI_length h
  have q1 : ¬ 9223372036854775807 < 30 + h.name.length := by omega
  have q2 : ¬ 9223372036854775807 < 30 + h.name.length + h.extra.length := by omega
  go_enter Tryz.func39, Tryz.ntmps39
  go_wp2_with fail
  have k0 := mkH (h := h) (Blk.new w 26 (hdL h).toArray) ((Fr.refl [] w).alloc (.cells (hdL h).toArray 26))
  obtain ⟨w1, hw1⟩ : ∃ w1, w.alloc (.cells (hdL h).toArray 26) = w1 := ⟨_, rfl⟩
  rw [hw1] at k0
  unfold hdL at hw1
  rw [hw1]
  clear hw1
  obtain ⟨g, hg⟩ : ∃ g, w.heap.size = g := ⟨_, rfl⟩
  rw [hg] at k0 ⊢
  clear hg
  have k1 := keepH k0 ((Fr.refl [] _).drew)
  go_region_held3 (fun w' => w'.cell? ⟨g, 0, none⟩ = some (.string (bs h.name)) ∧ w'.cell? ⟨g, 1, none⟩ = some (.string (bs h.comment)) ∧ w'.cell? ⟨g, 2, none⟩ = some (.string (bs h.extra)) ∧ w'.cell? ⟨g, 3, none⟩ = some (.bool h.non) ∧ w'.cell? ⟨g, 4, none⟩ = some (.int .i64 h.creator) ∧ w'.cell? ⟨g, 5, none⟩ = some (.int .i64 h.reader) ∧ w'.cell? ⟨g, 6, none⟩ = some (.int .i64 h.flags) ∧ w'.cell? ⟨g, 7, none⟩ = some (.int .i64 h.method) ∧ w'.cell? ⟨g, 8, none⟩ = some (.int .i64 h.time) ∧ w'.cell? ⟨g, 9, none⟩ = some (.int .i64 h.date) ∧ w'.cell? ⟨g, 10, none⟩ = some (.int .i64 h.crc) ∧ w'.cell? ⟨g, 11, none⟩ = some (.int .i64 h.packed) ∧ w'.cell? ⟨g, 12, none⟩ = some (.int .i64 h.size) ∧ w'.cell? ⟨g, 13, none⟩ = some (.int .i64 h.ext) ∧ Blk w' g 26 (hdL h).toArray ∧ Fr [] w w')
    ((first | exact kk | exact k1 | assumption))
    ((first
      | (go_at_call 45; (with_reducible first | refine (bytes2 _ _ (by assumption) (posH (by assumption))).mono ?_ | refine (bytes4 _ _ (by assumption) (posH (by assumption))).mono ?_); rintro e w2 ⟨rfl, hf⟩; have kk := keepH (by assumption) hf)
      | (go_at_call 54; (with_reducible refine (fieldsC h hI _).mono ?_); rintro e w2 ⟨rfl, hf⟩; have kk := keepH (by assumption) hf)))
  have HK := Lib.hid (blkH kk).2
  clear k0 k1 kk
  go_wp2_with fail
  go_ret
  refine ⟨?_, HK.out⟩
  rw [localI, ← bs_append, ← bs_append, ← bs_append, ← bs_append, ← bs_append, ← bs_append]
  rfl
end Go.Proofs.YtcodhjoiikdhmaaGreatDoor

/- spec.Central, spec.End. -/
namespace Go.Proofs.YtcodhjoiikdhmaaGreatDoor
open Go Go.RowKit
open Zp
set_option maxRecDepth 100000 in
set_option maxHeartbeats 8000000 in
theorem centralC (h : Hd) (hI : HdI h) (pos : Int) (hp : I64 pos) (w : World) :
    Calls Tryz.prog 44 #[.agg #[.string (bs h.name), .string (bs h.comment), .string (bs h.extra), .bool h.non, .int .i64 h.creator, .int .i64 h.reader, .int .i64 h.flags, .int .i64 h.method, .int .i64 h.time, .int .i64 h.date, .int .i64 h.crc, .int .i64 h.packed, .int .i64 h.size, .int .i64 h.ext], .int .i64 pos] w fun e w' => e = .returned (.string (bs (centralI h pos))) ∧ Fr [] w w' := by
  obtain ⟨i1, i2, i3, i4, i5, i6, i7, i8, i9, i10, i11, i12, i13⟩ := id hI
  have n1 : I64 (h.name.length : Int) := ⟨by omega, by omega⟩
  have n2 : I64 (h.extra.length : Int) := ⟨by omega, by omega⟩
  have n3 : I64 (h.comment.length : Int) := ⟨by omega, by omega⟩
  have n4 : I64 0 := ⟨by omega, by omega⟩
  have z1 := fieldsI_length h
  have q1 : ¬ 9223372036854775807 < 46 + h.name.length := by omega
  have q2 : ¬ 9223372036854775807 < 46 + h.name.length + h.extra.length := by omega
  have q3 : ¬ 9223372036854775807 < 46 + h.name.length + h.extra.length + h.comment.length := by omega
  go_enter Tryz.func44, Tryz.ntmps44
  go_wp2_with fail
  have k0 := mkH (h := h) (Blk.new w 26 (hdL h).toArray) ((Fr.refl [] w).alloc (.cells (hdL h).toArray 26))
  obtain ⟨w1, hw1⟩ : ∃ w1, w.alloc (.cells (hdL h).toArray 26) = w1 := ⟨_, rfl⟩
  rw [hw1] at k0
  unfold hdL at hw1
  rw [hw1]
  clear hw1
  obtain ⟨g, hg⟩ : ∃ g, w.heap.size = g := ⟨_, rfl⟩
  rw [hg] at k0 ⊢
  clear hg
  have k1 := keepH k0 ((Fr.refl [] _).drew)
  go_region_held3 (fun w' => w'.cell? ⟨g, 0, none⟩ = some (.string (bs h.name)) ∧ w'.cell? ⟨g, 1, none⟩ = some (.string (bs h.comment)) ∧ w'.cell? ⟨g, 2, none⟩ = some (.string (bs h.extra)) ∧ w'.cell? ⟨g, 3, none⟩ = some (.bool h.non) ∧ w'.cell? ⟨g, 4, none⟩ = some (.int .i64 h.creator) ∧ w'.cell? ⟨g, 5, none⟩ = some (.int .i64 h.reader) ∧ w'.cell? ⟨g, 6, none⟩ = some (.int .i64 h.flags) ∧ w'.cell? ⟨g, 7, none⟩ = some (.int .i64 h.method) ∧ w'.cell? ⟨g, 8, none⟩ = some (.int .i64 h.time) ∧ w'.cell? ⟨g, 9, none⟩ = some (.int .i64 h.date) ∧ w'.cell? ⟨g, 10, none⟩ = some (.int .i64 h.crc) ∧ w'.cell? ⟨g, 11, none⟩ = some (.int .i64 h.packed) ∧ w'.cell? ⟨g, 12, none⟩ = some (.int .i64 h.size) ∧ w'.cell? ⟨g, 13, none⟩ = some (.int .i64 h.ext) ∧ Blk w' g 26 (hdL h).toArray ∧ Fr [] w w')
    ((first | exact kk | exact k1 | assumption))
    ((first
      | (go_at_call 45; (with_reducible first | refine (bytes2 _ _ (by assumption) (posH (by assumption))).mono ?_ | refine (bytes4 _ _ (by assumption) (posH (by assumption))).mono ?_); rintro e w2 ⟨rfl, hf⟩; have kk := keepH (by assumption) hf)
      | (go_at_call 54; (with_reducible refine (fieldsC h hI _).mono ?_); rintro e w2 ⟨rfl, hf⟩; have kk := keepH (by assumption) hf)))
  have HK := Lib.hid (blkH kk).2
  clear k0 k1 kk
  go_wp2_with fail
  go_ret
  refine ⟨?_, HK.out⟩
  rw [centralI]
  iterate 13 rw [← bs_append]
  rfl
theorem endC (many size pos : Int) (c : By) (h1 : I64 many) (h2 : I64 size) (h3 : I64 pos) (hc : c.length ≤ 2147483647) (w : World) (hw : 0 < w.heap.size) :
    Calls Tryz.prog 31 #[.int .i64 many, .int .i64 size, .int .i64 pos, .string (bs c)] w fun e w' => e = .returned (.string (bs (endI many size pos c))) ∧ Fr [] w w' := by
  have n1 : I64 (c.length : Int) := ⟨by omega, by omega⟩
  have n4 : I64 0 := ⟨by omega, by omega⟩
  have q1 : ¬ 9223372036854775807 < 22 + c.length := by omega
  go_enter Tryz.func31, Tryz.ntmps31
  have k1 : Fr [] w w := Fr.refl _ _
  obtain ⟨w0, hw0⟩ : ∃ w0, w0 = w := ⟨_, rfl⟩
  rw [← hw0] at k1
  go_wp2_with fail
  refine (bytes2 _ _ n4 hw).mono ?_
  rintro e w1 ⟨rfl, f1⟩
  have hw1 := Nat.lt_of_lt_of_le hw f1.size
  go_wp2_with fail
  refine (bytes2 _ _ n4 hw1).mono ?_
  rintro e w2 ⟨rfl, f2⟩
  have hw2 := Nat.lt_of_lt_of_le hw1 f2.size
  go_wp2_with fail
  refine (bytes2 _ _ h1 hw2).mono ?_
  rintro e w3 ⟨rfl, f3⟩
  have hw3 := Nat.lt_of_lt_of_le hw2 f3.size
  go_wp2_with fail
  refine (bytes2 _ _ h1 hw3).mono ?_
  rintro e w4 ⟨rfl, f4⟩
  have hw4 := Nat.lt_of_lt_of_le hw3 f4.size
  go_wp2_with fail
  refine (bytes4 _ _ h2 hw4).mono ?_
  rintro e w5 ⟨rfl, f5⟩
  have hw5 := Nat.lt_of_lt_of_le hw4 f5.size
  go_wp2_with fail
  refine (bytes4 _ _ h3 hw5).mono ?_
  rintro e w6 ⟨rfl, f6⟩
  have hw6 := Nat.lt_of_lt_of_le hw5 f6.size
  go_wp2_with fail
  refine (bytes2 _ _ n1 hw6).mono ?_
  rintro e w7 ⟨rfl, f7⟩
  go_wp2_with fail
  go_ret
  refine ⟨?_, ((((((f1.trans f2 (by simp)).trans f3 (by simp)).trans f4 (by simp)).trans f5 (by simp)).trans f6 (by simp)).trans f7 (by simp))⟩
  rw [endI]
  iterate 8 rw [← bs_append]
  rfl
end Go.Proofs.YtcodhjoiikdhmaaGreatDoor

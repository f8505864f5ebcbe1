/- spec.Local. -/
import Derived.Test.YtalgnjkdoaaacaaGreatDoorQra
import Derived.Deep.MidRow
import Derived.Laws.OwnMore
set_option linter.unusedVariables false
set_option linter.unusedSimpArgs false
namespace Go.Proofs.YtalgnjkdoaaacaaGreatDoor
open Go Go.RowKit
open Zp
set_option maxRecDepth 100000 in
set_option maxHeartbeats 8000000 in
theorem localC (h : Hd) (hI : HdI h) (w : World) :
    Calls Tryz.prog 39 #[.agg #[.string (bs h.name), .string (bs h.comment), .string (bs h.extra), .bool h.non, .int .i64 h.creator, .int .i64 h.reader, .int .i64 h.flags, .int .i64 h.method, .int .i64 h.time, .int .i64 h.date, .int .i64 h.crc, .int .i64 h.packed, .int .i64 h.size, .int .i64 h.ext]] w fun e w' => e = .returned (.string (bs (localI h))) ∧ Fr [] w w' := by
  obtain ⟨i1, i2, i3, i4, i5, i6, i7, i8, i9, i10, i11, i12, i13⟩ := id hI
  have n1 : I64 (h.name.length : Int) := ⟨by omega, by omega⟩
  have n2 : I64 (h.extra.length : Int) := ⟨by omega, by omega⟩
  have n3 : I64 (h.comment.length : Int) := ⟨by omega, by omega⟩
  have z1 := fieldsI_length h
  have q1 : ¬ 9223372036854775807 < 30 + h.name.length := by omega
  have q2 : ¬ 9223372036854775807 < 30 + h.name.length + h.extra.length := by omega
  go_enter Tryz.func39, Tryz.ntmps39
  go_wp2_with fail
  have k0 := mkH (h := h) (Blk.new w 36 (hdL h).toArray) ((Fr.refl [] w).alloc (.cells (hdL h).toArray 36))
  obtain ⟨w1, hw1⟩ : ∃ w1, w.alloc (.cells (hdL h).toArray 36) = w1 := ⟨_, rfl⟩
  rw [hw1] at k0
  unfold hdL at hw1
  rw [hw1]
  clear hw1
  obtain ⟨g, hg⟩ : ∃ g, w.heap.size = g := ⟨_, rfl⟩
  rw [hg] at k0 ⊢
  clear hg
  have k1 := keepH k0 ((Fr.refl [] _).drew)
  go_region_held3 (fun w' => w'.cell? ⟨g, 0, none⟩ = some (.string (bs h.name)) ∧ w'.cell? ⟨g, 1, none⟩ = some (.string (bs h.comment)) ∧ w'.cell? ⟨g, 2, none⟩ = some (.string (bs h.extra)) ∧ w'.cell? ⟨g, 3, none⟩ = some (.bool h.non) ∧ w'.cell? ⟨g, 4, none⟩ = some (.int .i64 h.creator) ∧ w'.cell? ⟨g, 5, none⟩ = some (.int .i64 h.reader) ∧ w'.cell? ⟨g, 6, none⟩ = some (.int .i64 h.flags) ∧ w'.cell? ⟨g, 7, none⟩ = some (.int .i64 h.method) ∧ w'.cell? ⟨g, 8, none⟩ = some (.int .i64 h.time) ∧ w'.cell? ⟨g, 9, none⟩ = some (.int .i64 h.date) ∧ w'.cell? ⟨g, 10, none⟩ = some (.int .i64 h.crc) ∧ w'.cell? ⟨g, 11, none⟩ = some (.int .i64 h.packed) ∧ w'.cell? ⟨g, 12, none⟩ = some (.int .i64 h.size) ∧ w'.cell? ⟨g, 13, none⟩ = some (.int .i64 h.ext) ∧ Blk w' g 36 (hdL h).toArray ∧ Fr [] w w')
    ((first | exact kk | exact k1 | assumption))
    ((first
      | (go_at_call 57; (with_reducible first | refine (bytes2 _ _ (by assumption) (posH (by assumption))).mono ?_ | refine (bytes4 _ _ (by assumption) (posH (by assumption))).mono ?_); rintro e w2 ⟨rfl, hf⟩; have kk := keepH (by assumption) hf)
      | (go_at_call 62; (with_reducible refine (fieldsC h hI _).mono ?_); rintro e w2 ⟨rfl, hf⟩; have kk := keepH (by assumption) hf)))
  have HK := Lib.hid (blkH kk).2
  clear k0 k1 kk
  go_wp2_with fail
  go_ret
  refine ⟨?_, HK.out⟩
  rw [localI, ← bs_append, ← bs_append, ← bs_append, ← bs_append, ← bs_append, ← bs_append]
  rfl
end Go.Proofs.YtalgnjkdoaaacaaGreatDoor

/- spec.Central, spec.End. -/
namespace Go.Proofs.YtalgnjkdoaaacaaGreatDoor
open Go Go.RowKit
open Zp
set_option maxRecDepth 100000 in
set_option maxHeartbeats 8000000 in
theorem centralC (h : Hd) (hI : HdI h) (pos : Int) (hp : I64 pos) (w : World) :
    Calls Tryz.prog 56 #[.agg #[.string (bs h.name), .string (bs h.comment), .string (bs h.extra), .bool h.non, .int .i64 h.creator, .int .i64 h.reader, .int .i64 h.flags, .int .i64 h.method, .int .i64 h.time, .int .i64 h.date, .int .i64 h.crc, .int .i64 h.packed, .int .i64 h.size, .int .i64 h.ext], .int .i64 pos] w fun e w' => e = .returned (.string (bs (centralI h pos))) ∧ Fr [] w w' := by
  obtain ⟨i1, i2, i3, i4, i5, i6, i7, i8, i9, i10, i11, i12, i13⟩ := id hI
  have n1 : I64 (h.name.length : Int) := ⟨by omega, by omega⟩
  have n2 : I64 (h.extra.length : Int) := ⟨by omega, by omega⟩
  have n3 : I64 (h.comment.length : Int) := ⟨by omega, by omega⟩
  have n4 : I64 0 := ⟨by omega, by omega⟩
  have z1 := fieldsI_length h
  have q1 : ¬ 9223372036854775807 < 46 + h.name.length := by omega
  have q2 : ¬ 9223372036854775807 < 46 + h.name.length + h.extra.length := by omega
  have q3 : ¬ 9223372036854775807 < 46 + h.name.length + h.extra.length + h.comment.length := by omega
  go_enter Tryz.func56, Tryz.ntmps56
  go_wp2_with fail
  have k0 := mkH (h := h) (Blk.new w 36 (hdL h).toArray) ((Fr.refl [] w).alloc (.cells (hdL h).toArray 36))
  obtain ⟨w1, hw1⟩ : ∃ w1, w.alloc (.cells (hdL h).toArray 36) = w1 := ⟨_, rfl⟩
  rw [hw1] at k0
  unfold hdL at hw1
  rw [hw1]
  clear hw1
  obtain ⟨g, hg⟩ : ∃ g, w.heap.size = g := ⟨_, rfl⟩
  rw [hg] at k0 ⊢
  clear hg
  have k1 := keepH k0 ((Fr.refl [] _).drew)
  go_region_held3 (fun w' => w'.cell? ⟨g, 0, none⟩ = some (.string (bs h.name)) ∧ w'.cell? ⟨g, 1, none⟩ = some (.string (bs h.comment)) ∧ w'.cell? ⟨g, 2, none⟩ = some (.string (bs h.extra)) ∧ w'.cell? ⟨g, 3, none⟩ = some (.bool h.non) ∧ w'.cell? ⟨g, 4, none⟩ = some (.int .i64 h.creator) ∧ w'.cell? ⟨g, 5, none⟩ = some (.int .i64 h.reader) ∧ w'.cell? ⟨g, 6, none⟩ = some (.int .i64 h.flags) ∧ w'.cell? ⟨g, 7, none⟩ = some (.int .i64 h.method) ∧ w'.cell? ⟨g, 8, none⟩ = some (.int .i64 h.time) ∧ w'.cell? ⟨g, 9, none⟩ = some (.int .i64 h.date) ∧ w'.cell? ⟨g, 10, none⟩ = some (.int .i64 h.crc) ∧ w'.cell? ⟨g, 11, none⟩ = some (.int .i64 h.packed) ∧ w'.cell? ⟨g, 12, none⟩ = some (.int .i64 h.size) ∧ w'.cell? ⟨g, 13, none⟩ = some (.int .i64 h.ext) ∧ Blk w' g 36 (hdL h).toArray ∧ Fr [] w w')
    ((first | exact kk | exact k1 | assumption))
    ((first
      | (go_at_call 57; (with_reducible first | refine (bytes2 _ _ (by assumption) (posH (by assumption))).mono ?_ | refine (bytes4 _ _ (by assumption) (posH (by assumption))).mono ?_); rintro e w2 ⟨rfl, hf⟩; have kk := keepH (by assumption) hf)
      | (go_at_call 62; (with_reducible refine (fieldsC h hI _).mono ?_); rintro e w2 ⟨rfl, hf⟩; have kk := keepH (by assumption) hf)))
  have HK := Lib.hid (blkH kk).2
  clear k0 k1 kk
  go_wp2_with fail
  go_ret
  refine ⟨?_, HK.out⟩
  rw [centralI]
  iterate 13 rw [← bs_append]
  rfl
theorem endC (many size pos : Int) (c : By) (h1 : I64 many) (h2 : I64 size) (h3 : I64 pos) (hc : c.length ≤ 2147483647) (w : World) (hw : 0 < w.heap.size) :
    Calls Tryz.prog 31 #[.int .i64 many, .int .i64 size, .int .i64 pos, .string (bs c)] w fun e w' => e = .returned (.string (bs (endI many size pos c))) ∧ Fr [] w w' := by
  have n1 : I64 (c.length : Int) := ⟨by omega, by omega⟩
  have n4 : I64 0 := ⟨by omega, by omega⟩
  have q1 : ¬ 9223372036854775807 < 22 + c.length := by omega
  go_enter Tryz.func31, Tryz.ntmps31
  have k1 : Fr [] w w := Fr.refl _ _
  obtain ⟨w0, hw0⟩ : ∃ w0, w0 = w := ⟨_, rfl⟩
  rw [← hw0] at k1
  go_wp2_with fail
  refine (bytes2 _ _ n4 hw).mono ?_
  rintro e w1 ⟨rfl, f1⟩
  have hw1 := Nat.lt_of_lt_of_le hw f1.size
  go_wp2_with fail
  refine (bytes2 _ _ n4 hw1).mono ?_
  rintro e w2 ⟨rfl, f2⟩
  have hw2 := Nat.lt_of_lt_of_le hw1 f2.size
  go_wp2_with fail
  refine (bytes2 _ _ h1 hw2).mono ?_
  rintro e w3 ⟨rfl, f3⟩
  have hw3 := Nat.lt_of_lt_of_le hw2 f3.size
  go_wp2_with fail
  refine (bytes2 _ _ h1 hw3).mono ?_
  rintro e w4 ⟨rfl, f4⟩
  have hw4 := Nat.lt_of_lt_of_le hw3 f4.size
  go_wp2_with fail
  refine (bytes4 _ _ h2 hw4).mono ?_
  rintro e w5 ⟨rfl, f5⟩
  have hw5 := Nat.lt_of_lt_of_le hw4 f5.size
  go_wp2_with fail
  refine (bytes4 _ _ h3 hw5).mono ?_
  rintro e w6 ⟨rfl, f6⟩
  have hw6 := Nat.lt_of_lt_of_le hw5 f6.size
  go_wp2_with fail
  refine (bytes2 _ _ n1 hw6).mono ?_
  rintro e w7 ⟨rfl, f7⟩
  go_wp2_with fail
  go_ret
  refine ⟨?_, ((((((f1.trans f2 (by simp)).trans f3 (by simp)).trans f4 (by simp)).trans f5 (by simp)).trans f6 (by simp)).trans f7 (by simp))⟩
  rw [endI]
  iterate 8 rw [← bs_append]
  rfl
end Go.Proofs.YtalgnjkdoaaacaaGreatDoor

/- Lists of entries in memory; spec.Files, spec.Directory, spec.Archive. -/
namespace Go.Proofs.YtalgnjkdoaaacaaGreatDoor
open Go Go.RowKit
open Zp
def entL (e : Ent) : List Value := [.string (bs e.h.name), .string (bs e.h.comment), .string (bs e.h.extra), .bool e.h.non, .int .i64 e.h.creator, .int .i64 e.h.reader, .int .i64 e.h.flags, .int .i64 e.h.method, .int .i64 e.h.time, .int .i64 e.h.date, .int .i64 e.h.crc, .int .i64 e.h.packed, .int .i64 e.h.size, .int .i64 e.h.ext, .string (bs e.data)]
theorem entL_length (e : Ent) : (entL e).length = 15 := rfl
structure EntI (e : Ent) : Prop where
  hd : HdI e.h
  data : e.data.length ≤ 2147483647
/-- The entries lie in a block, one behind the other. -/
def LEs (w : World) (g o : Nat) (l : List Ent) : Prop := ∀ i e, l[i]? = some e → w.rangeAt g (o + i * 15) (entL e)
theorem LEs.fr {w w' : World} {g o : Nat} {l : List Ent} {S : List Nat} (h : LEs w g o l) (hf : Fr S w w') (hg : g < w.heap.size) (hn : g ∉ S) : LEs w' g o l := fun i e hi j v hj =>
  (hf.cell (p := ⟨g, o + i * 15 + j, none⟩) hg hn).trans (h i e hi j v hj)
/-- A slice of entries. -/
def SV (w : World) (v : Value) (l : List Ent) : Prop := ∃ p cap, v = .slice p l.length cap ∧ l.length ≤ cap ∧ cap ≤ maxLen ∧ (l ≠ [] → ∃ g o, p = some ⟨g, o, none⟩ ∧ g < w.heap.size ∧ LEs w g o l)
theorem SV.fr {w w' : World} {v : Value} {l : List Ent} {S : List Nat} (h : SV w v l) (hf : Fr S w w') (hn : ∀ g, g < w.heap.size → g ∉ S) : SV w' v l := by
  obtain ⟨p, cap, h1, h2, h3, h4⟩ := h
  refine ⟨p, cap, h1, h2, h3, fun hl => ?_⟩
  obtain ⟨g, o, h5, h6, h7⟩ := h4 hl
  exact ⟨g, o, h5, Nat.lt_of_lt_of_le h6 hf.size, h7.fr hf h6 (hn g h6)⟩
theorem infoEnt : (Tryz.prog.info? 38).map (fun i => i.size) = some 15 := by kernel_rfl
theorem load_ent {w : World} {g a : Nat} {e : Ent} (h : w.rangeAt g a (entL e)) : (Instr.loadAt 38 (.pointer (some ⟨g, a, none⟩))).run Tryz.prog w = .ok (.agg #[.string (bs e.h.name), .string (bs e.h.comment), .string (bs e.h.extra), .bool e.h.non, .int .i64 e.h.creator, .int .i64 e.h.reader, .int .i64 e.h.flags, .int .i64 e.h.method, .int .i64 e.h.time, .int .i64 e.h.date, .int .i64 e.h.crc, .int .i64 e.h.packed, .int .i64 e.h.size, .int .i64 e.h.ext, .string (bs e.data)]) w :=
  run_loadAt_mid w g a 38 (entL e) _ h Tryz.underlying38 rfl infoEnt
theorem cellsE {w : World} {g a : Nat} {e : Ent} (h : w.rangeAt g a (entL e)) : w.cell? ⟨g, a, none⟩ = some (.string (bs e.h.name)) ∧ w.cell? ⟨g, a + 1, none⟩ = some (.string (bs e.h.comment)) ∧ w.cell? ⟨g, a + 2, none⟩ = some (.string (bs e.h.extra)) ∧ w.cell? ⟨g, a + 3, none⟩ = some (.bool e.h.non) ∧ w.cell? ⟨g, a + 4, none⟩ = some (.int .i64 e.h.creator) ∧ w.cell? ⟨g, a + 5, none⟩ = some (.int .i64 e.h.reader) ∧ w.cell? ⟨g, a + 6, none⟩ = some (.int .i64 e.h.flags) ∧ w.cell? ⟨g, a + 7, none⟩ = some (.int .i64 e.h.method) ∧ w.cell? ⟨g, a + 8, none⟩ = some (.int .i64 e.h.time) ∧ w.cell? ⟨g, a + 9, none⟩ = some (.int .i64 e.h.date) ∧ w.cell? ⟨g, a + 10, none⟩ = some (.int .i64 e.h.crc) ∧ w.cell? ⟨g, a + 11, none⟩ = some (.int .i64 e.h.packed) ∧ w.cell? ⟨g, a + 12, none⟩ = some (.int .i64 e.h.size) ∧ w.cell? ⟨g, a + 13, none⟩ = some (.int .i64 e.h.ext) ∧ w.cell? ⟨g, a + 14, none⟩ = some (.string (bs e.data)) :=
  ⟨h 0 _ rfl, h 1 _ rfl, h 2 _ rfl, h 3 _ rfl, h 4 _ rfl, h 5 _ rfl, h 6 _ rfl, h 7 _ rfl, h 8 _ rfl, h 9 _ rfl, h 10 _ rfl, h 11 _ rfl, h 12 _ rfl, h 13 _ rfl, h 14 _ rfl⟩
theorem mkE {e : Ent} {g : Nat} {w0 w : World} (hb : Blk w g 38 (entL e).toArray) (hf : Fr [] w0 w) : w.cell? ⟨g, 0, none⟩ = some (.string (bs e.h.name)) ∧ w.cell? ⟨g, 1, none⟩ = some (.string (bs e.h.comment)) ∧ w.cell? ⟨g, 2, none⟩ = some (.string (bs e.h.extra)) ∧ w.cell? ⟨g, 3, none⟩ = some (.bool e.h.non) ∧ w.cell? ⟨g, 4, none⟩ = some (.int .i64 e.h.creator) ∧ w.cell? ⟨g, 5, none⟩ = some (.int .i64 e.h.reader) ∧ w.cell? ⟨g, 6, none⟩ = some (.int .i64 e.h.flags) ∧ w.cell? ⟨g, 7, none⟩ = some (.int .i64 e.h.method) ∧ w.cell? ⟨g, 8, none⟩ = some (.int .i64 e.h.time) ∧ w.cell? ⟨g, 9, none⟩ = some (.int .i64 e.h.date) ∧ w.cell? ⟨g, 10, none⟩ = some (.int .i64 e.h.crc) ∧ w.cell? ⟨g, 11, none⟩ = some (.int .i64 e.h.packed) ∧ w.cell? ⟨g, 12, none⟩ = some (.int .i64 e.h.size) ∧ w.cell? ⟨g, 13, none⟩ = some (.int .i64 e.h.ext) ∧ w.cell? ⟨g, 14, none⟩ = some (.string (bs e.data)) ∧ Blk w g 38 (entL e).toArray ∧ Fr [] w0 w :=
  ⟨hb.at_ 0 _ rfl, hb.at_ 1 _ rfl, hb.at_ 2 _ rfl, hb.at_ 3 _ rfl, hb.at_ 4 _ rfl, hb.at_ 5 _ rfl, hb.at_ 6 _ rfl, hb.at_ 7 _ rfl, hb.at_ 8 _ rfl, hb.at_ 9 _ rfl, hb.at_ 10 _ rfl, hb.at_ 11 _ rfl, hb.at_ 12 _ rfl, hb.at_ 13 _ rfl, hb.at_ 14 _ rfl, hb, hf⟩
theorem blkE {e : Ent} {g : Nat} {w0 w : World} (hs : w.cell? ⟨g, 0, none⟩ = some (.string (bs e.h.name)) ∧ w.cell? ⟨g, 1, none⟩ = some (.string (bs e.h.comment)) ∧ w.cell? ⟨g, 2, none⟩ = some (.string (bs e.h.extra)) ∧ w.cell? ⟨g, 3, none⟩ = some (.bool e.h.non) ∧ w.cell? ⟨g, 4, none⟩ = some (.int .i64 e.h.creator) ∧ w.cell? ⟨g, 5, none⟩ = some (.int .i64 e.h.reader) ∧ w.cell? ⟨g, 6, none⟩ = some (.int .i64 e.h.flags) ∧ w.cell? ⟨g, 7, none⟩ = some (.int .i64 e.h.method) ∧ w.cell? ⟨g, 8, none⟩ = some (.int .i64 e.h.time) ∧ w.cell? ⟨g, 9, none⟩ = some (.int .i64 e.h.date) ∧ w.cell? ⟨g, 10, none⟩ = some (.int .i64 e.h.crc) ∧ w.cell? ⟨g, 11, none⟩ = some (.int .i64 e.h.packed) ∧ w.cell? ⟨g, 12, none⟩ = some (.int .i64 e.h.size) ∧ w.cell? ⟨g, 13, none⟩ = some (.int .i64 e.h.ext) ∧ w.cell? ⟨g, 14, none⟩ = some (.string (bs e.data)) ∧ Blk w g 38 (entL e).toArray ∧ Fr [] w0 w) : Blk w g 38 (entL e).toArray ∧ Fr [] w0 w := by
  obtain ⟨_, _, _, _, _, _, _, _, _, _, _, _, _, _, _, hb, hf⟩ := hs
  exact ⟨hb, hf⟩
theorem keepE {e : Ent} {g : Nat} {w0 w w' : World} (hs : w.cell? ⟨g, 0, none⟩ = some (.string (bs e.h.name)) ∧ w.cell? ⟨g, 1, none⟩ = some (.string (bs e.h.comment)) ∧ w.cell? ⟨g, 2, none⟩ = some (.string (bs e.h.extra)) ∧ w.cell? ⟨g, 3, none⟩ = some (.bool e.h.non) ∧ w.cell? ⟨g, 4, none⟩ = some (.int .i64 e.h.creator) ∧ w.cell? ⟨g, 5, none⟩ = some (.int .i64 e.h.reader) ∧ w.cell? ⟨g, 6, none⟩ = some (.int .i64 e.h.flags) ∧ w.cell? ⟨g, 7, none⟩ = some (.int .i64 e.h.method) ∧ w.cell? ⟨g, 8, none⟩ = some (.int .i64 e.h.time) ∧ w.cell? ⟨g, 9, none⟩ = some (.int .i64 e.h.date) ∧ w.cell? ⟨g, 10, none⟩ = some (.int .i64 e.h.crc) ∧ w.cell? ⟨g, 11, none⟩ = some (.int .i64 e.h.packed) ∧ w.cell? ⟨g, 12, none⟩ = some (.int .i64 e.h.size) ∧ w.cell? ⟨g, 13, none⟩ = some (.int .i64 e.h.ext) ∧ w.cell? ⟨g, 14, none⟩ = some (.string (bs e.data)) ∧ Blk w g 38 (entL e).toArray ∧ Fr [] w0 w) (hf : Fr [] w w') : w'.cell? ⟨g, 0, none⟩ = some (.string (bs e.h.name)) ∧ w'.cell? ⟨g, 1, none⟩ = some (.string (bs e.h.comment)) ∧ w'.cell? ⟨g, 2, none⟩ = some (.string (bs e.h.extra)) ∧ w'.cell? ⟨g, 3, none⟩ = some (.bool e.h.non) ∧ w'.cell? ⟨g, 4, none⟩ = some (.int .i64 e.h.creator) ∧ w'.cell? ⟨g, 5, none⟩ = some (.int .i64 e.h.reader) ∧ w'.cell? ⟨g, 6, none⟩ = some (.int .i64 e.h.flags) ∧ w'.cell? ⟨g, 7, none⟩ = some (.int .i64 e.h.method) ∧ w'.cell? ⟨g, 8, none⟩ = some (.int .i64 e.h.time) ∧ w'.cell? ⟨g, 9, none⟩ = some (.int .i64 e.h.date) ∧ w'.cell? ⟨g, 10, none⟩ = some (.int .i64 e.h.crc) ∧ w'.cell? ⟨g, 11, none⟩ = some (.int .i64 e.h.packed) ∧ w'.cell? ⟨g, 12, none⟩ = some (.int .i64 e.h.size) ∧ w'.cell? ⟨g, 13, none⟩ = some (.int .i64 e.h.ext) ∧ w'.cell? ⟨g, 14, none⟩ = some (.string (bs e.data)) ∧ Blk w' g 38 (entL e).toArray ∧ Fr [] w0 w' :=
  mkE ((blkE hs).1.fr hf (by simp)) ((blkE hs).2.trans hf (by simp))
theorem posE {e : Ent} {g : Nat} {w0 w : World} (hs : w.cell? ⟨g, 0, none⟩ = some (.string (bs e.h.name)) ∧ w.cell? ⟨g, 1, none⟩ = some (.string (bs e.h.comment)) ∧ w.cell? ⟨g, 2, none⟩ = some (.string (bs e.h.extra)) ∧ w.cell? ⟨g, 3, none⟩ = some (.bool e.h.non) ∧ w.cell? ⟨g, 4, none⟩ = some (.int .i64 e.h.creator) ∧ w.cell? ⟨g, 5, none⟩ = some (.int .i64 e.h.reader) ∧ w.cell? ⟨g, 6, none⟩ = some (.int .i64 e.h.flags) ∧ w.cell? ⟨g, 7, none⟩ = some (.int .i64 e.h.method) ∧ w.cell? ⟨g, 8, none⟩ = some (.int .i64 e.h.time) ∧ w.cell? ⟨g, 9, none⟩ = some (.int .i64 e.h.date) ∧ w.cell? ⟨g, 10, none⟩ = some (.int .i64 e.h.crc) ∧ w.cell? ⟨g, 11, none⟩ = some (.int .i64 e.h.packed) ∧ w.cell? ⟨g, 12, none⟩ = some (.int .i64 e.h.size) ∧ w.cell? ⟨g, 13, none⟩ = some (.int .i64 e.h.ext) ∧ w.cell? ⟨g, 14, none⟩ = some (.string (bs e.data)) ∧ Blk w g 38 (entL e).toArray ∧ Fr [] w0 w) : 0 < w.heap.size := Nat.lt_of_le_of_lt (Nat.zero_le _) (blkE hs).1.lt
theorem drop_cons {α : Type} {l : List α} {k : Nat} (h : k < l.length) : l.drop k = l[k] :: l.drop (k + 1) := List.drop_eq_getElem_cons h
set_option maxRecDepth 100000 in
set_option maxHeartbeats 8000000 in
theorem filesC (l : List Ent) (hI : ∀ e ∈ l, EntI e) (v : Value) (w : World) (hv : SV w v l) (hL : (filesI l).length ≤ 4000000000) :
    Calls Tryz.prog 29 #[v] w fun e w' => e = .returned (.string (bs (filesI l))) ∧ Fr [] w w' := by
  obtain ⟨p, cap, rfl, hlc, hcm, hp⟩ := hv
  have HP := Lib.hid hp
  have HI := Lib.hid hI
  clear hp hI
  obtain ⟨n, hn⟩ : ∃ n, l.length = n := ⟨_, rfl⟩
  rw [hn] at hlc ⊢
  have hn47 : n ≤ 9223372036854775807 := by unfold maxLen at hcm; omega
  go_enter Tryz.func29, Tryz.ntmps29
  go_wp2_with fail
  go_loopw [3, 8] (fun v3 v8 wr => ∃ (k : Nat) (out : By), k ≤ n ∧ v8 = .int .i64 (k : Int) ∧ v3 = .string (bs out) ∧ out ++ filesI (l.drop k) = filesI l ∧ Fr [] w wr) (fun _ v8 _ => n - (intOf v8).toNat)
  case atStart => exact ⟨0, [], by omega, rfl, rfl, rfl, Fr.refl _ _⟩
  case round =>
    obtain ⟨k, out, hk, rfl, rfl, hout, hf⟩ := hrel
    by_cases hlt : k < n
    · have hkl : k < l.length := by omega
      obtain ⟨g, o, rfl, hg, hle⟩ := HP.out (fun h => by rw [h] at hkl; simp at hkl)
      obtain ⟨e, he⟩ : ∃ e, l[k] = e := ⟨_, rfl⟩
      have hdr : l.drop k = e :: l.drop (k + 1) := by rw [drop_cons hkl, he]
      have hei := HI.out e (by rw [← he]; exact List.getElem_mem hkl)
      rw [hdr] at hout
      have hrg := (hle.fr hf hg (by simp)) k e (by rw [← he]; exact List.getElem?_eq_getElem hkl)
      obtain ⟨c0, c1, c2, c3, c4, c5, c6, c7, c8, c9, c10, c11, c12, c13, c14⟩ := cellsE hrg
      have HOUT := Lib.hid hout
      have HF := Lib.hid hf
      have HEI := Lib.hid hei
      clear hout hf hei hdr hle hrg
      obtain ⟨Lc, hLc⟩ : ∃ Lc, localI e.h = Lc := ⟨_, rfl⟩
      have HLC := Lib.hid (fun w1 => localC e.h HEI.out.hd w1)
      rw [hLc] at HLC
      have hlen := congrArg List.length HOUT.out
      simp only [filesI, List.length_append, hLc] at hlen
      have q1 : ¬ 9223372036854775807 < Lc.length + e.data.length := by omega
      have q2 : ¬ 9223372036854775807 < out.length + (Lc.length + e.data.length) := by omega
      have HLc := Lib.hid hLc
      clear hLc hlen
      go_wp2_with fail
      clear c0 c1 c2 c3 c4 c5 c6 c7 c8 c9 c10 c11 c12 c13 c14
      have k0 := mkE (e := e) (Blk.new wr 38 (entL e).toArray) ((Fr.refl [] wr).alloc (.cells (entL e).toArray 38))
      obtain ⟨w1, hw1⟩ : ∃ w1, wr.alloc (.cells (entL e).toArray 38) = w1 := ⟨_, rfl⟩
      rw [hw1] at k0
      unfold entL at hw1
      rw [hw1]
      clear hw1
      obtain ⟨g2, hg2⟩ : ∃ g2, wr.heap.size = g2 := ⟨_, rfl⟩
      rw [hg2] at k0 ⊢
      clear hg2
      have k1 := keepE k0 ((Fr.refl [] _).drew)
      go_region_held3 (fun w' => w'.cell? ⟨g2, 0, none⟩ = some (.string (bs e.h.name)) ∧ w'.cell? ⟨g2, 1, none⟩ = some (.string (bs e.h.comment)) ∧ w'.cell? ⟨g2, 2, none⟩ = some (.string (bs e.h.extra)) ∧ w'.cell? ⟨g2, 3, none⟩ = some (.bool e.h.non) ∧ w'.cell? ⟨g2, 4, none⟩ = some (.int .i64 e.h.creator) ∧ w'.cell? ⟨g2, 5, none⟩ = some (.int .i64 e.h.reader) ∧ w'.cell? ⟨g2, 6, none⟩ = some (.int .i64 e.h.flags) ∧ w'.cell? ⟨g2, 7, none⟩ = some (.int .i64 e.h.method) ∧ w'.cell? ⟨g2, 8, none⟩ = some (.int .i64 e.h.time) ∧ w'.cell? ⟨g2, 9, none⟩ = some (.int .i64 e.h.date) ∧ w'.cell? ⟨g2, 10, none⟩ = some (.int .i64 e.h.crc) ∧ w'.cell? ⟨g2, 11, none⟩ = some (.int .i64 e.h.packed) ∧ w'.cell? ⟨g2, 12, none⟩ = some (.int .i64 e.h.size) ∧ w'.cell? ⟨g2, 13, none⟩ = some (.int .i64 e.h.ext) ∧ w'.cell? ⟨g2, 14, none⟩ = some (.string (bs e.data)) ∧ Blk w' g2 38 (entL e).toArray ∧ Fr [] wr w')
        ((first | exact kk | exact k1 | assumption))
        ((first
          | (go_at_call 39; (with_reducible refine (HLC.out _).mono ?_); rintro e2 w2 ⟨rfl, hf2⟩; have kk := keepE (by assumption) hf2)))
      have HK := Lib.hid (blkE kk).2
      clear k0 k1 kk
      go_wp2_with fail
      exact ⟨⟨k + 1, out ++ (Lc ++ e.data), by omega, by rw [Int.natCast_add]; rfl, by rw [bs_append, bs_append], by rw [← HOUT.out, ← HLc.out]; simp [filesI], HF.out.trans HK.out (by simp)⟩, by simp [intOf]; omega⟩
    · obtain rfl : k = n := by omega
      have HF := Lib.hid hf
      have HO := Lib.hid hout
      clear hf hout
      go_wp2_with fail
      go_ret
      exact ⟨by rw [← HO.out, List.drop_of_length_le (by omega)]; simp [filesI], HF.out⟩
end Go.Proofs.YtalgnjkdoaaacaaGreatDoor

/- spec.Directory. -/
namespace Go.Proofs.YtalgnjkdoaaacaaGreatDoor
open Go Go.RowKit
open Zp
set_option maxRecDepth 100000 in
set_option maxHeartbeats 8000000 in
theorem dirC (l : List Ent) (hI : ∀ e ∈ l, EntI e) (v : Value) (w : World) (hv : SV w v l) (hL : (filesI l).length ≤ 4000000000) (hL2 : (dirI 0 l).length ≤ 4000000000) :
    Calls Tryz.prog 30 #[v] w fun e w' => e = .returned (.string (bs (dirI 0 l))) ∧ Fr [] w w' := by
  obtain ⟨p, cap, rfl, hlc, hcm, hp⟩ := hv
  have HP := Lib.hid hp
  have HI := Lib.hid hI
  clear hp hI
  obtain ⟨n, hn⟩ : ∃ n, l.length = n := ⟨_, rfl⟩
  rw [hn] at hlc ⊢
  have hn47 : n ≤ 9223372036854775807 := by unfold maxLen at hcm; omega
  go_enter Tryz.func30, Tryz.ntmps30
  go_wp2_with fail
  go_loopw [3, 4, 9] (fun v3 v4 v9 wr => ∃ (k pos : Nat) (out : By), k ≤ n ∧ v9 = .int .i64 (k : Int) ∧ v4 = .int .i64 (pos : Int) ∧ v3 = .string (bs out) ∧ out ++ dirI pos (l.drop k) = dirI 0 l ∧ pos + (filesI (l.drop k)).length = (filesI l).length ∧ Fr [] w wr) (fun _ _ v9 _ => n - (intOf v9).toNat)
  case atStart => exact ⟨0, 0, [], by omega, rfl, rfl, rfl, rfl, by simp, Fr.refl _ _⟩
  case round =>
    obtain ⟨k, pos, out, hk, rfl, rfl, rfl, hout, hpos, hf⟩ := hrel
    by_cases hlt : k < n
    · have hkl : k < l.length := by omega
      obtain ⟨g, o, rfl, hg, hle⟩ := HP.out (fun h => by rw [h] at hkl; simp at hkl)
      obtain ⟨e, he⟩ : ∃ e, l[k] = e := ⟨_, rfl⟩
      have hdr : l.drop k = e :: l.drop (k + 1) := by rw [drop_cons hkl, he]
      have hei := HI.out e (by rw [← he]; exact List.getElem_mem hkl)
      rw [hdr] at hout hpos
      have hrg := (hle.fr hf hg (by simp)) k e (by rw [← he]; exact List.getElem?_eq_getElem hkl)
      obtain ⟨c0, c1, c2, c3, c4, c5, c6, c7, c8, c9, c10, c11, c12, c13, c14⟩ := cellsE hrg
      have HOUT := Lib.hid hout
      have HPOS := Lib.hid hpos
      have HF := Lib.hid hf
      have HEI := Lib.hid hei
      clear hout hf hei hdr hle hrg hpos
      obtain ⟨Lc, hLc⟩ : ∃ Lc, localI e.h = Lc := ⟨_, rfl⟩
      obtain ⟨Cc, hCc⟩ : ∃ Cc, centralI e.h (pos : Int) = Cc := ⟨_, rfl⟩
      have HLC := Lib.hid (fun w1 => localC e.h HEI.out.hd w1)
      rw [hLc] at HLC
      have hlen := congrArg List.length HOUT.out
      have hlp := HPOS.out
      simp only [dirI, filesI, List.length_append, hLc, hCc] at hlen hlp
      have hCC := fun w1 => centralC e.h HEI.out.hd (pos : Int) ⟨by omega, by omega⟩ w1
      rw [hCc] at hCC
      have HCC := Lib.hid hCC
      have q1 : ¬ 9223372036854775807 < Lc.length + e.data.length := by omega
      have q2 : ¬ 9223372036854775807 < out.length + Cc.length := by omega
      have q3 : IntKind.i64.wrap ((pos : Int) + ((Lc.length : Int) + (e.data.length : Int))) = (pos : Int) + ((Lc.length : Int) + (e.data.length : Int)) := IntWalk.i64_in _ (by omega)
      have HLc := Lib.hid hLc
      have HCc := Lib.hid hCc
      clear hLc hlen hlp hCC hCc
      go_wp2_with fail
      clear c0 c1 c2 c3 c4 c5 c6 c7 c8 c9 c10 c11 c12 c13 c14
      refine (HCC.out _).mono ?_
      rintro e2 w2 ⟨rfl, hf2⟩
      have k0 := mkE (e := e) (Blk.fr (Blk.new wr 38 (entL e).toArray) hf2 (by simp)) (((Fr.refl [] wr).alloc (.cells (entL e).toArray 38)).trans hf2 (by simp))
      obtain ⟨g2, hg2⟩ : ∃ g2, wr.heap.size = g2 := ⟨_, rfl⟩
      rw [hg2] at k0 ⊢
      clear hg2 hf2
      have k1 := keepE k0 ((Fr.refl [] _).drew)
      have K0 := Lib.hid k0
      have K1 := Lib.hid k1
      clear k0 k1
      go_wp2_with fail
      have k0 := K0.out
      have k1 := K1.out
      clear K0 K1
      go_region_held3 (fun w' => w'.cell? ⟨g2, 0, none⟩ = some (.string (bs e.h.name)) ∧ w'.cell? ⟨g2, 1, none⟩ = some (.string (bs e.h.comment)) ∧ w'.cell? ⟨g2, 2, none⟩ = some (.string (bs e.h.extra)) ∧ w'.cell? ⟨g2, 3, none⟩ = some (.bool e.h.non) ∧ w'.cell? ⟨g2, 4, none⟩ = some (.int .i64 e.h.creator) ∧ w'.cell? ⟨g2, 5, none⟩ = some (.int .i64 e.h.reader) ∧ w'.cell? ⟨g2, 6, none⟩ = some (.int .i64 e.h.flags) ∧ w'.cell? ⟨g2, 7, none⟩ = some (.int .i64 e.h.method) ∧ w'.cell? ⟨g2, 8, none⟩ = some (.int .i64 e.h.time) ∧ w'.cell? ⟨g2, 9, none⟩ = some (.int .i64 e.h.date) ∧ w'.cell? ⟨g2, 10, none⟩ = some (.int .i64 e.h.crc) ∧ w'.cell? ⟨g2, 11, none⟩ = some (.int .i64 e.h.packed) ∧ w'.cell? ⟨g2, 12, none⟩ = some (.int .i64 e.h.size) ∧ w'.cell? ⟨g2, 13, none⟩ = some (.int .i64 e.h.ext) ∧ w'.cell? ⟨g2, 14, none⟩ = some (.string (bs e.data)) ∧ Blk w' g2 38 (entL e).toArray ∧ Fr [] wr w')
        ((first | exact kk | exact k1 | assumption))
        ((first
          | (go_at_call 39; (with_reducible refine (HLC.out _).mono ?_); rintro e2 w3 ⟨rfl, hf2⟩; have kk := keepE (by assumption) hf2)))
      have HK := Lib.hid (blkE kk).2
      clear k0 k1 kk
      go_wp2_with fail
      exact ⟨⟨k + 1, pos + (Lc.length + e.data.length), out ++ Cc, by omega, by rw [Int.natCast_add]; rfl, by rw [Int.natCast_add, Int.natCast_add], by rw [bs_append], by rw [← HOUT.out]; simp [dirI, HLc.out, HCc.out], by have := HPOS.out; simp only [filesI, List.length_append, HLc.out] at this; omega, HF.out.trans HK.out (by simp)⟩, by simp [intOf]; omega⟩
    · obtain rfl : k = n := by omega
      have HF := Lib.hid hf
      have HO := Lib.hid hout
      clear hf hout
      go_wp2_with fail
      go_ret
      exact ⟨by rw [← HO.out, List.drop_of_length_le (by omega)]; simp [dirI], HF.out⟩
end Go.Proofs.YtalgnjkdoaaacaaGreatDoor

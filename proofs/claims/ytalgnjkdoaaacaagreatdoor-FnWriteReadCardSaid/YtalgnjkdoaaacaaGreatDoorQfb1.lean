/- spec.central. -/
import Derived.Test.YtalgnjkdoaaacaaGreatDoorQec
import Derived.Test.YtalgnjkdoaaacaaGreatDoorQds
import Derived.StillTailTactics
import Derived.Deep.MidRow
import Derived.Deep.AppendLies
set_option linter.unusedVariables false
set_option linter.unusedSimpArgs false
namespace Go.Proofs.YtalgnjkdoaaacaaGreatDoor
open Go Go.RowKit
open Zp
theorem infoRecS : (Tryz.prog.info? 50).map (fun i => i.size) = some 16 := by kernel_rfl
/-- A header's cells, as the directory tells them. -/
abbrev hdA (h : Hd) : Array Value := #[.string (bs h.name), .string (bs h.comment), .string (bs h.extra), .bool false, .int .i64 h.creator, .int .i64 h.reader, .int .i64 h.flags, .int .i64 h.method, .int .i64 h.time, .int .i64 h.date, .int .i64 h.crc, .int .i64 h.packed, .int .i64 h.size, .int .i64 h.ext]
abbrev recA (h : Hd) (pos : Nat) : Array Value := #[.string (bs h.name), .string (bs h.comment), .string (bs h.extra), .bool false, .int .i64 h.creator, .int .i64 h.reader, .int .i64 h.flags, .int .i64 h.method, .int .i64 h.time, .int .i64 h.date, .int .i64 h.crc, .int .i64 h.packed, .int .i64 h.size, .int .i64 h.ext, .int .i64 (pos : Int), .string ⟨#[]⟩]
abbrev recZ : Array Value := #[.string ⟨#[]⟩, .string ⟨#[]⟩, .string ⟨#[]⟩, .bool false, .int .i64 0, .int .i64 0, .int .i64 0, .int .i64 0, .int .i64 0, .int .i64 0, .int .i64 0, .int .i64 0, .int .i64 0, .int .i64 0, .int .i64 0, .string ⟨#[]⟩]
/-- A record is put into its block. -/
theorem recPut {w : World} {gr : Nat} (h : Hd) (pos : Nat) (hr : Blk w gr 50 recZ) : Blk ((((((((((((((((w.setCell ⟨gr, 0, none⟩ (.string (bs h.name))).setCell ⟨gr, 1, none⟩ (.string (bs h.comment))).setCell ⟨gr, 2, none⟩ (.string (bs h.extra))).setCell ⟨gr, 3, none⟩ (.bool false)).setCell ⟨gr, 4, none⟩ (.int .i64 h.creator)).setCell ⟨gr, 5, none⟩ (.int .i64 h.reader)).setCell ⟨gr, 6, none⟩ (.int .i64 h.flags)).setCell ⟨gr, 7, none⟩ (.int .i64 h.method)).setCell ⟨gr, 8, none⟩ (.int .i64 h.time)).setCell ⟨gr, 9, none⟩ (.int .i64 h.date)).setCell ⟨gr, 10, none⟩ (.int .i64 h.crc)).setCell ⟨gr, 11, none⟩ (.int .i64 h.packed)).setCell ⟨gr, 12, none⟩ (.int .i64 h.size)).setCell ⟨gr, 13, none⟩ (.int .i64 h.ext)).setCell ⟨gr, 14, none⟩ (.int .i64 (pos : Int))).setCell ⟨gr, 15, none⟩ (.string ⟨#[]⟩)) gr 50 (recA h pos) ∧ Fr [gr] w ((((((((((((((((w.setCell ⟨gr, 0, none⟩ (.string (bs h.name))).setCell ⟨gr, 1, none⟩ (.string (bs h.comment))).setCell ⟨gr, 2, none⟩ (.string (bs h.extra))).setCell ⟨gr, 3, none⟩ (.bool false)).setCell ⟨gr, 4, none⟩ (.int .i64 h.creator)).setCell ⟨gr, 5, none⟩ (.int .i64 h.reader)).setCell ⟨gr, 6, none⟩ (.int .i64 h.flags)).setCell ⟨gr, 7, none⟩ (.int .i64 h.method)).setCell ⟨gr, 8, none⟩ (.int .i64 h.time)).setCell ⟨gr, 9, none⟩ (.int .i64 h.date)).setCell ⟨gr, 10, none⟩ (.int .i64 h.crc)).setCell ⟨gr, 11, none⟩ (.int .i64 h.packed)).setCell ⟨gr, 12, none⟩ (.int .i64 h.size)).setCell ⟨gr, 13, none⟩ (.int .i64 h.ext)).setCell ⟨gr, 14, none⟩ (.int .i64 (pos : Int))).setCell ⟨gr, 15, none⟩ (.string ⟨#[]⟩)) := by
  have b0 : Blk (w.setCell ⟨gr, 0, none⟩ (.string (bs h.name))) gr 50 #[.string (bs h.name), .string ⟨#[]⟩, .string ⟨#[]⟩, .bool false, .int .i64 0, .int .i64 0, .int .i64 0, .int .i64 0, .int .i64 0, .int .i64 0, .int .i64 0, .int .i64 0, .int .i64 0, .int .i64 0, .int .i64 0, .string ⟨#[]⟩] := hr.set_ 0 (.string (bs h.name))
  have b1 : Blk ((w.setCell ⟨gr, 0, none⟩ (.string (bs h.name))).setCell ⟨gr, 1, none⟩ (.string (bs h.comment))) gr 50 #[.string (bs h.name), .string (bs h.comment), .string ⟨#[]⟩, .bool false, .int .i64 0, .int .i64 0, .int .i64 0, .int .i64 0, .int .i64 0, .int .i64 0, .int .i64 0, .int .i64 0, .int .i64 0, .int .i64 0, .int .i64 0, .string ⟨#[]⟩] := b0.set_ 1 (.string (bs h.comment))
  have b2 : Blk (((w.setCell ⟨gr, 0, none⟩ (.string (bs h.name))).setCell ⟨gr, 1, none⟩ (.string (bs h.comment))).setCell ⟨gr, 2, none⟩ (.string (bs h.extra))) gr 50 #[.string (bs h.name), .string (bs h.comment), .string (bs h.extra), .bool false, .int .i64 0, .int .i64 0, .int .i64 0, .int .i64 0, .int .i64 0, .int .i64 0, .int .i64 0, .int .i64 0, .int .i64 0, .int .i64 0, .int .i64 0, .string ⟨#[]⟩] := b1.set_ 2 (.string (bs h.extra))
  have b3 : Blk ((((w.setCell ⟨gr, 0, none⟩ (.string (bs h.name))).setCell ⟨gr, 1, none⟩ (.string (bs h.comment))).setCell ⟨gr, 2, none⟩ (.string (bs h.extra))).setCell ⟨gr, 3, none⟩ (.bool false)) gr 50 #[.string (bs h.name), .string (bs h.comment), .string (bs h.extra), .bool false, .int .i64 0, .int .i64 0, .int .i64 0, .int .i64 0, .int .i64 0, .int .i64 0, .int .i64 0, .int .i64 0, .int .i64 0, .int .i64 0, .int .i64 0, .string ⟨#[]⟩] := b2.set_ 3 (.bool false)
  have b4 : Blk (((((w.setCell ⟨gr, 0, none⟩ (.string (bs h.name))).setCell ⟨gr, 1, none⟩ (.string (bs h.comment))).setCell ⟨gr, 2, none⟩ (.string (bs h.extra))).setCell ⟨gr, 3, none⟩ (.bool false)).setCell ⟨gr, 4, none⟩ (.int .i64 h.creator)) gr 50 #[.string (bs h.name), .string (bs h.comment), .string (bs h.extra), .bool false, .int .i64 h.creator, .int .i64 0, .int .i64 0, .int .i64 0, .int .i64 0, .int .i64 0, .int .i64 0, .int .i64 0, .int .i64 0, .int .i64 0, .int .i64 0, .string ⟨#[]⟩] := b3.set_ 4 (.int .i64 h.creator)
  have b5 : Blk ((((((w.setCell ⟨gr, 0, none⟩ (.string (bs h.name))).setCell ⟨gr, 1, none⟩ (.string (bs h.comment))).setCell ⟨gr, 2, none⟩ (.string (bs h.extra))).setCell ⟨gr, 3, none⟩ (.bool false)).setCell ⟨gr, 4, none⟩ (.int .i64 h.creator)).setCell ⟨gr, 5, none⟩ (.int .i64 h.reader)) gr 50 #[.string (bs h.name), .string (bs h.comment), .string (bs h.extra), .bool false, .int .i64 h.creator, .int .i64 h.reader, .int .i64 0, .int .i64 0, .int .i64 0, .int .i64 0, .int .i64 0, .int .i64 0, .int .i64 0, .int .i64 0, .int .i64 0, .string ⟨#[]⟩] := b4.set_ 5 (.int .i64 h.reader)
  have b6 : Blk (((((((w.setCell ⟨gr, 0, none⟩ (.string (bs h.name))).setCell ⟨gr, 1, none⟩ (.string (bs h.comment))).setCell ⟨gr, 2, none⟩ (.string (bs h.extra))).setCell ⟨gr, 3, none⟩ (.bool false)).setCell ⟨gr, 4, none⟩ (.int .i64 h.creator)).setCell ⟨gr, 5, none⟩ (.int .i64 h.reader)).setCell ⟨gr, 6, none⟩ (.int .i64 h.flags)) gr 50 #[.string (bs h.name), .string (bs h.comment), .string (bs h.extra), .bool false, .int .i64 h.creator, .int .i64 h.reader, .int .i64 h.flags, .int .i64 0, .int .i64 0, .int .i64 0, .int .i64 0, .int .i64 0, .int .i64 0, .int .i64 0, .int .i64 0, .string ⟨#[]⟩] := b5.set_ 6 (.int .i64 h.flags)
  have b7 : Blk ((((((((w.setCell ⟨gr, 0, none⟩ (.string (bs h.name))).setCell ⟨gr, 1, none⟩ (.string (bs h.comment))).setCell ⟨gr, 2, none⟩ (.string (bs h.extra))).setCell ⟨gr, 3, none⟩ (.bool false)).setCell ⟨gr, 4, none⟩ (.int .i64 h.creator)).setCell ⟨gr, 5, none⟩ (.int .i64 h.reader)).setCell ⟨gr, 6, none⟩ (.int .i64 h.flags)).setCell ⟨gr, 7, none⟩ (.int .i64 h.method)) gr 50 #[.string (bs h.name), .string (bs h.comment), .string (bs h.extra), .bool false, .int .i64 h.creator, .int .i64 h.reader, .int .i64 h.flags, .int .i64 h.method, .int .i64 0, .int .i64 0, .int .i64 0, .int .i64 0, .int .i64 0, .int .i64 0, .int .i64 0, .string ⟨#[]⟩] := b6.set_ 7 (.int .i64 h.method)
  have b8 : Blk (((((((((w.setCell ⟨gr, 0, none⟩ (.string (bs h.name))).setCell ⟨gr, 1, none⟩ (.string (bs h.comment))).setCell ⟨gr, 2, none⟩ (.string (bs h.extra))).setCell ⟨gr, 3, none⟩ (.bool false)).setCell ⟨gr, 4, none⟩ (.int .i64 h.creator)).setCell ⟨gr, 5, none⟩ (.int .i64 h.reader)).setCell ⟨gr, 6, none⟩ (.int .i64 h.flags)).setCell ⟨gr, 7, none⟩ (.int .i64 h.method)).setCell ⟨gr, 8, none⟩ (.int .i64 h.time)) gr 50 #[.string (bs h.name), .string (bs h.comment), .string (bs h.extra), .bool false, .int .i64 h.creator, .int .i64 h.reader, .int .i64 h.flags, .int .i64 h.method, .int .i64 h.time, .int .i64 0, .int .i64 0, .int .i64 0, .int .i64 0, .int .i64 0, .int .i64 0, .string ⟨#[]⟩] := b7.set_ 8 (.int .i64 h.time)
  have b9 : Blk ((((((((((w.setCell ⟨gr, 0, none⟩ (.string (bs h.name))).setCell ⟨gr, 1, none⟩ (.string (bs h.comment))).setCell ⟨gr, 2, none⟩ (.string (bs h.extra))).setCell ⟨gr, 3, none⟩ (.bool false)).setCell ⟨gr, 4, none⟩ (.int .i64 h.creator)).setCell ⟨gr, 5, none⟩ (.int .i64 h.reader)).setCell ⟨gr, 6, none⟩ (.int .i64 h.flags)).setCell ⟨gr, 7, none⟩ (.int .i64 h.method)).setCell ⟨gr, 8, none⟩ (.int .i64 h.time)).setCell ⟨gr, 9, none⟩ (.int .i64 h.date)) gr 50 #[.string (bs h.name), .string (bs h.comment), .string (bs h.extra), .bool false, .int .i64 h.creator, .int .i64 h.reader, .int .i64 h.flags, .int .i64 h.method, .int .i64 h.time, .int .i64 h.date, .int .i64 0, .int .i64 0, .int .i64 0, .int .i64 0, .int .i64 0, .string ⟨#[]⟩] := b8.set_ 9 (.int .i64 h.date)
  have b10 : Blk (((((((((((w.setCell ⟨gr, 0, none⟩ (.string (bs h.name))).setCell ⟨gr, 1, none⟩ (.string (bs h.comment))).setCell ⟨gr, 2, none⟩ (.string (bs h.extra))).setCell ⟨gr, 3, none⟩ (.bool false)).setCell ⟨gr, 4, none⟩ (.int .i64 h.creator)).setCell ⟨gr, 5, none⟩ (.int .i64 h.reader)).setCell ⟨gr, 6, none⟩ (.int .i64 h.flags)).setCell ⟨gr, 7, none⟩ (.int .i64 h.method)).setCell ⟨gr, 8, none⟩ (.int .i64 h.time)).setCell ⟨gr, 9, none⟩ (.int .i64 h.date)).setCell ⟨gr, 10, none⟩ (.int .i64 h.crc)) gr 50 #[.string (bs h.name), .string (bs h.comment), .string (bs h.extra), .bool false, .int .i64 h.creator, .int .i64 h.reader, .int .i64 h.flags, .int .i64 h.method, .int .i64 h.time, .int .i64 h.date, .int .i64 h.crc, .int .i64 0, .int .i64 0, .int .i64 0, .int .i64 0, .string ⟨#[]⟩] := b9.set_ 10 (.int .i64 h.crc)
  have b11 : Blk ((((((((((((w.setCell ⟨gr, 0, none⟩ (.string (bs h.name))).setCell ⟨gr, 1, none⟩ (.string (bs h.comment))).setCell ⟨gr, 2, none⟩ (.string (bs h.extra))).setCell ⟨gr, 3, none⟩ (.bool false)).setCell ⟨gr, 4, none⟩ (.int .i64 h.creator)).setCell ⟨gr, 5, none⟩ (.int .i64 h.reader)).setCell ⟨gr, 6, none⟩ (.int .i64 h.flags)).setCell ⟨gr, 7, none⟩ (.int .i64 h.method)).setCell ⟨gr, 8, none⟩ (.int .i64 h.time)).setCell ⟨gr, 9, none⟩ (.int .i64 h.date)).setCell ⟨gr, 10, none⟩ (.int .i64 h.crc)).setCell ⟨gr, 11, none⟩ (.int .i64 h.packed)) gr 50 #[.string (bs h.name), .string (bs h.comment), .string (bs h.extra), .bool false, .int .i64 h.creator, .int .i64 h.reader, .int .i64 h.flags, .int .i64 h.method, .int .i64 h.time, .int .i64 h.date, .int .i64 h.crc, .int .i64 h.packed, .int .i64 0, .int .i64 0, .int .i64 0, .string ⟨#[]⟩] := b10.set_ 11 (.int .i64 h.packed)
  have b12 : Blk (((((((((((((w.setCell ⟨gr, 0, none⟩ (.string (bs h.name))).setCell ⟨gr, 1, none⟩ (.string (bs h.comment))).setCell ⟨gr, 2, none⟩ (.string (bs h.extra))).setCell ⟨gr, 3, none⟩ (.bool false)).setCell ⟨gr, 4, none⟩ (.int .i64 h.creator)).setCell ⟨gr, 5, none⟩ (.int .i64 h.reader)).setCell ⟨gr, 6, none⟩ (.int .i64 h.flags)).setCell ⟨gr, 7, none⟩ (.int .i64 h.method)).setCell ⟨gr, 8, none⟩ (.int .i64 h.time)).setCell ⟨gr, 9, none⟩ (.int .i64 h.date)).setCell ⟨gr, 10, none⟩ (.int .i64 h.crc)).setCell ⟨gr, 11, none⟩ (.int .i64 h.packed)).setCell ⟨gr, 12, none⟩ (.int .i64 h.size)) gr 50 #[.string (bs h.name), .string (bs h.comment), .string (bs h.extra), .bool false, .int .i64 h.creator, .int .i64 h.reader, .int .i64 h.flags, .int .i64 h.method, .int .i64 h.time, .int .i64 h.date, .int .i64 h.crc, .int .i64 h.packed, .int .i64 h.size, .int .i64 0, .int .i64 0, .string ⟨#[]⟩] := b11.set_ 12 (.int .i64 h.size)
  have b13 : Blk ((((((((((((((w.setCell ⟨gr, 0, none⟩ (.string (bs h.name))).setCell ⟨gr, 1, none⟩ (.string (bs h.comment))).setCell ⟨gr, 2, none⟩ (.string (bs h.extra))).setCell ⟨gr, 3, none⟩ (.bool false)).setCell ⟨gr, 4, none⟩ (.int .i64 h.creator)).setCell ⟨gr, 5, none⟩ (.int .i64 h.reader)).setCell ⟨gr, 6, none⟩ (.int .i64 h.flags)).setCell ⟨gr, 7, none⟩ (.int .i64 h.method)).setCell ⟨gr, 8, none⟩ (.int .i64 h.time)).setCell ⟨gr, 9, none⟩ (.int .i64 h.date)).setCell ⟨gr, 10, none⟩ (.int .i64 h.crc)).setCell ⟨gr, 11, none⟩ (.int .i64 h.packed)).setCell ⟨gr, 12, none⟩ (.int .i64 h.size)).setCell ⟨gr, 13, none⟩ (.int .i64 h.ext)) gr 50 #[.string (bs h.name), .string (bs h.comment), .string (bs h.extra), .bool false, .int .i64 h.creator, .int .i64 h.reader, .int .i64 h.flags, .int .i64 h.method, .int .i64 h.time, .int .i64 h.date, .int .i64 h.crc, .int .i64 h.packed, .int .i64 h.size, .int .i64 h.ext, .int .i64 0, .string ⟨#[]⟩] := b12.set_ 13 (.int .i64 h.ext)
  have b14 : Blk (((((((((((((((w.setCell ⟨gr, 0, none⟩ (.string (bs h.name))).setCell ⟨gr, 1, none⟩ (.string (bs h.comment))).setCell ⟨gr, 2, none⟩ (.string (bs h.extra))).setCell ⟨gr, 3, none⟩ (.bool false)).setCell ⟨gr, 4, none⟩ (.int .i64 h.creator)).setCell ⟨gr, 5, none⟩ (.int .i64 h.reader)).setCell ⟨gr, 6, none⟩ (.int .i64 h.flags)).setCell ⟨gr, 7, none⟩ (.int .i64 h.method)).setCell ⟨gr, 8, none⟩ (.int .i64 h.time)).setCell ⟨gr, 9, none⟩ (.int .i64 h.date)).setCell ⟨gr, 10, none⟩ (.int .i64 h.crc)).setCell ⟨gr, 11, none⟩ (.int .i64 h.packed)).setCell ⟨gr, 12, none⟩ (.int .i64 h.size)).setCell ⟨gr, 13, none⟩ (.int .i64 h.ext)).setCell ⟨gr, 14, none⟩ (.int .i64 (pos : Int))) gr 50 #[.string (bs h.name), .string (bs h.comment), .string (bs h.extra), .bool false, .int .i64 h.creator, .int .i64 h.reader, .int .i64 h.flags, .int .i64 h.method, .int .i64 h.time, .int .i64 h.date, .int .i64 h.crc, .int .i64 h.packed, .int .i64 h.size, .int .i64 h.ext, .int .i64 (pos : Int), .string ⟨#[]⟩] := b13.set_ 14 (.int .i64 (pos : Int))
  have b15 : Blk ((((((((((((((((w.setCell ⟨gr, 0, none⟩ (.string (bs h.name))).setCell ⟨gr, 1, none⟩ (.string (bs h.comment))).setCell ⟨gr, 2, none⟩ (.string (bs h.extra))).setCell ⟨gr, 3, none⟩ (.bool false)).setCell ⟨gr, 4, none⟩ (.int .i64 h.creator)).setCell ⟨gr, 5, none⟩ (.int .i64 h.reader)).setCell ⟨gr, 6, none⟩ (.int .i64 h.flags)).setCell ⟨gr, 7, none⟩ (.int .i64 h.method)).setCell ⟨gr, 8, none⟩ (.int .i64 h.time)).setCell ⟨gr, 9, none⟩ (.int .i64 h.date)).setCell ⟨gr, 10, none⟩ (.int .i64 h.crc)).setCell ⟨gr, 11, none⟩ (.int .i64 h.packed)).setCell ⟨gr, 12, none⟩ (.int .i64 h.size)).setCell ⟨gr, 13, none⟩ (.int .i64 h.ext)).setCell ⟨gr, 14, none⟩ (.int .i64 (pos : Int))).setCell ⟨gr, 15, none⟩ (.string ⟨#[]⟩)) gr 50 #[.string (bs h.name), .string (bs h.comment), .string (bs h.extra), .bool false, .int .i64 h.creator, .int .i64 h.reader, .int .i64 h.flags, .int .i64 h.method, .int .i64 h.time, .int .i64 h.date, .int .i64 h.crc, .int .i64 h.packed, .int .i64 h.size, .int .i64 h.ext, .int .i64 (pos : Int), .string ⟨#[]⟩] := b14.set_ 15 (.string ⟨#[]⟩)
  exact ⟨b15, (((((((((((((((((Fr.refl [gr] w).setCell (p := ⟨gr, 0, none⟩) (.inl (by simp)) _).setCell (p := ⟨gr, 1, none⟩) (.inl (by simp)) _).setCell (p := ⟨gr, 2, none⟩) (.inl (by simp)) _).setCell (p := ⟨gr, 3, none⟩) (.inl (by simp)) _).setCell (p := ⟨gr, 4, none⟩) (.inl (by simp)) _).setCell (p := ⟨gr, 5, none⟩) (.inl (by simp)) _).setCell (p := ⟨gr, 6, none⟩) (.inl (by simp)) _).setCell (p := ⟨gr, 7, none⟩) (.inl (by simp)) _).setCell (p := ⟨gr, 8, none⟩) (.inl (by simp)) _).setCell (p := ⟨gr, 9, none⟩) (.inl (by simp)) _).setCell (p := ⟨gr, 10, none⟩) (.inl (by simp)) _).setCell (p := ⟨gr, 11, none⟩) (.inl (by simp)) _).setCell (p := ⟨gr, 12, none⟩) (.inl (by simp)) _).setCell (p := ⟨gr, 13, none⟩) (.inl (by simp)) _).setCell (p := ⟨gr, 14, none⟩) (.inl (by simp)) _).setCell (p := ⟨gr, 15, none⟩) (.inl (by simp)) _)⟩
noncomputable def cenFrom (n : Nat) : Code := ((Tryz.f48.body.bind (sufHead n))).getD .skip
set_option maxRecDepth 100000 in
theorem frame115 {a : Act} (hs : a.tmps.size = 115) (hd : a.defers = []) : a = ⟨#[slotOf a 0, slotOf a 1, slotOf a 2, slotOf a 3, slotOf a 4, slotOf a 5, slotOf a 6, slotOf a 7, slotOf a 8, slotOf a 9, slotOf a 10, slotOf a 11, slotOf a 12, slotOf a 13, slotOf a 14, slotOf a 15, slotOf a 16, slotOf a 17, slotOf a 18, slotOf a 19, slotOf a 20, slotOf a 21, slotOf a 22, slotOf a 23, slotOf a 24, slotOf a 25, slotOf a 26, slotOf a 27, slotOf a 28, slotOf a 29, slotOf a 30, slotOf a 31, slotOf a 32, slotOf a 33, slotOf a 34, slotOf a 35, slotOf a 36, slotOf a 37, slotOf a 38, slotOf a 39, slotOf a 40, slotOf a 41, slotOf a 42, slotOf a 43, slotOf a 44, slotOf a 45, slotOf a 46, slotOf a 47, slotOf a 48, slotOf a 49, slotOf a 50, slotOf a 51, slotOf a 52, slotOf a 53, slotOf a 54, slotOf a 55, slotOf a 56, slotOf a 57, slotOf a 58, slotOf a 59, slotOf a 60, slotOf a 61, slotOf a 62, slotOf a 63, slotOf a 64, slotOf a 65, slotOf a 66, slotOf a 67, slotOf a 68, slotOf a 69, slotOf a 70, slotOf a 71, slotOf a 72, slotOf a 73, slotOf a 74, slotOf a 75, slotOf a 76, slotOf a 77, slotOf a 78, slotOf a 79, slotOf a 80, slotOf a 81, slotOf a 82, slotOf a 83, slotOf a 84, slotOf a 85, slotOf a 86, slotOf a 87, slotOf a 88, slotOf a 89, slotOf a 90, slotOf a 91, slotOf a 92, slotOf a 93, slotOf a 94, slotOf a 95, slotOf a 96, slotOf a 97, slotOf a 98, slotOf a 99, slotOf a 100, slotOf a 101, slotOf a 102, slotOf a 103, slotOf a 104, slotOf a 105, slotOf a 106, slotOf a 107, slotOf a 108, slotOf a 109, slotOf a 110, slotOf a 111, slotOf a 112, slotOf a 113, slotOf a 114], []⟩ := frame_of hs hd
def CenR (w0 : World) (p pos gr nl xl ml : Nat) (h : Hd) (a' : Act) (w' : World) : Prop := a'.defers = [] ∧ slotOf a' 4 = .pointer (some ⟨gr, 0, none⟩) ∧ slotOf a' 5 = .int .i64 ((p : Int) + 46 + (nl : Int) + (xl : Int) + (ml : Int)) ∧ slotOf a' 6 = .bool true ∧ Blk w' gr 50 (recA h pos) ∧ Fr [] w0 w'
set_option maxRecDepth 100000 in
set_option maxHeartbeats 8000000 in
theorem cen11 (p pos : Nat) (h : Hd) (a : Act) (w0 w4 : World) (gs gp gr gh nl xl ml : Nat) (hs : a.tmps.size = 115) (hd : a.defers = []) (s3 : slotOf a 3 = .pointer (some ⟨gp, 0, none⟩)) (s4 : slotOf a 4 = .pointer (some ⟨gr, 0, none⟩)) (s7 : slotOf a 7 = .func (Fn.func 80) #[] #[.pointer (some ⟨gs, 0, none⟩), .pointer (some ⟨gp, 0, none⟩)])
    (s8 : slotOf a 8 = .int .i64 (nl : Int)) (s9 : slotOf a 9 = .int .i64 (xl : Int)) (s10 : slotOf a 10 = .int .i64 (ml : Int)) (s11 : slotOf a 11 = .pointer (some ⟨gh, 0, none⟩)) (c2 : w4.cell? ⟨gp, 0, none⟩ = some (.int .i64 (p : Int))) (hb : Blk w4 gh 36 (hdA h)) (hr : Blk w4 gr 50 recZ) (hf : Fr [] w0 w4) (hgr : w0.heap.size ≤ gr) (hbd : p + 46 + nl + xl + ml ≤ 4000000000) (hgp : gp ≠ gr)
    (hc : Calls Tryz.prog 80 #[.int .i64 42, .int .i64 46, .pointer (some ⟨gs, 0, none⟩), .pointer (some ⟨gp, 0, none⟩)] w4.drew fun e w2 => e = .returned (.int .i64 (pos : Int)) ∧ w2 = w4.drew) :
    (cenFrom 11).wp Tryz.prog (RQ (CenR w0 p pos gr nl xl ml h)) a w4 := by
  have e0 := hb.at_ 0 (.string (bs h.name)) rfl
  have e1 := hb.at_ 1 (.string (bs h.comment)) rfl
  have e2 := hb.at_ 2 (.string (bs h.extra)) rfl
  have e3 := hb.at_ 3 (.bool false) rfl
  have e4 := hb.at_ 4 (.int .i64 h.creator) rfl
  have e5 := hb.at_ 5 (.int .i64 h.reader) rfl
  have e6 := hb.at_ 6 (.int .i64 h.flags) rfl
  have e7 := hb.at_ 7 (.int .i64 h.method) rfl
  have e8 := hb.at_ 8 (.int .i64 h.time) rfl
  have e9 := hb.at_ 9 (.int .i64 h.date) rfl
  have e10 := hb.at_ 10 (.int .i64 h.crc) rfl
  have e11 := hb.at_ 11 (.int .i64 h.packed) rfl
  have e12 := hb.at_ 12 (.int .i64 h.size) rfl
  have e13 := hb.at_ 13 (.int .i64 h.ext) rfl
  have r0 := hr.at_ 0 (.string ⟨#[]⟩) rfl
  have z0 := hr.frozen 0
  have r1 := hr.at_ 1 (.string ⟨#[]⟩) rfl
  have z1 := hr.frozen 1
  have r2 := hr.at_ 2 (.string ⟨#[]⟩) rfl
  have z2 := hr.frozen 2
  have r3 := hr.at_ 3 (.bool false) rfl
  have z3 := hr.frozen 3
  have r4 := hr.at_ 4 (.int .i64 0) rfl
  have z4 := hr.frozen 4
  have r5 := hr.at_ 5 (.int .i64 0) rfl
  have z5 := hr.frozen 5
  have r6 := hr.at_ 6 (.int .i64 0) rfl
  have z6 := hr.frozen 6
  have r7 := hr.at_ 7 (.int .i64 0) rfl
  have z7 := hr.frozen 7
  have r8 := hr.at_ 8 (.int .i64 0) rfl
  have z8 := hr.frozen 8
  have r9 := hr.at_ 9 (.int .i64 0) rfl
  have z9 := hr.frozen 9
  have r10 := hr.at_ 10 (.int .i64 0) rfl
  have z10 := hr.frozen 10
  have r11 := hr.at_ 11 (.int .i64 0) rfl
  have z11 := hr.frozen 11
  have r12 := hr.at_ 12 (.int .i64 0) rfl
  have z12 := hr.frozen 12
  have r13 := hr.at_ 13 (.int .i64 0) rfl
  have z13 := hr.frozen 13
  have r14 := hr.at_ 14 (.int .i64 0) rfl
  have z14 := hr.frozen 14
  have r15 := hr.at_ 15 (.string ⟨#[]⟩) rfl
  have z15 := hr.frozen 15
  have n1 : gp ≠ gr := hgp
  have n2 : gh ≠ gr := hb.ne_ hr (by decide)
  obtain ⟨hput, hpf⟩ := recPut h pos hr
  have hwr : IntKind.i64.wrap (IntKind.i64.wrap (IntKind.i64.wrap (IntKind.i64.wrap ((p : Int) + 46) + (nl : Int)) + (xl : Int)) + (ml : Int)) = (p : Int) + 46 + (nl : Int) + (xl : Int) + (ml : Int) := by
    rw [IntWalk.i64_in ((p : Int) + 46) (by omega), IntWalk.i64_in ((p : Int) + 46 + (nl : Int)) (by omega), IntWalk.i64_in ((p : Int) + 46 + (nl : Int) + (xl : Int)) (by omega), IntWalk.i64_in _ (by omega)]
  have HFIN := Lib.hid (fun (a' : Act) (q1 : a'.defers = []) (q2 : slotOf a' 4 = .pointer (some ⟨gr, 0, none⟩)) (q3 : slotOf a' 5 = .int .i64 (IntKind.i64.wrap (IntKind.i64.wrap (IntKind.i64.wrap (IntKind.i64.wrap ((p : Int) + 46) + (nl : Int)) + (xl : Int)) + (ml : Int)))) (q4 : slotOf a' 6 = .bool true) => (show RQ (CenR w0 p pos gr nl xl ml h) .ret a' (((((((((((((((((w4.setCell ⟨gr, 0, none⟩ (.string (bs h.name))).setCell ⟨gr, 1, none⟩ (.string (bs h.comment))).setCell ⟨gr, 2, none⟩ (.string (bs h.extra))).setCell ⟨gr, 3, none⟩ (.bool false)).setCell ⟨gr, 4, none⟩ (.int .i64 h.creator)).setCell ⟨gr, 5, none⟩ (.int .i64 h.reader)).setCell ⟨gr, 6, none⟩ (.int .i64 h.flags)).setCell ⟨gr, 7, none⟩ (.int .i64 h.method)).setCell ⟨gr, 8, none⟩ (.int .i64 h.time)).setCell ⟨gr, 9, none⟩ (.int .i64 h.date)).setCell ⟨gr, 10, none⟩ (.int .i64 h.crc)).setCell ⟨gr, 11, none⟩ (.int .i64 h.packed)).setCell ⟨gr, 12, none⟩ (.int .i64 h.size)).setCell ⟨gr, 13, none⟩ (.int .i64 h.ext)).setCell ⟨gr, 14, none⟩ (.int .i64 (pos : Int))).setCell ⟨gr, 15, none⟩ (.string ⟨#[]⟩))).drew from (show CenR w0 p pos gr nl xl ml h a' _ from ⟨q1, q2, q3.trans (by rw [hwr]), q4, hput.drew, (hf.trans hpf (by simp; omega)).drew⟩)))
  clear hput hpf hwr
  have HC := Lib.hid hc
  rw [frame115 hs hd, s3, s4, s7, s8, s9, s10, s11]
  clear hb hr hf hc hs hd s3 s4 s7 s8 s9 s10 s11
  conv => arg 2; whnf
  apply wp_seq_k; intro K hK
  go_region_law (first | (go_simp; go_at_call 80; (with_reducible refine HC.out.mono ?_); rintro e5 w5 ⟨rfl, hw5⟩; rw [hw5]; clear hw5 w5))
  all_goals (refine hK _ _ ?_; apply wp_ret; refine HFIN.out _ (by kernel_rfl) (by kernel_rfl) (by kernel_rfl) (by kernel_rfl))
end Go.Proofs.YtalgnjkdoaaacaaGreatDoor

/- spec.central. -/
namespace Go.Proofs.YtalgnjkdoaaacaaGreatDoor
open Go Go.RowKit
open Zp
theorem results_cell_tmp2 {fn : Func} {p u v : Tmp} {ty : TypeId} (h : fn.results = #[.cell p ty, .tmp u, .tmp v]) (tmps : Array Value) (P : Program) (w : World) :
    (results fn tmps).run P w =
      ((asAddr (tmps.getD p undef)).run P w).andThen fun a w₁ => ((loadVar ty a).run P w₁).andThen fun x w₂ => .ok (.tuple #[x, tmps.getD u undef, tmps.getD v undef]) w₂ := by
  simp only [results, h]
  simp [Sem.run_bind, Result.andThen]
theorem loadRec {w : World} {gr : Nat} {h : Hd} {pos : Nat} (hb : Blk w gr 50 (recA h pos)) : (loadVar 50 ⟨gr, 0, none⟩).run Tryz.prog w = .ok (.agg (recA h pos)) w :=
  run_loadVar_mid w gr 0 50 (recA h pos).toList _ (fun j u hj => by rw [Nat.zero_add]; exact hb.at_ j u (by simpa using hj)) Tryz.underlying50 rfl infoRecS
set_option maxRecDepth 100000 in
set_option maxHeartbeats 16000000 in
theorem centralS (s : By) (p pos : Nat) (h : Hd) (w : World) (hc : CentralAt s p h pos) (hsig : (s.drop p).take 4 = sigC) (hok : HdOk h) (hs : s.length ≤ 4000000000) :
    Calls Tryz.prog 48 #[.string (bs s), .int .i64 (p : Int)] w fun e w' => e = .returned (.tuple #[recV h (pos : Int) [], .int .i64 ((p + (centralB h pos).length : Nat) : Int), .bool true]) ∧ Fr [] w w' := by
  have hns := bs_size s
  have hlen := hc.raw.len
  have hall := hc.raw.all
  rw [hc.f28, hc.f30, hc.f32] at hall
  have HAT := Lib.hid (fun w' => atC s sigC p w' hs (by decide) (.inl (by decide)) (by omega))
  rw [show (s.drop p).take sigC.length = sigC from hsig, show decide (sigC = sigC) = true from decide_eq_true rfl] at HAT
  have hbs4 : bs sigC = ⟨#[80, 75, 1, 2]⟩ := rfl
  rw [hbs4] at HAT
  have HC := Lib.hid hc
  have HOK := Lib.hid hok
  clear hc hsig hok
  have hmf : ∀ (fn : Fn) (first cap : Array Value) (w : World), (Instr.makeFunc fn first cap).run Tryz.prog w = .ok (.func fn first cap) w := fun _ _ _ _ => rfl
  obtain ⟨⟨o1, p1⟩, ⟨o2, p2⟩, ⟨o3, p3⟩, ⟨o4, p4⟩, ⟨o5, p5⟩, ⟨o6, p6⟩, ⟨o7, p7⟩, ⟨o8, p8⟩, ⟨o9, p9⟩, ⟨o10, p10⟩, o11, o12, o13⟩ := HOK.out
  have HC28 := Lib.hid (fun (w' : World) (h1 : w'.cell? ⟨w.heap.size, 0, none⟩ = some (.string (bs s))) (h2 : w'.cell? ⟨w.heap.size + 1, 0, none⟩ = some (.int .i64 (p : Int))) => show Calls Tryz.prog 80 #[.int .i64 28, .int .i64 30, .pointer (some ⟨w.heap.size, 0, none⟩), .pointer (some ⟨w.heap.size + 1, 0, none⟩)] w' fun e w2 => e = .returned (.int .i64 (h.name.length : Int)) ∧ w2 = w' from by
    have := cenF' s p w.heap.size (w.heap.size + 1) 28 30 2 _ w' h1 h2 hlen hs HC.out.f28 (by decide) (by decide) (by decide)
    exact this)
  have HC30 := Lib.hid (fun (w' : World) (h1 : w'.cell? ⟨w.heap.size, 0, none⟩ = some (.string (bs s))) (h2 : w'.cell? ⟨w.heap.size + 1, 0, none⟩ = some (.int .i64 (p : Int))) => show Calls Tryz.prog 80 #[.int .i64 30, .int .i64 32, .pointer (some ⟨w.heap.size, 0, none⟩), .pointer (some ⟨w.heap.size + 1, 0, none⟩)] w' fun e w2 => e = .returned (.int .i64 (h.extra.length : Int)) ∧ w2 = w' from by
    have := cenF' s p w.heap.size (w.heap.size + 1) 30 32 2 _ w' h1 h2 hlen hs HC.out.f30 (by decide) (by decide) (by decide)
    exact this)
  have HC32 := Lib.hid (fun (w' : World) (h1 : w'.cell? ⟨w.heap.size, 0, none⟩ = some (.string (bs s))) (h2 : w'.cell? ⟨w.heap.size + 1, 0, none⟩ = some (.int .i64 (p : Int))) => show Calls Tryz.prog 80 #[.int .i64 32, .int .i64 34, .pointer (some ⟨w.heap.size, 0, none⟩), .pointer (some ⟨w.heap.size + 1, 0, none⟩)] w' fun e w2 => e = .returned (.int .i64 (h.comment.length : Int)) ∧ w2 = w' from by
    have := cenF' s p w.heap.size (w.heap.size + 1) 32 34 2 _ w' h1 h2 hlen hs HC.out.f32 (by decide) (by decide) (by decide)
    exact this)
  have HC4 := Lib.hid (fun (w' : World) (h1 : w'.cell? ⟨w.heap.size, 0, none⟩ = some (.string (bs s))) (h2 : w'.cell? ⟨w.heap.size + 1, 0, none⟩ = some (.int .i64 (p : Int))) => show Calls Tryz.prog 80 #[.int .i64 4, .int .i64 6, .pointer (some ⟨w.heap.size, 0, none⟩), .pointer (some ⟨w.heap.size + 1, 0, none⟩)] w' fun e w2 => e = .returned (.int .i64 h.creator) ∧ w2 = w' from by
    have := cenF' s p w.heap.size (w.heap.size + 1) 4 6 2 _ w' h1 h2 hlen hs HC.out.f4 (by decide) (by decide) (by decide)
    rw [Int.toNat_of_nonneg o1] at this
    exact this)
  have HC6 := Lib.hid (fun (w' : World) (h1 : w'.cell? ⟨w.heap.size, 0, none⟩ = some (.string (bs s))) (h2 : w'.cell? ⟨w.heap.size + 1, 0, none⟩ = some (.int .i64 (p : Int))) => show Calls Tryz.prog 80 #[.int .i64 6, .int .i64 8, .pointer (some ⟨w.heap.size, 0, none⟩), .pointer (some ⟨w.heap.size + 1, 0, none⟩)] w' fun e w2 => e = .returned (.int .i64 h.reader) ∧ w2 = w' from by
    have := cenF' s p w.heap.size (w.heap.size + 1) 6 8 2 _ w' h1 h2 hlen hs HC.out.f6 (by decide) (by decide) (by decide)
    rw [Int.toNat_of_nonneg o2] at this
    exact this)
  have HC8 := Lib.hid (fun (w' : World) (h1 : w'.cell? ⟨w.heap.size, 0, none⟩ = some (.string (bs s))) (h2 : w'.cell? ⟨w.heap.size + 1, 0, none⟩ = some (.int .i64 (p : Int))) => show Calls Tryz.prog 80 #[.int .i64 8, .int .i64 10, .pointer (some ⟨w.heap.size, 0, none⟩), .pointer (some ⟨w.heap.size + 1, 0, none⟩)] w' fun e w2 => e = .returned (.int .i64 h.flags) ∧ w2 = w' from by
    have := cenF' s p w.heap.size (w.heap.size + 1) 8 10 2 _ w' h1 h2 hlen hs HC.out.f8 (by decide) (by decide) (by decide)
    rw [Int.toNat_of_nonneg o3] at this
    exact this)
  have HC10 := Lib.hid (fun (w' : World) (h1 : w'.cell? ⟨w.heap.size, 0, none⟩ = some (.string (bs s))) (h2 : w'.cell? ⟨w.heap.size + 1, 0, none⟩ = some (.int .i64 (p : Int))) => show Calls Tryz.prog 80 #[.int .i64 10, .int .i64 12, .pointer (some ⟨w.heap.size, 0, none⟩), .pointer (some ⟨w.heap.size + 1, 0, none⟩)] w' fun e w2 => e = .returned (.int .i64 h.method) ∧ w2 = w' from by
    have := cenF' s p w.heap.size (w.heap.size + 1) 10 12 2 _ w' h1 h2 hlen hs HC.out.f10 (by decide) (by decide) (by decide)
    rw [Int.toNat_of_nonneg o4] at this
    exact this)
  have HC12 := Lib.hid (fun (w' : World) (h1 : w'.cell? ⟨w.heap.size, 0, none⟩ = some (.string (bs s))) (h2 : w'.cell? ⟨w.heap.size + 1, 0, none⟩ = some (.int .i64 (p : Int))) => show Calls Tryz.prog 80 #[.int .i64 12, .int .i64 14, .pointer (some ⟨w.heap.size, 0, none⟩), .pointer (some ⟨w.heap.size + 1, 0, none⟩)] w' fun e w2 => e = .returned (.int .i64 h.time) ∧ w2 = w' from by
    have := cenF' s p w.heap.size (w.heap.size + 1) 12 14 2 _ w' h1 h2 hlen hs HC.out.f12 (by decide) (by decide) (by decide)
    rw [Int.toNat_of_nonneg o5] at this
    exact this)
  have HC14 := Lib.hid (fun (w' : World) (h1 : w'.cell? ⟨w.heap.size, 0, none⟩ = some (.string (bs s))) (h2 : w'.cell? ⟨w.heap.size + 1, 0, none⟩ = some (.int .i64 (p : Int))) => show Calls Tryz.prog 80 #[.int .i64 14, .int .i64 16, .pointer (some ⟨w.heap.size, 0, none⟩), .pointer (some ⟨w.heap.size + 1, 0, none⟩)] w' fun e w2 => e = .returned (.int .i64 h.date) ∧ w2 = w' from by
    have := cenF' s p w.heap.size (w.heap.size + 1) 14 16 2 _ w' h1 h2 hlen hs HC.out.f14 (by decide) (by decide) (by decide)
    rw [Int.toNat_of_nonneg o6] at this
    exact this)
  have HC16 := Lib.hid (fun (w' : World) (h1 : w'.cell? ⟨w.heap.size, 0, none⟩ = some (.string (bs s))) (h2 : w'.cell? ⟨w.heap.size + 1, 0, none⟩ = some (.int .i64 (p : Int))) => show Calls Tryz.prog 80 #[.int .i64 16, .int .i64 20, .pointer (some ⟨w.heap.size, 0, none⟩), .pointer (some ⟨w.heap.size + 1, 0, none⟩)] w' fun e w2 => e = .returned (.int .i64 h.crc) ∧ w2 = w' from by
    have := cenF' s p w.heap.size (w.heap.size + 1) 16 20 4 _ w' h1 h2 hlen hs HC.out.f16 (by decide) (by decide) (by decide)
    rw [Int.toNat_of_nonneg o7] at this
    exact this)
  have HC20 := Lib.hid (fun (w' : World) (h1 : w'.cell? ⟨w.heap.size, 0, none⟩ = some (.string (bs s))) (h2 : w'.cell? ⟨w.heap.size + 1, 0, none⟩ = some (.int .i64 (p : Int))) => show Calls Tryz.prog 80 #[.int .i64 20, .int .i64 24, .pointer (some ⟨w.heap.size, 0, none⟩), .pointer (some ⟨w.heap.size + 1, 0, none⟩)] w' fun e w2 => e = .returned (.int .i64 h.packed) ∧ w2 = w' from by
    have := cenF' s p w.heap.size (w.heap.size + 1) 20 24 4 _ w' h1 h2 hlen hs HC.out.f20 (by decide) (by decide) (by decide)
    rw [Int.toNat_of_nonneg o8] at this
    exact this)
  have HC24 := Lib.hid (fun (w' : World) (h1 : w'.cell? ⟨w.heap.size, 0, none⟩ = some (.string (bs s))) (h2 : w'.cell? ⟨w.heap.size + 1, 0, none⟩ = some (.int .i64 (p : Int))) => show Calls Tryz.prog 80 #[.int .i64 24, .int .i64 28, .pointer (some ⟨w.heap.size, 0, none⟩), .pointer (some ⟨w.heap.size + 1, 0, none⟩)] w' fun e w2 => e = .returned (.int .i64 h.size) ∧ w2 = w' from by
    have := cenF' s p w.heap.size (w.heap.size + 1) 24 28 4 _ w' h1 h2 hlen hs HC.out.f24 (by decide) (by decide) (by decide)
    rw [Int.toNat_of_nonneg o9] at this
    exact this)
  have HC38 := Lib.hid (fun (w' : World) (h1 : w'.cell? ⟨w.heap.size, 0, none⟩ = some (.string (bs s))) (h2 : w'.cell? ⟨w.heap.size + 1, 0, none⟩ = some (.int .i64 (p : Int))) => show Calls Tryz.prog 80 #[.int .i64 38, .int .i64 42, .pointer (some ⟨w.heap.size, 0, none⟩), .pointer (some ⟨w.heap.size + 1, 0, none⟩)] w' fun e w2 => e = .returned (.int .i64 h.ext) ∧ w2 = w' from by
    have := cenF' s p w.heap.size (w.heap.size + 1) 38 42 4 _ w' h1 h2 hlen hs HC.out.f38 (by decide) (by decide) (by decide)
    rw [Int.toNat_of_nonneg o10] at this
    exact this)
  have HC42 := Lib.hid (fun (w' : World) (h1 : w'.cell? ⟨w.heap.size, 0, none⟩ = some (.string (bs s))) (h2 : w'.cell? ⟨w.heap.size + 1, 0, none⟩ = some (.int .i64 (p : Int))) => show Calls Tryz.prog 80 #[.int .i64 42, .int .i64 46, .pointer (some ⟨w.heap.size, 0, none⟩), .pointer (some ⟨w.heap.size + 1, 0, none⟩)] w' fun e w2 => e = .returned (.int .i64 (pos : Int)) ∧ w2 = w' from by
    have := cenF' s p w.heap.size (w.heap.size + 1) 42 46 4 _ w' h1 h2 hlen hs HC.out.f42 (by decide) (by decide) (by decide)
    exact this)
  have X1 : (bs s).extract (p + 46) (p + 46 + h.name.length) = bs h.name := by rw [bs_extract, show p + 46 + h.name.length - (p + 46) = h.name.length by omega, HC.out.nm]
  have X2 : (bs s).extract (p + 46 + h.name.length) (p + 46 + h.name.length + h.extra.length) = bs h.extra := by rw [bs_extract, show p + 46 + h.name.length + h.extra.length - (p + 46 + h.name.length) = h.extra.length by omega, HC.out.ex]
  have X3 : (bs s).extract (p + 46 + h.name.length + h.extra.length) (p + 46 + h.name.length + h.extra.length + h.comment.length) = bs h.comment := by rw [bs_extract, show p + 46 + h.name.length + h.extra.length + h.comment.length - (p + 46 + h.name.length + h.extra.length) = h.comment.length by omega, HC.out.cm]
  have hcl : (centralB h pos).length = 46 + h.name.length + h.extra.length + h.comment.length := centralB_length h pos
  have HX1 := Lib.hid X1
  have HX2 := Lib.hid X2
  have HX3 := Lib.hid X3
  have HCL := Lib.hid hcl
  clear X1 X2 X3 hcl
  obtain ⟨n, hn⟩ : ∃ n, s.length = n := ⟨_, rfl⟩
  rw [hn] at hns hlen hall hs
  obtain ⟨nl, hnl⟩ : ∃ x, h.name.length = x := ⟨_, rfl⟩
  obtain ⟨xl, hxl⟩ : ∃ x, h.extra.length = x := ⟨_, rfl⟩
  obtain ⟨ml, hml⟩ : ∃ x, h.comment.length = x := ⟨_, rfl⟩
  rw [hnl] at HC28 HX1 HX2 HX3 HCL hall
  rw [hxl] at HC30 HX2 HX3 HCL hall
  rw [hml] at HC32 HX3 HCL hall
  go_enter Tryz.func48, Tryz.ntmps48
  go_wp2_with fail
  refine (HAT.out _).mono ?_
  rintro e w1 ⟨rfl, hw1⟩
  rw [hw1]
  clear hw1 w1
  obtain ⟨w3, hw3⟩ : ∃ w3, (((w.alloc (.cells #[.string (bs s)] 9)).alloc (.cells #[.int .i64 (p : Int)] 3)).alloc (.cells #[.string ⟨#[]⟩, .string ⟨#[]⟩, .string ⟨#[]⟩, .bool false, .int .i64 0, .int .i64 0, .int .i64 0, .int .i64 0, .int .i64 0, .int .i64 0, .int .i64 0, .int .i64 0, .int .i64 0, .int .i64 0, .int .i64 0, .string ⟨#[]⟩] 50)) = w3 := ⟨_, rfl⟩
  have hb1 : Blk w3 w.heap.size 9 #[.string (bs s)] := by rw [← hw3]; exact ((Blk.new w _ _).alloc _).alloc _
  have hb2 : Blk w3 (w.heap.size + 1) 3 #[.int .i64 (p : Int)] := by
    rw [← hw3]
    have := Blk.new (w.alloc (.cells #[.string (bs s)] 9)) 3 #[.int .i64 (p : Int)]
    rw [World.size_alloc] at this
    exact this.alloc _
  have hb3 : Blk w3 (w.heap.size + 1 + 1) 50 #[.string ⟨#[]⟩, .string ⟨#[]⟩, .string ⟨#[]⟩, .bool false, .int .i64 0, .int .i64 0, .int .i64 0, .int .i64 0, .int .i64 0, .int .i64 0, .int .i64 0, .int .i64 0, .int .i64 0, .int .i64 0, .int .i64 0, .string ⟨#[]⟩] := by
    rw [← hw3]
    have := Blk.new ((w.alloc (.cells #[.string (bs s)] 9)).alloc (.cells #[.int .i64 (p : Int)] 3)) 50 #[.string ⟨#[]⟩, .string ⟨#[]⟩, .string ⟨#[]⟩, .bool false, .int .i64 0, .int .i64 0, .int .i64 0, .int .i64 0, .int .i64 0, .int .i64 0, .int .i64 0, .int .i64 0, .int .i64 0, .int .i64 0, .int .i64 0, .string ⟨#[]⟩]
    rw [World.size_alloc, World.size_alloc] at this
    exact this
  have hf3 : Fr [] w w3 := by rw [← hw3]; exact (((Fr.refl [] w).alloc _).alloc _).alloc _
  have hs3 : w3.heap.size = w.heap.size + 3 := by rw [← hw3, World.size_alloc, World.size_alloc, World.size_alloc]
  rw [hw3]
  clear hw3
  have c1 := hb1.at_ 0 (.string (bs s)) rfl
  have c2 := hb2.at_ 0 (.int .i64 (p : Int)) rfl
  have d1 : ∀ o, (w3.alloc o).cell? ⟨w.heap.size, 0, none⟩ = some (.string (bs s)) := fun o => (hb1.alloc o).at_ 0 _ rfl
  have d2 : ∀ o, (w3.alloc o).cell? ⟨w.heap.size + 1, 0, none⟩ = some (.int .i64 (p : Int)) := fun o => (hb2.alloc o).at_ 0 _ rfl
  have HB1 := Lib.hid hb1
  have HB2 := Lib.hid hb2
  have HB3 := Lib.hid hb3
  have HF3 := Lib.hid hf3
  clear hb1 hb2 hb3 hf3 HAT
  go_wp2_with fail
  refine (HC28.out _ c1 c2).mono ?_
  rintro e w4 ⟨rfl, hw4⟩
  rw [hw4]
  clear hw4 w4
  go_wp2_with fail
  refine (HC30.out _ c1 c2).mono ?_
  rintro e w4 ⟨rfl, hw4⟩
  rw [hw4]
  clear hw4 w4
  go_wp2_with fail
  refine (HC32.out _ c1 c2).mono ?_
  rintro e w4 ⟨rfl, hw4⟩
  rw [hw4]
  clear hw4 w4
  go_wp2_with fail
  refine (HC4.out _ c1 c2).mono ?_
  rintro e w4 ⟨rfl, hw4⟩
  rw [hw4]
  clear hw4 w4
  go_wp2_with fail
  refine (HC6.out _ c1 c2).mono ?_
  rintro e w4 ⟨rfl, hw4⟩
  rw [hw4]
  clear hw4 w4
  go_wp2_with fail
  refine (HC8.out _ c1 c2).mono ?_
  rintro e w4 ⟨rfl, hw4⟩
  rw [hw4]
  clear hw4 w4
  go_wp2_with fail
  refine (HC10.out _ c1 c2).mono ?_
  rintro e w4 ⟨rfl, hw4⟩
  rw [hw4]
  clear hw4 w4
  go_wp2_with fail
  refine (HC12.out _ c1 c2).mono ?_
  rintro e w4 ⟨rfl, hw4⟩
  rw [hw4]
  clear hw4 w4
  go_wp2_with fail
  refine (HC14.out _ c1 c2).mono ?_
  rintro e w4 ⟨rfl, hw4⟩
  rw [hw4]
  clear hw4 w4
  go_wp2_with fail
  refine (HC16.out _ c1 c2).mono ?_
  rintro e w4 ⟨rfl, hw4⟩
  rw [hw4]
  clear hw4 w4
  go_wp2_with fail
  refine (HC20.out _ c1 c2).mono ?_
  rintro e w4 ⟨rfl, hw4⟩
  rw [hw4]
  clear hw4 w4
  go_wp2_with fail
  refine (HC24.out _ c1 c2).mono ?_
  rintro e w4 ⟨rfl, hw4⟩
  rw [hw4]
  clear hw4 w4
  go_wp2_with fail
  refine (HC38.out _ c1 c2).mono ?_
  rintro e w4 ⟨rfl, hw4⟩
  rw [hw4]
  clear hw4 w4
  go_upto_region 10 with fail
  rename_i K hK
  have HK := Lib.hid (fun a w (h : (cenFrom 11).wp Tryz.prog _ a w) => hK a w (wp_code (c := cenFrom 11) (by kernel_rfl) h))
  clear hK
  go_wp2_with fail
  rw [HX1.out, HX2.out, HX3.out]
  obtain ⟨w4, hw4⟩ : ∃ w4, w3.alloc (.cells (hdA h) 36) = w4 := ⟨_, rfl⟩
  have hb4 : Blk w4 (w.heap.size + 3) 36 (hdA h) := by rw [← hw4, ← hs3]; exact Blk.new _ _ _
  have hr4 := HB3.out.alloc (.cells (hdA h) 36)
  have hf4 := HF3.out.alloc (.cells (hdA h) 36)
  have k1 := d1 (.cells (hdA h) 36)
  have k2 := d2 (.cells (hdA h) 36)
  rw [hw4] at hr4 hf4 k1 k2 ⊢
  clear hw4 d1 d2 HC4 HC6 HC8 HC10 HC12 HC14 HC16 HC20 HC24 HC28 HC30 HC32 HC38 c1 c2
  refine HK.out _ _ (wp_rq (cen11 p pos h _ w w4 w.heap.size (w.heap.size + 1) (w.heap.size + 1 + 1) (w.heap.size + 3) nl xl ml (by rfl) (by rfl) (by rfl) (by rfl) (by rfl) (by rfl) (by rfl) (by rfl) (by rfl) k2 hb4 hr4 hf4 (by omega) (by omega) (by omega) (HC42.out w4.drew k1 k2)) ?_)
  rintro a' w' ⟨q1, q2, q3, q4, q5, q6⟩
  refine bodyPost_ret (v := .tuple #[recV h (pos : Int) [], .int .i64 ((p + (centralB h pos).length : Nat) : Int), .bool true]) ?_ q1 ⟨rfl, q6⟩
  rw [results_cell_tmp2 rfl]
  rw [show a'.tmps.getD 4 undef = .pointer (some ⟨w.heap.size + 1 + 1, 0, none⟩) from q2, show a'.tmps.getD 5 undef = _ from q3, show a'.tmps.getD 6 undef = _ from q4]
  rw [show (asAddr (Value.pointer (some ⟨w.heap.size + 1 + 1, 0, none⟩))).run Tryz.prog w' = .ok ⟨w.heap.size + 1 + 1, 0, none⟩ w' from rfl, Result.andThen_ok, loadRec q5, Result.andThen_ok]
  rw [show ((p + (centralB h pos).length : Nat) : Int) = (p : Int) + 46 + (nl : Int) + (xl : Int) + (ml : Int) by have := HCL.out; omega]
end Go.Proofs.YtalgnjkdoaaacaaGreatDoor

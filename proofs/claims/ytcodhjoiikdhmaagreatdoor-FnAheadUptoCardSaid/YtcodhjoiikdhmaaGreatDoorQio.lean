/- The readers of package strings and io: strings.Reader (ReadAt), io.SectionReader (Read, Seek), io.NopCloser; errors.New. -/
import Derived.Test.YtcodhjoiikdhmaaGreatDoorProg
import Derived.Test.YtcodhjoiikdhmaaGreatDoorQw
import Derived.WalkKit
import Derived.WalkLawsBesides
import Derived.WalkSpells
import Derived.Handy
import Derived.Deep.QuietTactic
import Derived.BigQuiet
import Derived.Deep.RegionWith
import Derived.Deep.RegionHeld3
import Derived.LaidEql
set_option linter.unusedVariables false
set_option linter.unusedSimpArgs false
namespace Go.Proofs.YtcodhjoiikdhmaaGreatDoor
open Go Go.RowKit

abbrev str (l : List UInt8) : Value := .string ⟨l.toArray⟩
/-- The pointers that the errors of the packages hold. -/
structure Errs where
  fmt : Addr
  eof : Addr
  alg : Addr
  chk : Addr
  unx : Addr
  ins : Addr
abbrev errv (a : Addr) : Value := .iface 129 (.pointer (some a))
structure Env (E : Errs) (w : World) : Prop where
  fmt : w.cell? ⟨0, 0, none⟩ = some (errv E.fmt)
  eof : w.cell? ⟨1, 0, none⟩ = some (errv E.eof)
  alg : w.cell? ⟨2, 0, none⟩ = some (errv E.alg)
  chk : w.cell? ⟨3, 0, none⟩ = some (errv E.chk)
  unx : w.cell? ⟨4, 0, none⟩ = some (errv E.unx)
  ins : w.cell? ⟨5, 0, none⟩ = some (errv E.ins)

theorem Env.drewN {E : Errs} {w : World} (h : Env E w) (n : Nat) : Env E (w.drewN n) := ⟨h.fmt, h.eof, h.alg, h.chk, h.unx, h.ins⟩
/-- All variables that the calls read stand below block number 100. -/
theorem Env.below {E : Errs} {w w' : World} {B : Nat} (h : Env E w) (hb : Below B w w') (hB : 11 ≤ B) : Env E w' :=
  ⟨(hb.cell (by show _ < B; simp; omega)).trans h.fmt, (hb.cell (by show _ < B; simp; omega)).trans h.eof, (hb.cell (by show _ < B; simp; omega)).trans h.alg, (hb.cell (by show _ < B; simp; omega)).trans h.chk, (hb.cell (by show _ < B; simp; omega)).trans h.unx, (hb.cell (by show _ < B; simp; omega)).trans h.ins⟩
theorem Env.fr {E : Errs} {w w' : World} {S : List Nat} (h : Env E w) (hf : Fr S w w') (hS : ∀ s ∈ S, 11 ≤ s) (hw : 11 ≤ w.heap.size) : Env E w' := h.below (hf.below hS hw) (Nat.le_refl _)
theorem infoErrPtr : (Tryz.prog.info? 129).map (fun i => i.comparable) = some true := by kernel_rfl
theorem infoErr : (Tryz.prog.info? 131).map (fun i => i.size) = some 1 := by kernel_rfl
theorem eql_same (a : Addr) (w : World) : (binOp .eql 61 (errv a) (errv a)).run Tryz.prog w = .ok (.bool true) w := by
  obtain ⟨i, hi, hc⟩ := Option.map_eq_some_iff.1 infoErrPtr
  obtain ⟨j, hj, _⟩ := Option.map_eq_some_iff.1 infoErr
  exact run_eql_iface_ptr_same w a Tryz.underlying61 Tryz.underlying129 hi hc hj
theorem stringsNew_any (s : ByteArray) (w : World) :
    Calls Tryz.prog 41 #[.string s] w fun e w' => e = .returned (.pointer (some ⟨w.heap.size, 0, none⟩)) ∧ w' = w.alloc (.cells #[.string s, .int .i64 0, .int .i64 (-1)] 118) := by
  go_enter Tryz.func41, Tryz.ntmps41
  go_wp2
  go_ret
  exact ⟨rfl, rfl⟩
theorem errorsNew_any (s : ByteArray) (w : World) :
    Calls Tryz.prog 55 #[.string s] w fun e w' => e = .returned (errv ⟨w.heap.size, 0, none⟩) ∧ w' = w.alloc (.cells #[.string s] 131) := by
  go_enter Tryz.func55, Tryz.ntmps55
  go_wp2
  go_ret
  exact ⟨rfl, rfl⟩

theorem copyString (g o n c : Nat) (s : ByteArray) (cur : Array Value) (t : TypeId) (w : World) (hg : Blk w g t cur) (hfit : o + n ≤ cur.size) (hn : n ≤ s.size) :
    (Builtin.copy_ #[66, 9] 3 #[.slice (some ⟨g, o, none⟩) n c, .string s]).run Tryz.prog w = .ok (.int .i64 (n : Int)) (w.setRow g (spl cur o (s.data.toList.take n))) := by
  rw [run_copy_str w _ _ _ 5 g o n c s cur t Tryz.underlying66 (by kernel_rfl) hg hfit, show Nat.min s.size n = n from Nat.min_eq_right hn]; rfl

theorem copyRow (g o dLen dCap gs os sLen sCap : Nat) (l : List UInt8) (cur : Array Value) (t : TypeId) (w : World) (hg : Blk w g t cur) (hr : Rd w gs os l) (hl : l.length = min sLen dLen) (hfit : o + l.length ≤ cur.size) :
    (Builtin.copy_ #[66, 66] 3 #[.slice (some ⟨g, o, none⟩) dLen dCap, .slice (some ⟨gs, os, none⟩) sLen sCap]).run Tryz.prog w = .ok (.int .i64 (l.length : Int)) (w.setRow g (spl cur o l)) := by
  have hlen : (Lib.byteCells l).length = l.length := Lib.byteCells_length l
  have := run_copy_row (P := Tryz.prog) w 66 66 3 5 g o dLen dCap ⟨gs, os, none⟩ sLen sCap cur t (Lib.byteCells l) Tryz.underlying66 (by kernel_rfl) hg (by rw [hlen, hl])
    (fun j v hv => by
      simp only [Lib.byteCells, List.getElem?_map, Option.map_eq_some_iff] at hv
      obtain ⟨b, hb, rfl⟩ := hv
      have := hr j b hb
      unfold Addr.add
      split
      · subst j; exact this
      · exact this) (by rw [hlen]; exact hfit) (Lib.byteCells_one l)
  rw [this, hlen]
  simp [spl, goInt]
set_option maxRecDepth 100000 in
set_option maxHeartbeats 1000000 in
/-- ReadAt: the bytes are there. -/
theorem readAt_full (r g o n c off : Nat) (s : ByteArray) (cur : Array Value) (t : TypeId) (w : World) (hr : w.cell? ⟨r, 0, none⟩ = some (.string s)) (hg : Blk w g t cur) (hn : 0 < n) (hfit : o + n ≤ cur.size) (hl : off + n ≤ s.size) (_hs : s.size ≤ 4000000000) :
    Calls Tryz.prog 134 #[.pointer (some ⟨r, 0, none⟩), .slice (some ⟨g, o, none⟩) n c, .int .i64 (off : Int)] w fun e w' =>
      e = .returned (.tuple #[.int .i64 (n : Int), .nilIface]) ∧ w' = w.setRow g (spl cur o ((s.data.toList.drop off).take n)) := by
  have h1 : off < s.size := by omega
  have hcp := copyString g o n c (s.extract off s.size) cur t w hg hfit (by rw [ByteArray.size_extract]; omega)
  have he : (s.extract off s.size).data.toList = s.data.toList.drop off := by
    rw [Lib.extract_data]; exact List.take_of_length_le (by rw [List.length_drop, ← Lib.size_eq]; omega)
  rw [he] at hcp
  clear he
  go_enter Tryz.func134, Tryz.ntmps134
  go_wp2
  go_ret2
  exact ⟨rfl, rfl⟩
set_option maxRecDepth 100000 in
set_option maxHeartbeats 1000000 in
/-- ReadAt at the end or behind it. -/
theorem readAt_end (E : Errs) (r off : Nat) (v : Value) (s : ByteArray) (w : World) (hE : Env E w) (hr : w.cell? ⟨r, 0, none⟩ = some (.string s)) (ho : s.size ≤ off) (_hs : off ≤ 4000000000) :
    Calls Tryz.prog 134 #[.pointer (some ⟨r, 0, none⟩), v, .int .i64 (off : Int)] w fun e w' =>
      e = .returned (.tuple #[.int .i64 0, errv E.eof]) ∧ ∃ m, w' = w.drewN m := by
  have he := hE.eof
  clear hE
  go_enter Tryz.func134, Tryz.ntmps134
  go_wp2
  go_quiet (fail)
  go_wp2
  go_ret2
  exact ⟨rfl, _, rfl⟩
abbrev strRd (r : Nat) : Value := .iface 71 (.pointer (some ⟨r, 0, none⟩))
theorem newSection_any (r off n : Nat) (h : off + n ≤ 4000000000) (w : World) :
    Calls Tryz.prog 51 #[strRd r, .int .i64 (off : Int), .int .i64 (n : Int)] w fun e w' => e = .returned (.pointer (some ⟨w.heap.size, 0, none⟩)) ∧
      w' = w.alloc (.cells #[strRd r, .int .i64 (off : Int), .int .i64 (off : Int), .int .i64 ((off + n : Nat) : Int), .int .i64 (n : Int)] 128) := by
  go_enter Tryz.func51, Tryz.ntmps51
  go_wp2
  go_ret
  refine ⟨rfl, ?_⟩
  rw [Int.natCast_add, Int.add_comm]
theorem nilAhead_readAt (r : Nat) (w : World) : (nilAhead 157 71 (.pointer (some ⟨r, 0, none⟩)) "ReadAt").run Tryz.prog w = .ok (some false) w := by kernel_rfl
set_option maxRecDepth 100000 in
set_option maxHeartbeats 2000000 in
theorem secRead_full (b r g o n c base off lim N : Nat) (s : ByteArray) (cur : Array Value) (t : TypeId) (w : World)
    (hb : Blk w b 128 #[strRd r, .int .i64 (base : Int), .int .i64 (off : Int), .int .i64 (lim : Int), .int .i64 (N : Int)])
    (hr : w.cell? ⟨r, 0, none⟩ = some (.string s)) (hg : Blk w g t cur) (hn : 0 < n) (hfit : o + n ≤ cur.size) (hol : off + n ≤ lim) (hl : lim ≤ s.size) (hs : s.size ≤ 4000000000) (hbg : b ≠ g) :
    Calls Tryz.prog 140 #[.pointer (some ⟨b, 0, none⟩), .slice (some ⟨g, o, none⟩) n c] w fun e w' =>
      e = .returned (.tuple #[.int .i64 (n : Int), .nilIface]) ∧ ∃ m, w' = ((w.setRow g (spl cur o ((s.data.toList.drop off).take n))).setCell ⟨b, 2, none⟩ (.int .i64 ((off + n : Nat) : Int))).drewN m := by
  have c0 := hb.at_ 0 _ rfl
  have c2 := hb.at_ 2 _ rfl
  have c3 := hb.at_ 3 _ rfl
  have h1 : ¬ lim ≤ off := by omega
  have q := fun k => readAt_full r g o n c off s cur t (w.drewN k) hr hg hn hfit (by omega) hs
  have H := Lib.hid q
  clear q
  have kx : ∀ cs i, (w.setRow g cs).cell? ⟨b, i, none⟩ = w.cell? ⟨b, i, none⟩ := fun cs i => cell_setRow_other w g cs ⟨b, i, none⟩ hbg
  have kf : ∀ cs, (w.setRow g cs).frozen? ⟨b, 2, none⟩ = false := fun cs => (hb.rowFar hbg cs).frozen 2
  go_enter Tryz.func140, Tryz.ntmps140
  go_wp2_with fail
  go_quiet (fail)
  go_wp2_with fail
  go_quiet (fail)
  go_wp2_with fail
  go_region_held3 (fun w' => w'.cell? ⟨b, 0, none⟩ = some (strRd r) ∧ w'.cell? ⟨b, 2, none⟩ = some (.int .i64 (off : Int))) (go_keep) ((go_at_call 134; refine (H.out _).mono ?_; rintro e w1 ⟨rfl, rfl⟩))
  go_wp2
  go_ret2
  exact ⟨rfl, _, rfl⟩
set_option maxRecDepth 100000 in
set_option maxHeartbeats 2000000 in
theorem secRead_part (b r g o n c base off lim N k : Nat) (s : ByteArray) (cur : Array Value) (t : TypeId) (w : World)
    (hb : Blk w b 128 #[strRd r, .int .i64 (base : Int), .int .i64 (off : Int), .int .i64 (lim : Int), .int .i64 (N : Int)])
    (hr : w.cell? ⟨r, 0, none⟩ = some (.string s)) (hg : Blk w g t cur) (hk : off + k = lim) (hk0 : 0 < k) (hn : k < n) (hnc : n ≤ c) (hfit : o + n ≤ cur.size) (hl : lim ≤ s.size) (hs : s.size ≤ 4000000000) (hbg : b ≠ g) :
    Calls Tryz.prog 140 #[.pointer (some ⟨b, 0, none⟩), .slice (some ⟨g, o, none⟩) n c] w fun e w' =>
      e = .returned (.tuple #[.int .i64 (k : Int), .nilIface]) ∧ ∃ m, w' = ((w.setRow g (spl cur o ((s.data.toList.drop off).take k))).setCell ⟨b, 2, none⟩ (.int .i64 ((off + k : Nat) : Int))).drewN m := by
  subst hk
  have c0 := hb.at_ 0 (strRd r) rfl
  have c2 := hb.at_ 2 (.int .i64 (off : Int)) rfl
  have c3 := hb.at_ 3 (.int .i64 ((off : Int) + (k : Int))) rfl
  have h1 : ¬ off + k ≤ off := by omega
  have q := fun m => readAt_full r g o k c off s cur t (w.drewN m) hr hg hk0 (by omega) (by omega) hs
  have H := Lib.hid q
  clear q
  have kx : ∀ cs i, (w.setRow g cs).cell? ⟨b, i, none⟩ = w.cell? ⟨b, i, none⟩ := fun cs i => cell_setRow_other w g cs ⟨b, i, none⟩ hbg
  have kf : ∀ cs, (w.setRow g cs).frozen? ⟨b, 2, none⟩ = false := fun cs => (hb.rowFar hbg cs).frozen 2
  have e1 : (off : Int) + (k : Int) - (off : Int) = (k : Int) := by omega
  have e2 : (k : Int) ≤ (c : Int) := by omega
  have e3 : (k : Int) < (n : Int) := by omega
  go_enter Tryz.func140, Tryz.ntmps140
  go_wp2_with fail
  go_quiet (fail)
  go_wp2_with fail
  go_quiet (fail)
  go_wp2_with fail
  go_region_held3 (fun w' => w'.cell? ⟨b, 0, none⟩ = some (strRd r) ∧ w'.cell? ⟨b, 2, none⟩ = some (.int .i64 (off : Int))) (go_keep) ((go_at_call 134; refine (H.out _).mono ?_; rintro e w1 ⟨rfl, rfl⟩))
  go_wp2
  go_ret2
  exact ⟨rfl, _, rfl⟩
theorem secRead_data (b r g o n c base off lim N k : Nat) (s : ByteArray) (cur : Array Value) (t : TypeId) (w : World)
    (hb : Blk w b 128 #[strRd r, .int .i64 (base : Int), .int .i64 (off : Int), .int .i64 (lim : Int), .int .i64 (N : Int)])
    (hr : w.cell? ⟨r, 0, none⟩ = some (.string s)) (hg : Blk w g t cur) (hn : 0 < n) (hnc : n ≤ c) (hfit : o + n ≤ cur.size) (hol : off < lim) (hl : lim ≤ s.size) (hs : s.size ≤ 4000000000) (hbg : b ≠ g) (hk : k = min n (lim - off)) :
    Calls Tryz.prog 140 #[.pointer (some ⟨b, 0, none⟩), .slice (some ⟨g, o, none⟩) n c] w fun e w' =>
      e = .returned (.tuple #[.int .i64 (k : Int), .nilIface]) ∧ ∃ m, w' = ((w.setRow g (spl cur o ((s.data.toList.drop off).take k))).setCell ⟨b, 2, none⟩ (.int .i64 ((off + k : Nat) : Int))).drewN m := by
  by_cases h : off + n ≤ lim
  · obtain rfl : k = n := by omega
    exact secRead_full b r g o k c base off lim N s cur t w hb hr hg hn hfit h hl hs hbg
  · exact secRead_part b r g o n c base off lim N k s cur t w hb hr hg (by omega) (by omega) (by omega) hnc hfit hl hs hbg
set_option maxRecDepth 100000 in
set_option maxHeartbeats 2000000 in
theorem secRead_end (E : Errs) (b : Nat) (v rd : Value) (base off lim N : Nat) (w : World) (hE : Env E w)
    (hb : Blk w b 128 #[rd, .int .i64 (base : Int), .int .i64 (off : Int), .int .i64 (lim : Int), .int .i64 (N : Int)]) (h : lim ≤ off) :
    Calls Tryz.prog 140 #[.pointer (some ⟨b, 0, none⟩), v] w fun e w' =>
      e = .returned (.tuple #[.int .i64 0, errv E.eof]) ∧ ∃ m, w' = w.drewN m := by
  have c2 := hb.at_ 2 (.int .i64 (off : Int)) rfl
  have c3 := hb.at_ 3 (.int .i64 (lim : Int)) rfl
  have he := hE.eof
  clear hE
  go_enter Tryz.func140, Tryz.ntmps140
  go_wp2_with fail
  go_quiet (fail)
  go_wp2_with fail
  go_quiet (fail)
  go_wp2_with fail
  go_ret2
  refine ⟨rfl, ?_⟩
  simp only [World.drewN_drewN]
  exact ⟨_, rfl⟩
set_option maxRecDepth 100000 in
set_option maxHeartbeats 1000000 in
theorem secSeek_any (b : Nat) (rd : Value) (base off lim N to : Nat) (w : World)
    (hb : Blk w b 128 #[rd, .int .i64 (base : Int), .int .i64 (off : Int), .int .i64 (lim : Int), .int .i64 (N : Int)]) (h : base + to ≤ 4000000000) :
    Calls Tryz.prog 63 #[.pointer (some ⟨b, 0, none⟩), .int .i64 (to : Int), .int .i64 0] w fun e w' =>
      e = .returned (.tuple #[.int .i64 (to : Int), .nilIface]) ∧ w' = w.setCell ⟨b, 2, none⟩ (.int .i64 ((base + to : Nat) : Int)) := by
  have c1 := hb.at_ 1 (.int .i64 (base : Int)) rfl
  have c2 := hb.at_ 2 (.int .i64 (off : Int)) rfl
  have f2 := hb.frozen 2
  go_enter Tryz.func63, Tryz.ntmps63
  go_wp2
  go_ret2
  exact ⟨rfl, by rw [Int.natCast_add, Int.add_comm]⟩
end Go.Proofs.YtcodhjoiikdhmaaGreatDoor

/- bufio.Reader over an io.SectionReader over a strings.Reader: NewReader, Read. -/
import Derived.Test.YtcodhjoiikdhmaaGreatDoorQio
import Derived.Laws.MakeOwn
import Derived.Laws.CopyOwn
set_option linter.unusedVariables false
set_option linter.unusedSimpArgs false
namespace Go.Proofs.YtcodhjoiikdhmaaGreatDoor
open Go Go.RowKit

theorem run_make_rowN {P : Program} (t e : TypeId) (i : TypeInfo) (z : Value) (ht : P.underlying t = some (.slice e)) (hi : P.info? e = some i) (hz : i.zero = some z)
    (kl kc : IntKind) (n c : Nat) (hnc : n ≤ c) (hbytes : i.bytes * c ≤ 281474976710656) (h63 : c ≤ 9223372036854775807) (w : World) :
    (Instr.makeSlice t (.int kl (n : Int)) (.int kc (c : Int))).run P w = .ok (.slice (some ⟨w.heap.size, 0, none⟩) n c) (w.alloc (.cells (madeCells z.cells (c * i.size)) e)) := by
  have hb : (i.bytes : Int) * (c : Int) ≤ 281474976710656 := by
    have h : ((i.bytes * c : Nat) : Int) ≤ 281474976710656 := by omega
    rwa [Int.natCast_mul] at h
  have hr := run_make (P := P) w t e i z ht hi hz kl kc n c (by omega) (by omega) hb (by omega)
  simp only [Int.toNat_natCast] at hr
  exact hr
theorem infoByte : (Tryz.prog.info? 5).map (fun i => (i.zero, i.size, i.bytes)) = some (some (.int .u8 0), 1, 1) := by kernel_rfl
/-- A new row of n bytes. -/
def zeros (n : Nat) : Array Value := madeCells #[.int .u8 0] n
theorem zeros_size (n : Nat) : (zeros n).size = n := size_madeCells _ _
theorem zeros_get (n i : Nat) (h : i < n) : (zeros n)[i]? = some (.int .u8 0) := by
  simp [zeros, madeCells, h, Nat.mod_one]
theorem zeros_ones (n : Nat) : Ones (zeros n) := by
  intro v hv
  obtain ⟨i, hi, rfl⟩ := List.mem_iff_getElem.1 hv
  have hi' : i < n := by rw [Array.length_toList, zeros_size] at hi; exact hi
  have := zeros_get n i hi'
  rw [Array.getElem?_eq_getElem (by rw [zeros_size]; exact hi')] at this
  rw [Array.getElem_toList, Option.some.inj this]; rfl
theorem run_makeBytes (n c : Nat) (hnc : n ≤ c) (hc : c ≤ 4000000000) (w : World) :
    (Instr.makeSlice 66 (.int .i64 (n : Int)) (.int .i64 (c : Int))).run Tryz.prog w = .ok (.slice (some ⟨w.heap.size, 0, none⟩) n c) (w.alloc (.cells (zeros c) 5)) := by
  obtain ⟨i, hi, h0, h1, h2⟩ := info_parts infoByte
  have := run_make_rowN (P := Tryz.prog) 66 5 i (.int .u8 0) Tryz.underlying66 hi h0 .i64 .i64 n c hnc (by rw [h2]; omega) (by omega) w
  rw [h1, Nat.mul_one] at this
  exact this

abbrev secRd (b : Nat) : Value := .iface 100 (.pointer (some ⟨b, 0, none⟩))
/-- The string behind a strings.Reader. -/
def StrR (w : World) (r : Nat) (s : ByteArray) : Prop := Blk w r 118 #[.string s, .int .i64 0, .int .i64 (-1)]
def SecR (w : World) (b r base off lim n : Nat) : Prop := Blk w b 128 #[strRd r, .int .i64 (base : Int), .int .i64 (off : Int), .int .i64 (lim : Int), .int .i64 (n : Int)]
abbrev bufCells (gb b rdn wn : Nat) (e : Value) (lb lr : Int) : Array Value :=
  #[.slice (some ⟨gb, 0, none⟩) 4096 4096, secRd b, .int .i64 (rdn : Int), .int .i64 (wn : Int), e, .int .i64 lb, .int .i64 lr]
/-- A bufio.Reader (q, its buffer gb) over a section (b) of all of s, whose next byte is the one at pos. -/
structure BufS (w : World) (q gb b r : Nat) (s : ByteArray) (pos rdn wn off : Nat) (lb lr : Int) (cur : Array Value) : Prop where
  hq : Blk w q 173 (bufCells gb b rdn wn .nilIface lb lr)
  hgb : Blk w gb 5 cur
  hb : SecR w b r 0 off s.size s.size
  hr : StrR w r s
  hsize : cur.size = 4096
  hones : Ones cur
  hrw : rdn ≤ wn
  hw4 : wn ≤ 4096
  hoff : pos + (wn - rdn) = off
  hle : off ≤ s.size
  hrd : Rd w gb rdn ((s.data.toList.drop pos).take (wn - rdn))
  h18 : 11 ≤ q ∧ 11 ≤ gb ∧ 11 ≤ b ∧ 11 ≤ r
def BufR (w : World) (q gb b r : Nat) (s : ByteArray) (pos : Nat) : Prop := ∃ rdn wn off lb lr cur, BufS w q gb b r s pos rdn wn off lb lr cur
theorem BufS.fr {w w' : World} {q gb b r : Nat} {s : ByteArray} {pos rdn wn off : Nat} {lb lr : Int} {cur : Array Value} {S : List Nat} (h : BufS w q gb b r s pos rdn wn off lb lr cur) (hf : Fr S w w')
    (h1 : q ∉ S) (h2 : gb ∉ S) (h3 : b ∉ S) (h4 : r ∉ S) : BufS w' q gb b r s pos rdn wn off lb lr cur :=
  ⟨h.hq.fr hf h1, h.hgb.fr hf h2, Blk.fr h.hb hf h3, Blk.fr h.hr hf h4, h.hsize, h.hones, h.hrw, h.hw4, h.hoff, h.hle, h.hrd.fr hf h.hgb.lt h2, h.h18⟩
theorem BufR.h18 {w : World} {q gb b r : Nat} {s : ByteArray} {pos : Nat} (h : BufR w q gb b r s pos) : (11 ≤ q ∧ 11 ≤ gb ∧ 11 ≤ b ∧ 11 ≤ r) ∧ 11 ≤ w.heap.size := by
  obtain ⟨rdn, wn, off, lb, lr, cur, h⟩ := h
  have := h.hq.lt
  have := h.h18
  exact ⟨this, by omega⟩
theorem BufR.fr {w w' : World} {q gb b r : Nat} {s : ByteArray} {pos : Nat} {S : List Nat} (h : BufR w q gb b r s pos) (hf : Fr S w w') (h1 : q ∉ S) (h2 : gb ∉ S) (h3 : b ∉ S) (h4 : r ∉ S) : BufR w' q gb b r s pos := by
  obtain ⟨rdn, wn, off, lb, lr, cur, h⟩ := h
  exact ⟨_, _, _, _, _, _, h.fr hf h1 h2 h3 h4⟩

section
variable {w w' : World} {q gb b r : Nat} {s : ByteArray} {pos rdn wn off : Nat} {lb lr : Int} {cur : Array Value}
theorem BufS.ne_gb (h : BufS w q gb b r s pos rdn wn off lb lr cur) : q ≠ gb := h.hq.ne_ h.hgb (by decide)
theorem BufS.ne_b (h : BufS w q gb b r s pos rdn wn off lb lr cur) : q ≠ b := h.hq.ne_ h.hb (by decide)
theorem BufS.ne_r (h : BufS w q gb b r s pos rdn wn off lb lr cur) : q ≠ r := h.hq.ne_ h.hr (by decide)
theorem BufS.gb_b (h : BufS w q gb b r s pos rdn wn off lb lr cur) : gb ≠ b := h.hgb.ne_ h.hb (by decide)
theorem BufS.gb_r (h : BufS w q gb b r s pos rdn wn off lb lr cur) : gb ≠ r := h.hgb.ne_ h.hr (by decide)
theorem BufS.b_r (h : BufS w q gb b r s pos rdn wn off lb lr cur) : b ≠ r := Blk.ne_ h.hb h.hr (by decide)
/-- Only the reader's own cells have turned: k bytes have been taken. -/
theorem BufS.adv (h : BufS w q gb b r s pos rdn wn off lb lr cur) {k : Nat} {lb' lr' : Int} (hk : k ≤ wn - rdn) (hf : Fr [q] w w') (hq : Blk w' q 173 (bufCells gb b (rdn + k) wn .nilIface lb' lr')) :
    BufS w' q gb b r s (pos + k) (rdn + k) wn off lb' lr' cur := by
  have h1 := h.hoff
  have h2 := h.hrw
  refine ⟨hq, h.hgb.fr hf (by simpa using h.ne_gb.symm), Blk.fr h.hb hf (by simpa using h.ne_b.symm), Blk.fr h.hr hf (by simpa using h.ne_r.symm), h.hsize, h.hones, by omega, h.hw4, by omega, h.hle, ?_, h.h18⟩
  have h3 := (h.hrd.fr hf h.hgb.lt (by simpa using h.ne_gb.symm)).drop k
  rw [List.drop_take, List.drop_drop] at h3
  rw [show wn - (rdn + k) = wn - rdn - k by omega]
  exact h3
/-- The buffer, which was empty, has been filled with k bytes. -/
theorem BufS.fill (h : BufS w q gb b r s pos rdn rdn off lb lr cur) {k : Nat} {lb' lr' : Int} (hk4 : k ≤ 4096) (hk : off + k ≤ s.size) (hf : Fr [q, gb, b] w w') (hq : Blk w' q 173 (bufCells gb b 0 k .nilIface lb' lr'))
    (hg : Blk w' gb 5 (spl cur 0 ((s.data.toList.drop off).take k))) (hb : SecR w' b r 0 (off + k) s.size s.size) :
    BufS w' q gb b r s pos 0 k (off + k) lb' lr' (spl cur 0 ((s.data.toList.drop off).take k)) := by
  have h1 := h.hoff
  have hsz := Lib.size_eq s
  have hpos : pos = off := by omega
  subst hpos
  have hl : ((s.data.toList.drop pos).take k).length = k := by rw [List.length_take, List.length_drop]; omega
  refine ⟨hq, hg, hb, Blk.fr h.hr hf (by have := h.ne_r; have := h.gb_r; have := h.b_r; simp; omega), ?_, h.hones.spl, Nat.zero_le _, hk4, by omega, hk, ?_, h.h18⟩
  · rw [spl_size (by rw [hl, h.hsize]; omega), h.hsize]
  · rw [Nat.sub_zero]
    exact Rd.spl hg (by rw [hl, h.hsize]; omega)
end
set_option maxRecDepth 100000 in
set_option maxHeartbeats 1000000 in
theorem bufReset_any (q gb b : Nat) (v0 v1 v2 v3 v4 v5 v6 : Value) (w : World) (hq : Blk w q 173 #[v0, v1, v2, v3, v4, v5, v6]) :
    Calls Tryz.prog 89 #[.pointer (some ⟨q, 0, none⟩), .slice (some ⟨gb, 0, none⟩) 4096 4096, secRd b] w fun e w' =>
      e = .returned (.tuple #[]) ∧ Blk w' q 173 (bufCells gb b 0 0 .nilIface (-1) (-1)) ∧ Fr [q] w w' ∧ w'.heap.size = w.heap.size := by
  have c0 := hq.at_ 0 v0 rfl
  have c1 := hq.at_ 1 v1 rfl
  have c2 := hq.at_ 2 v2 rfl
  have c3 := hq.at_ 3 v3 rfl
  have c4 := hq.at_ 4 v4 rfl
  have c5 := hq.at_ 5 v5 rfl
  have c6 := hq.at_ 6 v6 rfl
  have f0 := hq.frozen 0
  have f1 := hq.frozen 1
  have f2 := hq.frozen 2
  have f3 := hq.frozen 3
  have f4 := hq.frozen 4
  have f5 := hq.frozen 5
  have f6 := hq.frozen 6
  have HQ := Lib.hid hq
  go_enter Tryz.func89, Tryz.ntmps89
  go_wp2
  go_end0
  refine ⟨rfl, ((((((HQ.out.set_ 0 _).set_ 1 _).set_ 2 _).set_ 3 _).set_ 4 _).set_ 5 _).set_ 6 _, ?_, by simp⟩
  exact (((((((Fr.refl [q] w).setCell (.inl (by simp)) _).setCell (.inl (by simp)) _).setCell (.inl (by simp)) _).setCell (.inl (by simp)) _).setCell (.inl (by simp)) _).setCell (.inl (by simp)) _).setCell (.inl (by simp)) _
set_option maxRecDepth 100000 in
set_option maxHeartbeats 1000000 in
theorem bufNew_any (b r pos : Nat) (s : ByteArray) (w : World) (hb : SecR w b r 0 pos s.size s.size) (hr : StrR w r s) (hp : pos ≤ s.size) (h18 : 11 ≤ b ∧ 11 ≤ r) :
    Calls Tryz.prog 73 #[secRd b, .int .i64 4096] w fun e w' => ∃ q gb, e = .returned (.pointer (some ⟨q, 0, none⟩)) ∧ BufR w' q gb b r s pos ∧ w.heap.size ≤ q ∧ w.heap.size ≤ gb ∧ Fr [] w w' := by
  have hta : ∀ w, (Instr.typeAssert (secRd b) 106 138 true).run Tryz.prog w = .ok (.tuple #[.pointer none, .bool false]) w := fun w => by kernel_rfl
  have hmk : ∀ w, (Instr.makeSlice 66 (.int .i64 4096) (.int .i64 4096)).run Tryz.prog w = .ok (.slice (some ⟨w.heap.size, 0, none⟩) 4096 4096) (w.alloc (.cells (zeros 4096) 5)) := fun w => run_makeBytes 4096 4096 (Nat.le_refl _) (by decide) w
  go_enter Tryz.func73, Tryz.ntmps73
  go_wp2_with fail
  refine (bufReset_any w.heap.size (w.heap.size + 1) b _ _ _ _ _ _ _ _ ((Blk.new _ _ _).alloc _)).mono ?_
  rintro e w1 ⟨rfl, h1, h2, h3⟩
  go_wp2_with fail
  have hsz := hb.lt
  have hrz := hr.lt
  have hgb := Blk.new (w.alloc (.cells #[.slice none 0 0, .nilIface, .int .i64 0, .int .i64 0, .nilIface, .int .i64 0, .int .i64 0] 173)) 5 (zeros 4096)
  rw [World.size_alloc] at hgb
  go_ret
  refine ⟨w.heap.size, w.heap.size + 1, rfl, ⟨0, 0, pos, -1, -1, zeros 4096, ⟨h1, hgb.fr h2 (by simp), Blk.fr (Blk.alloc (Blk.alloc hb _) _) h2 (by simp; omega), Blk.fr (Blk.alloc (Blk.alloc hr _) _) h2 (by simp; omega), zeros_size _, zeros_ones _, Nat.le_refl _, by omega, by omega, hp, by simpa using Rd.nil_ _ _ _, by omega⟩⟩, Nat.le_refl _, by omega, ?_⟩
  exact (((Fr.refl [] w).alloc _).alloc _).trans h2 (fun s hs => by simp at hs; subst hs; exact .inr (Nat.le_refl _))
theorem bufNewReader_any (b r pos : Nat) (s : ByteArray) (w : World) (hb : SecR w b r 0 pos s.size s.size) (hr : StrR w r s) (hp : pos ≤ s.size) (h18 : 11 ≤ b ∧ 11 ≤ r) :
    Calls Tryz.prog 64 #[secRd b] w fun e w' => ∃ q gb, e = .returned (.pointer (some ⟨q, 0, none⟩)) ∧ BufR w' q gb b r s pos ∧ w.heap.size ≤ q ∧ w.heap.size ≤ gb ∧ Fr [] w w' := by
  go_enter Tryz.func64, Tryz.ntmps64
  go_wp2_with fail
  refine (bufNew_any b r pos s _ hb hr hp h18).mono ?_
  rintro e w1 ⟨q, gb, rfl, h⟩
  go_wp2_with fail
  go_ret
  exact ⟨q, gb, rfl, h⟩
set_option maxRecDepth 100000 in
theorem bufReadErr_any (q gb b rdn wn : Nat) (ev : Option Addr) (lb lr : Int) (w : World) (hq : Blk w q 173 (bufCells gb b rdn wn (ev.elim .nilIface fun a => errv a) lb lr)) :
    Calls Tryz.prog 158 #[.pointer (some ⟨q, 0, none⟩)] w fun e w' => e = .returned (ev.elim .nilIface fun a => errv a) ∧ w' = w.setCell ⟨q, 4, none⟩ .nilIface := by
  have c4 := hq.at_ 4 _ rfl
  have f4 := hq.frozen 4
  cases ev <;> simp only [Option.elim] at c4 ⊢
  all_goals
    go_enter Tryz.func158, Tryz.ntmps158
    go_wp2
    go_ret
    exact ⟨rfl, rfl⟩
end Go.Proofs.YtcodhjoiikdhmaaGreatDoor

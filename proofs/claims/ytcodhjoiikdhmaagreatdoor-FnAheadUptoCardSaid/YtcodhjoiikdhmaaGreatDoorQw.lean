/- Words on memory that the contracts of this claim use: what a call may have turned, blocks that are known whole, rows of bytes. -/
import Derived.Below
import Derived.Laws.OwnMore
import Derived.Deep.AppendLies
import Derived.Deep.Draws
import Derived.Laws.Rows
import Derived.Laws.Tables
import Derived.Laws.BitsAllLaws
import Derived.Laws.BitsLemmas
import Derived.Lib.Hide
import Derived.WalkKit
import Derived.Lib.BufferWrite
set_option linter.unusedVariables false
set_option linter.unusedSimpArgs false
namespace Go.Proofs.YtcodhjoiikdhmaaGreatDoor
open Go Go.RowKit

/-- All blocks that were there and are not listed are as they were. -/
structure Fr (S : List Nat) (w w' : World) : Prop where
  os : w'.os = w.os
  tape : w'.tape = w.tape
  output : w'.output = w.output
  size : w.heap.size ≤ w'.heap.size
  block : ∀ k, k < w.heap.size → k ∉ S → w'.heap[k]? = w.heap[k]?

namespace Fr
variable {S S' : List Nat} {w w1 w2 : World}
theorem refl (S : List Nat) (w : World) : Fr S w w := ⟨rfl, rfl, rfl, Nat.le_refl _, fun _ _ _ => rfl⟩
theorem trans (h : Fr S w w1) (k : Fr S' w1 w2) (hs : ∀ s ∈ S', s ∈ S ∨ w.heap.size ≤ s) : Fr S w w2 :=
  ⟨k.os.trans h.os, k.tape.trans h.tape, k.output.trans h.output, Nat.le_trans h.size k.size, fun i hi hn => (k.block i (Nat.lt_of_lt_of_le hi h.size) (fun hm => by
    rcases hs i hm with h1 | h1
    · exact hn h1
    · omega)).trans (h.block i hi hn)⟩
theorem mono (h : Fr S w w1) (hs : ∀ s ∈ S, s ∈ S' ∨ w.heap.size ≤ s) : Fr S' w w1 :=
  ⟨h.os, h.tape, h.output, h.size, fun i hi hn => h.block i hi (fun hm => by
    rcases hs i hm with h1 | h1
    · exact hn h1
    · omega)⟩
theorem drew (h : Fr S w w1) : Fr S w w1.drew := ⟨h.os, h.tape, h.output, h.size, h.block⟩
theorem drewN (h : Fr S w w1) (n : Nat) : Fr S w (w1.drewN n) := ⟨h.os, h.tape, h.output, h.size, h.block⟩
theorem alloc (h : Fr S w w1) (o : Obj) : Fr S w (w1.alloc o) :=
  ⟨h.os, h.tape, h.output, Nat.le_trans h.size (by simp), fun i hi hn => (Below.heap_alloc w1 o i (Nat.lt_of_lt_of_le hi h.size)).trans (h.block i hi hn)⟩
theorem setCell (h : Fr S w w1) {p : Addr} (hp : p.block ∈ S ∨ w.heap.size ≤ p.block) (u : Value) : Fr S w (w1.setCell p u) :=
  ⟨h.os, h.tape, h.output, by simpa [World.setCell] using h.size, fun i hi hn => (Below.heap_setCell w1 p u i (fun e => by
    subst e
    rcases hp with h1 | h1
    · exact hn h1
    · omega)).trans (h.block i hi hn)⟩
theorem setRow (h : Fr S w w1) {g : Nat} (hp : g ∈ S ∨ w.heap.size ≤ g) (cs : Array Value) : Fr S w (w1.setRow g cs) :=
  ⟨h.os, h.tape, h.output, by simpa using h.size, fun i hi hn => (setRow_other w1 g i cs (fun e => by
    subst e
    rcases hp with h1 | h1
    · exact hn h1
    · omega)).trans (h.block i hi hn)⟩
theorem below (h : Fr S w w1) {B : Nat} (hs : ∀ s ∈ S, B ≤ s) (hB : B ≤ w.heap.size) : Below B w w1 :=
  ⟨h.os, h.tape, h.output, h.size, fun k hk => h.block k (by omega) (fun hm => by have := hs k hm; omega)⟩
theorem of_below {B : Nat} (h : Below B w w1) (hB : w.heap.size ≤ B) (S : List Nat) : Fr S w w1 := ⟨h.os, h.tape, h.output, h.size, fun k hk _ => h.block k (by omega)⟩
theorem of_grown {row : Option Nat} (h : w.grownBy w1 row) (hs : ∀ k, row = some k → k ∈ S ∨ w.heap.size ≤ k) : Fr S w w1 :=
  ⟨h.os, h.tape, h.output, h.size, fun k hk hn => h.block k hk (fun e => by
    rcases hs k e.symm with h1 | h1
    · exact hn h1
    · omega)⟩
theorem cell (h : Fr S w w1) {p : Addr} (hp : p.block < w.heap.size) (hn : p.block ∉ S) : w1.cell? p = w.cell? p := World.cell?_of_block (w := w) (h.block _ hp hn)
theorem frozen (h : Fr S w w1) {p : Addr} (hp : p.block < w.heap.size) (hn : p.block ∉ S) : w1.frozen? p = w.frozen? p := World.frozen?_of_block (w := w) (h.block _ hp hn)
end Fr

/-- Block g is just these cells of type t, none of them frozen. -/
def Blk (w : World) (g : Nat) (t : TypeId) (cs : Array Value) : Prop := w.heap[g]? = some (.cells cs t (0, 0))
namespace Blk
variable {w w' : World} {g : Nat} {t : TypeId} {cs : Array Value}
theorem lt (h : Blk w g t cs) : g < w.heap.size := by
  rcases Nat.lt_or_ge g w.heap.size with hlt | hge
  · exact hlt
  · unfold Blk at h; rw [Array.getElem?_eq_none hge] at h; cases h
theorem cell (h : Blk w g t cs) (i : Nat) : w.cell? ⟨g, i, none⟩ = cs[i]? := cell_of_row w g i cs t (0, 0) h
theorem at_ (h : Blk w g t cs) (i : Nat) (v : Value) (hv : cs[i]? = some v) : w.cell? ⟨g, i, none⟩ = some v := (h.cell i).trans hv
theorem frozen (h : Blk w g t cs) (i : Nat) : w.frozen? ⟨g, i, none⟩ = false := by
  unfold Blk at h
  simp [World.frozen?, h]
theorem new (w : World) (t : TypeId) (cs : Array Value) : Blk (w.alloc (.cells cs t)) w.heap.size t cs := heap_alloc_new w _
theorem drew (h : Blk w g t cs) : Blk w.drew g t cs := h
theorem drewN (h : Blk w g t cs) (n : Nat) : Blk (w.drewN n) g t cs := h
theorem alloc (h : Blk w g t cs) (o : Obj) : Blk (w.alloc o) g t cs := (Below.heap_alloc w o g h.lt).trans h
theorem set_ (h : Blk w g t cs) (i : Nat) (u : Value) : Blk (w.setCell ⟨g, i, none⟩ u) g t (cs.setIfInBounds i u) := by
  unfold Blk at h ⊢
  simp [World.setCell, Array.getElem?_modify, h]
theorem far (h : Blk w g t cs) {p : Addr} (hp : g ≠ p.block) (u : Value) : Blk (w.setCell p u) g t cs := (Below.heap_setCell w p u g hp).trans h
theorem row (h : Blk w g t cs) (cs' : Array Value) : Blk (w.setRow g cs') g t cs' := setRow_heap w g cs cs' t (0, 0) h
theorem rowFar (h : Blk w g t cs) {g' : Nat} (hp : g ≠ g') (cs' : Array Value) : Blk (w.setRow g' cs') g t cs := (setRow_other w g' g cs' hp).trans h
theorem fr {S : List Nat} (h : Blk w g t cs) (hf : Fr S w w') (hn : g ∉ S) : Blk w' g t cs := (hf.block g h.lt hn).trans h
theorem below {B : Nat} (h : Blk w g t cs) (hb : Below B w w') (hg : g < B) : Blk w' g t cs := (hb.block g hg).trans h
theorem ne_ {g' : Nat} {t' : TypeId} {cs' : Array Value} (h : Blk w g t cs) (h' : Blk w g' t' cs') (hne : t ≠ t') : g ≠ g' := by
  rintro rfl
  unfold Blk at h h'
  rw [h] at h'
  injection h' with h'
  injection h' with _ ht
  exact hne ht
theorem inj {t' : TypeId} {cs' : Array Value} (h : Blk w g t cs) (h' : Blk w g t' cs') : cs = cs' := by
  unfold Blk at h h'
  rw [h] at h'
  injection h' with h'
  injection h'
end Blk

/-- A byte as a cell holds it. -/
abbrev vb (b : UInt8) : Value := .int .u8 (b.toNat : Int)
/-- These bytes lie at this place. -/
def Rd (w : World) (g o : Nat) (l : List UInt8) : Prop := ∀ i b, l[i]? = some b → w.cell? ⟨g, o + i, none⟩ = some (.int .u8 (b.toNat : Int))
namespace Rd
variable {w w' : World} {g o : Nat} {l m : List UInt8}
theorem nil_ (w : World) (g o : Nat) : Rd w g o [] := fun i b h => by simp at h
theorem head {b : UInt8} (h : Rd w g o (b :: l)) : w.cell? ⟨g, o, none⟩ = some (.int .u8 (b.toNat : Int)) := h 0 b rfl
theorem tail {b : UInt8} (h : Rd w g o (b :: l)) : Rd w g (o + 1) l := fun i c hc => by
  have := h (i + 1) c (by simpa using hc)
  rwa [show o + (i + 1) = o + 1 + i by omega] at this
theorem drop (h : Rd w g o l) (k : Nat) : Rd w g (o + k) (l.drop k) := fun i c hc => by
  have := h (k + i) c (by simpa using hc)
  rwa [show o + (k + i) = o + k + i by omega] at this
theorem left (h : Rd w g o (l ++ m)) : Rd w g o l := fun i c hc => h i c (by
  have hi : i < l.length := (List.getElem?_eq_some_iff.1 hc).1
  rw [List.getElem?_append_left hi]; exact hc)
theorem right (h : Rd w g o (l ++ m)) : Rd w g (o + l.length) m := by
  have := h.drop l.length
  simpa using this
theorem keep (h : Rd w g o l) (hk : ∀ i, w'.cell? ⟨g, i, none⟩ = w.cell? ⟨g, i, none⟩) : Rd w' g o l := fun i b hb => (hk _).trans (h i b hb)
theorem drewN (h : Rd w g o l) (n : Nat) : Rd (w.drewN n) g o l := h
theorem drew (h : Rd w g o l) : Rd w.drew g o l := h
theorem far (h : Rd w g o l) {p : Addr} (hp : g ≠ p.block) (u : Value) : Rd (w.setCell p u) g o l :=
  h.keep fun i => World.cell?_setCell_other w p ⟨g, i, none⟩ u (fun e => hp (by rw [e]))
theorem fr {S : List Nat} (h : Rd w g o l) (hf : Fr S w w') (hg : g < w.heap.size) (hn : g ∉ S) : Rd w' g o l := h.keep fun i => hf.cell (p := ⟨g, i, none⟩) hg hn
theorem below {B : Nat} (h : Rd w g o l) (hb : Below B w w') (hg : g < B) : Rd w' g o l := h.keep fun i => hb.cell (p := ⟨g, i, none⟩) hg
theorem of_blk {t : TypeId} {cs : Array Value} (h : Blk w g t cs) (hl : ∀ i b, l[i]? = some b → cs[o + i]? = some (.int .u8 (b.toNat : Int))) : Rd w g o l :=
  fun i b hb => (h.cell _).trans (hl i b hb)
end Rd
@[simp, go_sem] theorem setRow_drewN (w : World) (n g : Nat) (cs : Array Value) : (w.drewN n).setRow g cs = (w.setRow g cs).drewN n := rfl
@[simp, go_sem] theorem setRow_drew (w : World) (g : Nat) (cs : Array Value) : w.drew.setRow g cs = (w.setRow g cs).drew := rfl
@[simp, go_sem] theorem setCell_drewN (w : World) (n : Nat) (a : Addr) (v : Value) : (w.drewN n).setCell a v = (w.setCell a v).drewN n := rfl
@[simp, go_sem] theorem alloc_drewN (w : World) (n : Nat) (o : Obj) : (w.drewN n).alloc o = (w.alloc o).drewN n := rfl
end Go.Proofs.YtcodhjoiikdhmaaGreatDoor

/- A row of bytes written in part: 'spl'; copies from a string and from another row. -/
namespace Go.Proofs.YtcodhjoiikdhmaaGreatDoor
open Go Go.RowKit

/-- The cells with these bytes laid over them from place o on. -/
def spl (cur : Array Value) (o : Nat) (l : List UInt8) : Array Value := (cur.toList.take o ++ Lib.byteCells l ++ cur.toList.drop (o + l.length)).toArray
theorem spl_size {cur : Array Value} {o : Nat} {l : List UInt8} (h : o + l.length ≤ cur.size) : (spl cur o l).size = cur.size := by
  simp [spl, Lib.byteCells_length]; omega
theorem spl_nil (cur : Array Value) (o : Nat) : spl cur o [] = cur := by
  simp [spl, Lib.byteCells]
theorem spl_in {cur : Array Value} {o i : Nat} {l : List UInt8} {b : UInt8} (h : o + l.length ≤ cur.size) (hi : l[i]? = some b) : (spl cur o l)[o + i]? = some (.int .u8 (b.toNat : Int)) := by
  have hil : i < l.length := (List.getElem?_eq_some_iff.1 hi).1
  simp only [spl, List.getElem?_toArray]
  rw [List.getElem?_append_left (by simp [Lib.byteCells_length]; omega), List.getElem?_append_right (by simp; omega)]
  have e : o + i - (List.take o cur.toList).length = i := by simp; omega
  rw [e]
  simp [Lib.byteCells, hi]
theorem spl_out {cur : Array Value} {o i : Nat} {l : List UInt8} (h : o + l.length ≤ cur.size) (hi : i < o ∨ o + l.length ≤ i) : (spl cur o l)[i]? = cur[i]? := by
  simp only [spl, List.getElem?_toArray]
  rcases hi with hi | hi
  · rw [List.getElem?_append_left (by simp; omega), List.getElem?_append_left (by simp; omega)]
    simp [hi]
  · rw [List.getElem?_append_right (by simp [Lib.byteCells_length]; omega)]
    have e : (List.take o cur.toList ++ Lib.byteCells l).length = o + l.length := by simp [Lib.byteCells_length]; omega
    rw [e, List.getElem?_drop, show o + l.length + (i - (o + l.length)) = i by omega]
    simp
theorem Rd.spl {w : World} {g o : Nat} {t : TypeId} {cur : Array Value} {l : List UInt8} (h : Blk w g t (spl cur o l)) (hl : o + l.length ≤ cur.size) : Rd w g o l :=
  Rd.of_blk h fun _ _ hb => spl_in hl hb
/-- All cells are whole values (no struct or array lies in one): so a row of bytes. -/
def Ones (cur : Array Value) : Prop := ∀ v ∈ cur.toList, v.oneCell' = true
theorem Ones.spl {cur : Array Value} {o : Nat} {l : List UInt8} (h : Ones cur) : Ones (spl cur o l) := by
  intro v hv
  simp only [Proofs.YtcodhjoiikdhmaaGreatDoor.spl, List.mem_append] at hv
  rcases hv with (hv | hv) | hv
  · exact h v (List.mem_of_mem_take hv)
  · exact Lib.byteCells_one l v hv
  · exact h v (List.mem_of_mem_drop hv)

theorem spl_spl {cur : Array Value} {o o' : Nat} {l m : List UInt8} (ho : o' = o + l.length) (h : o + (l ++ m).length ≤ cur.size) : spl (spl cur o l) o' m = spl cur o (l ++ m) := by
  subst ho
  rw [List.length_append] at h
  apply Array.ext_getElem?
  intro i
  have h1 : o + l.length + m.length ≤ (spl cur o l).size := by rw [spl_size (by omega)]; omega
  have h2 : o + (l ++ m).length ≤ cur.size := by rw [List.length_append]; omega
  by_cases ha : i < o ∨ o + l.length + m.length ≤ i
  · rw [spl_out h1 (by omega), spl_out (by omega) (by omega), spl_out h2 (by rw [List.length_append]; omega)]
  · by_cases hb : i < o + l.length
    · obtain ⟨j, rfl⟩ : ∃ j, i = o + j := ⟨i - o, by omega⟩
      have hj : l[j]? = some (l[j]'(by omega)) := List.getElem?_eq_getElem (by omega)
      rw [spl_out h1 (by omega), spl_in (by omega) hj, spl_in h2 (by rw [List.getElem?_append_left (by omega)]; exact hj)]
    · obtain ⟨j, rfl⟩ : ∃ j, i = o + l.length + j := ⟨i - (o + l.length), by omega⟩
      have hj : m[j]? = some (m[j]'(by omega)) := List.getElem?_eq_getElem (by omega)
      rw [spl_in h1 hj, Nat.add_assoc, spl_in h2 (by rw [List.getElem?_append_right (by omega), Nat.add_sub_cancel_left]; exact hj)]
/-- 'copy(dst, s)' from a string: as many bytes as the shorter of the two has. -/
theorem run_copy_str {P : Program} (w : World) (dT sT ty elem : TypeId) (g o dLen dCap : Nat) (s : ByteArray) (cur : Array Value) (t : TypeId)
    (hu : P.underlying dT = some (.slice elem)) (hs : (P.info? elem).map (·.size) = some 1) (hg : Blk w g t cur) (hfit : o + dLen ≤ cur.size) :
    (Builtin.copy_ #[dT, sT] ty #[.slice (some ⟨g, o, none⟩) dLen dCap, .string s]).run P w =
      .ok (goInt (Nat.min s.size dLen)) (w.setRow g (spl cur o (s.data.toList.take dLen))) := by
  have hsz : s.size = s.data.toList.length := Lib.size_eq s
  have hmin : (s.data.toList.take dLen).length = Nat.min s.size dLen := by rw [hsz, List.length_take]; exact Nat.min_comm _ _
  have hlen : (Lib.byteCells (s.data.toList.take dLen)).length = Nat.min s.size dLen := by rw [Lib.byteCells_length, hmin]
  have hle : Nat.min s.size dLen ≤ dLen := Nat.min_le_right _ _
  have hst := run_storeCells_at P g o t (Lib.byteCells (s.data.toList.take dLen)) 0 cur w hg (by rw [hlen]; omega) (Lib.byteCells_one _)
  have htk : List.take (Nat.min s.size dLen) (List.map (fun b : UInt8 => Value.int IntKind.u8 (b.toNat : Int)) s.data.toList) = Lib.byteCells (s.data.toList.take dLen) := by
    unfold Lib.byteCells
    rw [List.map_take]
    show List.take (min s.size dLen) _ = _
    rw [Nat.min_comm, hsz, ← List.length_map (f := fun b : UInt8 => Value.int IntKind.u8 (b.toNat : Int))]
    exact List.take_eq_take_min.symm
  rw [hlen] at hst
  simp only [Nat.add_zero] at hst
  cases hq : P.info? elem with
  | none => simp [hq] at hs
  | some i =>
    simp [Builtin.copy_, run_underlying hu, Builtin.lenOf, Builtin.firstCells, sizeOf, typeInfo, hq]
    rw [htk, hst]
    simp [Result.andThen, spl, hmin]
end Go.Proofs.YtcodhjoiikdhmaaGreatDoor

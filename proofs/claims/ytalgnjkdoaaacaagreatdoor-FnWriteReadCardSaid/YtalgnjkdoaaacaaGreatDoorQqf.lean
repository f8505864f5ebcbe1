/- A good archive's k-th file. -/
import Derived.Test.YtalgnjkdoaaacaaGreatDoorQqa
import Derived.Test.YtalgnjkdoaaacaaGreatDoorQrh
import Derived.Test.YtalgnjkdoaaacaaGreatDoorQrk
set_option linter.unusedVariables false
set_option linter.unusedSimpArgs false
namespace Go.Proofs.YtalgnjkdoaaacaaGreatDoor
open Go Go.RowKit
open Zp
theorem bs_list (l : By) : (bs l).data.toList = l := rfl
theorem bs_size (l : By) : (bs l).size = l.length := by show l.toArray.size = _; simp
/-- An archive behind X and ahead of Y. -/
theorem arcT_of {l : List Ent} {c X Y : By} (hall : ∀ e ∈ l, HdOk e.h ∧ e.data.length ≤ 1048576) (h1000 : l.length ≤ 1000) (hc : c.length ≤ 65535) (he : ends (X ++ archB l c ++ Y) = 1) (hX : X.length ≤ 1048576) (hY : Y.length ≤ 1000)
    (hb : X = [] ∨ EndAt (X ++ archB l c ++ Y) (filesB l).length) : ArcT (bs (X ++ archB l c ++ Y)) c l.length (dirB 0 l).length (filesB l).length (places (X.length + (filesB l).length) 0 l) X.length := by
  have hok : ∀ e ∈ l, HdOk e.h := fun e he => (hall e he).1
  obtain ⟨s1, s2⟩ := size_small hall h1000
  rw [filesI_ok hok] at s1
  rw [dirI_ok 0 hok] at s2
  have hsz : (archB l c).length = (filesB l).length + (dirB 0 l).length + (22 + c.length) := by
    rw [archB, List.length_append, List.length_append, endB_length]
  have hpl := places_length l (X.length + (filesB l).length) 0
  have hA : X ++ archB l c ++ Y = (X ++ filesB l ++ dirB 0 l) ++ (endB l.length (dirB 0 l).length (filesB l).length c ++ Y) := by simp [archB]
  refine ⟨⟨X ++ filesB l ++ dirB 0 l, Y, X.length + (filesB l).length + (dirB 0 l).length, ?_, ?_, hY, ?_, ?_⟩, ?_, ?_, hc, ?_, ?_, ?_⟩
  · rw [bs_list]; exact hA
  · rw [List.length_append, List.length_append]; omega
  · rw [bs_list]
    exact chain_at l _ (X ++ filesB l) (endB l.length (dirB 0 l).length (filesB l).length c ++ Y) _ 0 (by rw [hA]; simp) (by rw [List.length_append]) hok (by omega)
  · rw [bs_list]
    exact end_at (A := X ++ filesB l ++ dirB 0 l) (Z := Y) hA (by rw [List.length_append, List.length_append])
  · rw [bs_size, List.length_append, List.length_append, hsz]; omega
  · rw [bs_list]; exact he
  · omega
  · omega
  · rcases hb with hb | hb
    · exact .inl (by rw [hb]; rfl)
    · exact .inr (by rw [bs_list]; exact hb)
theorem parts_gen {l : List Ent} {c X Y : By} {k : Nat} {e : Ent} (hall : ∀ e ∈ l, HdOk e.h ∧ e.data.length ≤ 1048576) (h1000 : l.length ≤ 1000) (hc : c.length ≤ 65535) (he : ends (X ++ archB l c ++ Y) = 1) (hX : X.length ≤ 1048576) (hY : Y.length ≤ 1000)
    (hb : X = [] ∨ EndAt (X ++ archB l c ++ Y) (filesB l).length) (hk : l[k]? = some e) :
    ArcT (bs (X ++ archB l c ++ Y)) c (places (X.length + (filesB l).length) 0 l).length (dirB 0 l).length (filesB l).length (places (X.length + (filesB l).length) 0 l) X.length ∧ (places (X.length + (filesB l).length) 0 l)[k]? = some (X.length + (filesB l).length + (dirB 0 (l.take k)).length) ∧
      AtK (X ++ archB l c ++ Y) l c e (X.length + (filesB l).length + (dirB 0 (l.take k)).length) (filesB (l.take k)).length X.length ∧ HdOk e.h := by
  have hok : ∀ e ∈ l, HdOk e.h := fun e he => (hall e he).1
  obtain ⟨s1, s2⟩ := size_small hall h1000
  rw [filesI_ok hok] at s1
  rw [dirI_ok 0 hok] at s2
  have hkl : k < l.length := (List.getElem?_eq_some_iff.1 hk).1
  have hel : l[k] = e := (List.getElem?_eq_some_iff.1 hk).2
  have hl : l = l.take k ++ e :: l.drop (k + 1) := by
    rw [← hel, ← drop_cons hkl, List.take_append_drop]
  have hlen : (l.take k).length = k := by rw [List.length_take]; omega
  obtain ⟨hp, hat⟩ := arch_k (s := X ++ archB l c ++ Y) (c := c) (X := X) (Z := endB l.length (dirB 0 l).length (filesB l).length c ++ Y) hl (by simp [archB]) hok (by omega)
  rw [hlen] at hp
  have hpl := places_length l (X.length + (filesB l).length) 0
  have hT := arcT_of hall h1000 hc he hX hY hb
  rw [← hpl] at hT
  exact ⟨hT, hp, hat, hok e (by rw [← hel]; exact List.getElem_mem hkl)⟩
theorem fileK_gen {l : List Ent} {c X Y : By} {k : Nat} {e : Ent} (hall : ∀ e ∈ l, HdOk e.h ∧ e.data.length ≤ 1048576) (h1000 : l.length ≤ 1000) (hc : c.length ≤ 65535) (he : ends (X ++ archB l c ++ Y) = 1) (hX : X.length ≤ 1048576) (hY : Y.length ≤ 1000)
    (hb : X = [] ∨ EndAt (X ++ archB l c ++ Y) (filesB l).length) (hk : l[k]? = some e) : FileK (bs (X ++ archB l c ++ Y)) k e := by
  obtain ⟨hT, hp, hat, hok⟩ := parts_gen hall h1000 hc he hX hY hb hk
  exact ⟨⟨c, (dirB 0 l).length, (filesB l).length, places (X.length + (filesB l).length) 0 l, l, _, _, X.length, hT, hp, hat⟩, hok⟩
theorem fileK_of {l : List Ent} {c : By} {k : Nat} {e : Ent} (hg : GoodP l c) (hk : l[k]? = some e) : FileK (bs (archB l c)) k e := by
  obtain ⟨hall, h1000, hc, he⟩ := hg
  have h0 : archB l c = [] ++ archB l c ++ [] := by simp
  rw [h0]
  exact fileK_gen hall h1000 hc (by rw [← h0]; exact he) (by simp) (by simp) (.inl rfl) hk
end Go.Proofs.YtalgnjkdoaaacaaGreatDoor

/- What the laws stand on: a stored list, one of whose cells is set. -/
namespace Go.Proofs.YtalgnjkdoaaacaaGreatDoor
open Go Go.RowKit
open Zp
/-- Whole numbers of 64 bits, texts that memory holds. -/
structure HdM (h : Hd) : Prop where
  creator : I64 h.creator
  reader : I64 h.reader
  flags : I64 h.flags
  method : I64 h.method
  time : I64 h.time
  date : I64 h.date
  crc : I64 h.crc
  packed : I64 h.packed
  size : I64 h.size
  ext : I64 h.ext
theorem HdM.i {e : Ent} (h : HdM e.h) (hf : FitE e) : EntI e := ⟨⟨h.creator, h.reader, h.flags, h.method, h.time, h.date, h.crc, h.packed, h.size, h.ext, hf.1.1, hf.1.2.1, hf.1.2.2⟩, hf.2⟩
theorem storedI {e : Ent} (h : EntI e) : EntI (storedE e) := by
  obtain ⟨⟨h1, h2, h3, h4, h5, h6, h7, h8, h9, h10, h11, h12, h13⟩, hd⟩ := h
  have hc := crcOf_lt 0 (by omega) e.data
  refine ⟨⟨h1, h2, h3, ⟨by show _ ≤ (0 : Int); omega, by show (0 : Int) ≤ _; omega⟩, h5, h6, ⟨by show _ ≤ (crcOf 0 e.data : Int); omega, by show (crcOf 0 e.data : Int) ≤ _; omega⟩, ⟨by show _ ≤ (e.data.length : Int); omega, by show (e.data.length : Int) ≤ _; omega⟩, ⟨by show _ ≤ (e.data.length : Int); omega, by show (e.data.length : Int) ≤ _; omega⟩, h10, h11, h12, h13⟩, hd⟩
theorem mkR {e : Ent} {g a : Nat} {w0 w : World} (hb : w.rangeAt g a (entL e)) (hg : g < w.heap.size) (hf : Fr [] w0 w) : w.cell? ⟨g, a, none⟩ = some (.string (bs e.h.name)) ∧ w.cell? ⟨g, a + 1, none⟩ = some (.string (bs e.h.comment)) ∧ w.cell? ⟨g, a + 2, none⟩ = some (.string (bs e.h.extra)) ∧ w.cell? ⟨g, a + 3, none⟩ = some (.bool e.h.non) ∧ w.cell? ⟨g, a + 4, none⟩ = some (.int .i64 e.h.creator) ∧ w.cell? ⟨g, a + 5, none⟩ = some (.int .i64 e.h.reader) ∧ w.cell? ⟨g, a + 6, none⟩ = some (.int .i64 e.h.flags) ∧ w.cell? ⟨g, a + 7, none⟩ = some (.int .i64 e.h.method) ∧ w.cell? ⟨g, a + 8, none⟩ = some (.int .i64 e.h.time) ∧ w.cell? ⟨g, a + 9, none⟩ = some (.int .i64 e.h.date) ∧ w.cell? ⟨g, a + 10, none⟩ = some (.int .i64 e.h.crc) ∧ w.cell? ⟨g, a + 11, none⟩ = some (.int .i64 e.h.packed) ∧ w.cell? ⟨g, a + 12, none⟩ = some (.int .i64 e.h.size) ∧ w.cell? ⟨g, a + 13, none⟩ = some (.int .i64 e.h.ext) ∧ w.cell? ⟨g, a + 14, none⟩ = some (.string (bs e.data)) ∧ w.rangeAt g (a) (entL e) ∧ g < w.heap.size ∧ Fr [] w0 w :=
  ⟨hb 0 _ rfl, hb 1 _ rfl, hb 2 _ rfl, hb 3 _ rfl, hb 4 _ rfl, hb 5 _ rfl, hb 6 _ rfl, hb 7 _ rfl, hb 8 _ rfl, hb 9 _ rfl, hb 10 _ rfl, hb 11 _ rfl, hb 12 _ rfl, hb 13 _ rfl, hb 14 _ rfl, hb, hg, hf⟩
theorem blkR {e : Ent} {g a : Nat} {w0 w : World} (hs : w.cell? ⟨g, a, none⟩ = some (.string (bs e.h.name)) ∧ w.cell? ⟨g, a + 1, none⟩ = some (.string (bs e.h.comment)) ∧ w.cell? ⟨g, a + 2, none⟩ = some (.string (bs e.h.extra)) ∧ w.cell? ⟨g, a + 3, none⟩ = some (.bool e.h.non) ∧ w.cell? ⟨g, a + 4, none⟩ = some (.int .i64 e.h.creator) ∧ w.cell? ⟨g, a + 5, none⟩ = some (.int .i64 e.h.reader) ∧ w.cell? ⟨g, a + 6, none⟩ = some (.int .i64 e.h.flags) ∧ w.cell? ⟨g, a + 7, none⟩ = some (.int .i64 e.h.method) ∧ w.cell? ⟨g, a + 8, none⟩ = some (.int .i64 e.h.time) ∧ w.cell? ⟨g, a + 9, none⟩ = some (.int .i64 e.h.date) ∧ w.cell? ⟨g, a + 10, none⟩ = some (.int .i64 e.h.crc) ∧ w.cell? ⟨g, a + 11, none⟩ = some (.int .i64 e.h.packed) ∧ w.cell? ⟨g, a + 12, none⟩ = some (.int .i64 e.h.size) ∧ w.cell? ⟨g, a + 13, none⟩ = some (.int .i64 e.h.ext) ∧ w.cell? ⟨g, a + 14, none⟩ = some (.string (bs e.data)) ∧ w.rangeAt g (a) (entL e) ∧ g < w.heap.size ∧ Fr [] w0 w) : w.rangeAt g a (entL e) ∧ g < w.heap.size ∧ Fr [] w0 w := by
  obtain ⟨_, _, _, _, _, _, _, _, _, _, _, _, _, _, _, hb, hg, hf⟩ := hs
  exact ⟨hb, hg, hf⟩
theorem rangeAt_fr {w w' : World} {g a : Nat} {xs : List Value} (h : w.rangeAt g a xs) (hg : g < w.heap.size) (hf : Fr [] w w') : w'.rangeAt g a xs := fun j v hj =>
  (hf.cell (p := ⟨g, a + j, none⟩) hg (by simp)).trans (h j v hj)
theorem keepR {e : Ent} {g a : Nat} {w0 w w' : World} (hs : w.cell? ⟨g, a, none⟩ = some (.string (bs e.h.name)) ∧ w.cell? ⟨g, a + 1, none⟩ = some (.string (bs e.h.comment)) ∧ w.cell? ⟨g, a + 2, none⟩ = some (.string (bs e.h.extra)) ∧ w.cell? ⟨g, a + 3, none⟩ = some (.bool e.h.non) ∧ w.cell? ⟨g, a + 4, none⟩ = some (.int .i64 e.h.creator) ∧ w.cell? ⟨g, a + 5, none⟩ = some (.int .i64 e.h.reader) ∧ w.cell? ⟨g, a + 6, none⟩ = some (.int .i64 e.h.flags) ∧ w.cell? ⟨g, a + 7, none⟩ = some (.int .i64 e.h.method) ∧ w.cell? ⟨g, a + 8, none⟩ = some (.int .i64 e.h.time) ∧ w.cell? ⟨g, a + 9, none⟩ = some (.int .i64 e.h.date) ∧ w.cell? ⟨g, a + 10, none⟩ = some (.int .i64 e.h.crc) ∧ w.cell? ⟨g, a + 11, none⟩ = some (.int .i64 e.h.packed) ∧ w.cell? ⟨g, a + 12, none⟩ = some (.int .i64 e.h.size) ∧ w.cell? ⟨g, a + 13, none⟩ = some (.int .i64 e.h.ext) ∧ w.cell? ⟨g, a + 14, none⟩ = some (.string (bs e.data)) ∧ w.rangeAt g (a) (entL e) ∧ g < w.heap.size ∧ Fr [] w0 w) (hf : Fr [] w w') : w'.cell? ⟨g, a, none⟩ = some (.string (bs e.h.name)) ∧ w'.cell? ⟨g, a + 1, none⟩ = some (.string (bs e.h.comment)) ∧ w'.cell? ⟨g, a + 2, none⟩ = some (.string (bs e.h.extra)) ∧ w'.cell? ⟨g, a + 3, none⟩ = some (.bool e.h.non) ∧ w'.cell? ⟨g, a + 4, none⟩ = some (.int .i64 e.h.creator) ∧ w'.cell? ⟨g, a + 5, none⟩ = some (.int .i64 e.h.reader) ∧ w'.cell? ⟨g, a + 6, none⟩ = some (.int .i64 e.h.flags) ∧ w'.cell? ⟨g, a + 7, none⟩ = some (.int .i64 e.h.method) ∧ w'.cell? ⟨g, a + 8, none⟩ = some (.int .i64 e.h.time) ∧ w'.cell? ⟨g, a + 9, none⟩ = some (.int .i64 e.h.date) ∧ w'.cell? ⟨g, a + 10, none⟩ = some (.int .i64 e.h.crc) ∧ w'.cell? ⟨g, a + 11, none⟩ = some (.int .i64 e.h.packed) ∧ w'.cell? ⟨g, a + 12, none⟩ = some (.int .i64 e.h.size) ∧ w'.cell? ⟨g, a + 13, none⟩ = some (.int .i64 e.h.ext) ∧ w'.cell? ⟨g, a + 14, none⟩ = some (.string (bs e.data)) ∧ w'.rangeAt g (a) (entL e) ∧ g < w'.heap.size ∧ Fr [] w0 w' :=
  mkR (rangeAt_fr (blkR hs).1 (blkR hs).2.1 hf) (Nat.lt_of_lt_of_le (blkR hs).2.1 hf.size) ((blkR hs).2.2.trans hf (by simp))
theorem frR {e : Ent} {g a : Nat} {w0 w : World} (hs : w.cell? ⟨g, a, none⟩ = some (.string (bs e.h.name)) ∧ w.cell? ⟨g, a + 1, none⟩ = some (.string (bs e.h.comment)) ∧ w.cell? ⟨g, a + 2, none⟩ = some (.string (bs e.h.extra)) ∧ w.cell? ⟨g, a + 3, none⟩ = some (.bool e.h.non) ∧ w.cell? ⟨g, a + 4, none⟩ = some (.int .i64 e.h.creator) ∧ w.cell? ⟨g, a + 5, none⟩ = some (.int .i64 e.h.reader) ∧ w.cell? ⟨g, a + 6, none⟩ = some (.int .i64 e.h.flags) ∧ w.cell? ⟨g, a + 7, none⟩ = some (.int .i64 e.h.method) ∧ w.cell? ⟨g, a + 8, none⟩ = some (.int .i64 e.h.time) ∧ w.cell? ⟨g, a + 9, none⟩ = some (.int .i64 e.h.date) ∧ w.cell? ⟨g, a + 10, none⟩ = some (.int .i64 e.h.crc) ∧ w.cell? ⟨g, a + 11, none⟩ = some (.int .i64 e.h.packed) ∧ w.cell? ⟨g, a + 12, none⟩ = some (.int .i64 e.h.size) ∧ w.cell? ⟨g, a + 13, none⟩ = some (.int .i64 e.h.ext) ∧ w.cell? ⟨g, a + 14, none⟩ = some (.string (bs e.data)) ∧ w.rangeAt g (a) (entL e) ∧ g < w.heap.size ∧ Fr [] w0 w) : Fr [] w0 w := (blkR hs).2.2
/-- A row of entries that is not empty. -/
theorem OL.row {w : World} {base : Nat} {v : Value} {l : List Ent} (h : OL w base v l) (hl : l ≠ []) :
    ∃ g cap, v = .slice (some ⟨g, 0, none⟩) l.length cap ∧ base ≤ g ∧ g < w.heap.size ∧ l.length ≤ cap ∧ cap ≤ maxLen := by
  rcases h.2 with ⟨h1, h2⟩ | ⟨g, cap, cur, h1, h2, h3, h4, h5, h6, h7⟩
  · exact absurd (List.eq_nil_of_length_eq_zero h2) hl
  · exact ⟨g, cap, h1, h2, Blk.lt (t := 38) (cs := cur) h3, h4, h5⟩
theorem OL.len {w : World} {base : Nat} {v : Value} {l : List Ent} (h : OL w base v l) : ∃ p cap, v = .slice p l.length cap := by
  obtain ⟨p, cap, h1, _⟩ := h.sv
  exact ⟨p, cap, h1⟩
theorem OL.range {w : World} {base g cap n : Nat} {l : List Ent} (h : OL w base (.slice (some ⟨g, 0, none⟩) n cap) l) {k : Nat} {e : Ent} (hk : l[k]? = some e) : w.rangeAt g (k * 15) (entL e) := by
  intro j u hj
  have hj15 : j < 15 := by
    have := (List.getElem?_eq_some_iff.1 hj).1
    rwa [entL_length] at this
  have := h.cells (g := g) rfl (k * 15 + j) u (by rw [flat_get l k j e hk hj15]; exact hj)
  rw [Addr.add_lit, Nat.zero_add] at this
  exact this
/-- One cell of one entry is set. -/
theorem OL.put {w : World} {base g cap n : Nat} {l : List Ent} (h : OL w base (.slice (some ⟨g, 0, none⟩) n cap) l) {k j : Nat} {e e' : Ent} {u : Value} (hn : n = l.length) (hk : l[k]? = some e) (hj : j < 15) (hs : (entL e).set j u = entL e') :
    OL (w.setCell ⟨g, k * 15 + j, none⟩ u) base (.slice (some ⟨g, 0, none⟩) n cap) (l.set k e') := by
  subst hn
  have := (h.stored (k * 15 + j) u).1
  rw [flat_set l k j e e' u hk hj hs] at this
  unfold OL
  rw [List.length_set]
  exact this
theorem OL.frozen {w : World} {base g cap n : Nat} {l : List Ent} (h : OL w base (.slice (some ⟨g, 0, none⟩) n cap) l) (hn : n = l.length) (j : Nat) : w.frozen? ⟨g, j, none⟩ = false := by
  subst hn
  exact h.frozenAt j
end Go.Proofs.YtalgnjkdoaaacaaGreatDoor

/- laws.reads. -/
namespace Go.Proofs.YtalgnjkdoaaacaaGreatDoor
open Go Go.RowKit
open Zp
def eAB : Ent := ⟨⟨[97], [], [], false, 0, 0, 0, 0, 0, 0, 0, 0, 0, 0⟩, [98]⟩
theorem goodAB : GoodP [storedE eAB] [] := by
  refine ⟨fun e he => ?_, by simp, by simp, by decide +kernel⟩
  rw [List.mem_singleton.1 he]
  have := crcOf_lt 0 (by omega) [98]
  have hc : (0 : Int) ≤ (crcOf 0 [98] : Int) ∧ (crcOf 0 [98] : Int) ≤ 4294967295 := by omega
  refine ⟨⟨⟨by decide, by decide⟩, ⟨by decide, by decide⟩, ⟨by decide, by decide⟩, ⟨by decide, by decide⟩, ⟨by decide, by decide⟩, ⟨by decide, by decide⟩, hc, ⟨by decide, by decide⟩, ⟨by decide, by decide⟩, ⟨by decide, by decide⟩, by decide, by decide, by decide⟩, by decide⟩
theorem eABI : EntI eAB := ⟨⟨⟨by decide, by decide⟩, ⟨by decide, by decide⟩, ⟨by decide, by decide⟩, ⟨by decide, by decide⟩, ⟨by decide, by decide⟩, ⟨by decide, by decide⟩, ⟨by decide, by decide⟩, ⟨by decide, by decide⟩, ⟨by decide, by decide⟩, ⟨by decide, by decide⟩, by decide, by decide, by decide⟩, by decide⟩
set_option maxRecDepth 100000 in
set_option maxHeartbeats 8000000 in
theorem readsC (E : Errs) (B0 : Nat) (w : World) (hW : WE E B0 w) : Calls Tryz.prog 14 #[] w fun x w' => x = .returned (.bool true) ∧ Fr [] w w' := by
  have hB : (w.alloc (.cells (entL eAB).toArray 38)).rangeAt w.heap.size (0 + 0 * 15) (entL eAB) := fun j u hj => by
    have := (Blk.new w 38 (entL eAB).toArray).at_ j u (by simpa using hj)
    simpa using this
  have hsv : SV (w.alloc (.cells (entL eAB).toArray 38)) (.slice (some ⟨w.heap.size, 0, none⟩) 1 1) [eAB] := by
    refine ⟨_, 1, rfl, by simp, by unfold maxLen; omega, fun _ => ⟨w.heap.size, 0, rfl, by simp, ?_⟩⟩
    intro i e hi
    cases i with
    | zero => simp at hi; subst hi; exact hB
    | succ i => simp at hi
  have hf0 : Fr [] w (w.alloc (.cells (entL eAB).toArray 38)) := (Fr.refl _ _).alloc _
  have HAS := Lib.hid (allStoredC [eAB] (fun e he => by rw [List.mem_singleton.1 he]; exact eABI) (by simp) _ _ hsv)
  have HF0 := Lib.hid hf0
  have HW := Lib.hid hW
  clear hB hsv hf0 hW
  go_enter Tryz.func14, Tryz.ntmps14
  go_wp2_with fail
  refine HAS.out.mono ?_
  rintro x w1 ⟨v1, rfl, hol, hf1⟩
  have HF1 := Lib.hid (HF0.out.trans hf1 (by simp))
  have hpos : 0 < w1.heap.size := by have := HF1.out.size; have := HW.out.h18; omega
  obtain ⟨hgall, -⟩ := goodAB
  obtain ⟨s1, s2⟩ := size_small hgall (by simp)
  have HAR := Lib.hid (archC [storedE eAB] (fun e he => by rw [List.mem_singleton.1 he]; exact storedI eABI) [] v1 w1 hol.sv hpos (by simp) (by omega) (by omega) (by simp))
  rw [archI_ok [] (fun e he => (hgall e he).1)] at HAR
  clear hf1 hol hpos hgall s1 s2
  go_wp2_with fail
  refine HAR.out.mono ?_
  rintro x w2 ⟨rfl, hf2⟩
  have HF2 := Lib.hid (HF1.out.trans hf2 (by simp))
  have HC := Lib.hid (content_file E B0 w2 (bs (archB [storedE eAB] [])) 0 (storedE eAB) (HW.out.fr HF2.out (by simp)) (fileK_of goodAB rfl) (by decide) rfl (by decide) rfl (Int.le_refl _))
  have hX : endN (storedE eAB).data.length (storedE eAB).h.size.toNat (crcOf 0 (storedE eAB).data) (storedE eAB).h.crc.toNat = 0 := by decide +kernel
  rw [hX] at HC
  clear hf2 hX
  obtain ⟨S, hS⟩ : ∃ S, bs (archB [storedE eAB] []) = S := ⟨_, rfl⟩
  rw [hS] at HC ⊢
  clear hS
  go_wp2_with fail
  refine HC.out.mono ?_
  rintro x w3 ⟨rfl, hf3⟩
  have HF3 := Lib.hid (HF2.out.trans hf3 (by simp))
  clear hf3
  rw [show (⟨(storedE eAB).data.toArray⟩ : ByteArray) = ⟨#[98]⟩ from rfl]
  go_wp2_with fail
  go_ret
  exact ⟨rfl, HF3.out⟩
end Go.Proofs.YtalgnjkdoaaacaaGreatDoor

/- What the contents of stored files read as. -/
namespace Go.Proofs.YtalgnjkdoaaacaaGreatDoor
open Go Go.RowKit
open Zp
theorem slash_iff (l : By) : slash (bs l) = true ↔ slashL l := by
  unfold slash slashL
  rw [bs_list, beq_iff_eq]
theorem simple_fl {n : Int} (h0 : 0 ≤ n) (h : (n.tdiv 8).tmod 2 = 0) : n / 8 % 2 = 0 := by
  rw [Int.tdiv_eq_ediv_of_nonneg h0, Int.tmod_eq_emod_of_nonneg (by omega)] at h
  exact h
theorem contExact (E : Errs) (B0 : Nat) (w : World) (S : ByteArray) (k : Nat) (e : Ent) (hW : WE E B0 w) (h : FileK S k e) (hm : e.h.method = 0) (hp : e.h.packed = e.data.length) (hs : e.h.size = e.data.length) (hcr : e.h.crc = 0 ∨ e.h.crc = (crcOf 0 e.data : Int))
    (hfl : (e.h.flags.tdiv 8).tmod 2 = 0) (hd : ¬ (slashL e.h.name ∧ e.data ≠ [])) :
    Calls Tryz.prog 27 #[.string S, .int .i64 (k : Int)] w fun x w' => x = .returned (.tuple #[.string (bs e.data), .int .i64 0]) ∧ Fr [] w w' := by
  by_cases hsl : slash (bs e.h.name) = true
  · have hnil : e.data = [] := by
      by_cases h0 : e.data = []
      · exact h0
      · exact absurd ⟨(slash_iff _).1 hsl, h0⟩ hd
    have h0 : e.h.size = 0 := by rw [hs, hnil]; rfl
    have := content_dir E B0 w S k e hW h hsl 0 (by rw [if_pos h0])
    rw [hnil]
    exact this
  · have hns : slash (bs e.h.name) = false := by simpa using hsl
    have := content_file E B0 w S k e hW h hns hm (simple_fl h.ok.2.2.1.1 hfl) hp (by omega)
    have hz : endN e.data.length e.h.size.toNat (crcOf 0 e.data) e.h.crc.toNat = 0 := by
      unfold endN
      rw [if_neg (by omega)]
      rcases hcr with hcr | hcr
      · rw [if_neg (by rw [hcr]; simp)]
      · rw [if_neg (by rw [hcr]; simp)]
    rw [hz] at this
    exact this
/-- A content that is not read whole. -/
def ContNe (w : World) (x : Ending) (w' : World) : Prop := ∃ (X : ByteArray) (n : Int), n ≠ 0 ∧ x = .returned (.tuple #[.string X, .int .i64 n]) ∧ Fr [] w w'
theorem contSize (E : Errs) (B0 : Nat) (w : World) (S : ByteArray) (k : Nat) (e : Ent) (hW : WE E B0 w) (h : FileK S k e) (hm : e.h.method = 0) (hp : e.h.packed = e.data.length) (hs : (e.data.length : Int) < e.h.size)
    (hfl : (e.h.flags.tdiv 8).tmod 2 = 0) :
    Calls Tryz.prog 27 #[.string S, .int .i64 (k : Int)] w (ContNe w) := by
  by_cases hsl : slash (bs e.h.name) = true
  · refine (content_dir E B0 w S k e hW h hsl 1 (by rw [if_neg (by omega)])).mono ?_
    rintro x w' ⟨h1, h2⟩
    exact ⟨_, 1, by decide, h1, h2⟩
  · have hns : slash (bs e.h.name) = false := by simpa using hsl
    refine (content_file E B0 w S k e hW h hns hm (simple_fl h.ok.2.2.1.1 hfl) hp (by omega)).mono ?_
    rintro x w' ⟨h1, h2⟩
    refine ⟨_, _, ?_, h1, h2⟩
    unfold endN
    rw [if_pos (by omega)]
    decide
end Go.Proofs.YtalgnjkdoaaacaaGreatDoor

/- The beginning of a slice of entries. -/
namespace Go.Proofs.YtalgnjkdoaaacaaGreatDoor
open Go Go.RowKit
open Zp
theorem sv_take {w : World} {g o n cap : Nat} {l : List Ent} (h : SV w (.slice (some ⟨g, o, none⟩) n cap) l) {k : Nat} (hk : k ≤ l.length) (hl : l ≠ []) : SV w (.slice (some ⟨g, o, none⟩) k cap) (l.take k) := by
  obtain ⟨p, cap', h1, h2, h3, h4⟩ := h
  injection h1 with e1 e2 e3
  subst e3
  obtain ⟨g', o', h5, h6, h7⟩ := h4 hl
  rw [← e1] at h5
  injection h5 with h5
  injection h5 with h5 h8
  subst h5
  subst h8
  refine ⟨_, cap, by rw [List.length_take, Nat.min_eq_left hk], by rw [List.length_take]; omega, h3, fun _ => ⟨g, o, rfl, h6, fun i e hi => ?_⟩⟩
  refine h7 i e ?_
  rw [List.getElem?_take] at hi
  split at hi
  · exact hi
  · cases hi
end Go.Proofs.YtalgnjkdoaaacaaGreatDoor

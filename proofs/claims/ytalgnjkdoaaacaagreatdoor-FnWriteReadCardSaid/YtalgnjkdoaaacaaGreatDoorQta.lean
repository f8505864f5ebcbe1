/- What the rows' lists give of the world; a slice of entries that came in, opened. -/
import Derived.Test.YtalgnjkdoaaacaaGreatDoorQrb
import Derived.Test.YtalgnjkdoaaacaaGreatDoorCards
import Derived.Test.YtalgnjkdoaaacaaGreatDoorTie
import Derived.WalkKit
import Derived.ProofKit
import Derived.OpenShut
import Derived.LaidLaws
import Derived.Lib.LaidU8T
import Derived.PinnedBridge
import Derived.Lay
import Derived.Carry
import Derived.OpenVars
import Derived.SevenTiedAt
import Derived.Deep.Slices
import Derived.Deep.DeepHandedRow
import Derived.Test.YtalgnjkdoaaacaaGreatDoorQqf
set_option linter.unusedVariables false
set_option linter.unusedSimpArgs false
namespace Go.Proofs.YtalgnjkdoaaacaaGreatDoor
open Go Go.RowKit Go.ChangeShapes Go.WideShapes

theorem laid_in {P : Program} {w : World} : ∀ {l : List (String × DataW Unit)} {ps : List MemPlace}, DataW.LaidVars P w l ps → ∀ n d, (n, d) ∈ l →
    ∃ g t cs fuel p, P.globalNamed n = some g ∧ (P.globals[g]?).map (·.type) = some t ∧ w.var? P n = some cs ∧ DataW.trod (fun _ => ()) P w 0 (fun _ => true) false fuel t cs.toList = some (d, p) ∧
      (∀ x ∈ MemPlace.row ⟨g, 0, none⟩ cs.size, x ∈ ps) ∧ ∀ x ∈ p, x ∈ ps
  | [], _, _, _, _, hm => by cases hm
  | (n', d') :: r, ps, h, n, d, hm => by
    obtain ⟨g, t, cs, fuel, p, q, h1, h2, h3, h4, h5, h6⟩ := h
    subst h6
    rcases List.mem_cons.1 hm with e | e
    · cases e
      exact ⟨g, t, cs, fuel, p, h1, h2, h3, h4, fun x hx => by simp [hx], fun x hx => by simp [hx]⟩
    · obtain ⟨g2, t2, cs2, f2, p2, k1, k2, k3, k4, k5, k6⟩ := laid_in h5 n d e
      exact ⟨g2, t2, cs2, f2, p2, k1, k2, k3, k4, fun x hx => by simp [k5 x hx], fun x hx => by simp [k6 x hx]⟩
set_option maxRecDepth 100000 in
theorem errName : ("*errors.errorString" : String) = "*" ++ "errors.errorString" := by decide +kernel
set_option maxRecDepth 100000 in
theorem errRow : ∀ u, Tryz.prog.typeName? 3 u = some "*errors.errorString" → u = 180 := fun u hu =>
  typeName_ptr_named (nm := "errors.errorString") (by kernel_rfl) (by kernel_rfl) (by decide +kernel) u (by rw [hu, errName])
set_option maxRecDepth 100000 in
theorem cellsErr : Tryz.prog.cellsOf 182 = 1 := by kernel_rfl
set_option maxRecDepth 100000 in
theorem cellsStr : Tryz.prog.cellsOf 9 = 1 := by kernel_rfl
set_option maxRecDepth 100000 in
/-- An error of the list. -/
theorem laidErr {L : List (String × DataW Unit)} {W : World} (h : laidMet Tryz.prog L W) {n : String} {text : List UInt8} {g : Nat} (hg : Tryz.prog.globalNamed n = some g) (hty : (Tryz.prog.globals[g]?).map (·.type) = some 56)
    (hm : (n, DataW.iface "*errors.errorString" (.ptr (.agg [.lit (.string text)]))) ∈ L) :
    ∃ a s, W.cell? ⟨g, 0, none⟩ = some (errv a) ∧ W.cell? a = some (.string s) ∧ s.data.toList = text ∧ (∃ cs t, W.heap[a.block]? = some (.cells cs t (0, 0))) ∧ g < W.heap.size := by
  obtain ⟨ps, hv, -, hcells⟩ := h
  obtain ⟨g', t, cs, fuel, p, h1, h2, h3, h4, h5, h6⟩ := laid_in hv _ _ hm
  obtain rfl := Option.some.inj (h1.symm.trans hg)
  obtain rfl := Option.some.inj (h2.symm.trans hty)
  have hcell := World.var?_cell h1 h3
  have ok : ∀ u v, cs.toList = [.iface u v] → Value.okWide Tryz.prog W .any 0 u v := fun u v hcs => by
    have hsz : cs.size = 1 := by rw [← Array.length_toList, hcs]; rfl
    refine (hcells g' 0 (h5 _ (by rw [hsz]; exact MemPlace.mem_row.2 ⟨0, by omega, rfl⟩))).2 u v ?_
    rw [hcell 0, ← Array.getElem?_toList, hcs]
    rfl
  obtain ⟨a, s, hcs, hc0, hs0, hz0, hp⟩ := errorString_of_trod Tryz.underlying56 errRow Tryz.underlying180 Tryz.underlying182 rfl rfl Tryz.underlying9 cellsErr cellsStr h4 ok
  have hgc : W.cell? ⟨g', 0, none⟩ = some (errv a) := by
    rw [hcell 0, ← Array.getElem?_toList, hcs]
    rfl
  refine ⟨a, s, hgc, hc0, hs0, (hcells a.block a.off (h6 _ (by rw [hp]; exact MemPlace.mem_row.2 ⟨0, by omega, by simp⟩))).1, ?_⟩
  rcases Nat.lt_or_ge g' W.heap.size with hlt | hge
  · exact hlt
  · unfold World.cell? at hgc
    simp [Array.getElem?_eq_none hge] at hgc
end Go.Proofs.YtalgnjkdoaaacaaGreatDoor

/- A slice of entries that came in, opened. -/
namespace Go.Proofs.YtalgnjkdoaaacaaGreatDoor
open Go Go.RowKit Go.ChangeShapes Go.WideShapes
open Zp
theorem bs_of (s : ByteArray) : s = bs s.data.toList := by
  cases s
  simp [bs]
set_option maxRecDepth 100000 in
theorem cellsHd : Tryz.prog.cellsOf 36 = 14 := by kernel_rfl
set_option maxRecDepth 100000 in
theorem cellsEn : Tryz.prog.cellsOf 38 = 15 := by kernel_rfl
set_option maxRecDepth 100000 in
theorem cellsBool : Tryz.prog.cellsOf 4 = 1 := by kernel_rfl
set_option maxRecDepth 100000 in
theorem cellsInt : Tryz.prog.cellsOf 3 = 1 := by kernel_rfl
section
variable {H : Type} {enc : TypeId × Value → H} {W : World} {base : Nat} {sp : Nat → Bool} {held : Bool}
set_option maxRecDepth 100000 in
set_option maxHeartbeats 4000000 in
set_option linter.unusedSimpArgs false in
theorem open_hd {fuel : Nat} {cs : List Value} {x : DataW H × List MemPlace} (h : DataW.trod enc Tryz.prog W base sp held fuel 36 cs = some x) :
    ∃ h : Hd, cs = hdL h ∧ HdM h ∧ h.name.length ≤ 9223372036854775807 ∧ h.comment.length ≤ 9223372036854775807 ∧ h.extra.length ≤ 9223372036854775807 := by
  obtain ⟨xs, n, rfl, -, hl, hxl, hf⟩ := DataW.trod_struct Tryz.underlying36 h
  rw [cellsHd] at hl
  clear h
  match cs, hl, xs, hxl, hf with
  | [c0, c1, c2, c3, c4, c5, c6, c7, c8, c9, c10, c11, c12, c13], _, [y0, y1, y2, y3, y4, y5, y6, y7, y8, y9, y10, y11, y12, y13], _, hf =>
    have g0 := hf 0 _ rfl
    simp [cellsStr, cellsBool, cellsInt] at g0
    have g1 := hf 1 _ rfl
    simp [cellsStr, cellsBool, cellsInt] at g1
    have g2 := hf 2 _ rfl
    simp [cellsStr, cellsBool, cellsInt] at g2
    have g3 := hf 3 _ rfl
    simp [cellsStr, cellsBool, cellsInt] at g3
    have g4 := hf 4 _ rfl
    simp [cellsStr, cellsBool, cellsInt] at g4
    have g5 := hf 5 _ rfl
    simp [cellsStr, cellsBool, cellsInt] at g5
    have g6 := hf 6 _ rfl
    simp [cellsStr, cellsBool, cellsInt] at g6
    have g7 := hf 7 _ rfl
    simp [cellsStr, cellsBool, cellsInt] at g7
    have g8 := hf 8 _ rfl
    simp [cellsStr, cellsBool, cellsInt] at g8
    have g9 := hf 9 _ rfl
    simp [cellsStr, cellsBool, cellsInt] at g9
    have g10 := hf 10 _ rfl
    simp [cellsStr, cellsBool, cellsInt] at g10
    have g11 := hf 11 _ rfl
    simp [cellsStr, cellsBool, cellsInt] at g11
    have g12 := hf 12 _ rfl
    simp [cellsStr, cellsBool, cellsInt] at g12
    have g13 := hf 13 _ rfl
    simp [cellsStr, cellsBool, cellsInt] at g13
    obtain ⟨s0, e0, -, z0⟩ := DataW.trod_string Tryz.underlying9 g0
    obtain ⟨s1, e1, -, z1⟩ := DataW.trod_string Tryz.underlying9 g1
    obtain ⟨s2, e2, -, z2⟩ := DataW.trod_string Tryz.underlying9 g2
    obtain ⟨b3, e3, -⟩ := DataW.trod_bool Tryz.underlying4 g3
    obtain ⟨n4, e4, -, w4⟩ := DataW.trod_int Tryz.underlying3 g4
    obtain ⟨n5, e5, -, w5⟩ := DataW.trod_int Tryz.underlying3 g5
    obtain ⟨n6, e6, -, w6⟩ := DataW.trod_int Tryz.underlying3 g6
    obtain ⟨n7, e7, -, w7⟩ := DataW.trod_int Tryz.underlying3 g7
    obtain ⟨n8, e8, -, w8⟩ := DataW.trod_int Tryz.underlying3 g8
    obtain ⟨n9, e9, -, w9⟩ := DataW.trod_int Tryz.underlying3 g9
    obtain ⟨n10, e10, -, w10⟩ := DataW.trod_int Tryz.underlying3 g10
    obtain ⟨n11, e11, -, w11⟩ := DataW.trod_int Tryz.underlying3 g11
    obtain ⟨n12, e12, -, w12⟩ := DataW.trod_int Tryz.underlying3 g12
    obtain ⟨n13, e13, -, w13⟩ := DataW.trod_int Tryz.underlying3 g13
    simp only [List.cons.injEq, and_true] at e0 e1 e2 e3 e4 e5 e6 e7 e8 e9 e10 e11 e12 e13
    subst e0 e1 e2 e3 e4 e5 e6 e7 e8 e9 e10 e11 e12 e13
    have hz : ∀ s : ByteArray, s.size ≤ maxLen → s.data.toList.length ≤ 9223372036854775807 := fun s h => by
      rw [← Lib.size_eq]
      unfold maxLen at h
      omega
    refine ⟨⟨s0.data.toList, s1.data.toList, s2.data.toList, b3, n4, n5, n6, n7, n8, n9, n10, n11, n12, n13⟩, ?_, ⟨bounds_i64 w4, bounds_i64 w5, bounds_i64 w6, bounds_i64 w7, bounds_i64 w8, bounds_i64 w9, bounds_i64 w10, bounds_i64 w11, bounds_i64 w12, bounds_i64 w13⟩, hz _ z0, hz _ z1, hz _ z2⟩
    unfold hdL
    rw [← bs_of, ← bs_of, ← bs_of]
set_option maxRecDepth 100000 in
set_option maxHeartbeats 4000000 in
theorem open_ent {fuel : Nat} {cs : List Value} {x : DataW H × List MemPlace} (h : DataW.trod enc Tryz.prog W base sp held fuel 38 cs = some x) :
    ∃ e : Ent, cs = entL e ∧ EntM e ∧ HdM e.h := by
  obtain ⟨xs, n, rfl, -, hl, hxl, hf⟩ := DataW.trod_struct Tryz.underlying38 h
  rw [cellsEn] at hl
  clear h
  match cs, hl, xs, hxl, hf with
  | [c0, c1, c2, c3, c4, c5, c6, c7, c8, c9, c10, c11, c12, c13, c14], _, [y0, y1], _, hf =>
    have g0 := hf 0 _ rfl
    have g1 := hf 1 _ rfl
    simp [cellsHd] at g0
    simp [cellsStr] at g1
    obtain ⟨h, e0, e1, e2, e3, e4⟩ := open_hd g0
    obtain ⟨s, e5, -, z⟩ := DataW.trod_string Tryz.underlying9 g1
    have hz : s.data.toList.length ≤ 9223372036854775807 := by
      rw [← Lib.size_eq]
      unfold maxLen at z
      omega
    refine ⟨⟨h, s.data.toList⟩, ?_, ⟨e2, e3, e4, hz⟩, e1⟩
    have hs : [c0, c1, c2, c3, c4, c5, c6, c7, c8, c9, c10, c11, c12, c13, c14] = hdL h ++ [.string (bs s.data.toList)] := by
      rw [← e0, ← bs_of, ← e5]
      rfl
    rw [hs]
    rfl
theorem open_sv {fuel : Nat} {cs : List Value} {x : DataW H × List MemPlace} (h : DataW.trod enc Tryz.prog W 0 sp held fuel 22 cs = some x) :
    ∃ v l, cs = [v] ∧ SV W v l ∧ ∀ e ∈ l, EntM e ∧ HdM e.h := by
  rcases Deep.open_slice Tryz.underlying22 h with ⟨rfl, -⟩ | ⟨a, len, cap, m, n, D, Pl, rfl, -, hl, hm, hmm, -, hx⟩
  · exact ⟨_, [], rfl, ⟨none, 0, rfl, Nat.le_refl _, by unfold maxLen; omega, fun h => absurd rfl h⟩, fun e he => by cases he⟩
  · have hlm : len ≤ m := by rw [hmm]; split <;> omega
    letI : Inhabited Ent := ⟨eAB⟩
    obtain ⟨f, hf⟩ := Deep.choose_lt (α := Ent) (n := len) (p := fun i e => W.cells? 0 (a.add (i * 15)) 15 = some (entL e) ∧ EntM e ∧ HdM e.h) (fun i hi => by
      obtain ⟨cs', h1, h2⟩ := hx i (by omega)
      rw [cellsEn] at h1
      obtain ⟨e, rfl, h3, h4⟩ := open_ent h2
      exact ⟨e, h1, h3, h4⟩)
    refine ⟨_, (List.range len).map f, rfl, ⟨some a, cap, by simp, by simpa using hl, hm, fun hne => ?_⟩, fun e he => ?_⟩
    · have hlen : 0 < len := by
        rcases Nat.eq_zero_or_pos len with h0 | h0
        · subst h0; exact absurd rfl hne
        · exact h0
      obtain ⟨b, o, sub⟩ := a
      have hc : ∀ i, i < len → ∀ j, j < 15 → W.cell? (((⟨b, o, sub⟩ : Addr).add (i * 15)).add j) = (entL (f i))[j]? := fun i hi j hj => (World.cells?_some (hf i hi).1).2.2 j hj
      have h00 := hc 0 hlen 0 (by omega)
      rw [Deep.add_add] at h00
      have h01 : W.cell? ⟨b, o, sub⟩ = some (.string (bs (f 0).h.name)) := by simpa [Addr.add, entL] using h00
      obtain rfl : sub = none := Go.Proofs.cell_spot h01
      have hlt : b < W.heap.size := by
        rcases Nat.lt_or_ge b W.heap.size with hlt | hge
        · exact hlt
        · unfold World.cell? at h01
          simp [Array.getElem?_eq_none hge] at h01
      refine ⟨b, o, rfl, hlt, fun i e hi j v hj => ?_⟩
      have hil : i < len := by
        have := (List.getElem?_eq_some_iff.1 hi).1
        simpa using this
      have hei : e = f i := by
        rw [List.getElem?_map, List.getElem?_range hil] at hi
        simpa using hi.symm
      subst hei
      have hj15 : j < 15 := by
        have := (List.getElem?_eq_some_iff.1 hj).1
        rwa [entL_length] at this
      have := hc i hil j hj15
      rw [Deep.add_add, Addr.add_lit, ← Nat.add_assoc, hj] at this
      exact this
    · obtain ⟨i, hi, rfl⟩ := List.mem_map.1 he
      exact (hf i (by simpa using hi)).2
end
end Go.Proofs.YtalgnjkdoaaacaaGreatDoor

/- The world that the rows' lists give: errors that differ, the tables of UTF-8. -/
namespace Go.Proofs.YtalgnjkdoaaacaaGreatDoor
open Go Go.RowKit Go.ChangeShapes Go.WideShapes
open Zp
/-- What the calls read of the lists. -/
def need : List (String × DataW Unit) := [("loop.example/pub-ziparchives/pub/gozip.ErrFormat", Rows.laid_loop_example_pub_ziparchives_pub_gozip_ErrFormat), ("io.EOF", Rows.laid_io_EOF), ("loop.example/pub-ziparchives/pub/gozip.ErrAlgorithm", Rows.laid_loop_example_pub_ziparchives_pub_gozip_ErrAlgorithm), ("loop.example/pub-ziparchives/pub/gozip.ErrChecksum", Rows.laid_loop_example_pub_ziparchives_pub_gozip_ErrChecksum), ("io.ErrUnexpectedEOF", Rows.laid_io_ErrUnexpectedEOF), ("loop.example/pub-ziparchives/pub/gozip.ErrInsecurePath", Rows.laid_loop_example_pub_ziparchives_pub_gozip_ErrInsecurePath), ("unicode/utf8.first", Rows.laid_unicode_utf8_first), ("unicode/utf8.acceptRanges", Rows.laid_unicode_utf8_acceptRanges)]
theorem ne_of {W : World} {a b : Addr} {s t : ByteArray} {x y : List UInt8} (c1 : W.cell? a = some (.string s)) (c2 : W.cell? b = some (.string t)) (h1 : s.data.toList = x) (h2 : t.data.toList = y) (hxy : x ≠ y) : a ≠ b := by
  rintro rfl
  rw [c1] at c2
  injection c2 with c2
  injection c2 with c2
  subst c2
  exact hxy (h1.symm.trans h2)
theorem accEq : (Rows.laid_unicode_utf8_acceptRanges : DataW Unit) = Lib.acceptData := by kernel_rfl
set_option maxRecDepth 100000 in
theorem u8Types : U8Types Tryz.prog Tryz.lays197_ren := { Tryz.lays197 with }
set_option maxRecDepth 100000 in
theorem u8Extra : U8Extra Tryz.prog Tryz.lays197_ren := ⟨by kernel_rfl, by kernel_rfl, by kernel_rfl, by kernel_rfl, by kernel_rfl, by kernel_rfl, by kernel_rfl⟩
set_option maxRecDepth 100000 in
theorem utOf {L : List (String × DataW Unit)} {W : World} (hL : ∀ x ∈ need, x ∈ L) (h : laidMet Tryz.prog L W) : UT W := by
  have h3 := Lib.laidMet.reads h (hL ("unicode/utf8.first", Rows.laid_unicode_utf8_first) (by simp [need]))
  have h4 := Lib.laidMet.reads h (hL ("unicode/utf8.acceptRanges", Rows.laid_unicode_utf8_acceptRanges) (by simp [need]))
  rw [show Rows.laid_unicode_utf8_first = Lib.firstData from Pinned.utf8First_eq] at h3
  rw [accEq] at h4
  exact utf8Tabs_of_readsT u8Types u8Extra h3 h4
theorem lt_of_cell {W : World} {g o : Nat} {v : Value} (h : W.cell? ⟨g, o, none⟩ = some v) : g < W.heap.size := by
  rcases Nat.lt_or_ge g W.heap.size with hlt | hge
  · exact hlt
  · unfold World.cell? at h
    simp [Array.getElem?_eq_none hge] at h
set_option maxRecDepth 100000 in
theorem open_str {H : Type} {enc : TypeId × Value → H} {W : World} {r : Reach} {b0 base : Nat} {sp : Nat → Bool} {held : Bool} {v : Value} {d : DataW H} {ps : List MemPlace} (hval : Value.okWide Tryz.prog W r b0 9 v) (hd : DataW.Trod enc Tryz.prog W base sp held 9 v d ps) :
    ∃ s : ByteArray, v = .string s ∧ d = .lit (.string s.data.toList) ∧ ps = [] ∧ s.size ≤ maxLen := by
  obtain ⟨s, rfl⟩ := okWide_string Tryz.underlying9 hval
  obtain ⟨fuel, hf⟩ := hd
  obtain ⟨s', h, hx, hs⟩ := DataW.trod_string Tryz.underlying9 hf
  simp [Value.cells] at h
  subst h
  simp only [Prod.mk.injEq] at hx
  exact ⟨s, rfl, hx.1, hx.2, hs⟩
set_option maxRecDepth 100000 in
theorem laidOut : laidOutB Tryz.prog = true := by kernel_rfl
theorem vars4 {H : Type} {enc : TypeId × Value → H} {P : Program} {w : World} {sp : Nat → Bool} {n1 n2 n3 n4 : String} : ∀ {gs : List (DataW H)} {ps : List MemPlace}, DataW.TrodVars enc P w sp [n1, n2, n3, n4] gs ps → ∃ a b c d, gs = [a, b, c, d]
  | [a, b, c, d], _, _ => ⟨a, b, c, d, rfl⟩
  | [], _, h => h.elim
  | [_], _, ⟨_, _, _, _, _, _, _, _, _, _, h, _⟩ => h.elim
  | [_, _], _, ⟨_, _, _, _, _, _, _, _, _, _, ⟨_, _, _, _, _, _, _, _, _, _, h, _⟩, _⟩ => h.elim
  | [_, _, _], _, ⟨_, _, _, _, _, _, _, _, _, _, ⟨_, _, _, _, _, _, _, _, _, _, ⟨_, _, _, _, _, _, _, _, _, _, h, _⟩, _⟩, _⟩ => h.elim
  | _ :: _ :: _ :: _ :: _ :: _, _, ⟨_, _, _, _, _, _, _, _, _, _, ⟨_, _, _, _, _, _, _, _, _, _, ⟨_, _, _, _, _, _, _, _, _, _, ⟨_, _, _, _, _, _, _, _, _, _, h, _⟩, _⟩, _⟩, _⟩ => h.elim
set_option maxRecDepth 100000 in
set_option maxHeartbeats 4000000 in
theorem world_of {L : List (String × DataW Unit)} {W : World} (hL : ∀ x ∈ need, x ∈ L) (h : laidMet Tryz.prog L W) : ∃ E, WE E W.heap.size W := by
  obtain ⟨a0, s0, c0, d0, t0, ⟨p0, q0, b0⟩, l0⟩ := laidErr (g := 1) h (by kernel_rfl) (by kernel_rfl) (hL ("loop.example/pub-ziparchives/pub/gozip.ErrFormat", Rows.laid_loop_example_pub_ziparchives_pub_gozip_ErrFormat) (by simp [need]))
  obtain ⟨a1, s1, c1, d1, t1, ⟨p1, q1, b1⟩, l1⟩ := laidErr (g := 5) h (by kernel_rfl) (by kernel_rfl) (hL ("io.EOF", Rows.laid_io_EOF) (by simp [need]))
  obtain ⟨a2, s2, c2, d2, t2, ⟨p2, q2, b2⟩, l2⟩ := laidErr (g := 2) h (by kernel_rfl) (by kernel_rfl) (hL ("loop.example/pub-ziparchives/pub/gozip.ErrAlgorithm", Rows.laid_loop_example_pub_ziparchives_pub_gozip_ErrAlgorithm) (by simp [need]))
  obtain ⟨a3, s3, c3, d3, t3, ⟨p3, q3, b3⟩, l3⟩ := laidErr (g := 3) h (by kernel_rfl) (by kernel_rfl) (hL ("loop.example/pub-ziparchives/pub/gozip.ErrChecksum", Rows.laid_loop_example_pub_ziparchives_pub_gozip_ErrChecksum) (by simp [need]))
  obtain ⟨a4, s4, c4, d4, t4, ⟨p4, q4, b4⟩, l4⟩ := laidErr (g := 4) h (by kernel_rfl) (by kernel_rfl) (hL ("io.ErrUnexpectedEOF", Rows.laid_io_ErrUnexpectedEOF) (by simp [need]))
  obtain ⟨a5, s5, c5, d5, t5, ⟨p5, q5, b5⟩, l5⟩ := laidErr (g := 0) h (by kernel_rfl) (by kernel_rfl) (hL ("loop.example/pub-ziparchives/pub/gozip.ErrInsecurePath", Rows.laid_loop_example_pub_ziparchives_pub_gozip_ErrInsecurePath) (by simp [need]))
  have hu := utOf hL h
  have l6 := lt_of_cell (hu.1 0 (by omega))
  have l7 := lt_of_cell (hu.2 0 (by omega)).1
  have hlt : ∀ {a : Addr} {p : Array Value} {q : TypeId}, W.heap[a.block]? = some (.cells p q (0, 0)) → a.block < W.heap.size := fun {a p q} hh => Blk.lt (t := q) (cs := p) hh
  refine ⟨⟨a0, a1, a2, a3, a4, a5⟩, ⟨c0, c1, c2, c3, c4, c5⟩, hu, ⟨?_, ?_, Nat.le_refl _, by omega⟩⟩
  · intro a ha
    simp only [Errs.list, List.mem_cons, List.not_mem_nil, or_false] at ha
    rcases ha with rfl | rfl | rfl | rfl | rfl | rfl
    · exact ⟨hlt b0, _, _, b0⟩
    · exact ⟨hlt b1, _, _, b1⟩
    · exact ⟨hlt b2, _, _, b2⟩
    · exact ⟨hlt b3, _, _, b3⟩
    · exact ⟨hlt b4, _, _, b4⟩
    · exact ⟨hlt b5, _, _, b5⟩
  · simp only [Errs.list, List.nodup_cons, List.mem_cons, List.not_mem_nil, or_false, not_or, List.nodup_nil, and_true, not_false_eq_true]
    exact ⟨⟨ne_of d0 d1 t0 t1 (by decide +kernel), ne_of d0 d2 t0 t2 (by decide +kernel), ne_of d0 d3 t0 t3 (by decide +kernel), ne_of d0 d4 t0 t4 (by decide +kernel), ne_of d0 d5 t0 t5 (by decide +kernel)⟩,
      ⟨ne_of d1 d2 t1 t2 (by decide +kernel), ne_of d1 d3 t1 t3 (by decide +kernel), ne_of d1 d4 t1 t4 (by decide +kernel), ne_of d1 d5 t1 t5 (by decide +kernel)⟩,
      ⟨ne_of d2 d3 t2 t3 (by decide +kernel), ne_of d2 d4 t2 t4 (by decide +kernel), ne_of d2 d5 t2 t5 (by decide +kernel)⟩,
      ⟨ne_of d3 d4 t3 t4 (by decide +kernel), ne_of d3 d5 t3 t5 (by decide +kernel)⟩, ne_of d4 d5 t4 t5 (by decide +kernel)⟩
end Go.Proofs.YtalgnjkdoaaacaaGreatDoor

/- The variables of a row, by their number. -/
namespace Go.Proofs.YtalgnjkdoaaacaaGreatDoor
open Go.ChangeShapes Go.WideShapes Go.ChangeAt Go.RowKit
theorem vars_len {H : Type} {enc : TypeId × Value → H} {P : Program} {w : World} {sp : Nat → Bool} : ∀ {ns : List String} {gs : List (DataW H)} {ps : List MemPlace}, DataW.TrodVars enc P w sp ns gs ps → gs.length = ns.length
  | [], [], _, _ => rfl
  | [], _ :: _, _, h => h.elim
  | _ :: _, [], _, h => h.elim
  | _ :: _, _ :: _, _, ⟨_, _, _, _, _, _, _, _, _, _, h, _⟩ => by simp [vars_len h]
theorem vars6 {H : Type} {enc : TypeId × Value → H} {P : Program} {w : World} {sp : Nat → Bool} {n1 n2 n3 n4 n5 n6 : String} {gs : List (DataW H)} {ps : List MemPlace} (h : DataW.TrodVars enc P w sp [n1, n2, n3, n4, n5, n6] gs ps) : ∃ a b c d e f, gs = [a, b, c, d, e, f] := by
  have := vars_len h
  match gs, this with
  | [a, b, c, d, e, f], _ => exact ⟨a, b, c, d, e, f, rfl⟩
end Go.Proofs.YtalgnjkdoaaacaaGreatDoor

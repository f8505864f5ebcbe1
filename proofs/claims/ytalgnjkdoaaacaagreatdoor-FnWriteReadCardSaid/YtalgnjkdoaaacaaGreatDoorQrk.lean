/- spec.Stored, spec.AllStored. -/
import Derived.Test.YtalgnjkdoaaacaaGreatDoorQrd
import Derived.Test.YtalgnjkdoaaacaaGreatDoorQra
import Derived.Test.YtalgnjkdoaaacaaGreatDoorQrh
set_option linter.unusedVariables false
set_option linter.unusedSimpArgs false
namespace Go.Proofs.YtalgnjkdoaaacaaGreatDoor
open Go Go.RowKit
open Zp
/-- an entry with its content stored -/
def storedE (e : Ent) : Ent := ⟨{ e.h with method := 0, packed := e.data.length, size := e.data.length, crc := crcOf 0 e.data }, e.data⟩
theorem flat_get : ∀ (l : List Ent) (i j : Nat) (e : Ent), l[i]? = some e → j < 15 → (l.flatMap entL)[i * 15 + j]? = (entL e)[j]?
  | [], i, j, e, h, _ => by simp at h
  | a :: l, 0, j, e, h, hj => by
    simp at h
    subst h
    rw [List.flatMap_cons, List.getElem?_append_left (by rw [entL_length]; omega)]
    simp
  | a :: l, i + 1, j, e, h, hj => by
    have := flat_get l i j e (by simpa using h) hj
    rw [List.flatMap_cons, List.getElem?_append_right (by rw [entL_length]; omega), entL_length, show (i + 1) * 15 + j - 15 = i * 15 + j by omega, this]
theorem flat_set : ∀ (l : List Ent) (i j : Nat) (e e' : Ent) (u : Value), l[i]? = some e → j < 15 → (entL e).set j u = entL e' → (l.flatMap entL).set (i * 15 + j) u = (l.set i e').flatMap entL
  | [], i, j, e, e', u, h, _, _ => by simp at h
  | a :: l, 0, j, e, e', u, h, hj, hs => by
    simp at h
    subst h
    rw [List.flatMap_cons, List.set_append_left _ _ (by rw [entL_length]; omega), List.set_cons_zero, List.flatMap_cons, ← hs]
    simp
  | a :: l, i + 1, j, e, e', u, h, hj, hs => by
    have := flat_set l i j e e' u (by simpa using h) hj hs
    rw [List.flatMap_cons, List.set_append_right _ _ (by rw [entL_length]; omega), entL_length, show (i + 1) * 15 + j - 15 = i * 15 + j by omega, this, List.set_cons_succ, List.flatMap_cons]
theorem flat_length (l : List Ent) : (l.flatMap entL).length = l.length * 15 := by
  induction l with
  | nil => rfl
  | cons a l ih => rw [List.flatMap_cons, List.length_append, ih, entL_length, List.length_cons]; omega
/-- These entries lie in a row of the call's own. -/
def OL (w : World) (base : Nat) (v : Value) (l : List Ent) : Prop := w.ownsRow base 38 15 v l.length (l.flatMap entL)
theorem OL.sv {w : World} {base : Nat} {v : Value} {l : List Ent} (h : OL w base v l) : SV w v l := by
  have hh := h
  rcases hh.2 with ⟨h1, h2⟩ | ⟨g, cap, cur, h1, h2, h3, h4, h5, h6, h7⟩
  · refine ⟨none, 0, by rw [h1, h2], by omega, by unfold maxLen; omega, fun hl => ?_⟩
    exact absurd (List.eq_nil_of_length_eq_zero h2) hl
  · refine ⟨_, cap, h1, h4, h5, fun hl => ⟨g, 0, rfl, Blk.lt (t := 38) (cs := cur) h3, ?_⟩⟩
    intro i e hi j u hj
    have hj15 : j < 15 := by
      have := (List.getElem?_eq_some_iff.1 hj).1
      rwa [entL_length] at this
    have := h.cells (g := g) (by rw [h1]; rfl) (i * 15 + j) u (by rw [flat_get l i j e hi hj15]; exact hj)
    rw [Addr.add_lit] at this
    rw [Nat.zero_add] at this ⊢
    exact this
theorem ownsE_fr {w w' : World} {S : List Nat} {base : Nat} {e : TypeId} {size : Nat} {v : Value} {n : Nat} {xs : List Value} (h : w.ownsRow base e size v n xs) (hf : Fr S w w') (hS : ∀ s ∈ S, s < base) : w'.ownsRow base e size v n xs := by
  obtain ⟨h0, h⟩ := h
  refine ⟨h0, ?_⟩
  rcases h with h | ⟨g, cap, cur, h1, h2, h3, h4⟩
  · exact .inl h
  · exact .inr ⟨g, cap, cur, h1, h2, Blk.fr (t := e) (cs := cur) h3 hf (fun hm => by have := hS _ hm; omega), h4⟩
theorem OL.fr {w w' : World} {S : List Nat} {base : Nat} {v : Value} {l : List Ent} (h : OL w base v l) (hf : Fr S w w') (hS : ∀ s ∈ S, s < base) : OL w' base v l := ownsE_fr h hf hS
theorem infoEnt2 : (Tryz.prog.info? 38).map (fun i => (i.zero.map (fun z => z.cells.size), i.size, i.bytes)) = some (some 15, 15, 152) := by kernel_rfl
theorem new_two (w : World) (o : Obj) (t : TypeId) (cs : Array Value) : Blk ((w.alloc o).alloc (.cells cs t)) (w.heap.size + 1) t cs := by
  have := Blk.new (w.alloc o) t cs
  rw [World.size_alloc] at this
  exact this
theorem infoEntB : (Tryz.prog.info? 38).map (fun i => i.size) = some 15 := by kernel_rfl
set_option maxRecDepth 100000 in
set_option maxHeartbeats 8000000 in
theorem storedC (e : Ent) (hI : EntI e) (w : World) :
    Calls Tryz.prog 60 #[.agg #[.string (bs e.h.name), .string (bs e.h.comment), .string (bs e.h.extra), .bool e.h.non, .int .i64 e.h.creator, .int .i64 e.h.reader, .int .i64 e.h.flags, .int .i64 e.h.method, .int .i64 e.h.time, .int .i64 e.h.date, .int .i64 e.h.crc, .int .i64 e.h.packed, .int .i64 e.h.size, .int .i64 e.h.ext, .string (bs e.data)]] w fun x w' => x = .returned (.agg (entL (storedE e)).toArray) ∧ Fr [] w w' := by
  have hdd := hI.data
  have HC := Lib.hid (fun w1 => crcC (bs e.data) w1 (by show e.data.toArray.size ≤ _; simp; omega))
  clear hI
  go_enter Tryz.func60, Tryz.ntmps60
  go_wp2_with fail
  refine (HC.out _).mono ?_
  rintro x w1 ⟨rfl, rfl⟩
  go_wp2_with fail
  refine bodyPost_ret (v := .agg (entL (storedE e)).toArray) (results_cell_row rfl _ _ _ _ _ _ _ rfl (new_two w _ 38 (entL (storedE e)).toArray) rfl rfl infoEntB) rfl ⟨rfl, ((Fr.refl _ _).alloc _).alloc _⟩
theorem storedX (e : Ent) (hI : EntI e) (w : World) :
    Calls Tryz.prog 60 #[.agg #[.string (bs e.h.name), .string (bs e.h.comment), .string (bs e.h.extra), .bool e.h.non, .int .i64 e.h.creator, .int .i64 e.h.reader, .int .i64 e.h.flags, .int .i64 e.h.method, .int .i64 e.h.time, .int .i64 e.h.date, .int .i64 e.h.crc, .int .i64 e.h.packed, .int .i64 e.h.size, .int .i64 e.h.ext, .string (bs e.data)]] w fun x w' => x = .returned (.agg #[.string (bs e.h.name), .string (bs e.h.comment), .string (bs e.h.extra), .bool e.h.non, .int .i64 e.h.creator, .int .i64 e.h.reader, .int .i64 e.h.flags, .int .i64 0, .int .i64 e.h.time, .int .i64 e.h.date, .int .i64 (crcOf 0 e.data : Int), .int .i64 (e.data.length : Int), .int .i64 (e.data.length : Int), .int .i64 e.h.ext, .string (bs e.data)]) ∧ Fr [] w w' := storedC e hI w
theorem news_of (w : World) (e : Ent) : ∀ j u, (entL e)[j]? = some u → (w.alloc (.cells (entL e).toArray 38)).cell? ((⟨w.heap.size, 0, none⟩ : Addr).add j) = some u := fun j u hj => by
  rw [Addr.add_lit, Nat.zero_add]
  exact (Blk.new w 38 (entL e).toArray).at_ j u (by simpa using hj)
theorem ones_of (e : Ent) : ∀ u ∈ entL e, u.oneCell' = true := by
  intro u hu
  simp only [entL, List.mem_cons, List.not_mem_nil, or_false] at hu
  rcases hu with rfl | rfl | rfl | rfl | rfl | rfl | rfl | rfl | rfl | rfl | rfl | rfl | rfl | rfl | rfl <;> rfl
/-- What AllStored answers. -/
def AllP (l : List Ent) (w : World) (x : Ending) (w' : World) : Prop := ∃ v, x = .returned v ∧ OL w' w.heap.size v (l.map storedE) ∧ Fr [] w w'
set_option maxRecDepth 100000 in
set_option maxHeartbeats 8000000 in
theorem allStoredC (l : List Ent) (hI : ∀ e ∈ l, EntI e) (hl : l.length ≤ 2147483647) (v : Value) (w : World) (hv : SV w v l) :
    Calls Tryz.prog 35 #[v] w (AllP l w) := by
  obtain ⟨i0, hi0, hz0⟩ := Option.map_eq_some_iff.1 infoEnt2
  simp only [Prod.mk.injEq] at hz0
  obtain ⟨hz1, hz2, hz3⟩ := hz0
  obtain ⟨z0, hz4, hz5⟩ := Option.map_eq_some_iff.1 hz1
  have HI0 := Lib.hid (And.intro hi0 (And.intro hz4 (And.intro hz2 (And.intro hz3 hz5))))
  clear hi0 hz1 hz2 hz3 hz4 hz5
  obtain ⟨p, cap, rfl, hlc, hcm, hp⟩ := hv
  have HP := Lib.hid hp
  have HI := Lib.hid hI
  clear hp hI
  obtain ⟨n, hn⟩ : ∃ n, l.length = n := ⟨_, rfl⟩
  rw [hn] at hlc hl ⊢
  have hn47 : n ≤ 9223372036854775807 := by omega
  have h0 : (w.alloc (.cells #[] 38)).ownsRow w.heap.size 38 15 (.slice (some ⟨w.heap.size, 0, none⟩) 0 0) 0 [] :=
    ⟨rfl, .inr ⟨w.heap.size, 0, #[], rfl, Nat.le_refl _, Blk.new w _ _, Nat.le_refl _, by unfold maxLen; omega, rfl, rfl⟩⟩
  have H0 := Lib.hid h0
  clear h0
  go_enter Tryz.func35, Tryz.ntmps35
  go_wp2_with fail
  go_loopw [3, 9] (fun v3 v9 wr => ∃ (k : Nat), k ≤ n ∧ v9 = .int .i64 (k : Int) ∧ wr.ownsRow w.heap.size 38 15 v3 k (((l.take k).map storedE).flatMap entL) ∧ Fr [] w wr) (fun _ v9 _ => n - (intOf v9).toNat)
  case atStart => exact ⟨0, by omega, rfl, H0.out, (Fr.refl _ _).alloc _⟩
  case round =>
    obtain ⟨k, hk, rfl, hown, hf⟩ := hrel
    have HO := Lib.hid hown
    by_cases hlt : k < n
    · have hkl : k < l.length := by omega
      obtain ⟨g, o, rfl, hg, hle⟩ := HP.out (fun h => by rw [h] at hkl; simp at hkl)
      obtain ⟨e, he⟩ : ∃ e, l[k] = e := ⟨_, rfl⟩
      have hem : e ∈ l := by rw [← he]; exact List.getElem_mem hkl
      have hei := HI.out e hem
      have hrg := (hle.fr hf hg (by simp)) k e (by rw [← he]; exact List.getElem?_eq_getElem hkl)
      obtain ⟨c0, c1, c2, c3, c4, c5, c6, c7, c8, c9, c10, c11, c12, c13, c14⟩ := cellsE hrg
      have HEI := Lib.hid hei
      have HF := Lib.hid hf
      have HT := Lib.hid (show (l.take (k + 1)).map storedE = (l.take k).map storedE ++ [storedE e] by rw [List.take_add_one, List.getElem?_eq_getElem hkl, he]; simp)
      clear hf hei hle hrg hown
      have HB := Lib.hid (storedX e HEI.out)
      go_wp2_with fail
      clear c0 c1 c2 c3 c4 c5 c6 c7 c8 c9 c10 c11 c12 c13 c14
      refine (HB.out _).mono ?_
      rintro x w2 ⟨rfl, hf2⟩
      have HF2 := Lib.hid (HF.out.trans (((Fr.refl [] wr).alloc _).trans hf2 (by simp)) (by simp))
      have HO2 := Lib.hid (ownsE_fr HO.out (((Fr.refl [] wr).alloc _).trans hf2 (by simp)) (by simp))
      clear hf2 HO
      have HO3 := Lib.hid (ownsE_fr HO2.out ((Fr.refl [] w2).alloc (.cells (entL (storedE e)).toArray 38)) (by simp))
      have hbase : w.heap.size ≤ (w2.alloc (.cells (entL (storedE e)).toArray 38)).heap.size := ((HF2.out).alloc _).size
      go_wp2_with (at_builtin; refine wpList_append_own _ rfl _ _ 22 rfl w.heap.size 38 i0 z0 15 152 Tryz.underlying22 HI0.out.1 HI0.out.2.1 HI0.out.2.2.1 HI0.out.2.2.2.1 HI0.out.2.2.2.2 (by decide) u3 k (((l.take k).map storedE).flatMap entL) rfl HO3.out ⟨w2.heap.size, 0, none⟩ 1 1 (entL (storedE e)) rfl rfl (news_of w2 (storedE e)) (ones_of (storedE e)) (by unfold maxLen; omega) (by omega) hbase ?_; intro v' w4 hown4 hgrow4 hv4; have HO4 := Lib.hid hown4; have HG4 := Lib.hid hgrow4; clear hown4 hgrow4 hv4)
      have hlt2 := HO3.out.lt
      have hf5 : Fr u3.ownBlock.toList (w2.alloc (.cells (entL (storedE e)).toArray 38)) w4 := Fr.of_grown HG4.out (fun g hg => .inl (by rw [hg]; simp))
      have HF4 := Lib.hid ((HF2.out.alloc (.cells (entL (storedE e)).toArray 38)).trans hf5 (fun g hg => .inr (hlt2 g (by simpa using hg)).1))
      exact ⟨⟨k + 1, by omega, by rw [Int.natCast_add]; rfl, by rw [HT.out, List.flatMap_append, List.flatMap_singleton]; exact HO4.out, HF4.out⟩, by simp [intOf]; omega⟩
    · obtain rfl : k = n := by omega
      have HF := Lib.hid hf
      clear hf hown
      go_wp2_with fail
      go_ret
      refine ⟨_, rfl, ?_, HF.out⟩
      have := HO.out
      rw [List.take_of_length_le (by omega)] at this
      unfold OL
      rw [List.length_map, hn]
      exact this
end Go.Proofs.YtalgnjkdoaaacaaGreatDoor

/- laws.zzFits1; spec.Directories. -/
namespace Go.Proofs.YtalgnjkdoaaacaaGreatDoor
open Go Go.RowKit
open Zp
/-- Texts of a length that memory has. -/
structure EntM (e : Ent) : Prop where
  nm : e.h.name.length ≤ 9223372036854775807
  cm : e.h.comment.length ≤ 9223372036854775807
  ex : e.h.extra.length ≤ 9223372036854775807
  data : e.data.length ≤ 9223372036854775807
def FitH (h : Hd) : Prop := h.name.length ≤ 2147483647 ∧ h.comment.length ≤ 2147483647 ∧ h.extra.length ≤ 2147483647
def FitE (e : Ent) : Prop := FitH e.h ∧ e.data.length ≤ 2147483647
def FitL (l : List Ent) : Prop := l.length ≤ 2147483647 ∧ ∀ e ∈ l, FitE e
set_option maxRecDepth 100000 in
set_option maxHeartbeats 4000000 in
theorem fits3C (h : Hd) (h1 : h.name.length ≤ 9223372036854775807) (h2 : h.comment.length ≤ 9223372036854775807) (h3 : h.extra.length ≤ 9223372036854775807) (w : World) :
    Calls Tryz.prog 55 #[.agg #[.string (bs h.name), .string (bs h.comment), .string (bs h.extra), .bool h.non, .int .i64 h.creator, .int .i64 h.reader, .int .i64 h.flags, .int .i64 h.method, .int .i64 h.time, .int .i64 h.date, .int .i64 h.crc, .int .i64 h.packed, .int .i64 h.size, .int .i64 h.ext]] w (BoolP (FitH h) w) := by
  go_enter Tryz.func55, Tryz.ntmps55
  go_wp2_with fail
  all_goals go_ret
  all_goals refine ⟨_, rfl, ?_, (Fr.refl _ _).alloc _⟩
  all_goals simp only [FitH, Bool.false_eq_true]
  all_goals constructor
  all_goals intro hh
  all_goals first | exact hh.elim | rfl | trivial | omega | (refine ⟨?_, ?_, ?_⟩ <;> omega) | (exfalso; omega) | trace_state
set_option maxRecDepth 100000 in
set_option maxHeartbeats 4000000 in
theorem fits2C (e : Ent) (hm : EntM e) (w : World) :
    Calls Tryz.prog 28 #[.agg #[.string (bs e.h.name), .string (bs e.h.comment), .string (bs e.h.extra), .bool e.h.non, .int .i64 e.h.creator, .int .i64 e.h.reader, .int .i64 e.h.flags, .int .i64 e.h.method, .int .i64 e.h.time, .int .i64 e.h.date, .int .i64 e.h.crc, .int .i64 e.h.packed, .int .i64 e.h.size, .int .i64 e.h.ext, .string (bs e.data)]] w (BoolP (FitE e) w) := by
  have hd := hm.data
  have HB := Lib.hid (fun w1 => fits3C e.h hm.nm hm.cm hm.ex w1)
  clear hm
  go_enter Tryz.func28, Tryz.ntmps28
  go_wp2_with fail
  refine (HB.out _).mono ?_
  rintro x w1 ⟨b, rfl, hb, hf⟩
  have d14 : w1.cell? ⟨w.heap.size, 14, none⟩ = some (.string (bs e.data)) := (Blk.fr (Blk.new w 38 (entL e).toArray) hf (by simp)).at_ 14 _ rfl
  have HF := Lib.hid (((Fr.refl [] w).alloc (.cells (entL e).toArray 38)).trans hf (by simp))
  have HB2 := Lib.hid hb
  clear hf hb
  cases b with
  | true =>
    by_cases hd2 : e.data.length ≤ 2147483647
    · have i1 : ¬ 2147483647 < (e.data.length : Int) := by omega
      go_wp2_with fail
      go_ret
      exact ⟨true, rfl, ⟨fun _ => ⟨HB2.out.1 (by first | rfl | trivial), hd2⟩, fun _ => rfl⟩, HF.out⟩
    · have i1 : 2147483647 < (e.data.length : Int) := by omega
      go_wp2_with fail
      go_ret
      exact ⟨false, rfl, ⟨fun h => (by cases h), fun h => absurd h.2 hd2⟩, HF.out⟩
  | false =>
    go_wp2_with fail
    go_ret
    exact ⟨false, rfl, ⟨fun h => (by cases h), fun h => HB2.out.2 h.1⟩, HF.out⟩
end Go.Proofs.YtalgnjkdoaaacaaGreatDoor

/- laws.zzFits1. -/
namespace Go.Proofs.YtalgnjkdoaaacaaGreatDoor
open Go Go.RowKit
open Zp
set_option maxRecDepth 100000 in
set_option maxHeartbeats 8000000 in
theorem fits1C (l : List Ent) (hI : ∀ e ∈ l, EntM e) (v : Value) (w : World) (hv : SV w v l) :
    Calls Tryz.prog 10 #[v] w (BoolP (FitL l) w) := by
  obtain ⟨p, cap, rfl, hlc, hcm, hp⟩ := hv
  have HP := Lib.hid hp
  have HI := Lib.hid hI
  clear hp hI
  obtain ⟨n, hn⟩ : ∃ n, l.length = n := ⟨_, rfl⟩
  rw [hn] at hlc ⊢
  have hn47 : n ≤ 9223372036854775807 := by unfold maxLen at hcm; omega
  by_cases hbig : n ≤ 2147483647
  · have i1 : ¬ 2147483647 < (n : Int) := by omega
    go_enter Tryz.func10, Tryz.ntmps10
    go_wp2_with fail
    go_loopw [10] (fun v9 wr => ∃ (k : Nat), k ≤ n ∧ v9 = .int .i64 (k : Int) ∧ (∀ e ∈ l.take k, FitE e) ∧ Fr [] w wr) (fun v9 _ => n - (intOf v9).toNat)
    case atStart => exact ⟨0, by omega, rfl, by simp, Fr.refl _ _⟩
    case round =>
     obtain ⟨k, hk, rfl, hall, hf⟩ := hrel
     by_cases hlt : k < n
     · have HALL := Lib.hid hall
       clear hall
       have hkl : k < l.length := by omega
       obtain ⟨g, o, rfl, hg, hle⟩ := HP.out (fun h => by rw [h] at hkl; simp at hkl)
       obtain ⟨e, he⟩ : ∃ e, l[k] = e := ⟨_, rfl⟩
       have hem : e ∈ l := by rw [← he]; exact List.getElem_mem hkl
       have hei := HI.out e hem
       have hrg := (hle.fr hf hg (by simp)) k e (by rw [← he]; exact List.getElem?_eq_getElem hkl)
       obtain ⟨c0, c1, c2, c3, c4, c5, c6, c7, c8, c9, c10, c11, c12, c13, c14⟩ := cellsE hrg
       have HEI := Lib.hid hei
       have HF := Lib.hid hf
       clear hf hei hle hrg
       have HB := Lib.hid (fits2C e HEI.out)
       go_wp2_with fail
       clear c0 c1 c2 c3 c4 c5 c6 c7 c8 c9 c10 c11 c12 c13 c14
       refine (HB.out _).mono ?_
       rintro e2 w2 ⟨b, rfl, hb, hf2⟩
       have HF2 := Lib.hid (HF.out.trans (((Fr.refl [] wr).alloc _).trans hf2 (by simp)) (by simp))
       have HB2 := Lib.hid hb
       clear hf2 hb
       cases b with
       | true =>
         go_wp2_with fail
         exact ⟨⟨k + 1, by omega, by rw [Int.natCast_add]; rfl, take_all HALL.out hkl (by rw [he]; exact HB2.out.1 (by first | rfl | trivial)), HF2.out⟩, by simp [intOf]; omega⟩
       | false =>
         go_wp2_with fail
         go_ret
         exact ⟨false, rfl, ⟨fun h => (by cases h), fun h => HB2.out.2 (h.2 e hem)⟩, HF2.out⟩
     · obtain rfl : k = n := by omega
       rw [List.take_of_length_le (by omega)] at hall
       have HF := Lib.hid hf
       have HALL := Lib.hid hall
       clear hf hall
       go_wp2_with fail
       go_ret
       exact ⟨true, rfl, ⟨fun _ => ⟨by omega, HALL.out⟩, fun _ => rfl⟩, HF.out⟩
  · have i1 : 2147483647 < (n : Int) := by omega
    go_enter Tryz.func10, Tryz.ntmps10
    go_wp2_with fail
    go_ret
    exact ⟨false, rfl, ⟨fun h => (by cases h), fun h => absurd h.1 (by omega)⟩, Fr.refl _ _⟩
end Go.Proofs.YtalgnjkdoaaacaaGreatDoor

/- spec.Directories. -/
namespace Go.Proofs.YtalgnjkdoaaacaaGreatDoor
open Go Go.RowKit
open Zp
/-- A name that ends with a slash. -/
def slashL (l : By) : Prop := l.getLast? = some 47
def DirOk (l : List Ent) : Prop := ∀ e ∈ l, ¬ (slashL e.h.name ∧ e.data ≠ [])
theorem u47 {b : UInt8} (h : ((b.toNat : Nat) : Int) = 47) : b = 47 := by
  apply UInt8.toNat_inj.1
  show b.toNat = 47
  omega
set_option maxRecDepth 100000 in
set_option maxHeartbeats 8000000 in
theorem dirsC (l : List Ent) (hI : ∀ e ∈ l, EntI e) (v : Value) (w : World) (hv : SV w v l) :
    Calls Tryz.prog 19 #[v] w (BoolP (DirOk l) w) := by
  obtain ⟨p, cap, rfl, hlc, hcm, hp⟩ := hv
  have HP := Lib.hid hp
  have HI := Lib.hid hI
  clear hp hI
  obtain ⟨n, hn⟩ : ∃ n, l.length = n := ⟨_, rfl⟩
  rw [hn] at hlc ⊢
  have hn47 : n ≤ 9223372036854775807 := by unfold maxLen at hcm; omega
  go_enter Tryz.func19, Tryz.ntmps19
  go_wp2_with fail
  go_loopw [8] (fun v9 wr => ∃ (k : Nat), k ≤ n ∧ v9 = .int .i64 (k : Int) ∧ (∀ e ∈ l.take k, ¬ (slashL e.h.name ∧ e.data ≠ [])) ∧ Fr [] w wr) (fun v9 _ => n - (intOf v9).toNat)
  case atStart => exact ⟨0, by omega, rfl, by simp, Fr.refl _ _⟩
  case round =>
    obtain ⟨k, hk, rfl, hall, hf⟩ := hrel
    by_cases hlt : k < n
    · have HALL := Lib.hid hall
      clear hall
      have hkl : k < l.length := by omega
      obtain ⟨g, o, rfl, hg, hle⟩ := HP.out (fun h => by rw [h] at hkl; simp at hkl)
      obtain ⟨e, he⟩ : ∃ e, l[k] = e := ⟨_, rfl⟩
      have hem : e ∈ l := by rw [← he]; exact List.getElem_mem hkl
      have hei := HI.out e hem
      have hrg := (hle.fr hf hg (by simp)) k e (by rw [← he]; exact List.getElem?_eq_getElem hkl)
      obtain ⟨c0, c1, c2, c3, c4, c5, c6, c7, c8, c9, c10, c11, c12, c13, c14⟩ := cellsE hrg
      have HEI := Lib.hid hei
      have HF := Lib.hid hf
      clear hf hei hle hrg
      have hnm := HEI.out.hd.nm
      have HF2 := Lib.hid (HF.out.alloc (.cells (entL e).toArray 38))
      rcases List.eq_nil_or_concat e.h.name with hnil | ⟨m, b, hmb⟩
      · have hl0 : e.h.name.length = 0 := by rw [hnil]; rfl
        have HN := Lib.hid hnil
        clear hnil
        go_wp2_with fail
        exact ⟨⟨k + 1, by omega, by rw [Int.natCast_add]; rfl, take_all HALL.out hkl (by rw [he]; intro h; have := h.1; rw [slashL, HN.out] at this; cases this), HF2.out⟩, by simp [intOf]; omega⟩
      · rw [List.concat_eq_append] at hmb
        have hl1 : e.h.name.length = m.length + 1 := by rw [hmb]; simp
        have HMB := Lib.hid hmb
        have i1 : (0 : Int) < (e.h.name.length : Int) := by omega
        clear hmb
        have hlt2 : e.h.name.length - 1 < (bs e.h.name).size := by show _ < e.h.name.toArray.size; simp; omega
        have hsl : slashL e.h.name ↔ b = 47 := by rw [slashL, HMB.out]; simp
        have hget : ∀ (h : m.length < (bs e.h.name).size), (bs e.h.name)[m.length] = b := by
          intro h
          show e.h.name.toArray[m.length] = b
          simp [HMB.out]
        have HGET := Lib.hid (And.intro hsl hget)
        clear hsl hget
        go_wp2_with fail
        all_goals obtain ⟨hsl, hget⟩ := HGET.out
        · rename_i x1 x2 x3
          go_ret
          refine ⟨false, rfl, ⟨fun h => (by cases h), fun h => ?_⟩, HF2.out⟩
          rw [hget] at x2
          exact absurd ⟨hsl.2 (u47 x2), fun h0 => by rw [h0] at x3; cases x3⟩ (h e hem)
        · rename_i x1 x2 x3
          exact ⟨⟨k + 1, by omega, by rw [Int.natCast_add]; rfl, take_all HALL.out hkl (by rw [he]; intro h; exact h.2 (by simpa using x3)), HF2.out⟩, by simp [intOf]; omega⟩
        · rename_i x1 x2
          rw [hget] at x2
          exact ⟨⟨k + 1, by omega, by rw [Int.natCast_add]; rfl, take_all HALL.out hkl (by rw [he]; intro h; exact x2 (by rw [hsl.1 h.1]; rfl)), HF2.out⟩, by simp [intOf]; omega⟩
    · obtain rfl : k = n := by omega
      rw [List.take_of_length_le (by omega)] at hall
      have HF := Lib.hid hf
      have HALL := Lib.hid hall
      clear hf hall
      go_wp2_with fail
      go_ret
      exact ⟨true, rfl, ⟨fun _ => HALL.out, fun _ => rfl⟩, HF.out⟩
end Go.Proofs.YtalgnjkdoaaacaaGreatDoor

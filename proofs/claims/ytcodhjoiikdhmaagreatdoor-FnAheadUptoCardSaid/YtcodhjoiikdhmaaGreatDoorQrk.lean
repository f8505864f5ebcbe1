/- spec.Stored, spec.AllStored. -/
import Derived.Test.YtcodhjoiikdhmaaGreatDoorQrf
import Derived.Test.YtcodhjoiikdhmaaGreatDoorQra
set_option linter.unusedVariables false
set_option linter.unusedSimpArgs false
namespace Go.Proofs.YtcodhjoiikdhmaaGreatDoor
open Go Go.RowKit
open Zp
/-- an entry with its content stored -/
def storedE (e : Ent) : Ent := ⟨{ e.h with method := 0, packed := e.data.length, size := e.data.length, crc := crcOf 0 e.data }, e.data⟩
theorem flat_get : ∀ (l : List Ent) (i j : Nat) (e : Ent), l[i]? = some e → j < 15 → (l.flatMap entL)[i * 15 + j]? = (entL e)[j]?
  | [], i, j, e, h, _ => by simp at h
  | a :: l, 0, j, e, h, hj => by
    simp at h
    subst h
    rw [List.flatMap_cons, List.getElem?_append_left (by rw [entL_length]; omega)]
    simp
  | a :: l, i + 1, j, e, h, hj => by
    have := flat_get l i j e (by simpa using h) hj
    rw [List.flatMap_cons, List.getElem?_append_right (by rw [entL_length]; omega), entL_length, show (i + 1) * 15 + j - 15 = i * 15 + j by omega, this]
theorem flat_set : ∀ (l : List Ent) (i j : Nat) (e e' : Ent) (u : Value), l[i]? = some e → j < 15 → (entL e).set j u = entL e' → (l.flatMap entL).set (i * 15 + j) u = (l.set i e').flatMap entL
  | [], i, j, e, e', u, h, _, _ => by simp at h
  | a :: l, 0, j, e, e', u, h, hj, hs => by
    simp at h
    subst h
    rw [List.flatMap_cons, List.set_append_left _ _ (by rw [entL_length]; omega), List.set_cons_zero, List.flatMap_cons, ← hs]
    simp
  | a :: l, i + 1, j, e, e', u, h, hj, hs => by
    have := flat_set l i j e e' u (by simpa using h) hj hs
    rw [List.flatMap_cons, List.set_append_right _ _ (by rw [entL_length]; omega), entL_length, show (i + 1) * 15 + j - 15 = i * 15 + j by omega, this, List.set_cons_succ, List.flatMap_cons]
theorem flat_length (l : List Ent) : (l.flatMap entL).length = l.length * 15 := by
  induction l with
  | nil => rfl
  | cons a l ih => rw [List.flatMap_cons, List.length_append, ih, entL_length, List.length_cons]; omega
/-- These entries lie in a row of the call's own. -/
def OL (w : World) (base : Nat) (v : Value) (l : List Ent) : Prop := w.ownsRow base 28 15 v l.length (l.flatMap entL)
theorem OL.sv {w : World} {base : Nat} {v : Value} {l : List Ent} (h : OL w base v l) : SV w v l := by
  have hh := h
  rcases hh.2 with ⟨h1, h2⟩ | ⟨g, cap, cur, h1, h2, h3, h4, h5, h6, h7⟩
  · refine ⟨none, 0, by rw [h1, h2], by omega, by unfold maxLen; omega, fun hl => ?_⟩
    exact absurd (List.eq_nil_of_length_eq_zero h2) hl
  · refine ⟨_, cap, h1, h4, h5, fun hl => ⟨g, 0, rfl, Blk.lt (t := 28) (cs := cur) h3, ?_⟩⟩
    intro i e hi j u hj
    have hj15 : j < 15 := by
      have := (List.getElem?_eq_some_iff.1 hj).1
      rwa [entL_length] at this
    have := h.cells (g := g) (by rw [h1]; rfl) (i * 15 + j) u (by rw [flat_get l i j e hi hj15]; exact hj)
    rw [Addr.add_lit] at this
    rw [Nat.zero_add] at this ⊢
    exact this
theorem ownsE_fr {w w' : World} {S : List Nat} {base : Nat} {e : TypeId} {size : Nat} {v : Value} {n : Nat} {xs : List Value} (h : w.ownsRow base e size v n xs) (hf : Fr S w w') (hS : ∀ s ∈ S, s < base) : w'.ownsRow base e size v n xs := by
  obtain ⟨h0, h⟩ := h
  refine ⟨h0, ?_⟩
  rcases h with h | ⟨g, cap, cur, h1, h2, h3, h4⟩
  · exact .inl h
  · exact .inr ⟨g, cap, cur, h1, h2, Blk.fr (t := e) (cs := cur) h3 hf (fun hm => by have := hS _ hm; omega), h4⟩
theorem OL.fr {w w' : World} {S : List Nat} {base : Nat} {v : Value} {l : List Ent} (h : OL w base v l) (hf : Fr S w w') (hS : ∀ s ∈ S, s < base) : OL w' base v l := ownsE_fr h hf hS
theorem infoEnt2 : (Tryz.prog.info? 28).map (fun i => (i.zero.map (fun z => z.cells.size), i.size, i.bytes)) = some (some 15, 15, 152) := by kernel_rfl
theorem new_two (w : World) (o : Obj) (t : TypeId) (cs : Array Value) : Blk ((w.alloc o).alloc (.cells cs t)) (w.heap.size + 1) t cs := by
  have := Blk.new (w.alloc o) t cs
  rw [World.size_alloc] at this
  exact this
theorem infoEntB : (Tryz.prog.info? 28).map (fun i => i.size) = some 15 := by kernel_rfl
set_option maxRecDepth 100000 in
set_option maxHeartbeats 8000000 in
theorem storedC (e : Ent) (hI : EntI e) (w : World) :
    Calls Tryz.prog 33 #[.agg #[.string (bs e.h.name), .string (bs e.h.comment), .string (bs e.h.extra), .bool e.h.non, .int .i64 e.h.creator, .int .i64 e.h.reader, .int .i64 e.h.flags, .int .i64 e.h.method, .int .i64 e.h.time, .int .i64 e.h.date, .int .i64 e.h.crc, .int .i64 e.h.packed, .int .i64 e.h.size, .int .i64 e.h.ext, .string (bs e.data)]] w fun x w' => x = .returned (.agg (entL (storedE e)).toArray) ∧ Fr [] w w' := by
  have hdd := hI.data
  have HC := Lib.hid (fun w1 => crcC (bs e.data) w1 (by show e.data.toArray.size ≤ _; simp; omega))
  clear hI
  go_enter Tryz.func33, Tryz.ntmps33
  go_wp2_with fail
  refine (HC.out _).mono ?_
  rintro x w1 ⟨rfl, rfl⟩
  go_wp2_with fail
  refine bodyPost_ret (v := .agg (entL (storedE e)).toArray) (results_cell_row rfl _ _ _ _ _ _ _ rfl (new_two w _ 28 (entL (storedE e)).toArray) rfl rfl infoEntB) rfl ⟨rfl, ((Fr.refl _ _).alloc _).alloc _⟩
theorem storedX (e : Ent) (hI : EntI e) (w : World) :
    Calls Tryz.prog 33 #[.agg #[.string (bs e.h.name), .string (bs e.h.comment), .string (bs e.h.extra), .bool e.h.non, .int .i64 e.h.creator, .int .i64 e.h.reader, .int .i64 e.h.flags, .int .i64 e.h.method, .int .i64 e.h.time, .int .i64 e.h.date, .int .i64 e.h.crc, .int .i64 e.h.packed, .int .i64 e.h.size, .int .i64 e.h.ext, .string (bs e.data)]] w fun x w' => x = .returned (.agg #[.string (bs e.h.name), .string (bs e.h.comment), .string (bs e.h.extra), .bool e.h.non, .int .i64 e.h.creator, .int .i64 e.h.reader, .int .i64 e.h.flags, .int .i64 0, .int .i64 e.h.time, .int .i64 e.h.date, .int .i64 (crcOf 0 e.data : Int), .int .i64 (e.data.length : Int), .int .i64 (e.data.length : Int), .int .i64 e.h.ext, .string (bs e.data)]) ∧ Fr [] w w' := storedC e hI w
theorem news_of (w : World) (e : Ent) : ∀ j u, (entL e)[j]? = some u → (w.alloc (.cells (entL e).toArray 28)).cell? ((⟨w.heap.size, 0, none⟩ : Addr).add j) = some u := fun j u hj => by
  rw [Addr.add_lit, Nat.zero_add]
  exact (Blk.new w 28 (entL e).toArray).at_ j u (by simpa using hj)
theorem ones_of (e : Ent) : ∀ u ∈ entL e, u.oneCell' = true := by
  intro u hu
  simp only [entL, List.mem_cons, List.not_mem_nil, or_false] at hu
  rcases hu with rfl | rfl | rfl | rfl | rfl | rfl | rfl | rfl | rfl | rfl | rfl | rfl | rfl | rfl | rfl <;> rfl
/-- What AllStored answers. -/
def AllP (l : List Ent) (w : World) (x : Ending) (w' : World) : Prop := ∃ v, x = .returned v ∧ OL w' w.heap.size v (l.map storedE) ∧ Fr [] w w'
set_option maxRecDepth 100000 in
set_option maxHeartbeats 8000000 in
theorem allStoredC (l : List Ent) (hI : ∀ e ∈ l, EntI e) (hl : l.length ≤ 2147483647) (v : Value) (w : World) (hv : SV w v l) :
    Calls Tryz.prog 16 #[v] w (AllP l w) := by
  obtain ⟨i0, hi0, hz0⟩ := Option.map_eq_some_iff.1 infoEnt2
  simp only [Prod.mk.injEq] at hz0
  obtain ⟨hz1, hz2, hz3⟩ := hz0
  obtain ⟨z0, hz4, hz5⟩ := Option.map_eq_some_iff.1 hz1
  have HI0 := Lib.hid (And.intro hi0 (And.intro hz4 (And.intro hz2 (And.intro hz3 hz5))))
  clear hi0 hz1 hz2 hz3 hz4 hz5
  obtain ⟨p, cap, rfl, hlc, hcm, hp⟩ := hv
  have HP := Lib.hid hp
  have HI := Lib.hid hI
  clear hp hI
  obtain ⟨n, hn⟩ : ∃ n, l.length = n := ⟨_, rfl⟩
  rw [hn] at hlc hl ⊢
  have hn47 : n ≤ 9223372036854775807 := by omega
  have h0 : (w.alloc (.cells #[] 28)).ownsRow w.heap.size 28 15 (.slice (some ⟨w.heap.size, 0, none⟩) 0 0) 0 [] :=
    ⟨rfl, .inr ⟨w.heap.size, 0, #[], rfl, Nat.le_refl _, Blk.new w _ _, Nat.le_refl _, by unfold maxLen; omega, rfl, rfl⟩⟩
  have H0 := Lib.hid h0
  clear h0
  go_enter Tryz.func16, Tryz.ntmps16
  go_wp2_with fail
  go_loopw [3, 9] (fun v3 v9 wr => ∃ (k : Nat), k ≤ n ∧ v9 = .int .i64 (k : Int) ∧ wr.ownsRow w.heap.size 28 15 v3 k (((l.take k).map storedE).flatMap entL) ∧ Fr [] w wr) (fun _ v9 _ => n - (intOf v9).toNat)
  case atStart => exact ⟨0, by omega, rfl, H0.out, (Fr.refl _ _).alloc _⟩
  case round =>
    obtain ⟨k, hk, rfl, hown, hf⟩ := hrel
    have HO := Lib.hid hown
    by_cases hlt : k < n
    · have hkl : k < l.length := by omega
      obtain ⟨g, o, rfl, hg, hle⟩ := HP.out (fun h => by rw [h] at hkl; simp at hkl)
      obtain ⟨e, he⟩ : ∃ e, l[k] = e := ⟨_, rfl⟩
      have hem : e ∈ l := by rw [← he]; exact List.getElem_mem hkl
      have hei := HI.out e hem
      have hrg := (hle.fr hf hg (by simp)) k e (by rw [← he]; exact List.getElem?_eq_getElem hkl)
      obtain ⟨c0, c1, c2, c3, c4, c5, c6, c7, c8, c9, c10, c11, c12, c13, c14⟩ := cellsE hrg
      have HEI := Lib.hid hei
      have HF := Lib.hid hf
      have HT := Lib.hid (show (l.take (k + 1)).map storedE = (l.take k).map storedE ++ [storedE e] by rw [List.take_add_one, List.getElem?_eq_getElem hkl, he]; simp)
      clear hf hei hle hrg hown
      have HB := Lib.hid (storedX e HEI.out)
      go_wp2_with fail
      clear c0 c1 c2 c3 c4 c5 c6 c7 c8 c9 c10 c11 c12 c13 c14
      refine (HB.out _).mono ?_
      rintro x w2 ⟨rfl, hf2⟩
      have HF2 := Lib.hid (HF.out.trans (((Fr.refl [] wr).alloc _).trans hf2 (by simp)) (by simp))
      have HO2 := Lib.hid (ownsE_fr HO.out (((Fr.refl [] wr).alloc _).trans hf2 (by simp)) (by simp))
      clear hf2 HO
      have HO3 := Lib.hid (ownsE_fr HO2.out ((Fr.refl [] w2).alloc (.cells (entL (storedE e)).toArray 28)) (by simp))
      have hbase : w.heap.size ≤ (w2.alloc (.cells (entL (storedE e)).toArray 28)).heap.size := ((HF2.out).alloc _).size
      go_wp2_with (at_builtin; refine wpList_append_own _ rfl _ _ 22 rfl w.heap.size 28 i0 z0 15 152 Tryz.underlying22 HI0.out.1 HI0.out.2.1 HI0.out.2.2.1 HI0.out.2.2.2.1 HI0.out.2.2.2.2 (by decide) u3 k (((l.take k).map storedE).flatMap entL) rfl HO3.out ⟨w2.heap.size, 0, none⟩ 1 1 (entL (storedE e)) rfl rfl (news_of w2 (storedE e)) (ones_of (storedE e)) (by unfold maxLen; omega) (by omega) hbase ?_; intro v' w4 hown4 hgrow4 hv4; have HO4 := Lib.hid hown4; have HG4 := Lib.hid hgrow4; clear hown4 hgrow4 hv4)
      have hlt2 := HO3.out.lt
      have hf5 : Fr u3.ownBlock.toList (w2.alloc (.cells (entL (storedE e)).toArray 28)) w4 := Fr.of_grown HG4.out (fun g hg => .inl (by rw [hg]; simp))
      have HF4 := Lib.hid ((HF2.out.alloc (.cells (entL (storedE e)).toArray 28)).trans hf5 (fun g hg => .inr (hlt2 g (by simpa using hg)).1))
      exact ⟨⟨k + 1, by omega, by rw [Int.natCast_add]; rfl, by rw [HT.out, List.flatMap_append, List.flatMap_singleton]; exact HO4.out, HF4.out⟩, by simp [intOf]; omega⟩
    · obtain rfl : k = n := by omega
      have HF := Lib.hid hf
      clear hf hown
      go_wp2_with fail
      go_ret
      refine ⟨_, rfl, ?_, HF.out⟩
      have := HO.out
      rw [List.take_of_length_le (by omega)] at this
      unfold OL
      rw [List.length_map, hn]
      exact this
end Go.Proofs.YtcodhjoiikdhmaaGreatDoor

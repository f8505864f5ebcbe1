/- spec.NonUTF8. -/
import Derived.Test.YtcodhjoiikdhmaaGreatDoorQxa
import Derived.Test.YtcodhjoiikdhmaaGreatDoorQrd
import Derived.Test.YtcodhjoiikdhmaaGreatDoorQrk
set_option linter.unusedVariables false
set_option linter.unusedSimpArgs false
namespace Go.Proofs.YtcodhjoiikdhmaaGreatDoor
open Go Go.RowKit
open Zp
theorem det_det {s : ByteArray} {i : Nat} {req v q : Bool} (h : Det s i req v q) : ∀ {v' q' : Bool}, Det s i req v' q' → v' = v ∧ q' = q := by
  induction h with
  | stop h1 =>
    intro v' q' h'
    cases h' with
    | stop _ => exact ⟨rfl, rfl⟩
    | plain h2 => omega
    | bad h2 => omega
    | need h2 => omega
  | plain h1 h2 h3 _ ih =>
    intro v' q' h'
    cases h' with
    | stop h4 => omega
    | plain h4 h5 h6 h7 =>
      rw [h2] at h5
      injection h5 with h8 h9
      subst h8; subst h9
      exact ih h7
    | bad h4 h5 h6 h7 =>
      rw [h2] at h5
      injection h5 with h8 h9
      subst h8; subst h9
      exact absurd h3 h6
    | need h4 h5 h6 h7 h8 =>
      rw [h2] at h5
      injection h5 with h9 h10
      subst h9; subst h10
      exact absurd h3 h6
  | bad h1 h2 h3 h30 =>
    intro v' q' h'
    cases h' with
    | stop h4 => omega
    | plain h4 h5 h6 h7 =>
      rw [h2] at h5
      injection h5 with h8 h9
      subst h8; subst h9
      exact absurd h6 h3
    | bad _ _ _ _ => exact ⟨rfl, rfl⟩
    | need h4 h5 h6 h7 h8 =>
      rw [h2] at h5
      injection h5 with h9 h10
      subst h9; subst h10
      exact absurd h30 h7
  | need h1 h2 h3 h30 _ ih =>
    intro v' q' h'
    cases h' with
    | stop h4 => omega
    | plain h4 h5 h6 h7 =>
      rw [h2] at h5
      injection h5 with h8 h9
      subst h8; subst h9
      exact absurd h6 h3
    | bad h4 h5 h6 h7 =>
      rw [h2] at h5
      injection h5 with h8 h9
      subst h8; subst h9
      exact absurd h7 h30
    | need h4 h5 h6 h7 h8 =>
      rw [h2] at h5
      injection h5 with h9 h10
      subst h9; subst h10
      exact ih h8
/-- What is told of a text: whether it is text, whether it must be told to be UTF-8. -/
noncomputable def detV (s : ByteArray) : Bool × Bool := @Classical.epsilon (Bool × Bool) ⟨(false, false)⟩ (fun p => Det s 0 false p.1 p.2)
theorem detV_eq {s : ByteArray} {v q : Bool} (h : Det s 0 false v q) : detV s = (v, q) := by
  have h1 : Det s 0 false (detV s).1 (detV s).2 := @Classical.epsilon_spec_aux (Bool × Bool) ⟨(false, false)⟩ (fun p => Det s 0 false p.1 p.2) ⟨(v, q), h⟩
  obtain ⟨e1, e2⟩ := det_det h h1
  exact Prod.ext e1 e2
theorem validV (s : ByteArray) (w : World) (hs : s.size ≤ 4000000000) :
    Calls Tryz.prog 57 #[.string s] w fun e w' => e = .returned (.tuple #[.bool (detV s).1, .bool (detV s).2]) ∧ w' = w := by
  refine (validC s w hs).mono ?_
  rintro e w' ⟨v, q, hd, he, hw⟩
  rw [detV_eq hd]
  exact ⟨he, hw⟩
theorem bsz (l : By) : (bs l).size = l.length := by show l.toArray.size = _; simp
/-- Whether a name and a comment are not told as UTF-8. -/
noncomputable def nonOf (h : Hd) : Bool := !(detV (bs h.name)).1 || !(detV (bs h.comment)).1 || (((detV (bs h.name)).2 || (detV (bs h.comment)).2) && ((h.flags.tdiv 2048).tmod 2 == 0))
set_option maxRecDepth 100000 in
set_option maxHeartbeats 4000000 in
theorem nonC (h : Hd) (hn : h.name.length ≤ 2147483647) (hc : h.comment.length ≤ 2147483647) (hf0 : 0 ≤ h.flags ∧ h.flags ≤ 65535) (w : World) :
    Calls Tryz.prog 43 #[.agg #[.string (bs h.name), .string (bs h.comment), .string (bs h.extra), .bool h.non, .int .i64 h.creator, .int .i64 h.reader, .int .i64 h.flags, .int .i64 h.method, .int .i64 h.time, .int .i64 h.date, .int .i64 h.crc, .int .i64 h.packed, .int .i64 h.size, .int .i64 h.ext]] w fun e w' => e = .returned (.bool (nonOf h)) ∧ Fr [] w w' := by
  obtain ⟨R, hR⟩ : ∃ R, nonOf h = R := ⟨_, rfl⟩
  obtain ⟨va, qa, hva⟩ : ∃ v q, detV (bs h.name) = (v, q) := ⟨_, _, rfl⟩
  obtain ⟨vb, qb, hvb⟩ : ∃ v q, detV (bs h.comment) = (v, q) := ⟨_, _, rfl⟩
  have VA := Lib.hid (fun w' => validV (bs h.name) w' (by rw [bsz]; omega))
  have VB := Lib.hid (fun w' => validV (bs h.comment) w' (by rw [bsz]; omega))
  rw [hva] at VA
  rw [hvb] at VB
  have HR := Lib.hid (show (!va || !vb || ((qa || qb) && ((h.flags.tdiv 2048).tmod 2 == 0))) = R by rw [← hR]; unfold nonOf; rw [hva, hvb])
  rw [hR]
  clear hva hvb hR hn hc
  have hww : -9223372036854775808 ≤ h.flags.tdiv 2048 ∧ h.flags.tdiv 2048 ≤ 9223372036854775807 := by rw [Int.tdiv_eq_ediv_of_nonneg hf0.1]; omega
  have HWW := Lib.hid hww
  clear hww hf0
  obtain ⟨fl, hfl⟩ : ∃ fl, (h.flags.tdiv 2048).tmod 2 = fl := ⟨_, rfl⟩
  rw [hfl] at HR
  have HFL := Lib.hid hfl
  clear hfl
  have hF := Lib.hid ((Fr.refl [] w).alloc (.cells #[.string (bs h.name), .string (bs h.comment), .string (bs h.extra), .bool h.non, .int .i64 h.creator, .int .i64 h.reader, .int .i64 h.flags, .int .i64 h.method, .int .i64 h.time, .int .i64 h.date, .int .i64 h.crc, .int .i64 h.packed, .int .i64 h.size, .int .i64 h.ext] 26))
  cases va with
  | false =>
    go_enter Tryz.func43, Tryz.ntmps43
    go_wp2_with (first | (go_at_call 57; (with_reducible refine (VA.out _).mono ?_); rintro e w1 ⟨rfl, hw1⟩; rw [hw1]; clear hw1 w1) | (go_at_call 57; (with_reducible refine (VB.out _).mono ?_); rintro e w1 ⟨rfl, hw1⟩; rw [hw1]; clear hw1 w1) | fail)
    go_ret
    exact ⟨by rw [← HR.out]; first | rfl | (show Ending.returned (.bool ((wrap64 (h.flags.tdiv 2048)).tmod 2 == 0)) = _; rw [IntWalk.wrap64_in _ HWW.out, HFL.out]; rfl), hF.out⟩
  | true =>
    cases vb with
    | false =>
      go_enter Tryz.func43, Tryz.ntmps43
      go_wp2_with (first | (go_at_call 57; (with_reducible refine (VA.out _).mono ?_); rintro e w1 ⟨rfl, hw1⟩; rw [hw1]; clear hw1 w1) | (go_at_call 57; (with_reducible refine (VB.out _).mono ?_); rintro e w1 ⟨rfl, hw1⟩; rw [hw1]; clear hw1 w1) | fail)
      go_ret
      exact ⟨by rw [← HR.out]; first | rfl | (show Ending.returned (.bool ((wrap64 (h.flags.tdiv 2048)).tmod 2 == 0)) = _; rw [IntWalk.wrap64_in _ HWW.out, HFL.out]; rfl), hF.out⟩
    | true =>
      cases qa with
      | true =>
        go_enter Tryz.func43, Tryz.ntmps43
        go_wp2_with (first | (go_at_call 57; (with_reducible refine (VA.out _).mono ?_); rintro e w1 ⟨rfl, hw1⟩; rw [hw1]; clear hw1 w1) | (go_at_call 57; (with_reducible refine (VB.out _).mono ?_); rintro e w1 ⟨rfl, hw1⟩; rw [hw1]; clear hw1 w1) | fail)
        go_ret
        exact ⟨by rw [← HR.out]; first | rfl | (show Ending.returned (.bool ((wrap64 (h.flags.tdiv 2048)).tmod 2 == 0)) = _; rw [IntWalk.wrap64_in _ HWW.out, HFL.out]; rfl), hF.out⟩
      | false =>
        cases qb with
        | true =>
          go_enter Tryz.func43, Tryz.ntmps43
          go_wp2_with (first | (go_at_call 57; (with_reducible refine (VA.out _).mono ?_); rintro e w1 ⟨rfl, hw1⟩; rw [hw1]; clear hw1 w1) | (go_at_call 57; (with_reducible refine (VB.out _).mono ?_); rintro e w1 ⟨rfl, hw1⟩; rw [hw1]; clear hw1 w1) | fail)
          go_ret
          exact ⟨by rw [← HR.out]; first | rfl | (show Ending.returned (.bool ((wrap64 (h.flags.tdiv 2048)).tmod 2 == 0)) = _; rw [IntWalk.wrap64_in _ HWW.out, HFL.out]; rfl), hF.out⟩
        | false =>
          go_enter Tryz.func43, Tryz.ntmps43
          go_wp2_with (first | (go_at_call 57; (with_reducible refine (VA.out _).mono ?_); rintro e w1 ⟨rfl, hw1⟩; rw [hw1]; clear hw1 w1) | (go_at_call 57; (with_reducible refine (VB.out _).mono ?_); rintro e w1 ⟨rfl, hw1⟩; rw [hw1]; clear hw1 w1) | fail)
          go_ret
          exact ⟨by rw [← HR.out]; first | rfl | (show Ending.returned (.bool ((wrap64 (h.flags.tdiv 2048)).tmod 2 == 0)) = _; rw [IntWalk.wrap64_in _ HWW.out, HFL.out]; rfl), hF.out⟩
end Go.Proofs.YtcodhjoiikdhmaaGreatDoor

/- spec.Listed: the headers as a directory tells them. -/
namespace Go.Proofs.YtcodhjoiikdhmaaGreatDoor
open Go Go.RowKit
open Zp
/-- A header as a directory tells it. -/
noncomputable def lh (e : Ent) : Hd := { e.h with non := nonOf e.h }
/-- These headers lie in a row of the call's own. -/
def HL (w : World) (base : Nat) (v : Value) (l : List Hd) : Prop := w.ownsRow base 26 14 v l.length (l.flatMap hdL)
theorem infoHd2 : (Tryz.prog.info? 26).map (fun i => (i.zero.map (fun z => z.cells.size), i.size, i.bytes)) = some (some 14, 14, 136) := by kernel_rfl
theorem ones_hd (h : Hd) : ∀ u ∈ hdL h, u.oneCell' = true := by
  intro u hu
  simp only [hdL, List.mem_cons, List.not_mem_nil, or_false] at hu
  rcases hu with rfl | rfl | rfl | rfl | rfl | rfl | rfl | rfl | rfl | rfl | rfl | rfl | rfl | rfl <;> rfl
theorem news_hd (w : World) (h : Hd) : ∀ j u, (hdL h)[j]? = some u → (w.alloc (.cells (hdL h).toArray 26)).cell? ((⟨w.heap.size, 0, none⟩ : Addr).add j) = some u := fun j u hj => by
  rw [Addr.add_lit, Nat.zero_add]
  exact (Blk.new w 26 (hdL h).toArray).at_ j u (by simpa using hj)
theorem flatH_length (l : List Hd) : (l.flatMap hdL).length = l.length * 14 := by
  induction l with
  | nil => rfl
  | cons a l ih => rw [List.flatMap_cons, List.length_append, ih, show (hdL a).length = 14 from rfl, List.length_cons]; omega
/-- What Listed answers. -/
def ListP (l : List Ent) (w : World) (x : Ending) (w' : World) : Prop := ∃ v, x = .returned v ∧ HL w' w.heap.size v (l.map lh) ∧ Fr [] w w'
set_option maxRecDepth 100000 in
set_option maxHeartbeats 8000000 in
theorem listedC (l : List Ent) (hI : ∀ e ∈ l, EntI e) (hfl : ∀ e ∈ l, 0 ≤ e.h.flags ∧ e.h.flags ≤ 65535) (hl : l.length ≤ 2147483647) (v : Value) (w : World) (hv : SV w v l) :
    Calls Tryz.prog 29 #[v] w (ListP l w) := by
  obtain ⟨i0, hi0, hz0⟩ := Option.map_eq_some_iff.1 infoHd2
  simp only [Prod.mk.injEq] at hz0
  obtain ⟨hz1, hz2, hz3⟩ := hz0
  obtain ⟨z0, hz4, hz5⟩ := Option.map_eq_some_iff.1 hz1
  have HI0 := Lib.hid (And.intro hi0 (And.intro hz4 (And.intro hz2 (And.intro hz3 hz5))))
  clear hi0 hz1 hz2 hz3 hz4 hz5
  obtain ⟨p, cap, rfl, hlc, hcm, hp⟩ := hv
  have HP := Lib.hid hp
  have HI := Lib.hid hI
  have HFL := Lib.hid hfl
  clear hp hI hfl
  obtain ⟨n, hn⟩ : ∃ n, l.length = n := ⟨_, rfl⟩
  rw [hn] at hlc hl ⊢
  have hn47 : n ≤ 9223372036854775807 := by omega
  have h0 : (w.alloc (.cells #[] 26)).ownsRow w.heap.size 26 14 (.slice (some ⟨w.heap.size, 0, none⟩) 0 0) 0 [] :=
    ⟨rfl, .inr ⟨w.heap.size, 0, #[], rfl, Nat.le_refl _, Blk.new w _ _, Nat.le_refl _, by unfold maxLen; omega, rfl, rfl⟩⟩
  have H0 := Lib.hid h0
  clear h0
  go_enter Tryz.func29, Tryz.ntmps29
  go_wp2_with fail
  go_loopw [3, 9] (fun v3 v9 wr => ∃ (k : Nat), k ≤ n ∧ v9 = .int .i64 (k : Int) ∧ wr.ownsRow w.heap.size 26 14 v3 k (((l.take k).map lh).flatMap hdL) ∧ Fr [] w wr) (fun _ v9 _ => n - (intOf v9).toNat)
  case atStart => exact ⟨0, by omega, rfl, H0.out, (Fr.refl _ _).alloc _⟩
  case round =>
    obtain ⟨k, hk, rfl, hown, hf⟩ := hrel
    have HO := Lib.hid hown
    by_cases hlt : k < n
    · have hkl : k < l.length := by omega
      obtain ⟨g, o, rfl, hg, hle⟩ := HP.out (fun h => by rw [h] at hkl; simp at hkl)
      obtain ⟨e, he⟩ : ∃ e, l[k] = e := ⟨_, rfl⟩
      have hem : e ∈ l := by rw [← he]; exact List.getElem_mem hkl
      have hei := HI.out e hem
      have hfe := HFL.out e hem
      have hrg := (hle.fr hf hg (by simp)) k e (by rw [← he]; exact List.getElem?_eq_getElem hkl)
      obtain ⟨c0, c1, c2, c3, c4, c5, c6, c7, c8, c9, c10, c11, c12, c13, c14⟩ := cellsE hrg
      have HF := Lib.hid hf
      have HT := Lib.hid (show (l.take (k + 1)).map lh = (l.take k).map lh ++ [lh e] by rw [List.take_add_one, List.getElem?_eq_getElem hkl, he]; simp)
      have HNC := Lib.hid (fun w' => nonC e.h hei.hd.nm hei.hd.cm hfe w')
      clear hf hei hle hrg hown hfe
      go_wp2_with fail
      clear c0 c1 c2 c3 c4 c5 c6 c7 c8 c9 c10 c11 c12 c13 c14
      refine (HNC.out _).mono ?_
      rintro x w2 ⟨rfl, hf2⟩
      have hb2 : Blk w2 wr.heap.size 28 (entL e).toArray := (Blk.new wr _ (entL e).toArray).fr hf2 (by simp)
      have s3 : w2.cell? ⟨wr.heap.size, 3, none⟩ = some (.bool e.h.non) := hb2.at_ 3 _ rfl
      have z3 : w2.frozen? ⟨wr.heap.size, 3, none⟩ = false := hb2.frozen 3
      have hb3 := hb2.set_ 3 (.bool (nonOf e.h))
      have HF2 := Lib.hid (HF.out.trans (((Fr.refl [] wr).alloc _).trans hf2 (by simp)) (by simp))
      have hf3 := (((Fr.refl [] wr).alloc (.cells (entL e).toArray 28)).trans hf2 (by simp)).setCell (p := ⟨wr.heap.size, 3, none⟩) (.inr (Nat.le_refl _)) (.bool (nonOf e.h))
      have d0 : (w2.setCell ⟨wr.heap.size, 3, none⟩ (.bool (nonOf e.h))).cell? ⟨wr.heap.size, 0, none⟩ = some (.string (bs e.h.name)) := hb3.at_ 0 _ rfl
      have d1 : (w2.setCell ⟨wr.heap.size, 3, none⟩ (.bool (nonOf e.h))).cell? ⟨wr.heap.size, 1, none⟩ = some (.string (bs e.h.comment)) := hb3.at_ 1 _ rfl
      have d2 : (w2.setCell ⟨wr.heap.size, 3, none⟩ (.bool (nonOf e.h))).cell? ⟨wr.heap.size, 2, none⟩ = some (.string (bs e.h.extra)) := hb3.at_ 2 _ rfl
      have d3 : (w2.setCell ⟨wr.heap.size, 3, none⟩ (.bool (nonOf e.h))).cell? ⟨wr.heap.size, 3, none⟩ = some (.bool (nonOf e.h)) := hb3.at_ 3 _ rfl
      have d4 : (w2.setCell ⟨wr.heap.size, 3, none⟩ (.bool (nonOf e.h))).cell? ⟨wr.heap.size, 4, none⟩ = some (.int .i64 e.h.creator) := hb3.at_ 4 _ rfl
      have d5 : (w2.setCell ⟨wr.heap.size, 3, none⟩ (.bool (nonOf e.h))).cell? ⟨wr.heap.size, 5, none⟩ = some (.int .i64 e.h.reader) := hb3.at_ 5 _ rfl
      have d6 : (w2.setCell ⟨wr.heap.size, 3, none⟩ (.bool (nonOf e.h))).cell? ⟨wr.heap.size, 6, none⟩ = some (.int .i64 e.h.flags) := hb3.at_ 6 _ rfl
      have d7 : (w2.setCell ⟨wr.heap.size, 3, none⟩ (.bool (nonOf e.h))).cell? ⟨wr.heap.size, 7, none⟩ = some (.int .i64 e.h.method) := hb3.at_ 7 _ rfl
      have d8 : (w2.setCell ⟨wr.heap.size, 3, none⟩ (.bool (nonOf e.h))).cell? ⟨wr.heap.size, 8, none⟩ = some (.int .i64 e.h.time) := hb3.at_ 8 _ rfl
      have d9 : (w2.setCell ⟨wr.heap.size, 3, none⟩ (.bool (nonOf e.h))).cell? ⟨wr.heap.size, 9, none⟩ = some (.int .i64 e.h.date) := hb3.at_ 9 _ rfl
      have d10 : (w2.setCell ⟨wr.heap.size, 3, none⟩ (.bool (nonOf e.h))).cell? ⟨wr.heap.size, 10, none⟩ = some (.int .i64 e.h.crc) := hb3.at_ 10 _ rfl
      have d11 : (w2.setCell ⟨wr.heap.size, 3, none⟩ (.bool (nonOf e.h))).cell? ⟨wr.heap.size, 11, none⟩ = some (.int .i64 e.h.packed) := hb3.at_ 11 _ rfl
      have d12 : (w2.setCell ⟨wr.heap.size, 3, none⟩ (.bool (nonOf e.h))).cell? ⟨wr.heap.size, 12, none⟩ = some (.int .i64 e.h.size) := hb3.at_ 12 _ rfl
      have d13 : (w2.setCell ⟨wr.heap.size, 3, none⟩ (.bool (nonOf e.h))).cell? ⟨wr.heap.size, 13, none⟩ = some (.int .i64 e.h.ext) := hb3.at_ 13 _ rfl
      have HF3 := Lib.hid (HF.out.trans hf3 (by simp))
      have HO2 := Lib.hid (ownsE_fr HO.out hf3 (by simp))
      have HO3 := Lib.hid (ownsE_fr HO2.out ((Fr.refl [] (w2.setCell ⟨wr.heap.size, 3, none⟩ (.bool (nonOf e.h)))).alloc (.cells (hdL (lh e)).toArray 26)) (by simp))
      have hbase : w.heap.size ≤ ((w2.setCell ⟨wr.heap.size, 3, none⟩ (.bool (nonOf e.h))).alloc (.cells (hdL (lh e)).toArray 26)).heap.size := ((HF3.out).alloc _).size
      have hsz2 : (w2.setCell ⟨wr.heap.size, 3, none⟩ (.bool (nonOf e.h))).heap.size = w2.heap.size := by simp [World.setCell]
      have hnw := news_hd (w2.setCell ⟨wr.heap.size, 3, none⟩ (.bool (nonOf e.h))) (lh e)
      rw [hsz2] at hnw
      have HNW := Lib.hid hnw
      have HBASE := Lib.hid hbase
      clear hf2 hf3 hb2 hb3 HO hnw hbase hsz2
      go_wp2_with (at_builtin; refine wpList_append_own _ rfl _ _ 43 rfl w.heap.size 26 i0 z0 14 136 Tryz.underlying43 HI0.out.1 HI0.out.2.1 HI0.out.2.2.1 HI0.out.2.2.2.1 HI0.out.2.2.2.2 (by decide) u3 k (((l.take k).map lh).flatMap hdL) rfl HO3.out ⟨w2.heap.size, 0, none⟩ 1 1 (hdL (lh e)) rfl rfl HNW.out (ones_hd (lh e)) (by unfold maxLen; omega) (by omega) HBASE.out ?_; intro v' w4 hown4 hgrow4 hv4; have HO4 := Lib.hid hown4; have HG4 := Lib.hid hgrow4; clear hown4 hgrow4 hv4)
      have hlt2 := HO3.out.lt
      have hf5 : Fr u3.ownBlock.toList ((w2.setCell ⟨wr.heap.size, 3, none⟩ (.bool (nonOf e.h))).alloc (.cells (hdL (lh e)).toArray 26)) w4 := Fr.of_grown HG4.out (fun g hg => .inl (by rw [hg]; simp))
      have HF4 := Lib.hid ((HF3.out.alloc (.cells (hdL (lh e)).toArray 26)).trans hf5 (fun g hg => .inr (hlt2 g (by simpa using hg)).1))
      exact ⟨⟨k + 1, by omega, by rw [Int.natCast_add]; rfl, by rw [HT.out, List.flatMap_append, List.flatMap_singleton]; exact HO4.out, HF4.out⟩, by simp [intOf]; omega⟩
    · obtain rfl : k = n := by omega
      have HF := Lib.hid hf
      clear hf hown
      go_wp2_with fail
      go_ret
      refine ⟨_, rfl, ?_, HF.out⟩
      have := HO.out
      rw [List.take_of_length_le (by omega)] at this
      unfold HL
      rw [List.length_map, hn]
      exact this
end Go.Proofs.YtcodhjoiikdhmaaGreatDoor

/- spec.Same: a listing of these headers. -/
namespace Go.Proofs.YtcodhjoiikdhmaaGreatDoor
open Go Go.RowKit
open Zp
theorem flatH_get : ∀ (l : List Hd) (i j : Nat) (e : Hd), l[i]? = some e → j < 14 → (l.flatMap hdL)[i * 14 + j]? = (hdL e)[j]?
  | [], i, j, e, h, _ => by simp at h
  | a :: l, 0, j, e, h, hj => by
    simp at h
    subst h
    rw [List.flatMap_cons, Nat.zero_mul, Nat.zero_add, List.getElem?_append_left (by show j < 14; exact hj)]
  | a :: l, i + 1, j, e, h, hj => by
    have := flatH_get l i j e (by simpa using h) hj
    rw [List.flatMap_cons, List.getElem?_append_right (by show 14 ≤ _; omega), show (i + 1) * 14 + j - (hdL a).length = i * 14 + j by show _ - 14 = _; omega, this]
theorem HL.len {w : World} {base : Nat} {v : Value} {l : List Hd} (h : HL w base v l) : ∃ p cap, v = .slice p l.length cap := by
  rcases h.2 with ⟨h1, h2⟩ | ⟨g, cap, cur, h1, h2, h3, h4, h5, h6, h7⟩
  · exact ⟨none, 0, by rw [h1, h2]⟩
  · exact ⟨_, cap, h1⟩
theorem HL.row {w : World} {base : Nat} {v : Value} {l : List Hd} (h : HL w base v l) (hl : l ≠ []) :
    ∃ g cap, v = .slice (some ⟨g, 0, none⟩) l.length cap ∧ base ≤ g ∧ g < w.heap.size ∧ l.length ≤ cap ∧ cap ≤ maxLen := by
  rcases h.2 with ⟨h1, h2⟩ | ⟨g, cap, cur, h1, h2, h3, h4, h5, h6, h7⟩
  · exact absurd (List.eq_nil_of_length_eq_zero h2) hl
  · exact ⟨g, cap, h1, h2, Blk.lt (t := 26) (cs := cur) h3, h4, h5⟩
theorem HL.range {w : World} {base g cap n : Nat} {l : List Hd} (h : HL w base (.slice (some ⟨g, 0, none⟩) n cap) l) {k : Nat} {e : Hd} (hk : l[k]? = some e) : w.rangeAt g (k * 14) (hdL e) := by
  intro j u hj
  have hj14 : j < 14 := (List.getElem?_eq_some_iff.1 hj).1
  have := h.cells (g := g) rfl (k * 14 + j) u (by rw [flatH_get l k j e hk hj14]; exact hj)
  rw [Addr.add_lit, Nat.zero_add] at this
  exact this
theorem cellsH {w : World} {g a : Nat} {h : Hd} (hb : w.rangeAt g a (hdL h)) : w.cell? ⟨g, a, none⟩ = some (.string (bs h.name)) ∧ w.cell? ⟨g, a + 1, none⟩ = some (.string (bs h.comment)) ∧ w.cell? ⟨g, a + 2, none⟩ = some (.string (bs h.extra)) ∧ w.cell? ⟨g, a + 3, none⟩ = some (.bool h.non) ∧ w.cell? ⟨g, a + 4, none⟩ = some (.int .i64 h.creator) ∧ w.cell? ⟨g, a + 5, none⟩ = some (.int .i64 h.reader) ∧ w.cell? ⟨g, a + 6, none⟩ = some (.int .i64 h.flags) ∧ w.cell? ⟨g, a + 7, none⟩ = some (.int .i64 h.method) ∧ w.cell? ⟨g, a + 8, none⟩ = some (.int .i64 h.time) ∧ w.cell? ⟨g, a + 9, none⟩ = some (.int .i64 h.date) ∧ w.cell? ⟨g, a + 10, none⟩ = some (.int .i64 h.crc) ∧ w.cell? ⟨g, a + 11, none⟩ = some (.int .i64 h.packed) ∧ w.cell? ⟨g, a + 12, none⟩ = some (.int .i64 h.size) ∧ w.cell? ⟨g, a + 13, none⟩ = some (.int .i64 h.ext) :=
  ⟨hb 0 _ rfl, hb 1 _ rfl, hb 2 _ rfl, hb 3 _ rfl, hb 4 _ rfl, hb 5 _ rfl, hb 6 _ rfl, hb 7 _ rfl, hb 8 _ rfl, hb 9 _ rfl, hb 10 _ rfl, hb 11 _ rfl, hb 12 _ rfl, hb 13 _ rfl⟩
theorem HL.fr {w w' : World} {S : List Nat} {base : Nat} {v : Value} {l : List Hd} (h : HL w base v l) (hf : Fr S w w') (hS : ∀ s ∈ S, s < base) : HL w' base v l := ownsE_fr h hf hS
set_option maxRecDepth 100000 in
set_option maxHeartbeats 8000000 in
theorem sameC (c : ByteArray) (b1 b2 : Nat) (v1 v2 : Value) (l : List Hd) (w : World) (h1 : HL w b1 v1 l) (h2 : HL w b2 v2 l) (hl : l.length ≤ 2147483647) :
    Calls Tryz.prog 27 #[.agg #[.bool true, .string c, v1], v2, .string c] w fun e w' => e = .returned (.bool true) ∧ Fr [] w w' := by
  obtain ⟨p1, cap1, rfl⟩ := h1.len
  obtain ⟨p2, cap2, rfl⟩ := h2.len
  obtain ⟨n, hn⟩ : ∃ n, l.length = n := ⟨_, rfl⟩
  have H1 := Lib.hid h1
  have H2 := Lib.hid h2
  rw [hn] at H1 H2 hl ⊢
  clear h1 h2
  have hF := Lib.hid ((Fr.refl [] w).alloc (.cells #[.bool true, .string c, .slice p1 n cap1] 45))
  obtain ⟨wb, hwb⟩ : ∃ wb, w.alloc (.cells #[.bool true, .string c, .slice p1 n cap1] 45) = wb := ⟨_, rfl⟩
  have HWB := Lib.hid hwb
  have b0 : wb.cell? ⟨w.heap.size, 0, none⟩ = some (.bool true) := by rw [← hwb]; exact (Blk.new w _ _).at_ 0 _ rfl
  have bb1 : wb.cell? ⟨w.heap.size, 1, none⟩ = some (.string c) := by rw [← hwb]; exact (Blk.new w _ _).at_ 1 _ rfl
  have bb2 : wb.cell? ⟨w.heap.size, 2, none⟩ = some (.slice p1 n cap1) := by rw [← hwb]; exact (Blk.new w _ _).at_ 2 _ rfl
  have HB := Lib.hid (And.intro b0 (And.intro bb1 bb2))
  clear b0 bb1 bb2 hwb
  go_enter Tryz.func27, Tryz.ntmps27
  go_wp2_with fail
  go_loopw [7] (fun v7 wr => ∃ k : Nat, k ≤ n ∧ v7 = .int .i64 (k : Int) ∧ ∃ m, wr = wb.drewN m) (fun v7 _ => n - (intOf v7).toNat)
  case atStart => exact ⟨0, by omega, rfl, 0, HWB.out.symm ▸ rfl⟩
  case round =>
    obtain ⟨k, hk, rfl, m, rfl⟩ := hrel
    by_cases hlt : k < n
    · have hkl : k < l.length := by omega
      obtain ⟨e, he⟩ : ∃ e, l[k] = e := ⟨_, rfl⟩
      have hle : l[k]? = some e := by rw [List.getElem?_eq_getElem hkl, he]
      have hfb : Fr [] w wb := by rw [← HWB.out]; exact hF.out
      obtain ⟨g1, q1, e1, -, hg1, hc1, hm1⟩ := H1.out.row (fun h => by rw [h] at hle; simp at hle)
      obtain ⟨g2, q2, e2, -, hg2, hc2, hm2⟩ := H2.out.row (fun h => by rw [h] at hle; simp at hle)
      rw [hn] at e1 e2
      injection e1 with e1 e3 e4
      subst e1; subst e4
      injection e2 with e2 e5 e6
      subst e2; subst e6
      clear e3 e5
      have hr1 := (H1.out.fr hfb (by simp)).range hle
      have hr2 := (H2.out.fr hfb (by simp)).range hle
      obtain ⟨c0, c1, c2, c3, c4, c5, c6, c7, c8, c9, c10, c11, c12, c13⟩ := cellsH hr1
      obtain ⟨d0, d1, d2, d3, d4, d5, d6, d7, d8, d9, d10, d11, d12, d13⟩ := cellsH hr2
      obtain ⟨bb0, bb1, bb2⟩ := HB.out
      have i1 : (k : Int) < (n : Int) := by omega
      clear hr1 hr2 hfb he hle
      go_wp2_with fail
      go_region
      go_wp2_with fail
      exact ⟨⟨k + 1, by omega, by rw [Int.natCast_add]; rfl, m + 1, rfl⟩, by simp [intOf]; omega⟩
    · obtain rfl : k = n := by omega
      go_wp2_with fail
      go_ret
      exact ⟨rfl, by rw [← HWB.out]; exact hF.out.drewN m⟩
end Go.Proofs.YtcodhjoiikdhmaaGreatDoor

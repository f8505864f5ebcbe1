/- FnExactRaw: a file's bytes lie in the archive as they are. -/
import Derived.Test.YtalgnjkdoaaacaaGreatDoorQyr
import Derived.Test.YtalgnjkdoaaacaaGreatDoorQxe0
import Derived.Test.YtalgnjkdoaaacaaGreatDoorQqf
set_option linter.unusedVariables false
set_option linter.unusedSimpArgs false
namespace Go.Proofs.YtalgnjkdoaaacaaGreatDoor
open Go Go.RowKit
open Zp
/-- This entry, its packed size that of its data. -/
def packE (e : Ent) : Ent := ⟨{ e.h with packed := e.data.length }, e.data⟩
theorem packI {e : Ent} (h : EntI e) : EntI (packE e) := by
  obtain ⟨⟨h1, h2, h3, h4, h5, h6, h7, h8, h9, h10, h11, h12, h13⟩, hd⟩ := h
  exact ⟨⟨h1, h2, h3, h4, h5, h6, h7, ⟨by show _ ≤ (e.data.length : Int); omega, by show (e.data.length : Int) ≤ _; omega⟩, h9, h10, h11, h12, h13⟩, hd⟩
theorem set_pack {l : List Ent} {k : Nat} {e : Ent} (h : l[k]? = some e) : ((l.take k).map packE ++ l.drop k).set k (packE e) = (l.take (k + 1)).map packE ++ l.drop (k + 1) := by
  obtain ⟨hk, he⟩ := List.getElem?_eq_some_iff.1 h
  have h1 : ((l.take k).map packE).length = k := by rw [List.length_map, List.length_take]; omega
  rw [List.set_append_right _ _ (by omega), h1, Nat.sub_self, List.drop_eq_getElem_cons hk, List.set_cons_zero, List.take_add_one, h]
  simp
theorem get_pack {l : List Ent} {k : Nat} {e : Ent} (h : l[k]? = some e) : ((l.take k).map packE ++ l.drop k)[k]? = some e := by
  obtain ⟨hk, he⟩ := List.getElem?_eq_some_iff.1 h
  have h1 : ((l.take k).map packE).length = k := by rw [List.length_map, List.length_take]; omega
  rw [List.getElem?_append_right (by omega), h1, Nat.sub_self, List.getElem?_drop, Nat.add_zero, h]
theorem run_append_owned_nil {P : Program} {w : World} (base : Nat) (t ty e : TypeId) (i : TypeInfo) (size : Nat) (ht : P.underlying t = some (.slice e)) (hi : P.info? e = some i)
    (v : Value) (n c : Nat) (xs : List Value) (hown : w.ownsRow base e size v n xs) :
    (Builtin.append_ #[t, t] ty #[v, .slice none 0 c]).run P w = .ok v w := by
  rcases hown.2 with ⟨rfl, rfl⟩ | ⟨g, cap, cur, rfl, _, _, hnc, _⟩
  · simp [Builtin.append_, run_underlying ht, sizeOf, typeInfo, hi, Builtin.lenOf, Builtin.firstCells]
  · simp [Builtin.append_, run_underlying ht, sizeOf, typeInfo, hi, Builtin.lenOf, Builtin.firstCells, hnc, storeCells]
theorem wpList_append_own_nil {P : Program} {w : World} {ops : Array Oper} {rest : List Oper} {o : Oper} {a : Act} {Q : Exit → Act → World → Prop} (hgd : o.guard = none) (s x : Operand) (t : TypeId)
    (ho : o.op = .call { callee := .builtin .append, args := #[s, x], argTypes := #[t, t] })
    (base : Nat) (e : TypeId) (i : TypeInfo) (size : Nat) (ht : P.underlying t = some (.slice e)) (hi : P.info? e = some i)
    (v : Value) (n c : Nat) (xs : List Value) (hs : a.eval s = v) (hown : w.ownsRow base e size v n xs) (hx : a.eval x = .slice none 0 c)
    (h : wpList P ops Q rest (a.put o.dst v) w) : wpList P ops Q (o :: rest) a w := by
  refine wpList_plain hgd fun K hK => ?_
  have hrun := run_append_owned_nil (P := P) (w := w) base t o.type e i size ht hi v n c xs hown
  unfold Oper.wp
  simp [execOp, ho, resolve, invoke, builtin, hs, hx, hrun, Result.andThen]
  exact hK _ _ h
set_option maxRecDepth 100000 in
set_option maxHeartbeats 8000000 in
theorem rawLaw (E : Errs) (B0 : Nat) (w : World) (l : List Ent) (c : By) (k : Int) (v : Value) (hW : WE E B0 w) (hv : SV w v l) (hM : ∀ e ∈ l, EntM e ∧ HdM e.h) (hc : c.length ≤ 9223372036854775807) (hk : I64 k) :
    Calls Tryz.prog 5 #[v, .string (bs c), .int .i64 k] w fun x w' => x = .returned (.bool true) ∧ Fr [] w w' := by
  obtain ⟨i0, hi0, hz0⟩ := Option.map_eq_some_iff.1 infoEnt2
  simp only [Prod.mk.injEq] at hz0
  obtain ⟨hz1, hz2, hz3⟩ := hz0
  obtain ⟨z0, hz4, hz5⟩ := Option.map_eq_some_iff.1 hz1
  have HI0 := Lib.hid (And.intro hi0 (And.intro hz4 (And.intro hz2 (And.intro hz3 hz5))))
  clear hi0 hz1 hz2 hz3 hz4 hz5
  have HFIT := Lib.hid (fits1C l (fun e he => (hM e he).1) v w hv)
  have HV := Lib.hid hv
  have HW := Lib.hid hW
  have HMM := Lib.hid hM
  clear hW hM
  obtain ⟨p, cap, rfl, -⟩ := hv
  obtain ⟨n, hn⟩ : ∃ n, l.length = n := ⟨_, rfl⟩
  rw [hn] at HFIT HV ⊢
  go_enter Tryz.func5, Tryz.ntmps5
  go_wp2_with fail
  refine HFIT.out.mono ?_
  rintro x w1 ⟨b, rfl, hb, hf1⟩
  have HB := Lib.hid hb
  have HF1 := Lib.hid hf1
  clear hb hf1
  cases b with
  | false =>
    go_wp2_with fail
    go_ret
    exact ⟨rfl, HF1.out⟩
  | true =>
    by_cases hcc : c.length ≤ 2147483647
    case neg =>
      have i1 : 2147483647 < (c.length : Int) := by omega
      go_wp2_with fail
      go_ret
      exact ⟨rfl, HF1.out⟩
    have i1 : ¬ 2147483647 < (c.length : Int) := by omega
    have hfit := HB.out.1 (by first | rfl | trivial)
    have HI := Lib.hid (fun e (he : e ∈ l) => (HMM.out e he).2.i (hfit.2 e he))
    have hl31 := hfit.1
    clear hfit
    have h0 : (w1.alloc (.cells #[] 38)).ownsRow w1.heap.size 38 15 (.slice (some ⟨w1.heap.size, 0, none⟩) 0 0) 0 [] :=
      ⟨rfl, .inr ⟨w1.heap.size, 0, #[], rfl, Nat.le_refl _, Blk.new w1 _ _, Nat.le_refl _, by unfold maxLen; omega, rfl, rfl⟩⟩
    have H0 := Lib.hid h0
    clear h0
    by_cases hn0 : n = 0
    · subst hn0
      by_cases hk0 : k < 0
      · cases p with
        | none =>
          go_wp2_with (at_builtin; refine wpList_append_own_nil rfl _ _ 22 rfl w1.heap.size 38 i0 15 Tryz.underlying22 HI0.out.1 _ 0 _ [] rfl H0.out rfl ?_)
          go_ret
          exact ⟨rfl, HF1.out.alloc _⟩
        | some ad =>
          go_wp2_with (at_builtin; refine wpList_append_own _ rfl _ _ 22 rfl w1.heap.size 38 i0 z0 15 152 Tryz.underlying22 HI0.out.1 HI0.out.2.1 HI0.out.2.2.1 HI0.out.2.2.2.1 HI0.out.2.2.2.2 (by decide) (.slice (some ⟨w1.heap.size, 0, none⟩) 0 0) 0 [] rfl H0.out ad 0 _ [] rfl rfl (by intro j u hj; simp at hj) (by intro u hu; simp at hu) (by unfold maxLen; omega) (by omega) (by rw [World.size_alloc]; omega) ?_; intro v' w4 hown4 hgrow4 hv4; have HO4 := Lib.hid hown4; have HG4 := Lib.hid hgrow4; clear hown4 hgrow4 hv4; obtain ⟨p2, cap2, rfl⟩ := OL.len (l := []) (w := w4) (base := w1.heap.size) (v := v') HO4.out)
          have hf5 := Fr.of_grown HG4.out (S := [w1.heap.size]) (fun g hg => .inl (by simpa [Value.ownBlock] using hg.symm))
          have HF4 := Lib.hid ((HF1.out.alloc _).trans hf5 (fun g hg => .inr (by have := HF1.out.size; simp at hg; omega)))
          go_ret
          exact ⟨rfl, HF4.out⟩
      · have d0 : decide (k < 0) = false := decide_eq_false hk0
        have d1 : 0 ≤ k := by omega
        cases p with
        | none =>
          go_wp2_with (at_builtin; refine wpList_append_own_nil rfl _ _ 22 rfl w1.heap.size 38 i0 15 Tryz.underlying22 HI0.out.1 _ 0 _ [] rfl H0.out rfl ?_)
          go_ret
          exact ⟨rfl, HF1.out.alloc _⟩
        | some ad =>
          go_wp2_with (at_builtin; refine wpList_append_own _ rfl _ _ 22 rfl w1.heap.size 38 i0 z0 15 152 Tryz.underlying22 HI0.out.1 HI0.out.2.1 HI0.out.2.2.1 HI0.out.2.2.2.1 HI0.out.2.2.2.2 (by decide) (.slice (some ⟨w1.heap.size, 0, none⟩) 0 0) 0 [] rfl H0.out ad 0 _ [] rfl rfl (by intro j u hj; simp at hj) (by intro u hu; simp at hu) (by unfold maxLen; omega) (by omega) (by rw [World.size_alloc]; omega) ?_; intro v' w4 hown4 hgrow4 hv4; have HO4 := Lib.hid hown4; have HG4 := Lib.hid hgrow4; clear hown4 hgrow4 hv4; obtain ⟨p2, cap2, rfl⟩ := OL.len (l := []) (w := w4) (base := w1.heap.size) (v := v') HO4.out)
          have hf5 := Fr.of_grown HG4.out (S := [w1.heap.size]) (fun g hg => .inl (by simpa [Value.ownBlock] using hg.symm))
          have HF4 := Lib.hid ((HF1.out.alloc _).trans hf5 (fun g hg => .inr (by have := HF1.out.size; simp at hg; omega)))
          go_ret
          exact ⟨rfl, HF4.out⟩
    have hlne : l ≠ [] := fun h => by rw [h] at hn; simp at hn; omega
    have hv1 := HV.out
    obtain ⟨p', cap', heq, hcap, hmax, hp⟩ := hv1
    obtain ⟨g, o, hpe, hg, hle⟩ := hp hlne
    injection heq with e1 e2 e3
    subst e1
    subst hpe
    clear e2 e3 hp
    have HNW := Lib.hid (fun (w' : World) (hf : Fr [] w w') => (show ∀ j u, (l.flatMap entL)[j]? = some u → w'.cell? ((⟨g, o, none⟩ : Addr).add j) = some u from fun j u hj => by
      have hj2 := (List.getElem?_eq_some_iff.1 hj).1
      rw [flat_length] at hj2
      have hi : j / 15 < l.length := by omega
      have hfl := flat_get l (j / 15) (j % 15) l[j / 15] (List.getElem?_eq_getElem hi) (by omega)
      rw [show j / 15 * 15 + j % 15 = j by omega] at hfl
      have := (hle.fr hf hg (by simp)) (j / 15) _ (List.getElem?_eq_getElem hi) (j % 15) u (by rw [← hfl]; exact hj)
      rw [Addr.add_lit]
      rw [show o + j / 15 * 15 + j % 15 = o + j by omega] at this
      exact this))
    have HON := Lib.hid (show ∀ u ∈ l.flatMap entL, u.oneCell' = true from fun u hu => by
      obtain ⟨e, -, he⟩ := List.mem_flatMap.1 hu
      exact ones_of e u he)
    clear hle
    by_cases hk0 : k < 0
    · have d0 : decide (k < 0) = true := decide_eq_true hk0
      go_wp2_with (at_builtin; refine wpList_append_own _ rfl _ _ 22 rfl w1.heap.size 38 i0 z0 15 152 Tryz.underlying22 HI0.out.1 HI0.out.2.1 HI0.out.2.2.1 HI0.out.2.2.2.1 HI0.out.2.2.2.2 (by decide) (.slice (some ⟨w1.heap.size, 0, none⟩) 0 0) 0 [] rfl H0.out ⟨g, o, none⟩ n _ (l.flatMap entL) rfl (by rw [flat_length, hn]) (HNW.out _ (HF1.out.alloc _)) HON.out (by unfold maxLen; omega) (by omega) (by rw [World.size_alloc]; omega) ?_; intro v' w4 hown4 hgrow4 hv4; have HO4 := Lib.hid hown4; have HG4 := Lib.hid hgrow4; clear hown4 hgrow4 hv4; have HOL := Lib.hid (show OL w4 w1.heap.size v' l from by unfold OL; rw [hn]; have := HO4.out; rw [Nat.zero_add, List.nil_append] at this; exact this); obtain ⟨g2, cap2, hsl, hge, hgl, hnc, hcm⟩ := HOL.out.row hlne; rw [hn] at hsl hnc; subst hsl)
      have hf5 := Fr.of_grown HG4.out (S := [w1.heap.size]) (fun g hg => .inl (by simpa [Value.ownBlock] using hg.symm))
      have HF4 := Lib.hid ((HF1.out.alloc _).trans hf5 (fun g hg => .inr (by have := HF1.out.size; simp at hg; omega)))
      clear HO4 HG4 hf5 HNW HON
      go_ret
      exact ⟨rfl, HF4.out⟩
    obtain ⟨kn, rfl⟩ : ∃ kn : Nat, k = (kn : Int) := ⟨k.toNat, by omega⟩
    have d1 : decide ((kn : Int) < 0) = false := decide_eq_false (by omega)
    by_cases hkn : (n : Int) ≤ (kn : Int)
    · have d2 : decide (n ≤ kn) = true := decide_eq_true (by omega)
      go_wp2_with (at_builtin; refine wpList_append_own _ rfl _ _ 22 rfl w1.heap.size 38 i0 z0 15 152 Tryz.underlying22 HI0.out.1 HI0.out.2.1 HI0.out.2.2.1 HI0.out.2.2.2.1 HI0.out.2.2.2.2 (by decide) (.slice (some ⟨w1.heap.size, 0, none⟩) 0 0) 0 [] rfl H0.out ⟨g, o, none⟩ n _ (l.flatMap entL) rfl (by rw [flat_length, hn]) (HNW.out _ (HF1.out.alloc _)) HON.out (by unfold maxLen; omega) (by omega) (by rw [World.size_alloc]; omega) ?_; intro v' w4 hown4 hgrow4 hv4; have HO4 := Lib.hid hown4; have HG4 := Lib.hid hgrow4; clear hown4 hgrow4 hv4; have HOL := Lib.hid (show OL w4 w1.heap.size v' l from by unfold OL; rw [hn]; have := HO4.out; rw [Nat.zero_add, List.nil_append] at this; exact this); obtain ⟨g2, cap2, hsl, hge, hgl, hnc, hcm⟩ := HOL.out.row hlne; rw [hn] at hsl hnc; subst hsl)
      have hf5 := Fr.of_grown HG4.out (S := [w1.heap.size]) (fun g hg => .inl (by simpa [Value.ownBlock] using hg.symm))
      have HF4 := Lib.hid ((HF1.out.alloc _).trans hf5 (fun g hg => .inr (by have := HF1.out.size; simp at hg; omega)))
      clear HO4 HG4 hf5 HNW HON
      go_ret
      exact ⟨rfl, HF4.out⟩
    have d2 : decide (n ≤ kn) = false := decide_eq_false (by omega)
    go_wp2_with (at_builtin; refine wpList_append_own _ rfl _ _ 22 rfl w1.heap.size 38 i0 z0 15 152 Tryz.underlying22 HI0.out.1 HI0.out.2.1 HI0.out.2.2.1 HI0.out.2.2.2.1 HI0.out.2.2.2.2 (by decide) (.slice (some ⟨w1.heap.size, 0, none⟩) 0 0) 0 [] rfl H0.out ⟨g, o, none⟩ n _ (l.flatMap entL) rfl (by rw [flat_length, hn]) (HNW.out _ (HF1.out.alloc _)) HON.out (by unfold maxLen; omega) (by omega) (by rw [World.size_alloc]; omega) ?_; intro v' w4 hown4 hgrow4 hv4; have HO4 := Lib.hid hown4; have HG4 := Lib.hid hgrow4; clear hown4 hgrow4 hv4; have HOL := Lib.hid (show OL w4 w1.heap.size v' l from by unfold OL; rw [hn]; have := HO4.out; rw [Nat.zero_add, List.nil_append] at this; exact this); obtain ⟨g2, cap2, hsl, hge, hgl, hnc, hcm⟩ := HOL.out.row hlne; rw [hn] at hsl hnc; subst hsl)
    have hf5 := Fr.of_grown HG4.out (S := [w1.heap.size]) (fun g hg => .inl (by simpa [Value.ownBlock] using hg.symm))
    have HF4 := Lib.hid ((HF1.out.alloc _).trans hf5 (fun g hg => .inr (by have := HF1.out.size; simp at hg; omega)))
    clear HO4 HG4 hf5 HNW HON
    have hkl : kn < l.length := by omega
    have hw14 : w1.heap.size ≤ w4.heap.size := by omega
    go_loopw [31] (fun v31 wr => ∃ (q : Nat), q ≤ n ∧ v31 = .int .i64 (q : Int) ∧ OL wr w1.heap.size (.slice (some ⟨g2, 0, none⟩) n cap2) ((l.take q).map packE ++ l.drop q) ∧ Fr [] w wr) (fun v31 _ => n - (intOf v31).toNat)
    case atStart => exact ⟨0, by omega, rfl, by simpa using HOL.out, HF4.out⟩
    case round =>
      obtain ⟨q, hq, rfl, hol, hf⟩ := hrel
      have HO := Lib.hid hol
      have HF := Lib.hid hf
      clear hol hf
      by_cases hlt : q < n
      · have hql : q < l.length := by omega
        obtain ⟨e, he⟩ : ∃ e, l[q] = e := ⟨_, rfl⟩
        have hqe : l[q]? = some e := by rw [List.getElem?_eq_getElem hql, he]
        have hlq : ((l.take q).map packE ++ l.drop q).length = n := by rw [List.length_append, List.length_map, List.length_take, List.length_drop]; omega
        have hrg := cellsE (HO.out.range (get_pack hqe))
        obtain ⟨c0, c1, c2, c3, c4, c5, c6, c7, c8, c9, c10, c11, c12, c13, c14⟩ := hrg
        have z11 : wr.frozen? ⟨g2, q * 15 + 11, none⟩ = false := HO.out.frozen hlq.symm (q * 15 + 11)
        have HP := Lib.hid (HO.out.put hlq.symm (get_pack hqe) (j := 11) (e' := packE e) (u := .int .i64 (e.data.length : Int)) (by omega) rfl)
        have i3 : (q : Int) < (n : Int) := by omega
        clear hlq he
        go_wp2_with fail
        refine ⟨⟨q + 1, by omega, by rw [Int.natCast_add]; rfl, by rw [← set_pack hqe]; exact HP.out, ?_⟩, by simp [intOf]; omega⟩
        exact HF.out.setCell (.inr (by show w.heap.size ≤ g2; have := HF1.out.size; omega)) _
      · obtain rfl : q = n := by omega
        have htd : (l.take q).map packE ++ l.drop q = l.map packE := by rw [List.take_of_length_le (by omega), List.drop_of_length_le (by omega), List.append_nil]
        obtain ⟨l', hl'⟩ : ∃ l', l.map packE = l' := ⟨_, rfl⟩
        have hL' : l'.length = q := by rw [← hl', List.length_map, hn]
        have hEI : ∀ x ∈ l', EntI x := fun x hx => by
          rw [← hl'] at hx
          obtain ⟨y, hy, rfl⟩ := List.mem_map.1 hx
          exact packI (HI.out y hy)
        have HPK := Lib.hid (show ∀ x ∈ l', x.h.packed = x.data.length from fun x hx => by
          rw [← hl'] at hx
          obtain ⟨y, hy, rfl⟩ := List.mem_map.1 hx
          rfl)
        rw [htd, hl'] at HO
        have HOL2 := HO
        clear HO HOL htd hl'
        have HEI := Lib.hid hEI
        have HSV := Lib.hid (fun (w' : World) (hf : Fr [] wr w') => HOL2.out.sv.fr hf (by simp))
        have HPOS := Lib.hid (fun (w' : World) (hf : Fr [] wr w') => (show 0 < w'.heap.size from by have := HF.out.size; have := HW.out.h18; have := hf.size; omega))
        have HG := Lib.hid (goodC l' HEI.out c hcc _ wr (HSV.out wr (Fr.refl _ _)) (HPOS.out wr (Fr.refl _ _)))
        clear hEI
        go_wp2_with fail
        refine HG.out.mono ?_
        rintro x w5 ⟨b2, rfl, hb2, hf5⟩
        have HB2 := Lib.hid hb2
        have HF5 := Lib.hid hf5
        clear hb2 hf5
        cases b2 with
        | false =>
          go_wp2_with fail
          go_ret
          exact ⟨rfl, HF.out.trans HF5.out (by simp)⟩
        | true =>
        have HGOOD := Lib.hid (HB2.out.1 (by first | rfl | trivial))
        clear HB2
        obtain ⟨s1, s2, e1, e2⟩ := goodArc HGOOD.out
        have h1000 := HGOOD.out.2.1
        have hok : ∀ e ∈ l', HdOk e.h := fun e he => (HGOOD.out.1 e he).1
        have hkl' : kn < l'.length := by omega
        obtain ⟨e, he⟩ : ∃ e, l'[kn] = e := ⟨_, rfl⟩
        have hle : l'[kn]? = some e := by rw [List.getElem?_eq_getElem hkl', he]
        have hem : e ∈ l' := by rw [← he]; exact List.getElem_mem hkl'
        have HAR := Lib.hid (archC l' HEI.out c _ w5 (HSV.out w5 HF5.out) (HPOS.out w5 HF5.out) (by omega) (by omega) (by omega) hcc)
        rw [archI_ok c hok] at HAR
        have HFK := Lib.hid (fileK_of HGOOD.out hle)
        have hgr : g2 < wr.heap.size := by
          obtain ⟨g3, cap3, hs3, -, h3, -⟩ := HOL2.out.row (fun h => by rw [h] at hL'; simp at hL'; omega)
          injection hs3 with a1 a2 a3
          injection a1 with a1
          injection a1 with a1
          rw [a1]
          exact h3
        have HR := Lib.hid (fun (w' : World) (hf : Fr [] wr w') => cellsE (rangeAt_fr (HOL2.out.range hle) hgr hf))
        have hpk := HPK.out e hem
        obtain ⟨S, hS⟩ : ∃ S, bs (archB l' c) = S := ⟨_, rfl⟩
        rw [hS] at HFK HAR
        clear s1 s2 e1 e2 hok he hle hS
        go_wp2_with fail
        refine HAR.out.mono ?_
        rintro x w6 ⟨rfl, hf6⟩
        have HF6 := Lib.hid (HF5.out.trans hf6 (by simp))
        clear hf6
        have HW6 := Lib.hid (HW.out.fr (HF.out.trans HF6.out (by simp)) (by simp))
        have HRW := Lib.hid (raw_file E B0 w6 S kn e HW6.out HFK.out hpk)
        go_wp2_with fail
        refine HRW.out.mono ?_
        rintro x w7 ⟨rfl, hf7⟩
        have HF7 := Lib.hid (HF6.out.trans hf7 (by simp))
        have HRD := Lib.hid (readsC E B0 w7 (HW6.out.fr hf7 (by simp)))
        have c14 := (HR.out w7 HF7.out).2.2.2.2.2.2.2.2.2.2.2.2.2.2
        change w7.cell? ⟨g2, kn * 15 + 14, none⟩ = some (.string ⟨e.data.toArray⟩) at c14
        clear hf7
        go_wp2_with fail
        refine HRD.out.mono ?_
        rintro x w8 ⟨rfl, hf8⟩
        go_wp2_with fail
        go_ret
        exact ⟨rfl, HF.out.trans (HF7.out.trans hf8 (by simp)) (by simp)⟩
end Go.Proofs.YtalgnjkdoaaacaaGreatDoor

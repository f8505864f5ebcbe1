/- spec.Archive; spec.Ends. -/
import Derived.Test.YtalgnjkdoaaacaaGreatDoorQrd
import Derived.Test.YtalgnjkdoaaacaaGreatDoorQra
set_option linter.unusedVariables false
set_option linter.unusedSimpArgs false
namespace Go.Proofs.YtalgnjkdoaaacaaGreatDoor
open Go Go.RowKit
open Zp
set_option maxRecDepth 100000 in
set_option maxHeartbeats 8000000 in
theorem archC (l : List Ent) (hI : ∀ e ∈ l, EntI e) (c : By) (v : Value) (w : World) (hv : SV w v l) (h0 : 0 < w.heap.size) (hl4 : l.length ≤ 4000000000) (hL : (filesI l).length ≤ 4000000000) (hL2 : (dirI 0 l).length ≤ 4000000000) (hc : c.length ≤ 2147483647) :
    Calls Tryz.prog 12 #[v, .string (bs c)] w fun e w' => e = .returned (.string (bs (archI l c))) ∧ Fr [] w w' := by
  have HV := Lib.hid hv
  obtain ⟨p, cap, rfl, hlc, hcm, -⟩ := hv
  obtain ⟨n, hn⟩ : ∃ n, l.length = n := ⟨_, rfl⟩
  have HF := Lib.hid (filesC l hI _ w HV.out hL)
  have HD := Lib.hid (fun (w1 : World) (hf : Fr [] w w1) => dirC l hI _ w1 (HV.out.fr hf (by simp)) hL hL2)
  have HA := Lib.hid (show archI l c = filesI l ++ dirI 0 l ++ endI n (dirI 0 l).length (filesI l).length c by rw [archI, hn])
  obtain ⟨Ff, hFf⟩ : ∃ Ff, filesI l = Ff := ⟨_, rfl⟩
  obtain ⟨Dd, hDd⟩ : ∃ Dd, dirI 0 l = Dd := ⟨_, rfl⟩
  rw [hn] at hlc HF HD hl4 ⊢
  rw [hFf] at hL HF HA
  rw [hDd] at hL2 HD HA
  clear hI
  have HE := Lib.hid (fun (w1 : World) (h1 : 0 < w1.heap.size) => endC (n : Int) (Dd.length : Int) (Ff.length : Int) c ⟨by omega, by omega⟩ ⟨by omega, by omega⟩ ⟨by omega, by omega⟩ hc w1 h1)
  obtain ⟨Ee, hEe⟩ : ∃ Ee, endI (n : Int) (Dd.length : Int) (Ff.length : Int) c = Ee := ⟨_, rfl⟩
  have hel : Ee.length = 22 + c.length := by rw [← hEe, endI_length]
  rw [hEe] at HE HA
  clear hEe
  have q1 : ¬ 9223372036854775807 < Ff.length + Dd.length := by omega
  have q2 : ¬ 9223372036854775807 < Ff.length + Dd.length + Ee.length := by omega
  clear hel
  go_enter Tryz.func12, Tryz.ntmps12
  go_wp2_with fail
  refine HF.out.mono ?_
  rintro e w1 ⟨rfl, f1⟩
  have HD1 := Lib.hid (HD.out w1 f1)
  have F1 := Lib.hid f1
  clear f1
  go_wp2_with fail
  refine HD1.out.mono ?_
  rintro e w2 ⟨rfl, f2⟩
  have F2 := Lib.hid (F1.out.trans f2 (by simp))
  clear f2
  go_wp2_with fail
  refine (HE.out w2 (Nat.lt_of_lt_of_le h0 F2.out.size)).mono ?_
  rintro e w3 ⟨rfl, f3⟩
  have F3 := Lib.hid (F2.out.trans f3 (by simp))
  clear f3
  go_wp2_with fail
  go_ret
  refine ⟨?_, F3.out⟩
  rw [HA.out, ← bs_append, ← bs_append]
  rfl
theorem take4 (s : ByteArray) (k : Nat) : (s.extract k (k + 4)).toList = (s.data.toList.drop k).take 4 := by
  rw [ByteArray.toList_eq, ByteArray.data_extract, Array.toList_extract]
  simp [List.extract]
theorem ends_drop {l : By} {k : Nat} (h : k < l.length) : ends (l.drop k) = ends (l.drop (k + 1)) + if (l.drop k).take 4 = sigE then 1 else 0 := by
  rw [List.drop_eq_getElem_cons h]
  rfl
theorem ends_short : ∀ {l : By}, l.length < 4 → ends l = 0
  | [], _ => rfl
  | b :: l, h => by
    rw [ends, ends_short (by simp at h; omega), if_neg]
    intro he
    have := congrArg List.length he
    simp [sigE] at this h
    omega
set_option maxRecDepth 100000 in
set_option maxHeartbeats 4000000 in
theorem endsC (s : ByteArray) (w : World) (hs : s.size ≤ 9000000000) :
    Calls Tryz.prog 21 #[.string s] w fun e w' => e = .returned (.int .i64 (ends s.data.toList : Int)) ∧ w' = w := by
  go_enter Tryz.func21, Tryz.ntmps21
  go_wp2_with fail
  go_loop [3, 4] (fun v3 v4 => ∃ k m : Nat, k ≤ s.size ∧ v4 = .int .i64 (k : Int) ∧ v3 = .int .i64 (m : Int) ∧ m + ends (s.data.toList.drop k) = ends s.data.toList ∧ m ≤ k) (fun _ v4 => s.size - (intOf v4).toNat)
  case atStart => exact ⟨0, 0, by omega, rfl, rfl, by simp, by omega⟩
  case round =>
    obtain ⟨k, m, hk, rfl, rfl, hm, hmk⟩ := hrel
    have hls : s.data.toList.length = s.size := (Lib.size_eq s).symm
    by_cases hlt : k + 4 ≤ s.size
    · have he := ends_drop (l := s.data.toList) (k := k) (by omega)
      have ht := take4 s k
      have HM := Lib.hid hm
      have i1 : (0 : Int) ≤ k := by omega
      have i2 : (k : Int) ≤ (k : Int) + 4 := by omega
      have i3 : (k : Int) + 4 ≤ (s.size : Int) := by omega
      by_cases hq : (s.data.toList.drop k).take 4 = sigE
      · rw [if_pos hq] at he
        rw [hq] at ht
        have hqq : ((s.extract k (k + 4)).toList == [80, 75, 5, 6]) = true := by rw [ht]; rfl
        have HE := Lib.hid he
        clear hm he ht hq
        go_wp2_with fail
        exact ⟨⟨k + 1, m + 1, by omega, by rw [Int.natCast_add]; rfl, by rw [Int.natCast_add]; rfl, by have := HM.out; have := HE.out; omega, by omega⟩, by simp [intOf]; omega⟩
      · rw [if_neg hq] at he
        rw [← ht] at hq
        have hqq : ((s.extract k (k + 4)).toList == [80, 75, 5, 6]) = false := by
          rw [beq_eq_false_iff_ne]
          exact hq
        have HE := Lib.hid he
        clear hm he ht hq
        go_wp2_with fail
        exact ⟨⟨k + 1, m, by omega, by rw [Int.natCast_add]; rfl, rfl, by have := HM.out; have := HE.out; omega, by omega⟩, by simp [intOf]; omega⟩
    · have HM := Lib.hid hm
      clear hm
      go_wp2_with fail
      go_ret
      have h0 : ends (s.data.toList.drop k) = 0 := ends_short (by rw [List.length_drop]; omega)
      have h1 := HM.out
      rw [h0, Nat.add_zero] at h1
      exact ⟨by rw [← h1]; rfl, rfl⟩
end Go.Proofs.YtalgnjkdoaaacaaGreatDoor

/- spec.Within, spec.HeaderOk, spec.Simple. -/
namespace Go.Proofs.YtalgnjkdoaaacaaGreatDoor
open Go Go.RowKit
open Zp
set_option maxRecDepth 100000 in
set_option maxHeartbeats 4000000 in
theorem withinC (n a b : Int) (w : World) : Calls Tryz.prog 51 #[.int .i64 n, .int .i64 a, .int .i64 b] w fun e w' => e = .returned (.bool (decide (a ≤ n ∧ n ≤ b))) ∧ w' = w := by
  by_cases h1 : a ≤ n
  · by_cases h2 : n ≤ b
    · have hd : decide (a ≤ n ∧ n ≤ b) = true := decide_eq_true ⟨h1, h2⟩
      rw [hd]
      clear hd
      go_enter Tryz.func51, Tryz.ntmps51
      go_wp2_with fail
      go_ret
      exact ⟨rfl, rfl⟩
    · have hd : decide (a ≤ n ∧ n ≤ b) = false := decide_eq_false (fun h => h2 h.2)
      rw [hd]
      clear hd
      go_enter Tryz.func51, Tryz.ntmps51
      go_wp2_with fail
      go_ret
      exact ⟨by simp, rfl⟩
  · have hd : decide (a ≤ n ∧ n ≤ b) = false := decide_eq_false (fun h => h1 h.1)
    rw [hd]
    clear hd
    go_enter Tryz.func51, Tryz.ntmps51
    go_wp2_with fail
    go_ret
    exact ⟨rfl, rfl⟩
/-- A call answers whether P. -/
def BoolP (P : Prop) (w : World) (e : Ending) (w' : World) : Prop := ∃ b : Bool, e = .returned (.bool b) ∧ (b = true ↔ P) ∧ Fr [] w w'
set_option maxRecDepth 100000 in
set_option maxHeartbeats 8000000 in
theorem hokC (h : Hd) (hI : HdI h) (w : World) :
    Calls Tryz.prog 25 #[.agg #[.string (bs h.name), .string (bs h.comment), .string (bs h.extra), .bool h.non, .int .i64 h.creator, .int .i64 h.reader, .int .i64 h.flags, .int .i64 h.method, .int .i64 h.time, .int .i64 h.date, .int .i64 h.crc, .int .i64 h.packed, .int .i64 h.size, .int .i64 h.ext]] w (BoolP (HdOk h) w) := by
  obtain ⟨-, -, -, -, -, -, -, -, -, -, i11, i12, i13⟩ := hI
  go_enter Tryz.func25, Tryz.ntmps25
  go_wp2_with (first | (go_at_call 51; (with_reducible refine (withinC _ _ _ _).mono ?_); rintro e1 w1 ⟨rfl, rfl⟩) | fail)
  all_goals go_ret
  all_goals refine ⟨_, rfl, ?_, (Fr.refl _ _).alloc _⟩
  all_goals simp only [HdOk, In16, decide_eq_true_eq, Bool.false_eq_true]
  all_goals constructor
  all_goals intro hh
  all_goals first | exact hh.elim | omega | (exfalso; omega)
set_option maxRecDepth 100000 in
set_option maxHeartbeats 4000000 in
theorem simpleC (h : Hd) (hI : HdI h) (w : World) :
    Calls Tryz.prog 18 #[.agg #[.string (bs h.name), .string (bs h.comment), .string (bs h.extra), .bool h.non, .int .i64 h.creator, .int .i64 h.reader, .int .i64 h.flags, .int .i64 h.method, .int .i64 h.time, .int .i64 h.date, .int .i64 h.crc, .int .i64 h.packed, .int .i64 h.size, .int .i64 h.ext]] w fun e w' => e = .returned (.bool (decide ((h.flags.tdiv 8).tmod 2 = 0))) ∧ Fr [] w w' := by
  obtain ⟨-, -, ⟨h1, h2⟩, -, -, -, -, -, -, -, i11, i12, i13⟩ := hI
  go_enter Tryz.func18, Tryz.ntmps18
  go_wp2_with fail
  go_ret
  exact ⟨rfl, (Fr.refl _ _).alloc _⟩
end Go.Proofs.YtalgnjkdoaaacaaGreatDoor

/- spec.Good. -/
namespace Go.Proofs.YtalgnjkdoaaacaaGreatDoor
open Go Go.RowKit
open Zp
theorem take_all {α : Type} {l : List α} {k : Nat} {Q : α → Prop} (h : ∀ x ∈ l.take k, Q x) (hk : k < l.length) (hq : Q l[k]) : ∀ x ∈ l.take (k + 1), Q x := by
  intro x hx
  rw [List.take_add_one, List.getElem?_eq_getElem hk] at hx
  rcases List.mem_append.1 hx with hx | hx
  · exact h x hx
  · simp at hx
    rw [hx]; exact hq
theorem size_small {l : List Ent} (h : ∀ e ∈ l, HdOk e.h ∧ e.data.length ≤ 1048576) (hl : l.length ≤ 1000) : (filesI l).length ≤ 1300000000 ∧ (dirI 0 l).length ≤ 1300000000 := by
  have hm : ∀ e ∈ l, sizeE e ≤ 1228576 := fun e he => by
    obtain ⟨h1, h2⟩ := h e he
    obtain ⟨-, -, -, -, -, -, -, -, -, -, h3, h4, h5⟩ := h1
    unfold sizeE
    omega
  have h1 := filesI_le l _ hm
  have h2 := dirI_le l _ 0 hm
  constructor
  · refine Nat.le_trans h1 (Nat.le_trans (Nat.mul_le_mul_right _ hl) (by omega))
  · refine Nat.le_trans h2 (Nat.le_trans (Nat.mul_le_mul_right _ hl) (by omega))
set_option maxRecDepth 100000 in
set_option maxHeartbeats 8000000 in
theorem goodC (l : List Ent) (hI : ∀ e ∈ l, EntI e) (c : By) (hc : c.length ≤ 2147483647) (v : Value) (w : World) (hv : SV w v l) (h0 : 0 < w.heap.size) :
    Calls Tryz.prog 11 #[v, .string (bs c)] w (BoolP (GoodP l c) w) := by
  have HV := Lib.hid hv
  have HA := Lib.hid (fun (h1 : l.length ≤ 4000000000) (h2 : (filesI l).length ≤ 4000000000) (h3 : (dirI 0 l).length ≤ 4000000000) (w1 : World) (hf : Fr [] w w1) => archC l hI c v w1 (HV.out.fr hf (by simp)) (Nat.lt_of_lt_of_le h0 hf.size) h1 h2 h3 hc)
  obtain ⟨p, cap, rfl, hlc, hcm, hp⟩ := hv
  have HP := Lib.hid hp
  have HI := Lib.hid hI
  clear hp hI
  obtain ⟨n, hn⟩ : ∃ n, l.length = n := ⟨_, rfl⟩
  rw [hn] at hlc ⊢
  have hn47 : n ≤ 9223372036854775807 := by unfold maxLen at hcm; omega
  go_enter Tryz.func11, Tryz.ntmps11
  go_wp2_with fail
  go_loopw [9] (fun v9 wr => ∃ (k : Nat), k ≤ n ∧ v9 = .int .i64 (k : Int) ∧ (∀ e ∈ l.take k, HdOk e.h ∧ e.data.length ≤ 1048576) ∧ Fr [] w wr) (fun v9 _ => n - (intOf v9).toNat)
  case atStart => exact ⟨0, by omega, rfl, by simp, Fr.refl _ _⟩
  case round =>
    obtain ⟨k, hk, rfl, hall, hf⟩ := hrel
    by_cases hlt : k < n
    · have HALL := Lib.hid hall
      clear hall
      have hkl : k < l.length := by omega
      obtain ⟨g, o, rfl, hg, hle⟩ := HP.out (fun h => by rw [h] at hkl; simp at hkl)
      obtain ⟨e, he⟩ : ∃ e, l[k] = e := ⟨_, rfl⟩
      have hem : e ∈ l := by rw [← he]; exact List.getElem_mem hkl
      have hei := HI.out e hem
      have hrg := (hle.fr hf hg (by simp)) k e (by rw [← he]; exact List.getElem?_eq_getElem hkl)
      obtain ⟨c0, c1, c2, c3, c4, c5, c6, c7, c8, c9, c10, c11, c12, c13, c14⟩ := cellsE hrg
      have HEI := Lib.hid hei
      have HF := Lib.hid hf
      clear hf hei hle hrg
      have HB := Lib.hid (hokC e.h HEI.out.hd)
      have hdd := HEI.out.data
      go_wp2_with fail
      clear c0 c1 c2 c3 c4 c5 c6 c7 c8 c9 c10 c11 c12 c13 c14
      refine (HB.out _).mono ?_
      rintro e2 w2 ⟨b, rfl, hb, hf2⟩
      have d14 : w2.cell? ⟨wr.heap.size, 14, none⟩ = some (.string (bs e.data)) := (Blk.fr (Blk.new wr 38 (entL e).toArray) hf2 (by simp)).at_ 14 _ rfl
      have HF2 := Lib.hid (HF.out.trans (((Fr.refl [] wr).alloc _).trans hf2 (by simp)) (by simp))
      clear hf2
      by_cases hok : HdOk e.h
      · obtain rfl : b = true := hb.2 hok
        have HOK := Lib.hid hok
        clear hb hok
        by_cases hdl : e.data.length ≤ 1048576
        · have hdl' : ¬ 1048576 < (e.data.length : Int) := by omega
          go_wp2_with fail
          exact ⟨⟨k + 1, by omega, by rw [Int.natCast_add]; rfl, take_all HALL.out hkl (by rw [he]; exact ⟨HOK.out, hdl⟩), HF2.out⟩, by simp [intOf]; omega⟩
        · have hdl' : 1048576 < (e.data.length : Int) := by omega
          go_wp2_with fail
          go_ret
          exact ⟨false, rfl, ⟨fun h => (by cases h), fun h => absurd (h.1 e hem).2 hdl⟩, HF2.out⟩
      · obtain rfl : b = false := by
          cases b with
          | false => rfl
          | true => exact absurd (hb.1 rfl) hok
        have HOK := Lib.hid hok
        clear hb hok
        go_wp2_with fail
        go_ret
        exact ⟨false, rfl, ⟨fun h => (by cases h), fun h => absurd (h.1 e hem).1 HOK.out⟩, HF2.out⟩
    · obtain rfl : k = n := by omega
      rw [List.take_of_length_le (by omega)] at hall
      by_cases h1000 : l.length ≤ 1000
      · by_cases hcc : c.length ≤ 65535
        · obtain ⟨s1, s2⟩ := size_small hall h1000
          have HQ := Lib.hid (HA.out (by omega) (by omega) (by omega) wr hf)
          rw [hn] at HQ
          have hals : (archI l c).length ≤ 9000000000 := by
            rw [archI, List.length_append, List.length_append, endI_length]; omega
          have hai := archI_ok c (fun e he => (hall e he).1)
          rw [hai] at HQ hals
          have HALL := Lib.hid hall
          have HF := Lib.hid hf
          obtain ⟨X, hX⟩ : ∃ X, archB l c = X := ⟨_, rfl⟩
          have HX := Lib.hid hX
          rw [hX] at HQ hals
          have HE := Lib.hid (fun w1 => endsC (bs X) w1 (by show X.toArray.size ≤ _; simpa using hals))
          clear hall hf hai hX hals
          have i1 : (k : Int) ≤ 1000 := by omega
          have i2 : (c.length : Int) ≤ 65535 := by omega
          go_wp2_with fail
          refine HQ.out.mono ?_
          rintro e2 w2 ⟨rfl, hf2⟩
          have HF2 := Lib.hid (HF.out.trans hf2 (by simp))
          clear hf2
          go_wp2_with fail
          refine (HE.out w2).mono ?_
          rintro e3 w3 ⟨rfl, rfl⟩
          go_wp2_with fail
          go_ret
          refine ⟨_, rfl, ?_, HF2.out⟩
          show decide (((ends X : Nat) : Int) = 1) = true ↔ _
          rw [decide_eq_true_eq]
          constructor
          · intro h
            exact ⟨HALL.out, h1000, hcc, by rw [HX.out]; omega⟩
          · intro h
            have := h.2.2.2
            rw [HX.out] at this
            omega
        · have HF := Lib.hid hf
          have i1 : (k : Int) ≤ 1000 := by omega
          have i2 : ¬ (c.length : Int) ≤ 65535 := by omega
          clear hall hf
          go_wp2_with fail
          go_ret
          exact ⟨false, rfl, ⟨fun h => (by cases h), fun h => absurd h.2.2.1 hcc⟩, HF.out⟩
      · have HF := Lib.hid hf
        have i1 : ¬ (k : Int) ≤ 1000 := by omega
        clear hall hf
        go_wp2_with fail
        go_ret
        exact ⟨false, rfl, ⟨fun h => (by cases h), fun h => absurd h.2.1 h1000⟩, HF.out⟩
end Go.Proofs.YtalgnjkdoaaacaaGreatDoor

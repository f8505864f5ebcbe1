/- spec.Good. -/
import Derived.Test.YtcodhjoiikdhmaaGreatDoorQrh
import Derived.Test.YtcodhjoiikdhmaaGreatDoorQri
set_option linter.unusedVariables false
set_option linter.unusedSimpArgs false
namespace Go.Proofs.YtcodhjoiikdhmaaGreatDoor
open Go Go.RowKit
open Zp
theorem take_all {α : Type} {l : List α} {k : Nat} {Q : α → Prop} (h : ∀ x ∈ l.take k, Q x) (hk : k < l.length) (hq : Q l[k]) : ∀ x ∈ l.take (k + 1), Q x := by
  intro x hx
  rw [List.take_add_one, List.getElem?_eq_getElem hk] at hx
  rcases List.mem_append.1 hx with hx | hx
  · exact h x hx
  · simp at hx
    rw [hx]; exact hq
theorem size_small {l : List Ent} (h : ∀ e ∈ l, HdOk e.h ∧ e.data.length ≤ 1048576) (hl : l.length ≤ 1000) : (filesI l).length ≤ 1300000000 ∧ (dirI 0 l).length ≤ 1300000000 := by
  have hm : ∀ e ∈ l, sizeE e ≤ 1228576 := fun e he => by
    obtain ⟨h1, h2⟩ := h e he
    obtain ⟨-, -, -, -, -, -, -, -, -, -, h3, h4, h5⟩ := h1
    unfold sizeE
    omega
  have h1 := filesI_le l _ hm
  have h2 := dirI_le l _ 0 hm
  constructor
  · refine Nat.le_trans h1 (Nat.le_trans (Nat.mul_le_mul_right _ hl) (by omega))
  · refine Nat.le_trans h2 (Nat.le_trans (Nat.mul_le_mul_right _ hl) (by omega))
set_option maxRecDepth 100000 in
set_option maxHeartbeats 8000000 in
theorem goodC (l : List Ent) (hI : ∀ e ∈ l, EntI e) (c : By) (hc : c.length ≤ 2147483647) (v : Value) (w : World) (hv : SV w v l) (h0 : 0 < w.heap.size) :
    Calls Tryz.prog 17 #[v, .string (bs c)] w (BoolP (GoodP l c) w) := by
  have HV := Lib.hid hv
  have HA := Lib.hid (fun (h1 : l.length ≤ 4000000000) (h2 : (filesI l).length ≤ 4000000000) (h3 : (dirI 0 l).length ≤ 4000000000) (w1 : World) (hf : Fr [] w w1) => archC l hI c v w1 (HV.out.fr hf (by simp)) (Nat.lt_of_lt_of_le h0 hf.size) h1 h2 h3 hc)
  obtain ⟨p, cap, rfl, hlc, hcm, hp⟩ := hv
  have HP := Lib.hid hp
  have HI := Lib.hid hI
  clear hp hI
  obtain ⟨n, hn⟩ : ∃ n, l.length = n := ⟨_, rfl⟩
  rw [hn] at hlc ⊢
  have hn47 : n ≤ 9223372036854775807 := by unfold maxLen at hcm; omega
  go_enter Tryz.func17, Tryz.ntmps17
  go_wp2_with fail
  go_loopw [9] (fun v9 wr => ∃ (k : Nat), k ≤ n ∧ v9 = .int .i64 (k : Int) ∧ (∀ e ∈ l.take k, HdOk e.h ∧ e.data.length ≤ 1048576) ∧ Fr [] w wr) (fun v9 _ => n - (intOf v9).toNat)
  case atStart => exact ⟨0, by omega, rfl, by simp, Fr.refl _ _⟩
  case round =>
    obtain ⟨k, hk, rfl, hall, hf⟩ := hrel
    by_cases hlt : k < n
    · have HALL := Lib.hid hall
      clear hall
      have hkl : k < l.length := by omega
      obtain ⟨g, o, rfl, hg, hle⟩ := HP.out (fun h => by rw [h] at hkl; simp at hkl)
      obtain ⟨e, he⟩ : ∃ e, l[k] = e := ⟨_, rfl⟩
      have hem : e ∈ l := by rw [← he]; exact List.getElem_mem hkl
      have hei := HI.out e hem
      have hrg := (hle.fr hf hg (by simp)) k e (by rw [← he]; exact List.getElem?_eq_getElem hkl)
      obtain ⟨c0, c1, c2, c3, c4, c5, c6, c7, c8, c9, c10, c11, c12, c13, c14⟩ := cellsE hrg
      have HEI := Lib.hid hei
      have HF := Lib.hid hf
      clear hf hei hle hrg
      have HB := Lib.hid (hokC e.h HEI.out.hd)
      have hdd := HEI.out.data
      go_wp2_with fail
      clear c0 c1 c2 c3 c4 c5 c6 c7 c8 c9 c10 c11 c12 c13 c14
      refine (HB.out _).mono ?_
      rintro e2 w2 ⟨b, rfl, hb, hf2⟩
      have d14 : w2.cell? ⟨wr.heap.size, 14, none⟩ = some (.string (bs e.data)) := (Blk.fr (Blk.new wr 28 (entL e).toArray) hf2 (by simp)).at_ 14 _ rfl
      have HF2 := Lib.hid (HF.out.trans (((Fr.refl [] wr).alloc _).trans hf2 (by simp)) (by simp))
      clear hf2
      by_cases hok : HdOk e.h
      · obtain rfl : b = true := hb.2 hok
        have HOK := Lib.hid hok
        clear hb hok
        by_cases hdl : e.data.length ≤ 1048576
        · have hdl' : ¬ 1048576 < (e.data.length : Int) := by omega
          go_wp2_with fail
          exact ⟨⟨k + 1, by omega, by rw [Int.natCast_add]; rfl, take_all HALL.out hkl (by rw [he]; exact ⟨HOK.out, hdl⟩), HF2.out⟩, by simp [intOf]; omega⟩
        · have hdl' : 1048576 < (e.data.length : Int) := by omega
          go_wp2_with fail
          go_ret
          exact ⟨false, rfl, ⟨fun h => (by cases h), fun h => absurd (h.1 e hem).2 hdl⟩, HF2.out⟩
      · obtain rfl : b = false := by
          cases b with
          | false => rfl
          | true => exact absurd (hb.1 rfl) hok
        have HOK := Lib.hid hok
        clear hb hok
        go_wp2_with fail
        go_ret
        exact ⟨false, rfl, ⟨fun h => (by cases h), fun h => absurd (h.1 e hem).1 HOK.out⟩, HF2.out⟩
    · obtain rfl : k = n := by omega
      rw [List.take_of_length_le (by omega)] at hall
      by_cases h1000 : l.length ≤ 1000
      · by_cases hcc : c.length ≤ 65535
        · obtain ⟨s1, s2⟩ := size_small hall h1000
          have HQ := Lib.hid (HA.out (by omega) (by omega) (by omega) wr hf)
          rw [hn] at HQ
          have hals : (archI l c).length ≤ 9000000000 := by
            rw [archI, List.length_append, List.length_append, endI_length]; omega
          have hai := archI_ok c (fun e he => (hall e he).1)
          rw [hai] at HQ hals
          have HALL := Lib.hid hall
          have HF := Lib.hid hf
          obtain ⟨X, hX⟩ : ∃ X, archB l c = X := ⟨_, rfl⟩
          have HX := Lib.hid hX
          rw [hX] at HQ hals
          have HE := Lib.hid (fun w1 => endsC (bs X) w1 (by show X.toArray.size ≤ _; simpa using hals))
          clear hall hf hai hX hals
          have i1 : (k : Int) ≤ 1000 := by omega
          have i2 : (c.length : Int) ≤ 65535 := by omega
          go_wp2_with fail
          refine HQ.out.mono ?_
          rintro e2 w2 ⟨rfl, hf2⟩
          have HF2 := Lib.hid (HF.out.trans hf2 (by simp))
          clear hf2
          go_wp2_with fail
          refine (HE.out w2).mono ?_
          rintro e3 w3 ⟨rfl, rfl⟩
          go_wp2_with fail
          go_ret
          refine ⟨_, rfl, ?_, HF2.out⟩
          show decide (((ends X : Nat) : Int) = 1) = true ↔ _
          rw [decide_eq_true_eq]
          constructor
          · intro h
            exact ⟨HALL.out, h1000, hcc, by rw [HX.out]; omega⟩
          · intro h
            have := h.2.2.2
            rw [HX.out] at this
            omega
        · have HF := Lib.hid hf
          have i1 : (k : Int) ≤ 1000 := by omega
          have i2 : ¬ (c.length : Int) ≤ 65535 := by omega
          clear hall hf
          go_wp2_with fail
          go_ret
          exact ⟨false, rfl, ⟨fun h => (by cases h), fun h => absurd h.2.2.1 hcc⟩, HF.out⟩
      · have HF := Lib.hid hf
        have i1 : ¬ (k : Int) ≤ 1000 := by omega
        clear hall hf
        go_wp2_with fail
        go_ret
        exact ⟨false, rfl, ⟨fun h => (by cases h), fun h => absurd h.2.1 h1000⟩, HF.out⟩
end Go.Proofs.YtcodhjoiikdhmaaGreatDoor

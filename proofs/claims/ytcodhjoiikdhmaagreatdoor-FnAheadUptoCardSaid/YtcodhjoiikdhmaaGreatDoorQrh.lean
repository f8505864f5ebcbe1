/- spec.Archive; spec.Ends. -/
import Derived.Test.YtcodhjoiikdhmaaGreatDoorQrf
set_option linter.unusedVariables false
set_option linter.unusedSimpArgs false
namespace Go.Proofs.YtcodhjoiikdhmaaGreatDoor
open Go Go.RowKit
open Zp
set_option maxRecDepth 100000 in
set_option maxHeartbeats 8000000 in
theorem archC (l : List Ent) (hI : ∀ e ∈ l, EntI e) (c : By) (v : Value) (w : World) (hv : SV w v l) (h0 : 0 < w.heap.size) (hl4 : l.length ≤ 4000000000) (hL : (filesI l).length ≤ 4000000000) (hL2 : (dirI 0 l).length ≤ 4000000000) (hc : c.length ≤ 2147483647) :
    Calls Tryz.prog 21 #[v, .string (bs c)] w fun e w' => e = .returned (.string (bs (archI l c))) ∧ Fr [] w w' := by
  have HV := Lib.hid hv
  obtain ⟨p, cap, rfl, hlc, hcm, -⟩ := hv
  obtain ⟨n, hn⟩ : ∃ n, l.length = n := ⟨_, rfl⟩
  have HF := Lib.hid (filesC l hI _ w HV.out hL)
  have HD := Lib.hid (fun (w1 : World) (hf : Fr [] w w1) => dirC l hI _ w1 (HV.out.fr hf (by simp)) hL hL2)
  have HA := Lib.hid (show archI l c = filesI l ++ dirI 0 l ++ endI n (dirI 0 l).length (filesI l).length c by rw [archI, hn])
  obtain ⟨Ff, hFf⟩ : ∃ Ff, filesI l = Ff := ⟨_, rfl⟩
  obtain ⟨Dd, hDd⟩ : ∃ Dd, dirI 0 l = Dd := ⟨_, rfl⟩
  rw [hn] at hlc HF HD hl4 ⊢
  rw [hFf] at hL HF HA
  rw [hDd] at hL2 HD HA
  clear hI
  have HE := Lib.hid (fun (w1 : World) (h1 : 0 < w1.heap.size) => endC (n : Int) (Dd.length : Int) (Ff.length : Int) c ⟨by omega, by omega⟩ ⟨by omega, by omega⟩ ⟨by omega, by omega⟩ hc w1 h1)
  obtain ⟨Ee, hEe⟩ : ∃ Ee, endI (n : Int) (Dd.length : Int) (Ff.length : Int) c = Ee := ⟨_, rfl⟩
  have hel : Ee.length = 22 + c.length := by rw [← hEe, endI_length]
  rw [hEe] at HE HA
  clear hEe
  have q1 : ¬ 9223372036854775807 < Ff.length + Dd.length := by omega
  have q2 : ¬ 9223372036854775807 < Ff.length + Dd.length + Ee.length := by omega
  clear hel
  go_enter Tryz.func21, Tryz.ntmps21
  go_wp2_with fail
  refine HF.out.mono ?_
  rintro e w1 ⟨rfl, f1⟩
  have HD1 := Lib.hid (HD.out w1 f1)
  have F1 := Lib.hid f1
  clear f1
  go_wp2_with fail
  refine HD1.out.mono ?_
  rintro e w2 ⟨rfl, f2⟩
  have F2 := Lib.hid (F1.out.trans f2 (by simp))
  clear f2
  go_wp2_with fail
  refine (HE.out w2 (Nat.lt_of_lt_of_le h0 F2.out.size)).mono ?_
  rintro e w3 ⟨rfl, f3⟩
  have F3 := Lib.hid (F2.out.trans f3 (by simp))
  clear f3
  go_wp2_with fail
  go_ret
  refine ⟨?_, F3.out⟩
  rw [HA.out, ← bs_append, ← bs_append]
  rfl
theorem take4 (s : ByteArray) (k : Nat) : (s.extract k (k + 4)).toList = (s.data.toList.drop k).take 4 := by
  rw [ByteArray.toList_eq, ByteArray.data_extract, Array.toList_extract]
  simp [List.extract]
theorem ends_drop {l : By} {k : Nat} (h : k < l.length) : ends (l.drop k) = ends (l.drop (k + 1)) + if (l.drop k).take 4 = sigE then 1 else 0 := by
  rw [List.drop_eq_getElem_cons h]
  rfl
theorem ends_short : ∀ {l : By}, l.length < 4 → ends l = 0
  | [], _ => rfl
  | b :: l, h => by
    rw [ends, ends_short (by simp at h; omega), if_neg]
    intro he
    have := congrArg List.length he
    simp [sigE] at this h
    omega
set_option maxRecDepth 100000 in
set_option maxHeartbeats 4000000 in
theorem endsC (s : ByteArray) (w : World) (hs : s.size ≤ 9000000000) :
    Calls Tryz.prog 24 #[.string s] w fun e w' => e = .returned (.int .i64 (ends s.data.toList : Int)) ∧ w' = w := by
  go_enter Tryz.func24, Tryz.ntmps24
  go_wp2_with fail
  go_loop [3, 4] (fun v3 v4 => ∃ k m : Nat, k ≤ s.size ∧ v4 = .int .i64 (k : Int) ∧ v3 = .int .i64 (m : Int) ∧ m + ends (s.data.toList.drop k) = ends s.data.toList ∧ m ≤ k) (fun _ v4 => s.size - (intOf v4).toNat)
  case atStart => exact ⟨0, 0, by omega, rfl, rfl, by simp, by omega⟩
  case round =>
    obtain ⟨k, m, hk, rfl, rfl, hm, hmk⟩ := hrel
    have hls : s.data.toList.length = s.size := (Lib.size_eq s).symm
    by_cases hlt : k + 4 ≤ s.size
    · have he := ends_drop (l := s.data.toList) (k := k) (by omega)
      have ht := take4 s k
      have HM := Lib.hid hm
      have i1 : (0 : Int) ≤ k := by omega
      have i2 : (k : Int) ≤ (k : Int) + 4 := by omega
      have i3 : (k : Int) + 4 ≤ (s.size : Int) := by omega
      by_cases hq : (s.data.toList.drop k).take 4 = sigE
      · rw [if_pos hq] at he
        rw [hq] at ht
        have hqq : ((s.extract k (k + 4)).toList == [80, 75, 5, 6]) = true := by rw [ht]; rfl
        have HE := Lib.hid he
        clear hm he ht hq
        go_wp2_with fail
        exact ⟨⟨k + 1, m + 1, by omega, by rw [Int.natCast_add]; rfl, by rw [Int.natCast_add]; rfl, by have := HM.out; have := HE.out; omega, by omega⟩, by simp [intOf]; omega⟩
      · rw [if_neg hq] at he
        rw [← ht] at hq
        have hqq : ((s.extract k (k + 4)).toList == [80, 75, 5, 6]) = false := by
          rw [beq_eq_false_iff_ne]
          exact hq
        have HE := Lib.hid he
        clear hm he ht hq
        go_wp2_with fail
        exact ⟨⟨k + 1, m, by omega, by rw [Int.natCast_add]; rfl, rfl, by have := HM.out; have := HE.out; omega, by omega⟩, by simp [intOf]; omega⟩
    · have HM := Lib.hid hm
      clear hm
      go_wp2_with fail
      go_ret
      have h0 : ends (s.data.toList.drop k) = 0 := ends_short (by rw [List.length_drop]; omega)
      have h1 := HM.out
      rw [h0, Nat.add_zero] at h1
      exact ⟨by rw [← h1]; rfl, rfl⟩
end Go.Proofs.YtcodhjoiikdhmaaGreatDoor

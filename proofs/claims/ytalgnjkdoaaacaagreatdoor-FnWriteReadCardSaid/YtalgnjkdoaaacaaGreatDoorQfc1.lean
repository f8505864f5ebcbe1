/- spec.Scan: a round of the loop over the directory. -/
import Derived.Test.YtalgnjkdoaaacaaGreatDoorQfb4
import Derived.Test.YtalgnjkdoaaacaaGreatDoorQfb1
import Derived.Test.YtalgnjkdoaaacaaGreatDoorQes
import Derived.Test.YtalgnjkdoaaacaaGreatDoorQqf
set_option linter.unusedVariables false
set_option linter.unusedSimpArgs false
namespace Go.Proofs.YtalgnjkdoaaacaaGreatDoor
open Go Go.RowKit
open Zp
noncomputable def scnFrom (n : Nat) : Code := ((Tryz.f23.body.bind (sufHead n))).getD .skip
noncomputable def scnLoop (n : Nat) : Code := ((Tryz.f23.body.bind (loopAt n))).getD .skip
set_option maxRecDepth 100000 in
theorem frame122 {a : Act} (hs : a.tmps.size = 122) (hd : a.defers = []) : a = ⟨#[slotOf a 0, slotOf a 1, slotOf a 2, slotOf a 3, slotOf a 4, slotOf a 5, slotOf a 6, slotOf a 7, slotOf a 8, slotOf a 9, slotOf a 10, slotOf a 11, slotOf a 12, slotOf a 13, slotOf a 14, slotOf a 15, slotOf a 16, slotOf a 17, slotOf a 18, slotOf a 19, slotOf a 20, slotOf a 21, slotOf a 22, slotOf a 23, slotOf a 24, slotOf a 25, slotOf a 26, slotOf a 27, slotOf a 28, slotOf a 29, slotOf a 30, slotOf a 31, slotOf a 32, slotOf a 33, slotOf a 34, slotOf a 35, slotOf a 36, slotOf a 37, slotOf a 38, slotOf a 39, slotOf a 40, slotOf a 41, slotOf a 42, slotOf a 43, slotOf a 44, slotOf a 45, slotOf a 46, slotOf a 47, slotOf a 48, slotOf a 49, slotOf a 50, slotOf a 51, slotOf a 52, slotOf a 53, slotOf a 54, slotOf a 55, slotOf a 56, slotOf a 57, slotOf a 58, slotOf a 59, slotOf a 60, slotOf a 61, slotOf a 62, slotOf a 63, slotOf a 64, slotOf a 65, slotOf a 66, slotOf a 67, slotOf a 68, slotOf a 69, slotOf a 70, slotOf a 71, slotOf a 72, slotOf a 73, slotOf a 74, slotOf a 75, slotOf a 76, slotOf a 77, slotOf a 78, slotOf a 79, slotOf a 80, slotOf a 81, slotOf a 82, slotOf a 83, slotOf a 84, slotOf a 85, slotOf a 86, slotOf a 87, slotOf a 88, slotOf a 89, slotOf a 90, slotOf a 91, slotOf a 92, slotOf a 93, slotOf a 94, slotOf a 95, slotOf a 96, slotOf a 97, slotOf a 98, slotOf a 99, slotOf a 100, slotOf a 101, slotOf a 102, slotOf a 103, slotOf a 104, slotOf a 105, slotOf a 106, slotOf a 107, slotOf a 108, slotOf a 109, slotOf a 110, slotOf a 111, slotOf a 112, slotOf a 113, slotOf a 114, slotOf a 115, slotOf a 116, slotOf a 117, slotOf a 118, slotOf a 119, slotOf a 120, slotOf a 121], []⟩ := frame_of hs hd
/-- What Scan's frame holds while the directory is read. -/
structure FrS (s : By) (q : Nat) (a : Act) : Prop where
  size : a.tmps.size = 122
  defers : a.defers = []
  s0 : slotOf a 0 = .string (bs s)
  s6 : slotOf a 6 = .int .i64 (q : Int)
/-- What a round leaves. -/
def ScnR (w : World) (s : By) (q j p' k : Nat) (xs : List Value) (a' : Act) (w' : World) : Prop :=
  FrS s q a' ∧ ∃ v', slotOf a' 5 = v' ∧ slotOf a' 7 = .int .i64 (j : Int) ∧ slotOf a' 9 = .int .i64 (p' : Int) ∧ w'.ownsRow w.heap.size 50 16 v' (k + 1) xs ∧ Fr [] w w'
set_option maxRecDepth 100000 in
set_option maxHeartbeats 16000000 in
theorem scn10 (a : Act) (w wr : World) (s : By) (q j p p' k P m : Nat) (g : GEnt) (u5 : Value) (xs : List Value) (i0 : TypeInfo) (z0 : Value) (hA : FrS s q a) (h5 : slotOf a 5 = u5) (h7 : slotOf a 7 = .int .i64 ((j + 1 : Nat) : Int)) (h9 : slotOf a 9 = .int .i64 (p : Int))
    (hi : Tryz.prog.info? 50 = some i0 ∧ i0.zero = some z0 ∧ i0.size = 16 ∧ i0.bytes = 160 ∧ z0.cells.size = 16)
    (hns : (bs s).size = m) (hqm : q ≤ m) (hm4 : m ≤ 1400000000) (hj4 : j ≤ 1000) (hk4 : k ≤ 1000)
    (hcen : Calls Tryz.prog 48 #[.string ((bs s).extract 0 q), .int .i64 (p : Int)] wr fun e w' => e = .returned (.tuple #[recV g.h (P : Int) [], .int .i64 (p' : Int), .bool true]) ∧ Fr [] wr w')
    (hloc : ∀ w', Calls Tryz.prog 49 #[.string (bs s), recV g.h (P : Int) []] w' fun e w2 => e = .returned (.bool true) ∧ Fr [] w' w2)
    (hcon : ∀ w', Calls Tryz.prog 50 #[.string (bs s), recV g.h (P : Int) []] w' fun e w2 => e = .returned (.string (bs g.data)) ∧ Fr [] w' w2)
    (hown : wr.ownsRow w.heap.size 50 16 u5 k xs) (hf : Fr [] w wr) :
    (scnLoop 10).wp Tryz.prog (NQ (ScnR w s q j p' k (xs ++ recL g P))) a wr := by
  have HI0 := Lib.hid hi
  have HCEN := Lib.hid hcen
  have HLOC := Lib.hid hloc
  have HCON := Lib.hid hcon
  have HO := Lib.hid hown
  have HF0 := Lib.hid hf
  rw [frame122 hA.size hA.defers, hA.s0, hA.s6, h5, h7, h9]
  clear hA h5 h7 h9 hi hcen hloc hcon hown hf
  conv => arg 2; whnf
  have ij : (0 : Int) < ((j + 1 : Nat) : Int) := by omega
  have iq0 : (0 : Int) ≤ (q : Int) := by omega
  have iqm : (q : Int) ≤ (m : Int) := by omega
  go_wp2_with fail
  refine HCEN.out.mono ?_
  rintro e w2 ⟨rfl, hf2⟩
  have HF2 := Lib.hid (HF0.out.trans hf2 (by simp))
  have HO2 := Lib.hid (ownsE_fr HO.out hf2 (by simp))
  clear hf2
  go_wp2_with fail
  refine (HLOC.out _).mono ?_
  rintro e w3 ⟨rfl, hf3⟩
  have hb3 : Blk w3 w2.heap.size 50 (recD g.h P []) := (Blk.new w2 50 (recD g.h P [])).fr hf3 (by simp)
  have hf23 : Fr [] w2 w3 := ((Fr.refl [] w2).alloc _).trans hf3 (by simp)
  have HF3 := Lib.hid (HF2.out.trans hf23 (by simp))
  have HO3 := Lib.hid (ownsE_fr HO2.out hf23 (by simp))
  have HB3 := Lib.hid hb3
  obtain ⟨c0, c1, c2, c3, c4, c5, c6, c7, c8, c9, c10, c11, c12, c13, c14, c15, -, -⟩ := mkDr hb3 (Fr.refl [] w3)
  clear hb3 hf3 hf23
  go_wp2_with fail
  clear c0 c1 c2 c3 c4 c5 c6 c7 c8 c9 c10 c11 c12 c13 c14 c15
  refine (HCON.out _).mono ?_
  rintro e w4 ⟨rfl, hf4⟩
  have hb4 := HB3.out.fr hf4 (by simp)
  have hb5 : Blk _ w2.heap.size 50 (recD g.h P g.data) := hb4.set_ 15 (.string (bs g.data))
  have hF4 : Fr [] w w4 := HF3.out.trans hf4 (by simp)
  have hO4 := ownsE_fr HO3.out hf4 (by simp)
  have hne : ∀ x ∈ [w2.heap.size], Value.ownBlock u5 ≠ some x := fun x hx h => by
    have hx' : x = w2.heap.size := by simpa using hx
    subst hx'
    have := HO2.out.lt _ h
    omega
  have hO5 := rowB_fr hO4 ((Fr.refl [w2.heap.size] w4).setCell (p := ⟨w2.heap.size, 15, none⟩) (.inl (by simp)) (.string (bs g.data))) hne
  have hF5 := hF4.setCell (p := ⟨w2.heap.size, 15, none⟩) (.inr HF2.out.size) (.string (bs g.data))
  have d15 := hb4.at_ 15 (.string (bs [])) rfl
  have z15 := hb4.frozen 15
  obtain ⟨c0, c1, c2, c3, c4, c5, c6, c7, c8, c9, c10, c11, c12, c13, c14, c15, -, -⟩ := mkDr hb5 (Fr.refl [] _)
  obtain ⟨w5, hw5⟩ : ∃ w5, w4.setCell ⟨w2.heap.size, 15, none⟩ (.string (bs g.data)) = w5 := ⟨_, rfl⟩
  rw [hw5] at hO5 hF5 c0 c1 c2 c3 c4 c5 c6 c7 c8 c9 c10 c11 c12 c13 c14 c15
  have HO6 := Lib.hid (ownsE_fr hO5 ((Fr.refl [] w5).alloc (.cells (recL g P).toArray 50)) (by simp))
  have HF6 := Lib.hid (hF5.alloc (.cells (recL g P).toArray 50))
  have hbase : w.heap.size ≤ (w5.alloc (.cells (recL g P).toArray 50)).heap.size := HF6.out.size
  clear hb4 hb5 hf4 hF4 hO4 hne hO5 hF5
  go_upto_region 16 with fail
  try rw [hw5]
  clear hw5 d15 z15
  go_wp2_with (at_builtin; refine wpList_append_own _ rfl _ _ 46 rfl w.heap.size 50 i0 z0 16 160 Tryz.underlying46 HI0.out.1 HI0.out.2.1 HI0.out.2.2.1 HI0.out.2.2.2.1 HI0.out.2.2.2.2 (by decide) u5 k xs rfl HO6.out ⟨w5.heap.size, 0, none⟩ 1 1 (recL g P) rfl rfl (news_rec w5 g P) (ones_rec g P) (by unfold maxLen; omega) (by omega) hbase ?_; intro v' w6 hown6 hgrow6 hv6; have HO7 := Lib.hid hown6; have HG7 := Lib.hid hgrow6; clear hown6 hgrow6 hv6)
  have hlt2 := HO6.out.lt
  have hf7 : Fr u5.ownBlock.toList (w5.alloc (.cells (recL g P).toArray 50)) w6 := Fr.of_grown HG7.out (fun g hg => .inl (by rw [hg]; simp))
  have HF7 := Lib.hid (HF6.out.trans hf7 (fun g hg => .inr (hlt2 g (by simpa using hg)).1))
  have hwj : wrap64 ((j : Nat) : Int) = ((j : Nat) : Int) := IntWalk.wrap64_in _ (by omega)
  exact ⟨⟨rfl, rfl, rfl, rfl⟩, v', rfl, by first | rfl | (show Value.int _ _ = _; rw [hwj]), rfl, HO7.out, HF7.out⟩
end Go.Proofs.YtalgnjkdoaaacaaGreatDoor

/- spec.Scan. -/
namespace Go.Proofs.YtalgnjkdoaaacaaGreatDoor
open Go Go.RowKit
open Zp
/-- What stands at an archive's end. -/
structure ScanN (s : By) (q n D F : Nat) (c : By) : Prop where
  len : s.length = q + 22 + c.length
  oc : (s.drop q).take 4 = sigE
  n8 : num ((s.drop (q + 8)).take 2) = n
  n10 : num ((s.drop (q + 10)).take 2) = n
  n12 : num ((s.drop (q + 12)).take 4) = D
  n16 : num ((s.drop (q + 16)).take 4) = F
  n20 : num ((s.drop (q + 20)).take 2) = c.length
  tl : s.drop (q + 22) = c
theorem scanN {l : List GEnt} {c : By} (hall : ∀ e ∈ l, GOk e) (h1000 : l.length ≤ 1000) (hc : c.length ≤ 65535) : ScanN (garch l c) ((gfiles l).length + (gdir 0 l).length) l.length (gdir 0 l).length (gfiles l).length c := by
  obtain ⟨h1, h2⟩ := garch_size hall h1000 hc
  have D := drop_at (s := garch l c) (A := gfiles l ++ gdir 0 l) (X := endB l.length (gdir 0 l).length (gfiles l).length c ++ []) (by rw [List.append_nil]; rfl) (by rw [List.length_append])
  have D0 := D 0
  rw [Nat.add_zero] at D0
  refine ⟨by omega, by rw [D0]; exact eb0 _ _ _ _ [], by rw [D, eb8, num2 (by omega)], by rw [D, eb10, num2 (by omega)], by rw [D, eb12, num4 (by omega)], by rw [D, eb16, num4 (by omega)], by rw [D, eb20, num2 (by omega)], by rw [D, eb22, List.append_nil]⟩
/-- What Scan answers. -/
def ScanP (w : World) (l : List GEnt) (c : By) (x : Ending) (w' : World) : Prop := ∃ v, x = .returned (.tuple #[v, .string (bs c), .bool true]) ∧ RecRow w' w.heap.size v l ∧ Fr [] w w'
set_option maxRecDepth 100000 in
set_option maxHeartbeats 16000000 in
theorem scanS (l : List GEnt) (c : By) (w : World) (hall : ∀ e ∈ l, GOk e) (h1000 : l.length ≤ 1000) (hc : c.length ≤ 65535) (hlast : ∀ k, (gfiles l).length + (gdir 0 l).length < k → k ≤ (gfiles l).length + (gdir 0 l).length + c.length → ¬ occ (garch l c) k) :
    Calls Tryz.prog 23 #[.string (bs (garch l c))] w (ScanP w l c) := by
  obtain ⟨i0, hi0, hz0⟩ := Option.map_eq_some_iff.1 infoRec2
  simp only [Prod.mk.injEq] at hz0
  obtain ⟨hz1, hz2, hz3⟩ := hz0
  obtain ⟨z0, hz4, hz5⟩ := Option.map_eq_some_iff.1 hz1
  have HI0 := Lib.hid (And.intro hi0 (And.intro hz4 (And.intro hz2 (And.intro hz3 hz5))))
  clear hi0 hz1 hz2 hz3 hz4 hz5
  have hsz := garch_size hall h1000 hc
  have hsn := scanN hall h1000 hc
  have HALL := Lib.hid hall
  have hgat := fun (k : Nat) (g : GEnt) (hk : l[k]? = some g) => gat (Z := endB l.length (gdir 0 l).length (gfiles l).length c) hall h1000 hk
  have hgat0 := fun (k : Nat) (g : GEnt) (hk : l[k]? = some g) => gat (Z := []) hall h1000 hk
  rw [← garch_eq] at hgat
  have hpre : (garch l c).take ((gfiles l).length + (gdir 0 l).length) = gfiles l ++ (gdir 0 l ++ []) := by
    rw [garch, List.append_nil, List.take_left' (by rw [List.length_append])]
  have HPRE := Lib.hid hpre
  obtain ⟨s, hs⟩ : ∃ s, garch l c = s := ⟨_, rfl⟩
  rw [hs] at hsz hsn hlast hgat HPRE ⊢
  obtain ⟨F, hF⟩ : ∃ F, (gfiles l).length = F := ⟨_, rfl⟩
  obtain ⟨D, hD⟩ : ∃ D, (gdir 0 l).length = D := ⟨_, rfl⟩
  rw [hF, hD] at hsz hsn hlast HPRE
  obtain ⟨q, hq⟩ : ∃ q, F + D = q := ⟨_, rfl⟩
  rw [hq] at hsn hlast HPRE
  obtain ⟨n, hn⟩ : ∃ n, l.length = n := ⟨_, rfl⟩
  rw [hn] at hsn h1000
  obtain ⟨m, hm⟩ : ∃ m, s.length = m := ⟨_, rfl⟩
  have hns := bs_size s
  rw [hm] at hns hsz
  obtain ⟨cl, hcl⟩ : ∃ x, c.length = x := ⟨_, rfl⟩
  have hlen := hsn.len
  rw [hm, hcl] at hlen
  have HAT := Lib.hid (fun (j : Nat) (hj : q + j ≤ 5000000000) (w' : World) => atC s sigE (q + j) w' (by omega) (by decide) (.inl (by decide)) hj)
  rw [show bs sigE = ⟨#[80, 75, 5, 6]⟩ from rfl] at HAT
  have HN8 := Lib.hid (fun w' => numX s (q + 8) (q + 10) w' (by omega))
  have HN10 := Lib.hid (fun w' => numX s (q + 10) (q + 12) w' (by omega))
  have HN12 := Lib.hid (fun w' => numX s (q + 12) (q + 16) w' (by omega))
  have HN16 := Lib.hid (fun w' => numX s (q + 16) (q + 20) w' (by omega))
  have HN20 := Lib.hid (fun w' => numX s (q + 20) (q + 22) w' (by omega))
  rw [show q + 10 - (q + 8) = 2 by omega, hsn.n8] at HN8
  rw [show q + 12 - (q + 10) = 2 by omega, hsn.n10] at HN10
  rw [show q + 16 - (q + 12) = 4 by omega, hsn.n12] at HN12
  rw [show q + 20 - (q + 16) = 4 by omega, hsn.n16] at HN16
  rw [show q + 22 - (q + 20) = 2 by omega, hsn.n20, hcl] at HN20
  have HXT := Lib.hid (show (bs s).extract (q + 22) m = bs c from by rw [bs_extract, ← hm, ← List.length_drop, List.take_length, hsn.tl])
  have HX0 := Lib.hid (show (bs s).extract 0 q = bs (gfiles l ++ (gdir 0 l ++ [])) from by rw [bs_extract, List.drop_zero, Nat.sub_zero, HPRE.out])
  have HOC := Lib.hid hsn.oc
  have HLAST := Lib.hid hlast
  have HG := Lib.hid hgat
  have HG0 := Lib.hid hgat0
  have HNN := Lib.hid hn
  have HF := Lib.hid hF
  have HD := Lib.hid hD
  have HM := Lib.hid hm
  have h0 : (w.alloc (.cells #[] 50)).ownsRow w.heap.size 50 16 (.slice (some ⟨w.heap.size, 0, none⟩) 0 0) 0 [] :=
    ⟨rfl, .inr ⟨w.heap.size, 0, #[], rfl, Nat.le_refl _, Blk.new w _ _, Nat.le_refl _, by unfold maxLen; omega, rfl, rfl⟩⟩
  have H0 := Lib.hid h0
  have HLEN := Lib.hid hlen
  have e1 : (q : Int) + 22 + (cl : Int) = (m : Int) := by omega
  have e2 : (F : Int) + (D : Int) = (q : Int) := by omega
  have e3 : (q : Int) + 22 ≤ (m : Int) := by omega
  have e4 : (m : Int) ≤ 1400000000 := by omega
  have e5 : (m : Int) - 22 = ((q + cl : Nat) : Int) := by omega
  clear h0 hsn hlast hgat hgat0 hall hpre hs hn hF hD hm hsz hq hlen
  go_enter Tryz.func23, Tryz.ntmps23
  go_wp2_with fail
  obtain ⟨w1, hw1⟩ : ∃ w1, w.alloc (.cells #[] 50) = w1 := ⟨_, rfl⟩
  have HF1 := Lib.hid (show Fr [] w w1 from by rw [← hw1]; exact (Fr.refl _ _).alloc _)
  rw [hw1] at H0 ⊢
  clear hw1
  go_loopw [6] (fun v6 wr => ∃ j : Nat, j ≤ cl ∧ v6 = .int .i64 ((q + j : Nat) : Int) ∧ wr = w1) (fun v6 _ => (intOf v6).toNat - q)
  case atStart => exact ⟨cl, Nat.le_refl _, by first | rfl | (congr 1; omega), rfl⟩
  case round =>
    obtain ⟨j, hj, rfl, hw⟩ := hrel
    rw [hw]
    clear hw wr
    by_cases hj0 : j = 0
    case neg =>
      have HA := Lib.hid (HAT.out j (by omega))
      rw [show decide ((s.drop (q + j)).take sigE.length = sigE) = false from decide_eq_false (fun h => HLAST.out (q + j) (by omega) (by omega) h)] at HA
      obtain ⟨x, hx⟩ : ∃ x, q + j = x := ⟨_, rfl⟩
      rw [hx] at HA ⊢
      have ix : (0 : Int) ≤ (x : Int) := by omega
      go_wp2_with fail
      refine (HA.out _).mono ?_
      rintro e w2 ⟨rfl, hw2⟩
      rw [hw2]
      clear hw2 w2
      go_wp2_with fail
      exact ⟨⟨j - 1, by omega, by congr 1; omega, trivial⟩, by simp [intOf]; omega⟩
    subst hj0
    have HA := Lib.hid (HAT.out 0 (by omega))
    rw [Nat.add_zero] at HA ⊢
    rw [show decide ((s.drop q).take sigE.length = sigE) = true from decide_eq_true HOC.out] at HA
    have iq : (0 : Int) ≤ (q : Int) := by omega
    go_wp2_with fail
    refine (HA.out _).mono ?_
    rintro e w2 ⟨rfl, hw2⟩
    rw [hw2]
    clear hw2 w2
    go_wp2_with fail
    refine (HN20.out _).mono ?_
    rintro e w2 ⟨rfl, hw2⟩
    rw [hw2]
    clear hw2 w2
    go_wp2_with fail
    obtain ⟨a10, h10⟩ : ∃ x, q + 10 = x := ⟨_, rfl⟩
    obtain ⟨a12, h12⟩ : ∃ x, q + 12 = x := ⟨_, rfl⟩
    obtain ⟨a16, h16⟩ : ∃ x, q + 16 = x := ⟨_, rfl⟩
    obtain ⟨a20, h20⟩ : ∃ x, q + 20 = x := ⟨_, rfl⟩
    have HM10 := Lib.hid HN10.out
    have HM12 := Lib.hid HN12.out
    have HM16 := Lib.hid HN16.out
    rw [h10, h12] at HM10
    rw [h12, h16] at HM12
    rw [h16, h20] at HM16
    have w10 : IntKind.i64.wrap ((q : Int) + 10) = (a10 : Int) := by rw [IntWalk.i64_in _ (by omega)]; omega
    have w12 : IntKind.i64.wrap ((q : Int) + 12) = (a12 : Int) := by rw [IntWalk.i64_in _ (by omega)]; omega
    have w16 : IntKind.i64.wrap ((q : Int) + 16) = (a16 : Int) := by rw [IntWalk.i64_in _ (by omega)]; omega
    have w20 : IntKind.i64.wrap ((q : Int) + 20) = (a20 : Int) := by rw [IntWalk.i64_in _ (by omega)]; omega
    have q1 : (0 : Int) ≤ (a10 : Int) := by omega
    have q2 : (a10 : Int) ≤ (a12 : Int) := by omega
    have q3 : (a12 : Int) ≤ (m : Int) := by omega
    have q4 : (0 : Int) ≤ (a12 : Int) := by omega
    have q5 : (a12 : Int) ≤ (a16 : Int) := by omega
    have q6 : (a16 : Int) ≤ (m : Int) := by omega
    have q7 : (0 : Int) ≤ (a16 : Int) := by omega
    have q8 : (a16 : Int) ≤ (a20 : Int) := by omega
    have q9 : (a20 : Int) ≤ (m : Int) := by omega
    have r1 : a10 ≤ a12 := by omega
    have r2 : a12 ≤ m := by omega
    have r3 : a12 ≤ a16 := by omega
    have r4 : a16 ≤ m := by omega
    have r5 : a16 ≤ a20 := by omega
    have r6 : a20 ≤ m := by omega
    clear h10 h12 h16 h20
    rename_i K hK
    go_region_held3 (fun w' => w' = w1.drew) ((first | rfl | assumption))
      ((first | (go_at_call 47; (with_reducible first | refine (HM10.out _).mono ?_ | refine (HM12.out _).mono ?_ | refine (HM16.out _).mono ?_); rintro e w2 ⟨rfl, rfl⟩)))
    clear w10 w12 w16 w20 q1 q2 q3 q4 q5 q6 q7 q8 q9 r1 r2 r3 r4 r5 r6 HM10 HM12 HM16
    go_wp2_with fail
    refine (HN8.out _).mono ?_
    rintro e w2 ⟨rfl, hw2⟩
    rw [hw2]
    clear hw2 w2
    go_upto_block 2 with fail
    rename_i K2 hK2
    have HK := Lib.hid (fun a w (h : (scnFrom 18).wp Tryz.prog _ a w) => hK2 a w (wp_code (c := scnFrom 18) (by kernel_rfl) h))
    clear hK2
    refine wp_block ?_
    refine wp_code (c := Code.loop (scnLoop 10)) (by kernel_rfl) ?_
    refine wp_loop (fun a' w' => ∃ k v5, k ≤ n ∧ FrS s q a' ∧ slotOf a' 5 = v5 ∧ slotOf a' 7 = .int .i64 ((n - k : Nat) : Int) ∧ slotOf a' 9 = .int .i64 ((F + (gdir 0 (l.take k)).length : Nat) : Int) ∧ w'.ownsRow w.heap.size 50 16 v5 k (recsL 0 (l.take k)) ∧ Fr [] w w') (fun a' _ => (intOf (slotOf a' 7)).toNat)
      ⟨0, _, Nat.zero_le _, ⟨rfl, rfl, rfl, rfl⟩, rfl, rfl, by simp [gdir, slotOf], ownsE_fr H0.out ((Fr.refl [] w1).drew) (by simp), HF1.out.drew⟩ ?_
    rintro a wr ⟨k, v5, hk, hA, h5, h7, h9, hown, hf⟩
    by_cases hlt : k < n
    · have hkl : k < l.length := by rw [HNN.out]; exact hlt
      obtain ⟨g, hg⟩ : ∃ g, l[k] = g := ⟨_, rfl⟩
      have hgk : l[k]? = some g := by rw [List.getElem?_eq_getElem hkl, hg]
      have hgo : GOk g := HALL.out g (by rw [← hg]; exact List.getElem_mem hkl)
      obtain ⟨-, hcen, -, hsig⟩ := HG0.out k g hgk
      obtain ⟨-, -, hloc, -⟩ := HG.out k g hgk
      have hs4 : s.length ≤ 4000000000 := by rw [HM.out]; omega
      have hs5 : (gfiles l ++ (gdir 0 l ++ [])).length ≤ 4000000000 := by rw [← HPRE.out, List.length_take]; omega
      have HTK := Lib.hid (recsL_take hgk)
      have HDT : (gdir 0 (l.take (k + 1))).length = (gdir 0 (l.take k)).length + (centralB g.h (gfiles (l.take k)).length).length := by
        rw [List.take_add_one, hgk, Option.toList_some, gdir_append, List.length_append, Nat.zero_add]
        simp [gdir]
      rw [HF.out] at hcen hsig
      obtain ⟨P, hP⟩ : ∃ P, (gfiles (l.take k)).length = P := ⟨_, rfl⟩
      rw [hP] at hcen hloc HTK HDT
      obtain ⟨p, hp⟩ : ∃ p, F + (gdir 0 (l.take k)).length = p := ⟨_, rfl⟩
      rw [hp] at hcen hsig h9
      obtain ⟨p', hp'⟩ : ∃ p', p + (centralB g.h P).length = p' := ⟨_, rfl⟩
      have HPP := Lib.hid (show F + (gdir 0 (l.take (k + 1))).length = p' from by rw [HDT]; omega)
      have hcs := centralS _ p P g.h wr hcen hsig hgo.ok hs5
      rw [← HX0.out, hp'] at hcs
      obtain ⟨j, hj⟩ : ∃ j, n - k = j + 1 := ⟨n - k - 1, by omega⟩
      rw [hj] at h7
      refine wp_nq (scn10 a w wr s q j p p' k P m g v5 _ i0 z0 hA h5 h7 h9 HI0.out hns (by omega) (by omega) (by omega) (by omega) hcs (fun w' => localS s P g [] w' hloc hs4 hgo.ok hgo.pk) (fun w' => contentS s P g [] w' hloc hs4 hgo.pk) hown hf) ?_
      rintro a' w' ⟨hA', v', g5, g7, g9, hown', hf'⟩
      refine ⟨⟨k + 1, v', by omega, hA', g5, ?_, ?_, ?_, hf'⟩, ?_⟩
      · rw [g7]; first | rfl | (congr 1; omega) | (congr 2; omega)
      · rw [g9, HPP.out]
      · rw [HTK.out]; exact hown'
      · show (intOf (slotOf a' 7)).toNat < (intOf (slotOf a 7)).toNat
        rw [g7, h7]
        simp [intOf]
    · obtain rfl : k = n := by omega
      have htk : l.take k = l := List.take_of_length_le (by rw [HNN.out]; omega)
      rw [htk] at hown
      rw [htk, HD.out, show F + D = q by omega] at h9
      rw [Nat.sub_self] at h7
      have HRR := Lib.hid hown
      have HFR := Lib.hid hf
      obtain ⟨a22, h22⟩ : ∃ x, q + 22 = x := ⟨_, rfl⟩
      have w22 : IntKind.i64.wrap ((q : Int) + 22) = (a22 : Int) := by rw [IntWalk.i64_in _ (by omega)]; omega
      have t1 : (0 : Int) ≤ (a22 : Int) := by omega
      have t2 : (a22 : Int) ≤ (m : Int) := by omega
      have t3 : a22 ≤ m := by omega
      have i0' : ¬ (0 : Int) < ((0 : Nat) : Int) := by omega
      have HXT' := HXT.out
      rw [h22] at HXT'
      have HX3 := Lib.hid HXT'
      rw [frame122 hA.size hA.defers, hA.s0, hA.s6, h5, h7, h9]
      clear hown hf htk h22 HXT' hA h5 h7 h9
      conv => arg 2; whnf
      go_wp2_with fail
      refine HK.out _ _ ?_
      conv => arg 2; whnf
      apply wp_seq_k; intro K3 hK3
      go_quiet (fail)
      go_wp2_with fail
      go_ret3
      refine ⟨v5, by rw [← HX3.out]; rfl, ?_, HFR.out.drewN _⟩
      have := ownsE_fr HRR.out ((Fr.refl [] wr).drewN nq) (by simp)
      unfold RecRow
      rw [HNN.out]
      exact this
end Go.Proofs.YtalgnjkdoaaacaaGreatDoor

/- laws.writes. -/
namespace Go.Proofs.YtalgnjkdoaaacaaGreatDoor
open Go Go.RowKit
open Zp
theorem eABW : WOk eAB := ⟨by decide, by decide, by decide, by decide, by decide, fun h => absurd h (by decide)⟩
set_option maxRecDepth 100000 in
set_option maxHeartbeats 8000000 in
theorem writesC (w : World) (hU : UT w) (h18 : 14 ≤ w.heap.size) : Calls Tryz.prog 24 #[] w fun x w' => x = .returned (.bool true) ∧ Fr [] w w' := by
  have hB : (w.alloc (.cells (entL eAB).toArray 38)).rangeAt w.heap.size (0 + 0 * 15) (entL eAB) := fun j u hj => by
    have := (Blk.new w 38 (entL eAB).toArray).at_ j u (by simpa using hj)
    simpa using this
  have hsv : SV (w.alloc (.cells (entL eAB).toArray 38)) (.slice (some ⟨w.heap.size, 0, none⟩) 1 1) [eAB] := by
    refine ⟨_, 1, rfl, by simp, by unfold maxLen; omega, fun _ => ⟨w.heap.size, 0, rfl, by simp, ?_⟩⟩
    intro i e hi
    cases i with
    | zero => simp at hi; subst hi; exact hB
    | succ i => simp at hi
  have hf0 : Fr [] w (w.alloc (.cells (entL eAB).toArray 38)) := (Fr.refl _ _).alloc _
  have hK : ∀ e ∈ [eAB], WOk e := fun e he => by rw [List.mem_singleton.1 he]; exact eABW
  have HAS := Lib.hid (writeC _ [eAB] [] _ hsv (hU.fr hf0 (by simp) h18) (Nat.le_trans h18 hf0.size) (by simp) (by simp) hK)
  have HF0 := Lib.hid hf0
  have HK := Lib.hid hK
  clear hB hsv hf0 hK hU
  go_enter Tryz.func24, Tryz.ntmps24
  go_wp2_with fail
  refine HAS.out.mono ?_
  rintro x w1 ⟨fls, hfl, rfl, hf1⟩
  have HF1 := Lib.hid (HF0.out.trans hf1 (by simp))
  have hGok := wList_ok HK.out hfl
  have hGl := wList_length hfl
  have hgs := garch_size (c := []) hGok (by rw [hGl]; decide) (by decide)
  have HSC := Lib.hid (scanS (wList [eAB] fls) [] w1 hGok (by rw [hGl]; decide) (by decide) (fun k hk hk2 => absurd hk (by simp at hk2; omega)))
  have hne : garch (wList [eAB] fls) [] ≠ [] := fun h => by
    have := hgs.1
    rw [h] at this
    simp at this
  obtain ⟨S, hS⟩ : ∃ S, garch (wList [eAB] fls) [] = S := ⟨_, rfl⟩
  rw [hS] at HSC hne ⊢
  have hns := bs_size S
  clear hS hgs hGl hGok hf1 hfl
  go_wp2_with fail
  refine HSC.out.mono ?_
  rintro x w2 ⟨v, rfl, -, hf2⟩
  have HF2 := Lib.hid (HF1.out.trans hf2 (by simp))
  clear hf2
  have hnl : (S.isEmpty) = false := by cases S with | nil => exact absurd rfl hne | cons a l => rfl
  go_wp2_with fail
  go_ret
  exact ⟨rfl, HF2.out⟩
end Go.Proofs.YtalgnjkdoaaacaaGreatDoor

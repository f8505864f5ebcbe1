/- impl.Read where the text is no archive. -/
import Derived.Test.YtcodhjoiikdhmaaGreatDoorQqf
set_option linter.unusedVariables false
set_option linter.unusedSimpArgs false
namespace Go.Proofs.YtcodhjoiikdhmaaGreatDoor
open Go Go.RowKit
open Zp
/-- NewReader fails. -/
def NRbad (w : World) (e : Ending) (w' : World) : Prop := ∃ xe : Addr, e = .returned (.tuple #[.pointer none, errv xe]) ∧ Fr [] w w'
theorem readRes : (Tryz.prog.info? 45).map (fun i => i.size) = some 3 := by kernel_rfl
set_option maxRecDepth 100000 in
set_option maxHeartbeats 4000000 in
theorem readBadC (E : Errs) (B0 : Nat) (w : World) (s : ByteArray) (hW : WE E B0 w) (_hs : s.size ≤ 4000000000)
    (hNR : ∀ (w1 : World) (r : Nat), WE E B0 w1 → B0 ≤ r → StrR w1 r s → Calls Tryz.prog 40 #[strRd r, .int .i64 (s.size : Int)] w1 (NRbad w1)) :
    Calls Tryz.prog 28 #[.string s] w fun x w' => x = .returned (.agg #[.bool false, .string ⟨#[]⟩, .slice none 0 0]) ∧ Fr [] w w' := by
  have HW := Lib.hid hW
  have HN := Lib.hid hNR
  have HB0 := Lib.hid (Blk.new w 45 #[.bool false, .string ⟨#[]⟩, .slice none 0 0])
  have HF0 := Lib.hid ((Fr.refl [] w).alloc (.cells #[.bool false, .string ⟨#[]⟩, .slice none 0 0] 45))
  clear hW hNR
  go_enter Tryz.func28, Tryz.ntmps28
  go_wp2_with fail
  refine (newStr _ s).mono ?_
  rintro e w1 ⟨rfl, hr1, hf1⟩
  have HF1 := Lib.hid (HF0.out.trans hf1 (by simp))
  have HB1 := Lib.hid (HB0.out.fr hf1 (by simp))
  have hq := HN.out w1 _ (HW.out.fr HF1.out (by simp)) (Nat.le_trans HW.out.eb.le HF0.out.size) hr1
  rw [World.size_alloc] at hq
  have HQ := Lib.hid hq
  clear hr1 hf1 hq
  go_wp2_with fail
  refine HQ.out.mono ?_
  rintro e w2 ⟨xe, rfl, hf2⟩
  have HF2 := Lib.hid (HF1.out.trans hf2 (by simp))
  have hB2 := HB1.out.fr hf2 (by simp)
  have c0 := hB2.at_ 0 _ rfl
  have c1 := hB2.at_ 1 _ rfl
  have c2 := hB2.at_ 2 _ rfl
  have z0 := hB2.frozen 0
  have z1 := hB2.frozen 1
  have z2 := hB2.frozen 2
  have HB2 := Lib.hid hB2
  clear hf2 hB2
  go_wp2_with fail
  refine bodyPost_ret (v := .agg #[.bool false, .string ⟨#[]⟩, .slice none 0 0]) (results_cell_row rfl _ _ _ _ _ _ _ rfl (((HB2.out.set_ 0 (.bool false)).set_ 1 (.string ⟨#[]⟩)).set_ 2 (.slice none 0 0)) rfl rfl readRes) rfl ⟨rfl, ((HF2.out.setCell (.inr (Nat.le_refl _)) _).setCell (.inr (Nat.le_refl _)) _).setCell (.inr (Nat.le_refl _)) _⟩
theorem nrNoEnd (E : Errs) (B0 : Nat) (s : ByteArray) (hs : s.size ≤ 4000000000) (hno : NoEnd s.data.toList) (w1 : World) (r : Nat) (hW : WE E B0 w1) (_hr : B0 ≤ r) (hr : StrR w1 r s) : Calls Tryz.prog 40 #[strRd r, .int .i64 (s.size : Int)] w1 (NRbad w1) :=
  (nr_bad E B0 w1 r s hW.env hW.eb hr hs hno).mono fun _ _ h => ⟨_, h⟩
theorem nrMiss (E : Errs) (B0 : Nat) (s : ByteArray) (c : By) (many D F : Nat) (PS : List Nat) (B : Nat) (h : ArcT s c many D F PS B) (hm : PS.length ≠ many) (w1 : World) (r : Nat) (hW : WE E B0 w1) (hrr : B0 ≤ r) (hr : StrR w1 r s) :
    Calls Tryz.prog 40 #[strRd r, .int .i64 (s.size : Int)] w1 (NRbad w1) := by
  refine (nr_t E B0 w1 r s c many D F PS B hW h hrr hr).mono ?_
  rintro e w2 ⟨xe, U, d, q, gb, b, fs, pos', hxe, rfl, hI⟩
  rw [if_neg hm]
  exact ⟨xe, rfl, ((Fr.refl [] w1).alloc (.cells rd0 78)).trans hI.fr (by simp)⟩
theorem fieldOk (b : Bool) (x : ByteArray) (n m : Nat) (p : Option Addr) (w : World) : (Instr.field 45 (.agg #[.bool b, .string x, .slice p n m]) 0).run Tryz.prog w = .ok (.bool b) w := by kernel_rfl
theorem goodArc {l : List Ent} {c : By} (hg : GoodP l c) : (filesI l).length ≤ 1300000000 ∧ (dirI 0 l).length ≤ 1300000000 ∧ filesI l = filesB l ∧ dirI 0 l = dirB 0 l := by
  have hok : ∀ e ∈ l, HdOk e.h := fun e he => (hg.1 e he).1
  obtain ⟨s1, s2⟩ := size_small hg.1 hg.2.1
  exact ⟨s1, s2, filesI_ok hok, dirI_ok 0 hok⟩
set_option maxRecDepth 100000 in
set_option maxHeartbeats 4000000 in
theorem noEndLaw (E : Errs) (B0 : Nat) (w : World) (c : By) (hW : WE E B0 w) (hc : c.length ≤ 9223372036854775807) :
    Calls Tryz.prog 14 #[.string (bs c)] w fun x w' => x = .returned (.bool true) ∧ Fr [] w w' := by
  by_cases hcc : c.length ≤ 2147483647
  case neg =>
    have i1 : 2147483647 < (c.length : Int) := by omega
    go_enter Tryz.func14, Tryz.ntmps14
    go_wp2_with fail
    go_ret
    exact ⟨rfl, Fr.refl _ _⟩
  have i1 : ¬ 2147483647 < (c.length : Int) := by omega
  have hsz : (bs c).size ≤ 4000000000 := by rw [bs_size]; omega
  have HE := Lib.hid (endsC (bs c) w (by omega))
  have HW := Lib.hid hW
  clear hW
  go_enter Tryz.func14, Tryz.ntmps14
  go_wp2_with fail
  refine HE.out.mono ?_
  rintro x w1 ⟨rfl, rfl⟩
  by_cases h0 : ends c = 0
  · have HR := Lib.hid (readBadC E B0 w1 (bs c) HW.out hsz (nrNoEnd E B0 (bs c) hsz (noEnd_of (by rw [bs_list]; exact h0))))
    rw [h0]
    clear h0
    go_wp2_with fail
    refine HR.out.mono ?_
    rintro x w2 ⟨rfl, hf2⟩
    have hfo := fieldOk false ⟨#[]⟩ 0 0 none w2
    have HRD := Lib.hid (readsC E B0 w2 (HW.out.fr hf2 (by simp)))
    have HF2 := Lib.hid hf2
    clear hf2
    go_wp2_with fail
    refine HRD.out.mono ?_
    rintro x w3 ⟨rfl, hf3⟩
    go_wp2_with fail
    go_ret
    exact ⟨rfl, HF2.out.trans hf3 (by simp)⟩
  · have i2 : (0 : Int) < (ends c : Int) := by omega
    have HRD := Lib.hid (readsC E B0 w1 HW.out)
    have d2 : decide ((0 : Int) < (ends c : Int)) = true := decide_eq_true i2
    go_wp2_with fail
    refine HRD.out.mono ?_
    rintro x w3 ⟨rfl, hf3⟩
    go_wp2_with fail
    go_ret
    exact ⟨rfl, hf3⟩
end Go.Proofs.YtcodhjoiikdhmaaGreatDoor

/- spec.Turned. -/
namespace Go.Proofs.YtcodhjoiikdhmaaGreatDoor
open Go Go.RowKit
open Zp
theorem u8_of {n : Int} (h : 0 ≤ n ∧ n ≤ 255) : ∃ y : UInt8, n = (y.toNat : Int) := by
  refine ⟨UInt8.ofNat n.toNat, ?_⟩
  have h1 : n.toNat < 256 := by omega
  have h2 : (UInt8.ofNat n.toNat).toNat = n.toNat := by simp [Nat.mod_eq_of_lt h1]
  rw [h2]
  omega
set_option maxRecDepth 100000 in
set_option maxHeartbeats 4000000 in
theorem turnedC (A B : By) (x y : UInt8) (at_ : Nat) (hat : A.length = at_) (w : World) (hl : A.length + B.length ≤ 4000000000) :
    Calls Tryz.prog 22 #[.string (bs (A ++ x :: B)), .int .i64 (at_ : Int), .int .u8 (y.toNat : Int)] w fun e w' => e = .returned (.string (bs (A ++ (x ^^^ y) :: B))) ∧ Fr [] w w' := by
  have hsz : (bs (A ++ x :: B)).size = at_ + 1 + B.length := by rw [bs_size, List.length_append, List.length_cons]; omega
  have hx1 : (bs (A ++ x :: B)).extract 0 at_ = bs A := by
    apply ByteArray.ext
    subst hat
    simp [bs, ByteArray.data_extract]
  have hx2 : (bs (A ++ x :: B)).extract (at_ + 1) (at_ + 1 + B.length) = bs B := by
    apply ByteArray.ext
    subst hat
    simp [bs, ByteArray.data_extract]
  have hget0 : ∀ (T : ByteArray) (_ : T = bs (A ++ x :: B)) (h : at_ < T.size), T[at_] = x := by
    rintro T rfl h
    show (A ++ x :: B).toArray[at_] = x
    subst hat
    simp
  have hxor : bits BinOp.xor IntKind.u8 (x.toNat : Int) (y.toNat : Int) = (((x ^^^ y).toNat : Nat) : Int) := by
    rw [UInt8.toNat_xor]
    exact u8_xor_nat _ _ x.toNat_lt y.toNat_lt
  obtain ⟨S, hS⟩ : ∃ S, bs (A ++ x :: B) = S := ⟨_, rfl⟩
  rw [hS] at hsz hx1 hx2 ⊢
  have hget := hget0 S hS.symm
  clear hS hget0
  have i1 : (0 : Int) ≤ (at_ : Int) := by omega
  have i2 : (at_ : Int) ≤ (S.size : Int) := by omega
  have i3 : (at_ : Int) + 1 ≤ (S.size : Int) := by omega
  have i4 : at_ < S.size := by omega
  have i6 : (0 : Int) ≤ (at_ : Int) + 1 := by omega
  have i5 : IntKind.i64.wrap ((at_ : Int) + 1) = (at_ : Int) + 1 := IntWalk.i64_in _ (by omega)
  rw [← hsz] at hx2
  clear hsz
  have hcv : (convert 66 9 (.slice (some ⟨w.heap.size, 0, none⟩) 1 1)).run Tryz.prog (w.alloc (.cells #[.int .u8 ((x.toNat ^^^ y.toNat : Nat) : Int)] 5)).drew = .ok (.string (bs [x ^^^ y])) (w.alloc (.cells #[.int .u8 ((x.toNat ^^^ y.toNat : Nat) : Int)] 5)).drew :=
    conv_b _ _ w.heap.size 0 1 1 [x ^^^ y] rfl (fun _ => rfl) (Rd.of_blk (Blk.drew (Blk.new w _ _)) (fun i b hi => by
      cases i with
      | zero => simp at hi; subst hi; rw [UInt8.toNat_xor]; rfl
      | succ i => simp at hi))
  have q1 : ¬ 9223372036854775807 < A.length + 1 := by omega
  have q2 : ¬ 9223372036854775807 < A.length + 1 + B.length := by omega
  go_enter Tryz.func22, Tryz.ntmps22
  go_wp2_with fail
  go_region
  have HF := Lib.hid (((Fr.refl [] w).alloc (.cells #[.int .u8 ((x.toNat ^^^ y.toNat : Nat) : Int)] 5)).drew)
  go_wp2_with fail
  go_ret
  refine ⟨?_, HF.out⟩
  show Ending.returned (.string (bs A ++ bs [x ^^^ y] ++ bs B)) = _
  rw [bs_append, bs_append, List.append_assoc]
  rfl
end Go.Proofs.YtcodhjoiikdhmaaGreatDoor

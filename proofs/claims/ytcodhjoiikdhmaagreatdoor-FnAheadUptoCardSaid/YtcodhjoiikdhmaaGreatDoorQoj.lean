/- checksumReader.Read. -/
import Derived.Test.YtcodhjoiikdhmaaGreatDoorQoi
set_option linter.unusedVariables false
set_option linter.unusedSimpArgs false
namespace Go.Proofs.YtcodhjoiikdhmaaGreatDoor
open Go Go.RowKit
open Zp
/-- The blocks of an open file: nr bytes are read, c is their checksum. -/
structure CK (w : World) (k h b r f q off lim pk nr c : Nat) (s : ByteArray) (sz crc : Nat) : Prop where
  k_ : Blk w k 112 #[nopV b, .pointer (some ⟨h, 0, none⟩), .int .u64 (nr : Int), .pointer (some ⟨f, 0, none⟩), .nilIface, .nilIface]
  h_ : Blk w h 110 #[.int .u32 (c : Int)]
  b_ : Blk w b 128 #[strRd r, .int .i64 (q : Int), .int .i64 (off : Int), .int .i64 (lim : Int), .int .i64 (pk : Int)]
  r_ : StrR w r s
  c12 : w.cell? ⟨f, 12, none⟩ = some (.int .u32 (crc : Int))
  c16 : w.cell? ⟨f, 16, none⟩ = some (.int .u64 (sz : Int))
  lf : f < w.heap.size
set_option maxRecDepth 100000 in
set_option maxHeartbeats 4000000 in
theorem ck_data (w : World) (k h b r f q off lim pk nr c g n cp kk : Nat) (s : ByteArray) (sz crc : Nat) (cur : Array Value) (t : TypeId) (hK : CK w k h b r f q off lim pk nr c s sz crc) (hg : Blk w g t cur) (hn : 0 < n) (hnc : n ≤ cp) (hcp : cp ≤ 4000000000) (hfit : n ≤ cur.size) (hol : off < lim) (hl : lim ≤ s.size) (hs : s.size ≤ 4000000000) (hkk : kk = min n (lim - off))
    (hne : g ≠ k ∧ g ≠ h ∧ g ≠ b ∧ g ≠ f ∧ g ≠ r ∧ k ≠ h ∧ k ≠ b ∧ k ≠ f ∧ k ≠ r ∧ h ≠ b ∧ h ≠ f ∧ h ≠ r ∧ b ≠ f ∧ b ≠ r) (hc : c < 4294967296) (hnr : nr + kk ≤ sz) (hsz : sz ≤ 4294967295) (l : By) (hl0 : (s.data.toList.drop off).take kk = l) :
    Calls Tryz.prog 144 #[.pointer (some ⟨k, 0, none⟩), .slice (some ⟨g, 0, none⟩) n cp] w fun e w' => e = .returned (.tuple #[.int .i64 (kk : Int), .nilIface]) ∧ CK w' k h b r f q (off + kk) lim pk (nr + kk) (crcOf c l) s sz crc ∧ Blk w' g t (spl cur 0 l) ∧ Fr [k, h, b, g] w w' := by
  have k0 := hK.k_.at_ 0 (nopV b) rfl
  have k5 := hK.k_.at_ 5 .nilIface rfl
  have hR := (secRead_data b r g 0 n cp q off lim pk kk s cur t w hK.b_ (hK.r_.at_ 0 _ rfl) hg hn hnc (by omega) hol hl hs (Ne.symm hne.2.2.1) hkk)
  rw [hl0] at hR
  have HR := Lib.hid hR
  clear hR
  have HK := Lib.hid hK
  have HG := Lib.hid hg
  have HN := Lib.hid hne
  have hk1 : kk ≤ n := by omega
  have hk2 : off + kk ≤ lim := by omega
  have hk3 : 0 < kk := by omega
  clear hK hg hne hkk
  go_enter Tryz.func144, Tryz.ntmps144
  go_wp2_with fail
  refine HR.out.mono ?_
  rintro e w1 ⟨rfl, m1, hw1⟩
  have hll : l.length = kk := by rw [← hl0, List.length_take, List.length_drop, ← Lib.size_eq]; omega
  obtain ⟨n1, n2, n3, n4, n5, n6, n7, n8, n9, n10, n11, n12, n13, n14⟩ := HN.out
  have hF1 : Fr [g, b] w w1 := by rw [hw1]; exact (((Fr.refl _ w).setRow (.inl (by simp)) _).setCell (.inl (by simp)) _).drewN _
  have hg1 : Blk w1 g t (spl cur 0 l) := by rw [hw1]; exact ((HG.out.row _).far n3 _).drewN _
  have hb1 : Blk w1 b 128 #[strRd r, .int .i64 (q : Int), .int .i64 ((off + kk : Nat) : Int), .int .i64 (lim : Int), .int .i64 (pk : Int)] := by rw [hw1]; exact ((HK.out.b_.rowFar n3.symm _).set_ 2 _).drewN _
  have hk1 := HK.out.k_.fr hF1 (by simp [n1.symm, n7])
  have hh1 := HK.out.h_.fr hF1 (by simp [n2.symm, n10])
  have hr1 : StrR w1 r s := Blk.fr HK.out.r_ hF1 (by simp [n5.symm, n14.symm])
  have k1 := hk1.at_ 1 _ rfl
  have k1' : w1.drew.cell? ⟨k, 1, none⟩ = some (.pointer (some ⟨h, 0, none⟩)) := k1
  have HQ := Lib.hid (hashWrite h c 110 g 0 kk cp l w1.drew hh1.drew ((Rd.spl hg1 (by omega)).drew) hll (by omega) hcp hc hg1.lt hh1.lt)
  have hkc : (kk : Int) ≤ (cp : Int) := by omega
  have hk0 : (0 : Int) ≤ (kk : Int) := by omega
  have lk := hk1.lt
  have KS := Lib.hid (show ∀ w2, Fr [h] w1.drew w2 → w2.cell? ⟨k, 1, none⟩ = some (.pointer (some ⟨h, 0, none⟩)) from fun w2 hf => (hf.cell (p := ⟨k, 1, none⟩) lk (by simpa using n6)).trans k1')
  have HW := Lib.hid hw1
  have HF1 := Lib.hid hF1
  have HG1 := Lib.hid hg1
  have HB1 := Lib.hid hb1
  have HK1 := Lib.hid hk1
  have HH1 := Lib.hid hh1
  have HR1 := Lib.hid hr1
  clear hw1 hF1 hg1 hb1 hk1 hh1 hr1 n1 n2 n3 n4 n5 n6 n7 n8 n9 n10 n11 n12 n13 n14 k0 k5
  go_wp2_with fail
  rename_i K hK
  go_region_held3 (fun w' => w'.cell? ⟨k, 1, none⟩ = some (.pointer (some ⟨h, 0, none⟩)))
    ((first | exact k1 | assumption))
    ((first | (go_at_call 145; (with_reducible refine HQ.out.mono ?_); rintro e w2 ⟨rfl, hb2, hf2⟩; have k1b := KS.out _ hf2)))
  refine hK _ _ ?_
  obtain ⟨n1, n2, n3, n4, n5, n6, n7, n8, n9, n10, n11, n12, n13, n14⟩ := HN.out
  have hf2' : Fr [h] w1 w2 := ((Fr.refl [h] w1).drew).trans hf2 (by simp)
  have hF1' : Fr [g, b, h] w w1 := HF1.out.mono (by simp)
  have hF2 : Fr [g, b, h] w w2 := hF1'.trans hf2' (by simp)
  have hk2 : Blk w2 k _ _ := HK1.out.fr hf2' (by simpa using n6)
  have hg2 : Blk w2 g _ _ := HG1.out.fr hf2' (by simpa using n2)
  have hb2' : Blk w2 b _ _ := HB1.out.fr hf2' (by simpa using n10.symm)
  have hr2 : StrR w2 r s := Blk.fr HR1.out hf2' (by simpa using n12.symm)
  have d12 := (hF2.cell (p := ⟨f, 12, none⟩) HK.out.lf (by simp [n4.symm, n13.symm, n11.symm])).trans HK.out.c12
  have d16 := (hF2.cell (p := ⟨f, 16, none⟩) HK.out.lf (by simp [n4.symm, n13.symm, n11.symm])).trans HK.out.c16
  have e2 := hk2.at_ 2 (.int .u64 (nr : Int)) rfl
  have fz := hk2.frozen 2
  have hk3' := hk2.set_ 2 (.int .u64 ((nr + kk : Nat) : Int))
  have g2 := hk3'.at_ 2 (.int .u64 ((nr + kk : Nat) : Int)) rfl
  have g3 := hk3'.at_ 3 (.pointer (some ⟨f, 0, none⟩)) rfl
  have g16 := (World.cell?_setCell_other w2 ⟨k, 2, none⟩ ⟨f, 16, none⟩ (.int .u64 ((nr + kk : Nat) : Int)) (by intro e; injection e with e; exact n8 e)).trans d16
  have HF2 := Lib.hid hF2
  have HK2 := Lib.hid hk3'
  have HG2 := Lib.hid hg2
  have HB2 := Lib.hid hb2'
  have HH2 := Lib.hid hb2
  have HR2 := Lib.hid hr2
  have HD12 := Lib.hid d12
  have HD16 := Lib.hid d16
  have hle : (nr : Int) + (kk : Int) ≤ (sz : Int) := by omega
  have hszi : (sz : Int) ≤ 4294967295 := by omega
  clear hf2' hF1' hF2 hk2 hg2 hb2' hr2 d12 d16 hk3' hb2 hf2 k1b n1 n2 n3 n4 n5 n6 n7 n8 n9 n10 n11 n12 n13 n14 HQ KS k1 k1' hK
  go_upto_region 6 with fail
  try rw [show (nr : Int) + (kk : Int) = ((nr + kk : Nat) : Int) from (Int.natCast_add _ _).symm]
  have HF3 := Lib.hid (show Fr [k, h, b, g] w (w2.setCell ⟨k, 2, none⟩ (.int .u64 ((nr + kk : Nat) : Int))) from (HF2.out.mono (by simp)).setCell (.inl (by simp)) _)
  have HG3 := Lib.hid (HG2.out.far (p := ⟨k, 2, none⟩) HN.out.1 (.int .u64 ((nr + kk : Nat) : Int)))
  have HB3 := Lib.hid (HB2.out.far (p := ⟨k, 2, none⟩) HN.out.2.2.2.2.2.2.1.symm (.int .u64 ((nr + kk : Nat) : Int)))
  have HH3 := Lib.hid (HH2.out.far (p := ⟨k, 2, none⟩) HN.out.2.2.2.2.2.1.symm (.int .u64 ((nr + kk : Nat) : Int)))
  have HR3 := Lib.hid (Blk.far HR2.out (p := ⟨k, 2, none⟩) HN.out.2.2.2.2.2.2.2.2.1.symm (.int .u64 ((nr + kk : Nat) : Int)))
  have g12 := Lib.hid ((World.cell?_setCell_other w2 ⟨k, 2, none⟩ ⟨f, 12, none⟩ (.int .u64 ((nr + kk : Nat) : Int)) (by intro e; injection e with e; exact HN.out.2.2.2.2.2.2.2.1 e)).trans HD12.out)
  have HG16 := Lib.hid g16
  clear e2 fz HG2 HB2 HH2 HR2 HD12 HD16 HF2
  generalize w2.setCell ⟨k, 2, none⟩ (.int .u64 ((nr + kk : Nat) : Int)) = w3 at *
  have hng : ¬ ((sz : Int) < ((nr + kk : Nat) : Int)) := by omega
  obtain ⟨N, hN⟩ : ∃ N : Nat, nr + kk = N := ⟨_, rfl⟩
  rw [hN] at hng g2 HK2 ⊢
  go_quiet (fail)
  clear g2 g3 g16
  go_wp2_with fail
  go_ret2
  refine ⟨rfl, ⟨HK2.out.drewN _, HH3.out.drewN _, HB3.out.drewN _, HR3.out.drewN _, g12.out, HG16.out, ?_⟩, HG3.out.drewN _, HF3.out.drewN _⟩
  exact Nat.lt_of_lt_of_le HK.out.lf (HF3.out.drewN _).size
end Go.Proofs.YtcodhjoiikdhmaaGreatDoor

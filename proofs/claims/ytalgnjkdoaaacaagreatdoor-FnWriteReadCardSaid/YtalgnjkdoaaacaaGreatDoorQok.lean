/- checksumReader.Read at the end. -/
import Derived.Test.YtalgnjkdoaaacaaGreatDoorQoi
set_option linter.unusedVariables false
set_option linter.unusedSimpArgs false
namespace Go.Proofs.YtalgnjkdoaaacaaGreatDoor
open Go Go.RowKit
open Zp
/-- The error at a file's end. -/
def endErr (E : Errs) (nr sz c crc : Nat) : Addr := if nr ≠ sz then E.unx else if crc ≠ 0 ∧ c ≠ crc then E.chk else E.eof
set_option maxRecDepth 100000 in
set_option maxHeartbeats 4000000 in
theorem ck_end (E : Errs) (B0 : Nat) (w : World) (k h b r f q off lim pk nr c g n cp : Nat) (s : ByteArray) (sz crc : Nat) (hE : Env E w) (hEB : EB E B0 w) (hB : B0 ≤ k ∧ B0 ≤ h) (hK : CK w k h b r f q off lim pk nr c s sz crc) (cur : Array Value) (t : TypeId) (hg : Blk w g t cur) (hcp : cp ≤ 4000000000) (hol : lim ≤ off)
    (hne : g ≠ k ∧ g ≠ h ∧ k ≠ h ∧ k ≠ f ∧ h ≠ f) (hc : c < 4294967296) (hnr : nr ≤ sz) (hsz : sz ≤ 4294967295) (hcrc : crc < 4294967296) :
    Calls Tryz.prog 215 #[.pointer (some ⟨k, 0, none⟩), .slice (some ⟨g, 0, none⟩) n cp] w fun e w' => e = .returned (.tuple #[.int .i64 0, errv (endErr E nr sz c crc)]) ∧ Fr [k, h] w w' := by
  have k0 := hK.k_.at_ 0 (nopV b) rfl
  have k5 := hK.k_.at_ 5 .nilIface rfl
  have HR := Lib.hid (secRead_end E b (.slice (some ⟨g, 0, none⟩) n cp) (strRd r) q off lim pk w hE hK.b_ hol)
  have HE := Lib.hid hE
  have HEB := Lib.hid hEB
  have HK := Lib.hid hK
  have HN := Lib.hid hne
  have k1 := hK.k_.at_ 1 (.pointer (some ⟨h, 0, none⟩)) rfl
  have lk := hK.k_.lt
  have lh := hK.h_.lt
  have hQ : ∀ m, Calls Tryz.prog 204 #[.pointer (some ⟨h, 0, none⟩), .slice (some ⟨g, 0, none⟩) 0 cp] ((w.drewN m).drew) _ := fun m => hashWrite h c 159 g 0 0 cp [] ((w.drewN m).drew) ((hK.h_.drewN m).drew) (Rd.nil_ _ _ _) rfl (Nat.zero_le _) hcp hc hg.lt lh
  have HQ := Lib.hid hQ
  clear hK hg hne hQ hE hEB
  go_enter Tryz.func215, Tryz.ntmps215
  go_wp2_with fail
  refine HR.out.mono ?_
  rintro e w1 ⟨rfl, m1, hw1⟩
  have k1a : w1.cell? ⟨k, 1, none⟩ = some (.pointer (some ⟨h, 0, none⟩)) := by rw [hw1]; exact k1
  have hcp0 : (0 : Int) ≤ (cp : Int) := by omega
  have KS := Lib.hid (show ∀ w2, Fr [h] w1.drew w2 → w2.cell? ⟨k, 1, none⟩ = some (.pointer (some ⟨h, 0, none⟩)) from fun w2 hf => (hf.cell (p := ⟨k, 1, none⟩) (by rw [hw1]; exact lk) (by simpa using HN.out.2.2.1)).trans k1a)
  have HQ1 := Lib.hid (HQ.out m1)
  rw [← hw1] at HQ1
  have HW := Lib.hid hw1
  clear k0 k5 HQ hw1 k1
  go_wp2_with fail
  rename_i K hK
  go_region_held3 (fun w' => w'.cell? ⟨k, 1, none⟩ = some (.pointer (some ⟨h, 0, none⟩)))
    ((first | exact k1a | assumption))
    ((first | (go_at_call 204; (with_reducible refine HQ1.out.mono ?_); rintro e w2 ⟨rfl, hb2, hf2⟩; have k1b := KS.out _ hf2)))
  refine hK _ _ ?_
  obtain ⟨n1, n2, n3, n4, n5⟩ := HN.out
  have hfw : Fr [h] w w2 := by
    have h1 : Fr [h] w w1.drew := by rw [HW.out]; exact ((Fr.refl [h] w).drewN _).drew
    exact h1.trans hf2 (by simp)
  have hk2 : Blk w2 k _ _ := HK.out.k_.fr hfw (by simpa using n3)
  rw [crcOf_nil] at hb2
  have d12 := (hfw.cell (p := ⟨f, 12, none⟩) HK.out.lf (by simpa using n5.symm)).trans HK.out.c12
  have d16 := (hfw.cell (p := ⟨f, 16, none⟩) HK.out.lf (by simpa using n5.symm)).trans HK.out.c16
  have e2 := hk2.at_ 2 (.int .u64 (nr : Int)) rfl
  have fz := hk2.frozen 2
  have hk3 := hk2.set_ 2 (.int .u64 (nr : Int))
  have hh3 := hb2.far (p := ⟨k, 2, none⟩) n3.symm (.int .u64 (nr : Int))
  have g12 := (World.cell?_setCell_other w2 ⟨k, 2, none⟩ ⟨f, 12, none⟩ (.int .u64 (nr : Int)) (by intro e; injection e with e; exact n4 e)).trans d12
  have g16 := (World.cell?_setCell_other w2 ⟨k, 2, none⟩ ⟨f, 16, none⟩ (.int .u64 (nr : Int)) (by intro e; injection e with e; exact n4 e)).trans d16
  have hf3 : Fr [k, h] w (w2.setCell ⟨k, 2, none⟩ (.int .u64 (nr : Int))) := (hfw.mono (by simp)).setCell (.inl (by simp)) _
  have HK3 := Lib.hid hk3
  have HH3 := Lib.hid hh3
  have G12 := Lib.hid g12
  have G16 := Lib.hid g16
  have HF3 := Lib.hid hf3
  have hnri : (nr : Int) ≤ 4294967295 := by omega
  clear hk3 hh3 g12 g16 hf3 d12 d16 hk2 hb2 hf2 hfw k1b k1a n1 n2 n3 n4 n5 KS HQ1
  go_upto_region 6 with fail
  have hE3 := HE.out.fr HF3.out (by have := HEB.out.b18; simp; omega) (by have := HEB.out.b18; have := HEB.out.le; omega)
  have hEB3 := HEB.out.fr HF3.out (by simp; omega)
  generalize w2.setCell ⟨k, 2, none⟩ (.int .u64 (nr : Int)) = w3 at *
  have k2' := HK3.out.at_ 2 (.int .u64 (nr : Int)) rfl
  have k3' := HK3.out.at_ 3 (.pointer (some ⟨f, 0, none⟩)) rfl
  have f16 := G16.out
  have hng : ¬ ((sz : Int) < (nr : Int)) := by omega
  have HE3 := Lib.hid hE3
  have HEB3 := Lib.hid hEB3
  clear hE3 hEB3 e2 fz
  go_quiet (fail)
  have xe := HE3.out.eof
  have xs := eql_same' E.eof (w3.drewN nq)
  go_wp2_with fail
  clear xs
  have xu := HE3.out.unx
  by_cases hns : nr = sz
  · subst hns
    have k4' := HK3.out.at_ 4 .nilIface rfl
    have k1' := HK3.out.at_ 1 (.pointer (some ⟨h, 0, none⟩)) rfl
    have k5f := HK3.out.frozen 5
    have k5v := HK3.out.at_ 5 .nilIface rfl
    have f12 := G12.out
    have xc := HE3.out.chk
    go_quiet (fail)
    go_wp2_with fail
    by_cases hc0 : crc = 0
    · have hcd : ((crc : Int) != 0) = false := by simp [hc0]
      have HC0 := Lib.hid hc0
      clear hc0
      go_quiet (fail)
      have xs := (HE3.out.eof)
      go_wp2_with fail
      go_ret2
      refine ⟨?_, (HF3.out.setCell (.inl (by simp)) _).drewN _⟩
      rw [endErr, if_neg (fun h => h rfl), if_neg (fun h => h.1 HC0.out)]
      rfl
    · have hc0' : (crc : Int) ≠ 0 := by omega
      have hcd : ((crc : Int) != 0) = true := by simpa using hc0'
      have HC0 := Lib.hid hc0
      clear hc0 hc0'
      by_cases hcc : c = crc
      · have HCC := Lib.hid hcc
        have hce : ((c : Int) != (crc : Int)) = false := by simp [hcc]
        clear hcc
        go_quiet (exact (hashSum h c 159 _ (HH3.out.drewN _)).mono (fun _ _ h => ⟨h.1, _, h.2⟩))
        go_wp2_with fail
        go_ret2
        refine ⟨?_, (HF3.out.setCell (.inl (by simp)) _).drewN _⟩
        rw [endErr, if_neg (fun h => h rfl), if_neg (fun h => h.2 HCC.out)]
        rfl
      · have HCC := Lib.hid hcc
        have hce : ((c : Int) != (crc : Int)) = true := by simp; omega
        clear hcc
        go_quiet (exact (hashSum h c 159 _ (HH3.out.drewN _)).mono (fun _ _ h => ⟨h.1, _, h.2⟩))
        go_wp2_with fail
        go_ret2
        refine ⟨?_, (HF3.out.setCell (.inl (by simp)) _).drewN _⟩
        rw [endErr, if_neg (fun h => h rfl), if_pos ⟨HC0.out, HCC.out⟩]
        rfl
  · have hns' : (nr : Int) ≠ (sz : Int) := by omega
    have hnd : ((nr : Int) == (sz : Int)) = false := by simpa using hns'
    go_quiet (fail)
    go_wp2_with fail
    go_quiet (fail)
    go_wp2_with fail
    go_ret2
    refine ⟨?_, ((HF3.out.drewN _).drewN _).drewN _⟩
    rw [endErr, if_pos hns]
    rfl
end Go.Proofs.YtalgnjkdoaaacaaGreatDoor

/- dirReader.Read. -/
namespace Go.Proofs.YtalgnjkdoaaacaaGreatDoor
open Go Go.RowKit
open Zp
set_option maxRecDepth 100000 in
set_option maxHeartbeats 4000000 in
theorem dirRead (w : World) (d : Nat) (x : Addr) (v : Value) (hd : Blk w d 173 #[errv x]) :
    Calls Tryz.prog 213 #[.pointer (some ⟨d, 0, none⟩), v] w fun e w' => e = .returned (.tuple #[.int .i64 0, errv x]) ∧ ∃ m, w' = w.drewN m := by
  have d0 := hd.at_ 0 (errv x) rfl
  clear hd
  go_enter Tryz.func213, Tryz.ntmps213
  go_wp2_with fail
  go_quiet (fail)
  go_wp2_with fail
  go_ret2
  exact ⟨rfl, _, rfl⟩
end Go.Proofs.YtalgnjkdoaaacaaGreatDoor

/- impl.faultOf. -/
namespace Go.Proofs.YtalgnjkdoaaacaaGreatDoor
open Go Go.RowKit
open Zp
set_option maxRecDepth 100000 in
set_option maxHeartbeats 4000000 in
theorem faultOf_fmt (E : Errs) (B0 : Nat) (w : World) (hE : Env E w) (hEB : EB E B0 w) : Calls Tryz.prog 38 #[errv E.fmt] w fun e w' => e = .returned (.int .i64 1) ∧ w' = w := by
  have x1 := hE.fmt
  have s1 := eql_same' E.fmt w
  clear hE hEB
  go_enter Tryz.func38, Tryz.ntmps38
  go_wp2_with fail
  go_ret
  exact ⟨rfl, rfl⟩
set_option maxRecDepth 100000 in
set_option maxHeartbeats 4000000 in
theorem faultOf_alg (E : Errs) (B0 : Nat) (w : World) (hE : Env E w) (hEB : EB E B0 w) : Calls Tryz.prog 38 #[errv E.alg] w fun e w' => e = .returned (.int .i64 2) ∧ w' = w := by
  have x1 := hE.fmt
  have x2 := hE.alg
  have d1 := eql_other hEB E.m.2.2.1 E.m.1 hEB.ne.2.2.2.1
  have s1 := eql_same' E.alg w
  clear hE hEB
  go_enter Tryz.func38, Tryz.ntmps38
  go_wp2_with fail
  go_ret
  exact ⟨rfl, rfl⟩
set_option maxRecDepth 100000 in
set_option maxHeartbeats 4000000 in
theorem faultOf_chk (E : Errs) (B0 : Nat) (w : World) (hE : Env E w) (hEB : EB E B0 w) : Calls Tryz.prog 38 #[errv E.chk] w fun e w' => e = .returned (.int .i64 3) ∧ w' = w := by
  have x1 := hE.fmt
  have x2 := hE.alg
  have x3 := hE.chk
  have d1 := eql_other hEB E.m.2.2.2.1 E.m.1 hEB.ne.2.2.2.2.1
  have d2 := eql_other hEB E.m.2.2.2.1 E.m.2.2.1 hEB.ne.2.2.2.2.2.1
  have s1 := eql_same' E.chk w
  clear hE hEB
  go_enter Tryz.func38, Tryz.ntmps38
  go_wp2_with fail
  go_ret
  exact ⟨rfl, rfl⟩
set_option maxRecDepth 100000 in
set_option maxHeartbeats 4000000 in
theorem faultOf_unx (E : Errs) (B0 : Nat) (w : World) (hE : Env E w) (hEB : EB E B0 w) : Calls Tryz.prog 38 #[errv E.unx] w fun e w' => e = .returned (.int .i64 4) ∧ w' = w := by
  have x1 := hE.fmt
  have x2 := hE.alg
  have x3 := hE.chk
  have x4 := hE.unx
  have d1 := eql_other hEB E.m.2.2.2.2.1 E.m.1 hEB.ne.1
  have d2 := eql_other hEB E.m.2.2.2.2.1 E.m.2.2.1 hEB.ne.2.2.2.2.2.2.1
  have d3 := eql_other hEB E.m.2.2.2.2.1 E.m.2.2.2.1 hEB.ne.2.2.2.2.2.2.2.1
  have s1 := eql_same' E.unx w
  clear hE hEB
  go_enter Tryz.func38, Tryz.ntmps38
  go_wp2_with fail
  go_ret
  exact ⟨rfl, rfl⟩
end Go.Proofs.YtalgnjkdoaaacaaGreatDoor

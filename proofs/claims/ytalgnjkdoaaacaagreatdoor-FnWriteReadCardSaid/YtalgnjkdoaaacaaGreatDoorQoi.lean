/- File.Open of a stored file. -/
import Derived.Test.YtalgnjkdoaaacaaGreatDoorQoa
import Derived.Test.YtalgnjkdoaaacaaGreatDoorQof
set_option linter.unusedVariables false
set_option linter.unusedSimpArgs false
namespace Go.Proofs.YtalgnjkdoaaacaaGreatDoor
open Go Go.RowKit
open Zp
/-- What Open reads of a file's block. -/
structure FC (w : World) (f z r P : Nat) (nm : ByteArray) (fl m pk sz crc : Nat) : Prop where
  c0 : w.cell? ⟨f, 0, none⟩ = some (.string nm)
  c5 : w.cell? ⟨f, 5, none⟩ = some (.int .u16 (fl : Int))
  c6 : w.cell? ⟨f, 6, none⟩ = some (.int .u16 (m : Int))
  c12 : w.cell? ⟨f, 12, none⟩ = some (.int .u32 (crc : Int))
  c15 : w.cell? ⟨f, 15, none⟩ = some (.int .u64 (pk : Int))
  c16 : w.cell? ⟨f, 16, none⟩ = some (.int .u64 (sz : Int))
  c19 : w.cell? ⟨f, 19, none⟩ = some (.pointer (some ⟨z, 0, none⟩))
  c20 : w.cell? ⟨f, 20, none⟩ = some (strRd r)
  c21 : w.cell? ⟨f, 21, none⟩ = some (.int .i64 (P : Int))
  z3 : w.cell? ⟨z, 3, none⟩ = some (.map none)
  lf : f < w.heap.size
  lz : z < w.heap.size
theorem FC.fr {S : List Nat} {w w' : World} {f z r P : Nat} {nm : ByteArray} {fl m pk sz crc : Nat} (h : FC w f z r P nm fl m pk sz crc) (hf : Fr S w w') (h1 : f ∉ S) (h2 : z ∉ S) : FC w' f z r P nm fl m pk sz crc := by
  have k : ∀ i v, w.cell? ⟨f, i, none⟩ = some v → w'.cell? ⟨f, i, none⟩ = some v := fun i v hv => (hf.cell (p := ⟨f, i, none⟩) h.lf h1).trans hv
  exact ⟨k _ _ h.c0, k _ _ h.c5, k _ _ h.c6, k _ _ h.c12, k _ _ h.c15, k _ _ h.c16, k _ _ h.c19, k _ _ h.c20, k _ _ h.c21, (hf.cell (p := ⟨z, 3, none⟩) h.lz h2).trans h.z3, Nat.lt_of_lt_of_le h.lf hf.size, Nat.lt_of_lt_of_le h.lz hf.size⟩
def bodyAt (s : By) (P : Nat) : Nat := P + (30 + num ((s.drop (P + 26)).take 2) + num ((s.drop (P + 28)).take 2))
set_option maxRecDepth 100000 in
set_option maxHeartbeats 4000000 in
theorem open_dir (E : Errs) (w : World) (f z r P : Nat) (nm : ByteArray) (fl m pk sz crc : Nat) (s : ByteArray) (hE : Env E w) (h18 : 14 ≤ w.heap.size) (hF : FC w f z r P nm fl m pk sz crc) (hr : StrR w r s) (hs : s.size ≤ 4000000000) (hP : P + 30 ≤ s.size) (hsig : num ((s.data.toList.drop P).take 4) = 67324752) (hnm : nm.size ≤ 4000000000) (hsl : slash nm = true) (hsz : sz ≤ 4294967295) :
    Calls Tryz.prog 54 #[.pointer (some ⟨f, 0, none⟩)] w fun e w' => ∃ d, e = .returned (.tuple #[.iface 171 (.pointer (some ⟨d, 0, none⟩)), .nilIface]) ∧ w.heap.size ≤ d ∧ Blk w' d 173 #[errv (if sz = 0 then E.eof else E.fmt)] ∧ Fr [] w w' := by
  have HFB := Lib.hid (fbo_ok w f r P s hr hF.c20 hF.c21 hF.lf hs hP hsig)
  have HC := Lib.hid hF
  have HE := Lib.hid hE
  clear hr hF hsig hE
  go_enter Tryz.func54, Tryz.ntmps54
  go_wp2_with fail
  refine HFB.out.mono ?_
  rintro e w1 ⟨rfl, hf⟩
  have h1 := HC.out.fr hf (by simp) (by simp)
  have c0 := h1.c0
  have c16 := h1.c16
  have HF := Lib.hid hf
  clear hf h1
  generalize num ((s.data.toList.drop (P + 26)).take 2) = n
  generalize num ((s.data.toList.drop (P + 28)).take 2) = x
  have x1 := HE.out.fr HF.out (by simp) h18
  have eo := x1.eof
  have ef := x1.fmt
  clear x1
  go_wp2_with fail
  refine (hasSuf w1 nm hnm).mono ?_
  rintro e w2 ⟨rfl, m2, rfl⟩
  rw [hsl]
  by_cases hz : sz = 0
  · subst hz
    go_wp2_with fail
    go_ret2
    exact ⟨_, rfl, HF.out.size, (Blk.new _ _ _), (HF.out.drewN _).alloc _⟩
  · have hz' : (sz : Int) ≠ 0 := by omega
    go_wp2_with fail
    go_ret2
    exact ⟨_, rfl, HF.out.size, Blk.new _ _ _, (HF.out.drewN _).alloc _⟩
/-- What Open answers for a file that is no directory. -/
def OpenP (E : Errs) (w : World) (f r q pk m : Nat) (e : Ending) (w' : World) : Prop :=
  if m = 0 then ∃ k h b, e = .returned (.tuple #[.iface 177 (.pointer (some ⟨k, 0, none⟩)), .nilIface]) ∧ w.heap.size ≤ k ∧ w.heap.size ≤ h ∧ w.heap.size ≤ b ∧ k ≠ h ∧ k ≠ b ∧ h ≠ b ∧
    Blk w' k 179 #[nopV b, .pointer (some ⟨h, 0, none⟩), .int .u64 0, .pointer (some ⟨f, 0, none⟩), .nilIface, .nilIface] ∧ Blk w' h 159 #[.int .u32 0] ∧
    Blk w' b 198 #[strRd r, .int .i64 (q : Int), .int .i64 (q : Int), .int .i64 ((q + pk : Nat) : Int), .int .i64 (pk : Int)] ∧ Fr [] w w'
  else e = .returned (.tuple #[.nilIface, errv E.alg]) ∧ Fr [] w w'
set_option maxRecDepth 100000 in
set_option maxHeartbeats 4000000 in
theorem open_file (E : Errs) (w : World) (f z r P : Nat) (nm : ByteArray) (fl m pk sz crc : Nat) (s : ByteArray) (hE : Env E w) (h18 : 14 ≤ w.heap.size) (hF : FC w f z r P nm fl m pk sz crc) (hr : StrR w r s) (hs : s.size ≤ 4000000000) (hP : P + 30 ≤ s.size) (hsig : num ((s.data.toList.drop P).take 4) = 67324752) (hnm : nm.size ≤ 4000000000) (hsl : slash nm = false) (hm : m ≤ 65535) (hm0 : m ≠ 0 ∨ fl / 8 % 2 = 0) (hfl : fl ≤ 65535) (hpk : bodyAt s.data.toList P + pk ≤ 4000000000) :
    Calls Tryz.prog 54 #[.pointer (some ⟨f, 0, none⟩)] w (OpenP E w f r (bodyAt s.data.toList P) pk m) := by
  have HFB := Lib.hid (fbo_ok w f r P s hr hF.c20 hF.c21 hF.lf hs hP hsig)
  have HC := Lib.hid hF
  have HE := Lib.hid hE
  clear hr hF hsig hE
  obtain ⟨q, hq0⟩ : ∃ q : Nat, bodyAt s.data.toList P = q := ⟨_, rfl⟩
  rw [hq0] at hpk ⊢
  unfold bodyAt at hq0
  go_enter Tryz.func54, Tryz.ntmps54
  go_wp2_with fail
  refine HFB.out.mono ?_
  rintro e w1 ⟨rfl, hf⟩
  have h1 := HC.out.fr hf (by simp) (by simp)
  have c0 := h1.c0
  have c15 := h1.c15
  have HF := Lib.hid hf
  have H1 := Lib.hid h1
  clear hf h1
  generalize num ((s.data.toList.drop (P + 26)).take 2) = n at hq0 ⊢
  generalize num ((s.data.toList.drop (P + 28)).take 2) = x at hq0 ⊢
  go_wp2_with fail
  refine (hasSuf w1 nm hnm).mono ?_
  rintro e w2 ⟨rfl, m2, rfl⟩
  rw [hsl]
  have hqi : IntKind.i64.wrap ((P : Int) + (30 + (n : Int) + (x : Int))) = (q : Int) := by rw [show ((P : Int) + (30 + (n : Int) + (x : Int))) = (q : Int) by omega]; exact IntWalk.i64_in _ (by omega)
  go_wp2_with fail
  obtain ⟨w3, hw3⟩ : ∃ w3, w1.drewN m2 = w3 := ⟨_, rfl⟩
  have h3 : FC w3 f z r P nm fl m pk sz crc := by rw [← hw3]; exact H1.out.fr ((Fr.refl [] _).drewN _) (by simp) (by simp)
  have hf3 : Fr [] w w3 := by rw [← hw3]; exact HF.out.drewN _
  rw [hw3]
  clear hw3 c0 c15
  have c20 := h3.c20
  have c21 := h3.c21
  have H3 := Lib.hid h3
  have HF3 := Lib.hid hf3
  clear h3 hf3
  rename_i K hK
  have HQ := Lib.hid (newSection_any r q pk (by omega) w3.drew)
  have KS := Lib.hid (show ∀ o, (w3.drew.alloc o).cell? ⟨f, 20, none⟩ = some (strRd r) ∧ (w3.drew.alloc o).cell? ⟨f, 21, none⟩ = some (.int .i64 (P : Int)) from fun o => by
    have := H3.out.fr (((Fr.refl [] _).drew).alloc o) (by simp) (by simp)
    exact ⟨this.c20, this.c21⟩)
  go_region_held3 (fun w' => w'.cell? ⟨f, 20, none⟩ = some (strRd r) ∧ w'.cell? ⟨f, 21, none⟩ = some (.int .i64 (P : Int)))
    ((first | exact ⟨c20, c21⟩ | exact KS.out _ | assumption))
    ((first | (go_at_call 63; (with_reducible refine HQ.out.mono ?_); rintro e w2 ⟨rfl, rfl⟩)))
  refine hK _ _ ?_
  have hB4 : Blk (w3.alloc (.cells #[strRd r, .int .i64 (q : Int), .int .i64 (q : Int), .int .i64 ((q : Int) + (pk : Int)), .int .i64 (pk : Int)] 198)).drew w3.heap.size 198 #[strRd r, .int .i64 (q : Int), .int .i64 (q : Int), .int .i64 ((q + pk : Nat) : Int), .int .i64 (pk : Int)] := by
    rw [Int.natCast_add]
    exact (Blk.new w3 _ _).drew
  have hf4 := (HF3.out.alloc (.cells #[strRd r, .int .i64 (q : Int), .int .i64 (q : Int), .int .i64 ((q : Int) + (pk : Int)), .int .i64 (pk : Int)] 198)).drew
  have hsz := HF3.out.size
  generalize (w3.alloc (.cells #[strRd r, .int .i64 (q : Int), .int .i64 (q : Int), .int .i64 ((q : Int) + (pk : Int)), .int .i64 (pk : Int)] 198)).drew = w4 at hB4 hf4 ⊢
  obtain ⟨b, hb⟩ : ∃ b, w3.heap.size = b := ⟨_, rfl⟩
  rw [hb] at hB4 hsz ⊢
  have h4 := HC.out.fr hf4 (by simp) (by simp)
  have c6 := h4.c6
  have c19 := h4.c19
  have HB4 := Lib.hid hB4
  have HF4 := Lib.hid hf4
  have H4 := Lib.hid h4
  clear hB4 hf4 h4 HQ KS c20 c21 hqi
  go_wp2_with fail
  go_quiet (refine Calls.quiet_of (decomp _ z m hm H4.out.z3))
  clear c6 c19
  by_cases h0 : m = 0
  · rw [if_pos h0]
    have x1 := nopNil (w4.drewN nq)
    have c5 := H4.out.c5
    go_wp2_with fail
    refine (nopCloser_c b (w4.drewN nq)).mono ?_
    rintro e w5 ⟨rfl, m5, rfl⟩
    have H5 := Lib.hid (hasDD (w4.drewN (nq + m5)) f fl hfl c5)
    clear x1
    go_wp2_with fail
    refine H5.out.mono ?_
    rintro e w6 ⟨rfl, rfl⟩
    rw [show decide (fl / 8 % 2 = 1) = false from decide_eq_false (by omega)]
    have hB6 : Blk (w4.drewN (nq + m5)) b 198 #[strRd r, .int .i64 (q : Int), .int .i64 (q : Int), .int .i64 ((q + pk : Nat) : Int), .int .i64 (pk : Int)] := HB4.out.drewN _
    have hF6 : Fr [] w (w4.drewN (nq + m5)) := HF4.out.drewN _
    generalize w4.drewN (nq + m5) = w6 at hB6 hF6 ⊢
    have HB6 := Lib.hid hB6
    have HF6 := Lib.hid hF6
    clear hB6 hF6
    go_wp2_with fail
    go_ret2
    have z6 := HF6.out.size
    have l6 := HB6.out.lt
    rw [OpenP, if_pos h0]
    refine ⟨w6.heap.size + 1, w6.heap.size, b, rfl, by omega, z6, hsz, by omega, by omega, by omega, ?_, ?_, ?_, ?_⟩
    · have := Blk.new (w6.alloc (.cells #[.int .u32 0] 159)) 179 #[nopV b, .pointer (some ⟨w6.heap.size, 0, none⟩), .int .u64 0, .pointer (some ⟨f, 0, none⟩), .nilIface, .nilIface]
      rw [World.size_alloc] at this
      exact this
    · exact (Blk.new w6 _ _).alloc _
    · exact (HB6.out.alloc _).alloc _
    · exact (HF6.out.alloc _).alloc _
  · rw [if_neg h0]
    have x1 := nilNil (w4.drewN nq)
    have ea := (HE.out.fr HF4.out (by simp) h18).alg
    go_wp2_with fail
    go_quiet (fail)
    go_wp2_with fail
    go_ret2
    show OpenP E w f r q pk m _ _
    rw [OpenP, if_neg h0]
    exact ⟨rfl, (HF4.out.drewN _).drewN _⟩
end Go.Proofs.YtalgnjkdoaaacaaGreatDoor

/- checksumReader.Read. -/
namespace Go.Proofs.YtalgnjkdoaaacaaGreatDoor
open Go Go.RowKit
open Zp
/-- The blocks of an open file: nr bytes are read, c is their checksum. -/
structure CK (w : World) (k h b r f q off lim pk nr c : Nat) (s : ByteArray) (sz crc : Nat) : Prop where
  k_ : Blk w k 179 #[nopV b, .pointer (some ⟨h, 0, none⟩), .int .u64 (nr : Int), .pointer (some ⟨f, 0, none⟩), .nilIface, .nilIface]
  h_ : Blk w h 159 #[.int .u32 (c : Int)]
  b_ : Blk w b 198 #[strRd r, .int .i64 (q : Int), .int .i64 (off : Int), .int .i64 (lim : Int), .int .i64 (pk : Int)]
  r_ : StrR w r s
  c12 : w.cell? ⟨f, 12, none⟩ = some (.int .u32 (crc : Int))
  c16 : w.cell? ⟨f, 16, none⟩ = some (.int .u64 (sz : Int))
  lf : f < w.heap.size
set_option maxRecDepth 100000 in
set_option maxHeartbeats 4000000 in
theorem ck_data (w : World) (k h b r f q off lim pk nr c g n cp kk : Nat) (s : ByteArray) (sz crc : Nat) (cur : Array Value) (t : TypeId) (hK : CK w k h b r f q off lim pk nr c s sz crc) (hg : Blk w g t cur) (hn : 0 < n) (hnc : n ≤ cp) (hcp : cp ≤ 4000000000) (hfit : n ≤ cur.size) (hol : off < lim) (hl : lim ≤ s.size) (hs : s.size ≤ 4000000000) (hkk : kk = min n (lim - off))
    (hne : g ≠ k ∧ g ≠ h ∧ g ≠ b ∧ g ≠ f ∧ g ≠ r ∧ k ≠ h ∧ k ≠ b ∧ k ≠ f ∧ k ≠ r ∧ h ≠ b ∧ h ≠ f ∧ h ≠ r ∧ b ≠ f ∧ b ≠ r) (hc : c < 4294967296) (hnr : nr + kk ≤ sz) (hsz : sz ≤ 4294967295) (l : By) (hl0 : (s.data.toList.drop off).take kk = l) :
    Calls Tryz.prog 215 #[.pointer (some ⟨k, 0, none⟩), .slice (some ⟨g, 0, none⟩) n cp] w fun e w' => e = .returned (.tuple #[.int .i64 (kk : Int), .nilIface]) ∧ CK w' k h b r f q (off + kk) lim pk (nr + kk) (crcOf c l) s sz crc ∧ Blk w' g t (spl cur 0 l) ∧ Fr [k, h, b, g] w w' := by
  have k0 := hK.k_.at_ 0 (nopV b) rfl
  have k5 := hK.k_.at_ 5 .nilIface rfl
  have hR := (secRead_data b r g 0 n cp q off lim pk kk s cur t w hK.b_ (hK.r_.at_ 0 _ rfl) hg hn hnc (by omega) hol hl hs (Ne.symm hne.2.2.1) hkk)
  rw [hl0] at hR
  have HR := Lib.hid hR
  clear hR
  have HK := Lib.hid hK
  have HG := Lib.hid hg
  have HN := Lib.hid hne
  have hk1 : kk ≤ n := by omega
  have hk2 : off + kk ≤ lim := by omega
  have hk3 : 0 < kk := by omega
  clear hK hg hne hkk
  go_enter Tryz.func215, Tryz.ntmps215
  go_wp2_with fail
  refine HR.out.mono ?_
  rintro e w1 ⟨rfl, m1, hw1⟩
  have hll : l.length = kk := by rw [← hl0, List.length_take, List.length_drop, ← Lib.size_eq]; omega
  obtain ⟨n1, n2, n3, n4, n5, n6, n7, n8, n9, n10, n11, n12, n13, n14⟩ := HN.out
  have hF1 : Fr [g, b] w w1 := by rw [hw1]; exact (((Fr.refl _ w).setRow (.inl (by simp)) _).setCell (.inl (by simp)) _).drewN _
  have hg1 : Blk w1 g t (spl cur 0 l) := by rw [hw1]; exact ((HG.out.row _).far n3 _).drewN _
  have hb1 : Blk w1 b 198 #[strRd r, .int .i64 (q : Int), .int .i64 ((off + kk : Nat) : Int), .int .i64 (lim : Int), .int .i64 (pk : Int)] := by rw [hw1]; exact ((HK.out.b_.rowFar n3.symm _).set_ 2 _).drewN _
  have hk1 := HK.out.k_.fr hF1 (by simp [n1.symm, n7])
  have hh1 := HK.out.h_.fr hF1 (by simp [n2.symm, n10])
  have hr1 : StrR w1 r s := Blk.fr HK.out.r_ hF1 (by simp [n5.symm, n14.symm])
  have k1 := hk1.at_ 1 _ rfl
  have k1' : w1.drew.cell? ⟨k, 1, none⟩ = some (.pointer (some ⟨h, 0, none⟩)) := k1
  have HQ := Lib.hid (hashWrite h c 159 g 0 kk cp l w1.drew hh1.drew ((Rd.spl hg1 (by omega)).drew) hll (by omega) hcp hc hg1.lt hh1.lt)
  have hkc : (kk : Int) ≤ (cp : Int) := by omega
  have hk0 : (0 : Int) ≤ (kk : Int) := by omega
  have lk := hk1.lt
  have KS := Lib.hid (show ∀ w2, Fr [h] w1.drew w2 → w2.cell? ⟨k, 1, none⟩ = some (.pointer (some ⟨h, 0, none⟩)) from fun w2 hf => (hf.cell (p := ⟨k, 1, none⟩) lk (by simpa using n6)).trans k1')
  have HW := Lib.hid hw1
  have HF1 := Lib.hid hF1
  have HG1 := Lib.hid hg1
  have HB1 := Lib.hid hb1
  have HK1 := Lib.hid hk1
  have HH1 := Lib.hid hh1
  have HR1 := Lib.hid hr1
  clear hw1 hF1 hg1 hb1 hk1 hh1 hr1 n1 n2 n3 n4 n5 n6 n7 n8 n9 n10 n11 n12 n13 n14 k0 k5
  go_wp2_with fail
  rename_i K hK
  go_region_held3 (fun w' => w'.cell? ⟨k, 1, none⟩ = some (.pointer (some ⟨h, 0, none⟩)))
    ((first | exact k1 | assumption))
    ((first | (go_at_call 204; (with_reducible refine HQ.out.mono ?_); rintro e w2 ⟨rfl, hb2, hf2⟩; have k1b := KS.out _ hf2)))
  refine hK _ _ ?_
  obtain ⟨n1, n2, n3, n4, n5, n6, n7, n8, n9, n10, n11, n12, n13, n14⟩ := HN.out
  have hf2' : Fr [h] w1 w2 := ((Fr.refl [h] w1).drew).trans hf2 (by simp)
  have hF1' : Fr [g, b, h] w w1 := HF1.out.mono (by simp)
  have hF2 : Fr [g, b, h] w w2 := hF1'.trans hf2' (by simp)
  have hk2 : Blk w2 k _ _ := HK1.out.fr hf2' (by simpa using n6)
  have hg2 : Blk w2 g _ _ := HG1.out.fr hf2' (by simpa using n2)
  have hb2' : Blk w2 b _ _ := HB1.out.fr hf2' (by simpa using n10.symm)
  have hr2 : StrR w2 r s := Blk.fr HR1.out hf2' (by simpa using n12.symm)
  have d12 := (hF2.cell (p := ⟨f, 12, none⟩) HK.out.lf (by simp [n4.symm, n13.symm, n11.symm])).trans HK.out.c12
  have d16 := (hF2.cell (p := ⟨f, 16, none⟩) HK.out.lf (by simp [n4.symm, n13.symm, n11.symm])).trans HK.out.c16
  have e2 := hk2.at_ 2 (.int .u64 (nr : Int)) rfl
  have fz := hk2.frozen 2
  have hk3' := hk2.set_ 2 (.int .u64 ((nr + kk : Nat) : Int))
  have g2 := hk3'.at_ 2 (.int .u64 ((nr + kk : Nat) : Int)) rfl
  have g3 := hk3'.at_ 3 (.pointer (some ⟨f, 0, none⟩)) rfl
  have g16 := (World.cell?_setCell_other w2 ⟨k, 2, none⟩ ⟨f, 16, none⟩ (.int .u64 ((nr + kk : Nat) : Int)) (by intro e; injection e with e; exact n8 e)).trans d16
  have HF2 := Lib.hid hF2
  have HK2 := Lib.hid hk3'
  have HG2 := Lib.hid hg2
  have HB2 := Lib.hid hb2'
  have HH2 := Lib.hid hb2
  have HR2 := Lib.hid hr2
  have HD12 := Lib.hid d12
  have HD16 := Lib.hid d16
  have hle : (nr : Int) + (kk : Int) ≤ (sz : Int) := by omega
  have hszi : (sz : Int) ≤ 4294967295 := by omega
  clear hf2' hF1' hF2 hk2 hg2 hb2' hr2 d12 d16 hk3' hb2 hf2 k1b n1 n2 n3 n4 n5 n6 n7 n8 n9 n10 n11 n12 n13 n14 HQ KS k1 k1' hK
  go_upto_region 6 with fail
  try rw [show (nr : Int) + (kk : Int) = ((nr + kk : Nat) : Int) from (Int.natCast_add _ _).symm]
  have HF3 := Lib.hid (show Fr [k, h, b, g] w (w2.setCell ⟨k, 2, none⟩ (.int .u64 ((nr + kk : Nat) : Int))) from (HF2.out.mono (by simp)).setCell (.inl (by simp)) _)
  have HG3 := Lib.hid (HG2.out.far (p := ⟨k, 2, none⟩) HN.out.1 (.int .u64 ((nr + kk : Nat) : Int)))
  have HB3 := Lib.hid (HB2.out.far (p := ⟨k, 2, none⟩) HN.out.2.2.2.2.2.2.1.symm (.int .u64 ((nr + kk : Nat) : Int)))
  have HH3 := Lib.hid (HH2.out.far (p := ⟨k, 2, none⟩) HN.out.2.2.2.2.2.1.symm (.int .u64 ((nr + kk : Nat) : Int)))
  have HR3 := Lib.hid (Blk.far HR2.out (p := ⟨k, 2, none⟩) HN.out.2.2.2.2.2.2.2.2.1.symm (.int .u64 ((nr + kk : Nat) : Int)))
  have g12 := Lib.hid ((World.cell?_setCell_other w2 ⟨k, 2, none⟩ ⟨f, 12, none⟩ (.int .u64 ((nr + kk : Nat) : Int)) (by intro e; injection e with e; exact HN.out.2.2.2.2.2.2.2.1 e)).trans HD12.out)
  have HG16 := Lib.hid g16
  clear e2 fz HG2 HB2 HH2 HR2 HD12 HD16 HF2
  generalize w2.setCell ⟨k, 2, none⟩ (.int .u64 ((nr + kk : Nat) : Int)) = w3 at *
  have hng : ¬ ((sz : Int) < ((nr + kk : Nat) : Int)) := by omega
  obtain ⟨N, hN⟩ : ∃ N : Nat, nr + kk = N := ⟨_, rfl⟩
  rw [hN] at hng g2 HK2 ⊢
  go_quiet (fail)
  clear g2 g3 g16
  go_wp2_with fail
  go_ret2
  refine ⟨rfl, ⟨HK2.out.drewN _, HH3.out.drewN _, HB3.out.drewN _, HR3.out.drewN _, g12.out, HG16.out, ?_⟩, HG3.out.drewN _, HF3.out.drewN _⟩
  exact Nat.lt_of_lt_of_le HK.out.lf (HF3.out.drewN _).size
end Go.Proofs.YtalgnjkdoaaacaaGreatDoor

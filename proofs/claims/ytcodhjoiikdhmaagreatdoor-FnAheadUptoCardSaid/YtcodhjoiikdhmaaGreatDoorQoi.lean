/- File.Open of a stored file. -/
import Derived.Test.YtcodhjoiikdhmaaGreatDoorQoa
import Derived.Test.YtcodhjoiikdhmaaGreatDoorQog
set_option linter.unusedVariables false
set_option linter.unusedSimpArgs false
namespace Go.Proofs.YtcodhjoiikdhmaaGreatDoor
open Go Go.RowKit
open Zp
/-- What Open reads of a file's block. -/
structure FC (w : World) (f z r P : Nat) (nm : ByteArray) (fl m pk sz crc : Nat) : Prop where
  c0 : w.cell? ⟨f, 0, none⟩ = some (.string nm)
  c5 : w.cell? ⟨f, 5, none⟩ = some (.int .u16 (fl : Int))
  c6 : w.cell? ⟨f, 6, none⟩ = some (.int .u16 (m : Int))
  c12 : w.cell? ⟨f, 12, none⟩ = some (.int .u32 (crc : Int))
  c15 : w.cell? ⟨f, 15, none⟩ = some (.int .u64 (pk : Int))
  c16 : w.cell? ⟨f, 16, none⟩ = some (.int .u64 (sz : Int))
  c19 : w.cell? ⟨f, 19, none⟩ = some (.pointer (some ⟨z, 0, none⟩))
  c20 : w.cell? ⟨f, 20, none⟩ = some (strRd r)
  c21 : w.cell? ⟨f, 21, none⟩ = some (.int .i64 (P : Int))
  z3 : w.cell? ⟨z, 3, none⟩ = some (.map none)
  lf : f < w.heap.size
  lz : z < w.heap.size
theorem FC.fr {S : List Nat} {w w' : World} {f z r P : Nat} {nm : ByteArray} {fl m pk sz crc : Nat} (h : FC w f z r P nm fl m pk sz crc) (hf : Fr S w w') (h1 : f ∉ S) (h2 : z ∉ S) : FC w' f z r P nm fl m pk sz crc := by
  have k : ∀ i v, w.cell? ⟨f, i, none⟩ = some v → w'.cell? ⟨f, i, none⟩ = some v := fun i v hv => (hf.cell (p := ⟨f, i, none⟩) h.lf h1).trans hv
  exact ⟨k _ _ h.c0, k _ _ h.c5, k _ _ h.c6, k _ _ h.c12, k _ _ h.c15, k _ _ h.c16, k _ _ h.c19, k _ _ h.c20, k _ _ h.c21, (hf.cell (p := ⟨z, 3, none⟩) h.lz h2).trans h.z3, Nat.lt_of_lt_of_le h.lf hf.size, Nat.lt_of_lt_of_le h.lz hf.size⟩
def bodyAt (s : By) (P : Nat) : Nat := P + (30 + num ((s.drop (P + 26)).take 2) + num ((s.drop (P + 28)).take 2))
set_option maxRecDepth 100000 in
set_option maxHeartbeats 4000000 in
theorem open_dir (E : Errs) (w : World) (f z r P : Nat) (nm : ByteArray) (fl m pk sz crc : Nat) (s : ByteArray) (hE : Env E w) (h18 : 11 ≤ w.heap.size) (hF : FC w f z r P nm fl m pk sz crc) (hr : StrR w r s) (hs : s.size ≤ 4000000000) (hP : P + 30 ≤ s.size) (hsig : num ((s.data.toList.drop P).take 4) = 67324752) (hnm : nm.size ≤ 4000000000) (hsl : slash nm = true) (hsz : sz ≤ 4294967295) :
    Calls Tryz.prog 36 #[.pointer (some ⟨f, 0, none⟩)] w fun e w' => ∃ d, e = .returned (.tuple #[.iface 97 (.pointer (some ⟨d, 0, none⟩)), .nilIface]) ∧ w.heap.size ≤ d ∧ Blk w' d 99 #[errv (if sz = 0 then E.eof else E.fmt)] ∧ Fr [] w w' := by
  have HFB := Lib.hid (fbo_ok w f r P s hr hF.c20 hF.c21 hF.lf hs hP hsig)
  have HC := Lib.hid hF
  have HE := Lib.hid hE
  clear hr hF hsig hE
  go_enter Tryz.func36, Tryz.ntmps36
  go_wp2_with fail
  refine HFB.out.mono ?_
  rintro e w1 ⟨rfl, hf⟩
  have h1 := HC.out.fr hf (by simp) (by simp)
  have c0 := h1.c0
  have c16 := h1.c16
  have HF := Lib.hid hf
  clear hf h1
  generalize num ((s.data.toList.drop (P + 26)).take 2) = n
  generalize num ((s.data.toList.drop (P + 28)).take 2) = x
  have x1 := HE.out.fr HF.out (by simp) h18
  have eo := x1.eof
  have ef := x1.fmt
  clear x1
  go_wp2_with fail
  refine (hasSuf w1 nm hnm).mono ?_
  rintro e w2 ⟨rfl, m2, rfl⟩
  rw [hsl]
  by_cases hz : sz = 0
  · subst hz
    go_wp2_with fail
    go_ret2
    exact ⟨_, rfl, HF.out.size, (Blk.new _ _ _), (HF.out.drewN _).alloc _⟩
  · have hz' : (sz : Int) ≠ 0 := by omega
    go_wp2_with fail
    go_ret2
    exact ⟨_, rfl, HF.out.size, Blk.new _ _ _, (HF.out.drewN _).alloc _⟩
/-- What Open answers for a file that is no directory. -/
def OpenP (E : Errs) (w : World) (f r q pk m : Nat) (e : Ending) (w' : World) : Prop :=
  if m = 0 then ∃ k h b, e = .returned (.tuple #[.iface 107 (.pointer (some ⟨k, 0, none⟩)), .nilIface]) ∧ w.heap.size ≤ k ∧ w.heap.size ≤ h ∧ w.heap.size ≤ b ∧ k ≠ h ∧ k ≠ b ∧ h ≠ b ∧
    Blk w' k 112 #[nopV b, .pointer (some ⟨h, 0, none⟩), .int .u64 0, .pointer (some ⟨f, 0, none⟩), .nilIface, .nilIface] ∧ Blk w' h 110 #[.int .u32 0] ∧
    Blk w' b 128 #[strRd r, .int .i64 (q : Int), .int .i64 (q : Int), .int .i64 ((q + pk : Nat) : Int), .int .i64 (pk : Int)] ∧ Fr [] w w'
  else e = .returned (.tuple #[.nilIface, errv E.alg]) ∧ Fr [] w w'
set_option maxRecDepth 100000 in
set_option maxHeartbeats 4000000 in
theorem open_file (E : Errs) (w : World) (f z r P : Nat) (nm : ByteArray) (fl m pk sz crc : Nat) (s : ByteArray) (hE : Env E w) (h18 : 11 ≤ w.heap.size) (hF : FC w f z r P nm fl m pk sz crc) (hr : StrR w r s) (hs : s.size ≤ 4000000000) (hP : P + 30 ≤ s.size) (hsig : num ((s.data.toList.drop P).take 4) = 67324752) (hnm : nm.size ≤ 4000000000) (hsl : slash nm = false) (hm : m ≤ 65535) (hm0 : m ≠ 0 ∨ fl / 8 % 2 = 0) (hfl : fl ≤ 65535) (hpk : bodyAt s.data.toList P + pk ≤ 4000000000) :
    Calls Tryz.prog 36 #[.pointer (some ⟨f, 0, none⟩)] w (OpenP E w f r (bodyAt s.data.toList P) pk m) := by
  have HFB := Lib.hid (fbo_ok w f r P s hr hF.c20 hF.c21 hF.lf hs hP hsig)
  have HC := Lib.hid hF
  have HE := Lib.hid hE
  clear hr hF hsig hE
  obtain ⟨q, hq0⟩ : ∃ q : Nat, bodyAt s.data.toList P = q := ⟨_, rfl⟩
  rw [hq0] at hpk ⊢
  unfold bodyAt at hq0
  go_enter Tryz.func36, Tryz.ntmps36
  go_wp2_with fail
  refine HFB.out.mono ?_
  rintro e w1 ⟨rfl, hf⟩
  have h1 := HC.out.fr hf (by simp) (by simp)
  have c0 := h1.c0
  have c15 := h1.c15
  have HF := Lib.hid hf
  have H1 := Lib.hid h1
  clear hf h1
  generalize num ((s.data.toList.drop (P + 26)).take 2) = n at hq0 ⊢
  generalize num ((s.data.toList.drop (P + 28)).take 2) = x at hq0 ⊢
  go_wp2_with fail
  refine (hasSuf w1 nm hnm).mono ?_
  rintro e w2 ⟨rfl, m2, rfl⟩
  rw [hsl]
  have hqi : IntKind.i64.wrap ((P : Int) + (30 + (n : Int) + (x : Int))) = (q : Int) := by rw [show ((P : Int) + (30 + (n : Int) + (x : Int))) = (q : Int) by omega]; exact IntWalk.i64_in _ (by omega)
  go_wp2_with fail
  obtain ⟨w3, hw3⟩ : ∃ w3, w1.drewN m2 = w3 := ⟨_, rfl⟩
  have h3 : FC w3 f z r P nm fl m pk sz crc := by rw [← hw3]; exact H1.out.fr ((Fr.refl [] _).drewN _) (by simp) (by simp)
  have hf3 : Fr [] w w3 := by rw [← hw3]; exact HF.out.drewN _
  rw [hw3]
  clear hw3 c0 c15
  have c20 := h3.c20
  have c21 := h3.c21
  have H3 := Lib.hid h3
  have HF3 := Lib.hid hf3
  clear h3 hf3
  rename_i K hK
  have HQ := Lib.hid (newSection_any r q pk (by omega) w3.drew)
  have KS := Lib.hid (show ∀ o, (w3.drew.alloc o).cell? ⟨f, 20, none⟩ = some (strRd r) ∧ (w3.drew.alloc o).cell? ⟨f, 21, none⟩ = some (.int .i64 (P : Int)) from fun o => by
    have := H3.out.fr (((Fr.refl [] _).drew).alloc o) (by simp) (by simp)
    exact ⟨this.c20, this.c21⟩)
  go_region_held3 (fun w' => w'.cell? ⟨f, 20, none⟩ = some (strRd r) ∧ w'.cell? ⟨f, 21, none⟩ = some (.int .i64 (P : Int)))
    ((first | exact ⟨c20, c21⟩ | exact KS.out _ | assumption))
    ((first | (go_at_call 51; (with_reducible refine HQ.out.mono ?_); rintro e w2 ⟨rfl, rfl⟩)))
  refine hK _ _ ?_
  have hB4 : Blk (w3.alloc (.cells #[strRd r, .int .i64 (q : Int), .int .i64 (q : Int), .int .i64 ((q : Int) + (pk : Int)), .int .i64 (pk : Int)] 128)).drew w3.heap.size 128 #[strRd r, .int .i64 (q : Int), .int .i64 (q : Int), .int .i64 ((q + pk : Nat) : Int), .int .i64 (pk : Int)] := by
    rw [Int.natCast_add]
    exact (Blk.new w3 _ _).drew
  have hf4 := (HF3.out.alloc (.cells #[strRd r, .int .i64 (q : Int), .int .i64 (q : Int), .int .i64 ((q : Int) + (pk : Int)), .int .i64 (pk : Int)] 128)).drew
  have hsz := HF3.out.size
  generalize (w3.alloc (.cells #[strRd r, .int .i64 (q : Int), .int .i64 (q : Int), .int .i64 ((q : Int) + (pk : Int)), .int .i64 (pk : Int)] 128)).drew = w4 at hB4 hf4 ⊢
  obtain ⟨b, hb⟩ : ∃ b, w3.heap.size = b := ⟨_, rfl⟩
  rw [hb] at hB4 hsz ⊢
  have h4 := HC.out.fr hf4 (by simp) (by simp)
  have c6 := h4.c6
  have c19 := h4.c19
  have HB4 := Lib.hid hB4
  have HF4 := Lib.hid hf4
  have H4 := Lib.hid h4
  clear hB4 hf4 h4 HQ KS c20 c21 hqi
  go_wp2_with fail
  go_quiet (refine Calls.quiet_of (decomp _ z m hm H4.out.z3))
  clear c6 c19
  by_cases h0 : m = 0
  · rw [if_pos h0]
    have x1 := nopNil (w4.drewN nq)
    have c5 := H4.out.c5
    go_wp2_with fail
    refine (nopCloser_c b (w4.drewN nq)).mono ?_
    rintro e w5 ⟨rfl, m5, rfl⟩
    have H5 := Lib.hid (hasDD (w4.drewN (nq + m5)) f fl hfl c5)
    clear x1
    go_wp2_with fail
    refine H5.out.mono ?_
    rintro e w6 ⟨rfl, rfl⟩
    rw [show decide (fl / 8 % 2 = 1) = false from decide_eq_false (by omega)]
    have hB6 : Blk (w4.drewN (nq + m5)) b 128 #[strRd r, .int .i64 (q : Int), .int .i64 (q : Int), .int .i64 ((q + pk : Nat) : Int), .int .i64 (pk : Int)] := HB4.out.drewN _
    have hF6 : Fr [] w (w4.drewN (nq + m5)) := HF4.out.drewN _
    generalize w4.drewN (nq + m5) = w6 at hB6 hF6 ⊢
    have HB6 := Lib.hid hB6
    have HF6 := Lib.hid hF6
    clear hB6 hF6
    go_wp2_with fail
    go_ret2
    have z6 := HF6.out.size
    have l6 := HB6.out.lt
    rw [OpenP, if_pos h0]
    refine ⟨w6.heap.size + 1, w6.heap.size, b, rfl, by omega, z6, hsz, by omega, by omega, by omega, ?_, ?_, ?_, ?_⟩
    · have := Blk.new (w6.alloc (.cells #[.int .u32 0] 110)) 112 #[nopV b, .pointer (some ⟨w6.heap.size, 0, none⟩), .int .u64 0, .pointer (some ⟨f, 0, none⟩), .nilIface, .nilIface]
      rw [World.size_alloc] at this
      exact this
    · exact (Blk.new w6 _ _).alloc _
    · exact (HB6.out.alloc _).alloc _
    · exact (HF6.out.alloc _).alloc _
  · rw [if_neg h0]
    have x1 := nilNil (w4.drewN nq)
    have ea := (HE.out.fr HF4.out (by simp) h18).alg
    go_wp2_with fail
    go_quiet (fail)
    go_wp2_with fail
    go_ret2
    show OpenP E w f r q pk m _ _
    rw [OpenP, if_neg h0]
    exact ⟨rfl, (HF4.out.drewN _).drewN _⟩
end Go.Proofs.YtcodhjoiikdhmaaGreatDoor

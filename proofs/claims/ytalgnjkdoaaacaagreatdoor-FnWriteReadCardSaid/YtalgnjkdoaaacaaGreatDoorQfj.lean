/- File.Open of a stored file that has a data descriptor. -/
import Derived.Test.YtalgnjkdoaaacaaGreatDoorQok
import Derived.Test.YtalgnjkdoaaacaaGreatDoorQkf
import Derived.Test.YtalgnjkdoaaacaaGreatDoorQoi
import Derived.Test.YtalgnjkdoaaacaaGreatDoorQap
set_option linter.unusedVariables false
set_option linter.unusedSimpArgs false
namespace Go.Proofs.YtalgnjkdoaaacaaGreatDoor
open Go Go.RowKit
open Zp
/-- What Open answers for a file with a data descriptor. -/
def OpenD (w : World) (f r q pk : Nat) (e : Ending) (w' : World) : Prop :=
  ∃ k h b d, e = .returned (.tuple #[.iface 177 (.pointer (some ⟨k, 0, none⟩)), .nilIface]) ∧ w.heap.size ≤ k ∧ w.heap.size ≤ h ∧ w.heap.size ≤ b ∧ w.heap.size ≤ d ∧ k ≠ h ∧ k ≠ b ∧ h ≠ b ∧ d ≠ k ∧ d ≠ h ∧ d ≠ b ∧
    Blk w' k 179 #[nopV b, .pointer (some ⟨h, 0, none⟩), .int .u64 0, .pointer (some ⟨f, 0, none⟩), .iface 124 (.pointer (some ⟨d, 0, none⟩)), .nilIface] ∧ Blk w' h 159 #[.int .u32 0] ∧
    Blk w' b 198 #[strRd r, .int .i64 (q : Int), .int .i64 (q : Int), .int .i64 ((q + pk : Nat) : Int), .int .i64 (pk : Int)] ∧
    Blk w' d 198 #[strRd r, .int .i64 ((q + pk : Nat) : Int), .int .i64 ((q + pk : Nat) : Int), .int .i64 ((q + pk + 16 : Nat) : Int), .int .i64 ((16 : Nat) : Int)] ∧ Fr [] w w'
set_option maxRecDepth 100000 in
set_option maxHeartbeats 4000000 in
theorem open_fileD (E : Errs) (w : World) (f z r P : Nat) (nm : ByteArray) (fl m pk sz crc : Nat) (s : ByteArray) (hE : Env E w) (h18 : 14 ≤ w.heap.size) (hF : FC w f z r P nm fl m pk sz crc) (hr : StrR w r s) (hs : s.size ≤ 4000000000) (hP : P + 30 ≤ s.size) (hsig : num ((s.data.toList.drop P).take 4) = 67324752) (hnm : nm.size ≤ 4000000000) (hsl : slash nm = false) (hm0 : m = 0) (hdd : fl / 8 % 2 = 1) (hfl : fl ≤ 65535) (hpk : bodyAt s.data.toList P + pk ≤ 3000000000) :
    Calls Tryz.prog 54 #[.pointer (some ⟨f, 0, none⟩)] w (OpenD w f r (bodyAt s.data.toList P) pk) := by
  have hm : m ≤ 65535 := by omega
  have HM0 := Lib.hid hm0
  have HDF := Lib.hid hdd
  clear hm0 hdd
  have HFB := Lib.hid (fbo_ok w f r P s hr hF.c20 hF.c21 hF.lf hs hP hsig)
  have HC := Lib.hid hF
  have HE := Lib.hid hE
  clear hr hF hsig hE
  obtain ⟨q, hq0⟩ : ∃ q : Nat, bodyAt s.data.toList P = q := ⟨_, rfl⟩
  rw [hq0] at hpk ⊢
  unfold bodyAt at hq0
  go_enter Tryz.func54, Tryz.ntmps54
  go_wp2_with fail
  refine HFB.out.mono ?_
  rintro e w1 ⟨rfl, hf⟩
  have h1 := HC.out.fr hf (by simp) (by simp)
  have c0 := h1.c0
  have c15 := h1.c15
  have HF := Lib.hid hf
  have H1 := Lib.hid h1
  clear hf h1
  generalize num ((s.data.toList.drop (P + 26)).take 2) = n at hq0 ⊢
  generalize num ((s.data.toList.drop (P + 28)).take 2) = x at hq0 ⊢
  go_wp2_with fail
  refine (hasSuf w1 nm hnm).mono ?_
  rintro e w2 ⟨rfl, m2, rfl⟩
  rw [hsl]
  have hqi : IntKind.i64.wrap ((P : Int) + (30 + (n : Int) + (x : Int))) = (q : Int) := by rw [show ((P : Int) + (30 + (n : Int) + (x : Int))) = (q : Int) by omega]; exact IntWalk.i64_in _ (by omega)
  go_wp2_with fail
  obtain ⟨w3, hw3⟩ : ∃ w3, w1.drewN m2 = w3 := ⟨_, rfl⟩
  have h3 : FC w3 f z r P nm fl m pk sz crc := by rw [← hw3]; exact H1.out.fr ((Fr.refl [] _).drewN _) (by simp) (by simp)
  have hf3 : Fr [] w w3 := by rw [← hw3]; exact HF.out.drewN _
  rw [hw3]
  clear hw3 c0 c15
  have c20 := h3.c20
  have c21 := h3.c21
  have H3 := Lib.hid h3
  have HF3 := Lib.hid hf3
  clear h3 hf3
  rename_i K hK
  have HQ := Lib.hid (newSection_any r q pk (by omega) w3.drew)
  have KS := Lib.hid (show ∀ o, (w3.drew.alloc o).cell? ⟨f, 20, none⟩ = some (strRd r) ∧ (w3.drew.alloc o).cell? ⟨f, 21, none⟩ = some (.int .i64 (P : Int)) from fun o => by
    have := H3.out.fr (((Fr.refl [] _).drew).alloc o) (by simp) (by simp)
    exact ⟨this.c20, this.c21⟩)
  go_region_held3 (fun w' => w'.cell? ⟨f, 20, none⟩ = some (strRd r) ∧ w'.cell? ⟨f, 21, none⟩ = some (.int .i64 (P : Int)))
    ((first | exact ⟨c20, c21⟩ | exact KS.out _ | assumption))
    ((first | (go_at_call 63; (with_reducible refine HQ.out.mono ?_); rintro e w2 ⟨rfl, rfl⟩)))
  refine hK _ _ ?_
  have hB4 : Blk (w3.alloc (.cells #[strRd r, .int .i64 (q : Int), .int .i64 (q : Int), .int .i64 ((q : Int) + (pk : Int)), .int .i64 (pk : Int)] 198)).drew w3.heap.size 198 #[strRd r, .int .i64 (q : Int), .int .i64 (q : Int), .int .i64 ((q + pk : Nat) : Int), .int .i64 (pk : Int)] := by
    rw [Int.natCast_add]
    exact (Blk.new w3 _ _).drew
  have hf4 := (HF3.out.alloc (.cells #[strRd r, .int .i64 (q : Int), .int .i64 (q : Int), .int .i64 ((q : Int) + (pk : Int)), .int .i64 (pk : Int)] 198)).drew
  have hsz := HF3.out.size
  generalize (w3.alloc (.cells #[strRd r, .int .i64 (q : Int), .int .i64 (q : Int), .int .i64 ((q : Int) + (pk : Int)), .int .i64 (pk : Int)] 198)).drew = w4 at hB4 hf4 ⊢
  obtain ⟨b, hb⟩ : ∃ b, w3.heap.size = b := ⟨_, rfl⟩
  rw [hb] at hB4 hsz ⊢
  have h4 := HC.out.fr hf4 (by simp) (by simp)
  have c6 := h4.c6
  have c19 := h4.c19
  have HB4 := Lib.hid hB4
  have HF4 := Lib.hid hf4
  have H4 := Lib.hid h4
  clear hB4 hf4 h4 HQ KS c20 c21 hqi
  go_wp2_with fail
  go_quiet (refine Calls.quiet_of (decomp _ z m hm H4.out.z3))
  clear c6 c19
  rw [if_pos HM0.out]
  have x1 := nopNil (w4.drewN nq)
  have c5 := H4.out.c5
  go_wp2_with fail
  refine (nopCloser_c b (w4.drewN nq)).mono ?_
  rintro e w5 ⟨rfl, m5, rfl⟩
  have H5 := Lib.hid (hasDD (w4.drewN (nq + m5)) f fl hfl c5)
  clear x1
  go_wp2_with fail
  refine H5.out.mono ?_
  rintro e w6 ⟨rfl, rfl⟩
  rw [show decide (fl / 8 % 2 = 1) = true from decide_eq_true HDF.out]
  have hB6 : Blk (w4.drewN (nq + m5)) b 198 #[strRd r, .int .i64 (q : Int), .int .i64 (q : Int), .int .i64 ((q + pk : Nat) : Int), .int .i64 (pk : Int)] := HB4.out.drewN _
  have hF6 : Fr [] w (w4.drewN (nq + m5)) := HF4.out.drewN _
  generalize w4.drewN (nq + m5) = w6 at hB6 hF6 ⊢
  have h6 := HC.out.fr hF6 (by simp) (by simp)
  have c20 := h6.c20
  have c21 := h6.c21
  have HB6 := Lib.hid hB6
  have HF6 := Lib.hid hF6
  have H6 := Lib.hid h6
  have hqi : IntKind.i64.wrap ((P : Int) + (30 + (n : Int) + (x : Int))) = (q : Int) := by rw [show ((P : Int) + (30 + (n : Int) + (x : Int))) = (q : Int) by omega]; exact IntWalk.i64_in _ (by omega)
  obtain ⟨q2, hq2⟩ : ∃ q2, q + pk = q2 := ⟨_, rfl⟩
  have hqk : IntKind.i64.wrap ((q : Int) + (pk : Int)) = (q2 : Int) := by rw [IntWalk.i64_in _ (by omega)]; omega
  have HQ2 := Lib.hid (show Calls Tryz.prog 63 #[strRd r, .int .i64 (q2 : Int), .int .i64 16] w6.drew fun e w' => e = .returned (.pointer (some ⟨w6.drew.heap.size, 0, none⟩)) ∧
      w' = w6.drew.alloc (.cells #[strRd r, .int .i64 (q2 : Int), .int .i64 (q2 : Int), .int .i64 ((q2 + 16 : Nat) : Int), .int .i64 16] 198) from newSection_any r q2 16 (by omega) w6.drew)
  have KS := Lib.hid (show ∀ o, (w6.drew.alloc o).cell? ⟨f, 20, none⟩ = some (strRd r) ∧ (w6.drew.alloc o).cell? ⟨f, 21, none⟩ = some (.int .i64 (P : Int)) from fun o => by
    have := H6.out.fr (((Fr.refl [] _).drew).alloc o) (by simp) (by simp)
    exact ⟨this.c20, this.c21⟩)
  have HQ2E := Lib.hid hq2
  clear hB6 hF6 h6 hq2
  go_wp2_with fail
  rename_i K2 hK2
  go_region_held3 (fun w' => w'.cell? ⟨f, 20, none⟩ = some (strRd r) ∧ w'.cell? ⟨f, 21, none⟩ = some (.int .i64 (P : Int)))
    ((first | exact ⟨c20, c21⟩ | exact KS.out _ | assumption))
    ((first | (go_at_call 63; (with_reducible refine HQ2.out.mono ?_); rintro e w2 ⟨rfl, rfl⟩)))
  refine hK2 _ _ ?_
  have hD : Blk (w6.alloc (.cells #[strRd r, .int .i64 (q2 : Int), .int .i64 (q2 : Int), .int .i64 ((q2 : Int) + 16), .int .i64 16] 198)).drew w6.heap.size 198 #[strRd r, .int .i64 (q2 : Int), .int .i64 (q2 : Int), .int .i64 ((q2 + 16 : Nat) : Int), .int .i64 ((16 : Nat) : Int)] := by
    rw [Int.natCast_add]
    exact (Blk.new w6 _ _).drew
  have hB7 := (HB6.out.alloc (.cells #[strRd r, .int .i64 (q2 : Int), .int .i64 (q2 : Int), .int .i64 ((q2 : Int) + 16), .int .i64 16] 198)).drew
  have hF7 := (HF6.out.alloc (.cells #[strRd r, .int .i64 (q2 : Int), .int .i64 (q2 : Int), .int .i64 ((q2 : Int) + 16), .int .i64 16] 198)).drew
  have hs7 : (w6.alloc (.cells #[strRd r, .int .i64 (q2 : Int), .int .i64 (q2 : Int), .int .i64 ((q2 : Int) + 16), .int .i64 16] 198)).drew.heap.size = w6.heap.size + 1 := World.size_alloc _ _
  generalize (w6.alloc (.cells #[strRd r, .int .i64 (q2 : Int), .int .i64 (q2 : Int), .int .i64 ((q2 : Int) + 16), .int .i64 16] 198)).drew = w7 at hD hB7 hF7 hs7 ⊢
  have HD7 := Lib.hid hD
  have HB7 := Lib.hid hB7
  have HF7 := Lib.hid hF7
  have l6 := HB6.out.lt
  have z6 := HF6.out.size
  have HS7 := Lib.hid hs7
  clear hD hB7 hF7 hs7 HQ2 KS c20 c21
  go_wp2_with fail
  go_ret2
  have hs7 := HS7.out
  refine ⟨w7.heap.size + 1, w7.heap.size, b, w6.heap.size, rfl, by omega, by omega, hsz, z6, by omega, by omega, by omega, by omega, by omega, by omega, ?_, ?_, ?_, ?_, ?_⟩
  · have := Blk.new (w7.alloc (.cells #[.int .u32 0] 159)) 179 #[nopV b, .pointer (some ⟨w7.heap.size, 0, none⟩), .int .u64 0, .pointer (some ⟨f, 0, none⟩), .iface 124 (.pointer (some ⟨w6.heap.size, 0, none⟩)), .nilIface]
    rw [World.size_alloc] at this
    exact this
  · exact (Blk.new w7 _ _).alloc _
  · exact (HB7.out.alloc _).alloc _
  · rw [HQ2E.out]
    exact (HD7.out.alloc _).alloc _
  · exact (HF7.out.alloc _).alloc _
end Go.Proofs.YtalgnjkdoaaacaaGreatDoor

/- io.ReadFull over an io.SectionReader, with the section's place behind it; readDataDescriptor. -/
namespace Go.Proofs.YtalgnjkdoaaacaaGreatDoor
open Go Go.RowKit
open Zp
/-- What ReadFull comes to. -/
inductive RdT (E : Errs) (b g : Nat) (t : TypeId) (r base M : Nat) (s : ByteArray) (off lim N : Nat) (cur : Array Value) (w : World) : Ending → World → Prop
  | all (w' : World) (h : off + N ≤ lim) (hb : Blk w' g t (spl cur 0 ((s.data.toList.drop off).take N))) (hs : Blk w' b 198 (secC r base (off + N) lim M)) (hf : Fr [b, g] w w') :
      RdT E b g t r base M s off lim N cur w (.returned (.tuple #[.int .i64 (N : Int), .nilIface])) w'
  | part (w' : World) (j : Nat) (h : lim < off + N) (hp : off < lim) (hf : Fr [b, g] w w') :
      RdT E b g t r base M s off lim N cur w (.returned (.tuple #[.int .i64 (j : Int), errv E.unx])) w'
set_option maxRecDepth 100000 in
set_option maxHeartbeats 4000000 in
theorem readAtLeast_secT (E : Errs) (b r g c base off lim M N : Nat) (t : TypeId) (s : ByteArray) (cur : Array Value) (w : World) (hE : Env E w) (hB : Blk w b 198 (secC r base off lim M)) (hr : StrR w r s)
    (hg : Blk w g t cur) (hfit : N ≤ cur.size) (hN : N ≤ 4000000) (hnc : N ≤ c) (hne : g ≠ b ∧ g ≠ r ∧ b ≠ r) (h18 : 14 ≤ g ∧ 14 ≤ b) (hw18 : 14 ≤ w.heap.size) (hol : off < lim) (hl : lim ≤ s.size) (hs : s.size ≤ 4000000000) :
    Calls Tryz.prog 144 #[.iface 124 (.pointer (some ⟨b, 0, none⟩)), .slice (some ⟨g, 0, none⟩) N c, .int .i64 (N : Int)] w fun e w' => RdT E b g t r base M s off lim N cur w e w' := by
  have he := fun w => eql_same E.eof w
  have hna : ∀ W, (nilAhead 452 124 (.pointer (some ⟨b, 0, none⟩)) "Read").run Tryz.prog W = .ok (some false) W := fun W => by kernel_rfl
  have hS : ∀ s ∈ [b, g], 14 ≤ s := by simp; omega
  have H0 := Lib.hid hB
  have HG := Lib.hid hg
  have HE := Lib.hid hE
  have HSR := Lib.hid hr
  clear hB hg hE hr
  go_enter Tryz.func144, Tryz.ntmps144
  go_wp2_with fail
  go_loopw [6, 7, 8] (fun v6 v7 _ wr => RAS E b r g t s base off lim M N cur w v6 v7 wr) (fun v6 v7 _ _ => 2 * (N - (intOf v6).toNat) + (match v7 with | .nilIface => 1 | _ => 0))
  case atStart => exact ⟨0, Nat.zero_le _, by omega, rfl, .inl rfl, by rw [List.take_zero, spl_nil]; exact HG.out, H0.out, Fr.refl _ _⟩
  case round =>
    obtain ⟨j, hj, hjs, rfl, hv, hb, hr, hf⟩ := hrel
    have HB := Lib.hid hb
    have HR := Lib.hid hr
    have HF := Lib.hid hf
    have HSR1 := Lib.hid (Blk.fr HSR.out hf (by simp; omega))
    clear hb hr hf
    rcases hv with rfl | ⟨rfl, h1, h2⟩
    · by_cases hlt : j < N
      · have i1 : (j : Int) ≤ (N : Int) := by omega
        have i2 : (j : Int) ≤ (c : Int) := by omega
        have i3 : ¬ c = j := by omega
        by_cases hps : off + j < lim
        · obtain ⟨k, hk⟩ : ∃ k, k = min (N - j) (lim - (off + j)) := ⟨_, rfl⟩
          have k1 : k ≤ N - j := by omega
          have k2 : k ≤ lim - (off + j) := by omega
          have k3 : 0 < k := by omega
          have H := Lib.hid (fun (w' : World) (hw : Fr [] wr w') => secRead_fr b r g j (N - j) (c - j) base (off + j) lim M k s (spl cur 0 ((s.data.toList.drop off).take j)) t w' (HR.out.fr hw (by simp)) (Blk.fr HSR1.out hw (by simp)) (HB.out.fr hw (by simp)) (by omega)
            (by omega) (by rw [spl_size (by rw [List.length_take]; omega)]; omega) hps hl hs (fun h => hne.1 h.symm) hk)
          clear hk
          go_wp2_with fail
          go_region_held3 (fun _ => True) (trivial) ((go_at_call 195; (with_reducible refine (H.out _ ((Fr.refl [] wr).drew)).mono ?_); rintro e w1 ⟨rfl, hsr⟩; have HSR2 := Lib.hid hsr; clear hsr))
          go_wp2_with fail
          have hl : ((s.data.toList.drop off).take j).length = j := by rw [List.length_take, List.length_drop, ← Lib.size_eq]; omega
          refine ⟨⟨j + k, by omega, by omega, rfl, .inl rfl, ?_, ?_, ?_⟩, by simp [intOf]; omega⟩
          · rw [← take_take_drop, ← spl_spl (by rw [hl]) (by rw [take_take_drop, List.length_take]; omega)]
            have := HSR2.out.dst
            rw [Nat.zero_add]
            exact this
          · rw [← Nat.add_assoc]
            exact HSR2.out.sec
          · exact HF.out.drew.trans HSR2.out.fr (fun _ h => .inl h)
        · have hps' : off + j = lim := by omega
          have H := Lib.hid (fun (w' : World) (hw : Fr [] wr w') => secRead_eof E b (.slice (some ⟨g, j, none⟩) (N - j) (c - j)) (strRd r) base (off + j) lim M w' (HE.out.fr (HF.out.trans hw (by simp)) hS hw18) (HR.out.fr hw (by simp)) (by omega))
          have HP := Lib.hid hps'
          clear hps'
          go_wp2_with fail
          go_region_held3 (fun _ => True) (trivial) ((go_at_call 195; (with_reducible refine (H.out _ ((Fr.refl [] wr).drew)).mono ?_); rintro e w1 ⟨rfl, hfe⟩; have HFE := Lib.hid hfe; clear hfe))
          go_wp2_with fail
          refine ⟨⟨j, hj, hjs, rfl, .inr ⟨rfl, HP.out, hlt⟩, Blk.fr HB.out.drew HFE.out (by simp), Blk.fr HR.out.drew HFE.out (by simp), HF.out.drew.trans HFE.out (by simp)⟩, by simp [intOf]⟩
      · go_wp2_with fail
        go_ret2
        obtain rfl : j = N := by omega
        exact RdT.all wr hjs HB.out HR.out HF.out
    · have hEr := HE.out.fr HF.out hS hw18
      have x1 := hEr.eof
      have x2 := hEr.unx
      have HS := Lib.hid h1
      clear h1 hEr
      have h0 : ¬ j = 0 := by have := HS.out; omega
      go_wp2_with fail
      go_ret2
      exact RdT.part wr j (by have := HS.out; omega) (by have := HS.out; omega) HF.out
set_option maxRecDepth 100000 in
theorem readFull_secT (E : Errs) (b r g c base off lim M N : Nat) (t : TypeId) (s : ByteArray) (cur : Array Value) (w : World) (hE : Env E w) (hB : Blk w b 198 (secC r base off lim M)) (hr : StrR w r s)
    (hg : Blk w g t cur) (hfit : N ≤ cur.size) (hN : N ≤ 4000000) (hnc : N ≤ c) (hne : g ≠ b ∧ g ≠ r ∧ b ≠ r) (h18 : 14 ≤ g ∧ 14 ≤ b) (hw18 : 14 ≤ w.heap.size) (hol : off < lim) (hl : lim ≤ s.size) (hs : s.size ≤ 4000000000) :
    Calls Tryz.prog 115 #[.iface 124 (.pointer (some ⟨b, 0, none⟩)), .slice (some ⟨g, 0, none⟩) N c] w fun e w' => RdT E b g t r base M s off lim N cur w e w' := by
  have H := Lib.hid (readAtLeast_secT E b r g c base off lim M N t s cur w hE hB hr hg hfit hN hnc hne h18 hw18 hol hl hs)
  clear hE hB hg hr
  go_enter Tryz.func115, Tryz.ntmps115
  go_wp2_with fail
  refine H.out.mono ?_
  rintro e w1 h
  cases h <;> (go_wp2_with fail; go_ret2)
  · exact RdT.all _ ‹_› ‹_› ‹_› ‹_›
  · exact RdT.part _ _ ‹_› ‹_› ‹_›
theorem RB.startC {w1 : World} {g n c : Nat} {t t' : TypeId} {cur : Array Value} {hd : List UInt8} (h : Blk w1 g t (spl cur 0 hd)) (hl : hd.length = n) (hn : n ≤ cur.size) (hc : n ≤ c) :
    RB (w1.alloc (.cells #[.slice (some ⟨g, 0, none⟩) n c] t')) ⟨w1.heap.size, 0, none⟩ g 0 n c hd := by
  have hB := Blk.new w1 t' #[.slice (some ⟨g, 0, none⟩) n c]
  exact ⟨⟨_, hB.at_ 0 _ rfl, fun _ => rfl⟩, hB.frozen 0, Rd.spl (h.alloc _) (by omega), hl, hc, Nat.ne_of_lt h.lt⟩
set_option maxRecDepth 100000 in
set_option maxHeartbeats 8000000 in
/-- A data descriptor with its signature and the file's own checksum. -/
theorem rddOk (E : Errs) (w : World) (b r f base off lim M v : Nat) (s : ByteArray) (l12 : By) (hE : Env E w) (hB : Blk w b 198 (secC r base off lim M)) (hr : StrR w r s) (hbr : b ≠ r) (hb18 : 14 ≤ b) (hw18 : 14 ≤ w.heap.size) (hol : off + 16 = lim) (hl : lim ≤ s.size) (hs : s.size ≤ 4000000000)
    (c12 : w.cell? ⟨f, 12, none⟩ = some (.int .u32 (v : Int))) (hf : f < w.heap.size) (hfb : f ≠ b) (h4 : num ((s.data.toList.drop off).take 4) = 134695760) (hv : num ((s.data.toList.drop (off + 4)).take 4) = v) :
    Calls Tryz.prog 216 #[.iface 124 (.pointer (some ⟨b, 0, none⟩)), .pointer (some ⟨f, 0, none⟩)] w fun e w' => e = .returned .nilIface ∧ Fr [b] w w' := by
  have lb := hB.lt
  have lr := Blk.lt hr
  have HE := Lib.hid hE
  have HB := Lib.hid hB
  have HR := Lib.hid hr
  have H1 := Lib.hid (readFull_secT E b r w.heap.size 16 base off lim M 4 345 s (zeros 16) (w.alloc (.cells (zeros 16) 345)) (hE.fr ((Fr.refl [] w).alloc _) (by simp) hw18) (hB.alloc _) (Blk.alloc hr _)
    (Blk.new _ _ _) (by rw [zeros_size]; omega) (by omega) (by omega) ⟨by omega, by omega, hbr⟩ ⟨hw18, hb18⟩ (by rw [World.size_alloc]; omega) (by omega) hl hs)
  clear hE hB hr
  go_enter Tryz.func216, Tryz.ntmps216
  go_wp2_with fail
  rw [show (#[.int .u8 0, .int .u8 0, .int .u8 0, .int .u8 0, .int .u8 0, .int .u8 0, .int .u8 0, .int .u8 0, .int .u8 0, .int .u8 0, .int .u8 0, .int .u8 0, .int .u8 0, .int .u8 0, .int .u8 0, .int .u8 0] : Array Value) = zeros 16 from by kernel_rfl]
  refine H1.out.mono ?_
  rintro e w1 h
  cases h with
  | part _ j h hp hf => exact absurd h (by omega)
  | all _ h hb1 hs1 hf1 =>
    have hl4 : ((s.data.toList.drop off).take 4).length = 4 := by rw [List.length_take, List.length_drop, ← Lib.size_eq]; omega
    have hz1 : w.heap.size + 1 ≤ w1.heap.size := by have := hf1.size; rw [World.size_alloc] at this; exact this
    have hF1 : Fr [b] w w1 := ((Fr.refl [b] w).alloc _).trans hf1 (by simp)
    have R1 := RB.startC (c := 16) (t' := 194) hb1 hl4 (by rw [zeros_size]; omega) (by omega)
    have HR1 := Lib.hid R1
    have HB1 := Lib.hid hb1
    have HS1 := Lib.hid hs1
    have HF1 := Lib.hid hF1
    clear hb1 hs1 hf1 hF1 R1
    go_wp2_with fail
    refine (rb32d _ _ _ _ _ _ _ HR1.out (by rw [hl4]; decide)).mono ?_
    rintro e w2 ⟨rfl, hn⟩
    rw [show List.take 4 (List.take 4 (s.data.toList.drop off)) = List.take 4 (s.data.toList.drop off) by rw [List.take_take]; rfl, h4]
    have hf12 : Fr [] w1 w2 := ((Fr.refl [] w1).alloc _).trans hn.fr (by simp)
    have hF2 : Fr [b] w w2 := HF1.out.trans hf12 (by simp)
    have hE2 := HE.out.fr hF2 (by simp; omega) hw18
    have hb2 := HB1.out.fr hf12 (by simp)
    have hs2 := HS1.out.fr hf12 (by simp)
    have hr2 := Blk.fr HR.out hF2 (by simp; exact fun e => hbr e.symm)
    have hcs : (spl (zeros 16) 0 ((s.data.toList.drop off).take 4)).size = 16 := by rw [spl_size (by rw [hl4, zeros_size]; omega), zeros_size]
    have H2 := Lib.hid (readFull_secT E b r w.heap.size 16 base (off + 4) lim M 12 345 s _ w2 hE2 hs2 hr2 hb2 (by rw [hcs]; omega) (by omega) (by omega) ⟨by omega, by omega, hbr⟩ ⟨hw18, hb18⟩ (Nat.le_trans hw18 hF2.size) (by omega) hl hs)
    have HF2 := Lib.hid hF2
    have hz2 : w.heap.size + 1 ≤ w2.heap.size := by have := hf12.size; omega
    clear hn hf12 hF2 hE2 hb2 hs2 hr2 h
    go_wp2_with fail
    refine H2.out.mono ?_
    rintro e w3 h
    cases h with
    | part _ j h hp hf => exact absurd h (by omega)
    | all _ h hb3 hs3 hf3 =>
      have hl12 : ((s.data.toList.drop (off + 4)).take 12).length = 12 := by rw [List.length_take, List.length_drop, ← Lib.size_eq]; omega
      have hF3 : Fr [b] w w3 := HF2.out.trans hf3 (by simp)
      have hz3 : w.heap.size + 1 ≤ w3.heap.size := by have := hf3.size; omega
      have R3 := RB.startC (c := 16) (t' := 194) hb3 hl12 (by rw [hcs]; omega) (by omega)
      have hF4 : Fr [b] w (w3.alloc (.cells #[.slice (some ⟨w.heap.size, 0, none⟩) 12 16] 194)) := hF3.alloc _
      have hc4 : (w3.alloc (.cells #[.slice (some ⟨w.heap.size, 0, none⟩) 12 16] 194)).drew.cell? ⟨f, 12, none⟩ = some (.int .u32 (v : Int)) := (hF4.drew.cell (p := ⟨f, 12, none⟩) hf (by simpa using hfb)).trans c12
      have hlf : f < w3.heap.size := by omega
      have HQ := Lib.hid (rb32d _ _ _ _ _ _ (w3.alloc (.cells #[.slice (some ⟨w.heap.size, 0, none⟩) 12 16] 194)).drew ⟨R3.cell, R3.free, R3.rd.drew, R3.len, R3.cap, R3.ne⟩ (by rw [hl12]; decide))
      rw [show List.take 4 (List.take 12 (s.data.toList.drop (off + 4))) = List.take 4 (s.data.toList.drop (off + 4)) by rw [List.take_take]; rfl, hv] at HQ
      have HF4 := Lib.hid hF4
      have KS := Lib.hid (fun (w5 : World) (hf : Fr [w3.heap.size] (w3.alloc (.cells #[.slice (some ⟨w.heap.size, 0, none⟩) 12 16] 194)).drew w5) => (hf.cell (p := ⟨f, 12, none⟩) (by simp; omega) (by simp; omega)).trans hc4)
      clear hb3 hs3 hf3 hF3 R3 hF4 h
      go_wp2_with fail
      rename_i K hK
      go_region_held3 (fun w' => w'.cell? ⟨f, 12, none⟩ = some (.int .u32 (v : Int)))
        ((first | exact hc4 | assumption))
        ((first | (go_at_call 89; (with_reducible refine HQ.out.mono ?_); rintro e w5 ⟨rfl, hn5⟩; have HN5 := Lib.hid hn5.fr; have k5 := KS.out _ hn5.fr; clear hn5)))
      refine hK _ _ ?_
      go_wp2_with fail
      go_ret
      exact ⟨rfl, HF4.out.drew.trans HN5.out (by simp; omega)⟩
end Go.Proofs.YtalgnjkdoaaacaaGreatDoor

/- checksumReader.Read of a file with a data descriptor, where bytes are left. -/
namespace Go.Proofs.YtalgnjkdoaaacaaGreatDoor
open Go Go.RowKit
open Zp
/-- The blocks of an open file: nr bytes are read, c is their checksum. -/
structure CKD (w : World) (k h b r f q off lim pk nr c : Nat) (s : ByteArray) (sz crc d : Nat) : Prop where
  k_ : Blk w k 179 #[nopV b, .pointer (some ⟨h, 0, none⟩), .int .u64 (nr : Int), .pointer (some ⟨f, 0, none⟩), .iface 124 (.pointer (some ⟨d, 0, none⟩)), .nilIface]
  h_ : Blk w h 159 #[.int .u32 (c : Int)]
  b_ : Blk w b 198 #[strRd r, .int .i64 (q : Int), .int .i64 (off : Int), .int .i64 (lim : Int), .int .i64 (pk : Int)]
  r_ : StrR w r s
  c12 : w.cell? ⟨f, 12, none⟩ = some (.int .u32 (crc : Int))
  c16 : w.cell? ⟨f, 16, none⟩ = some (.int .u64 (sz : Int))
  lf : f < w.heap.size
set_option maxRecDepth 100000 in
set_option maxHeartbeats 4000000 in
theorem ckd_data (w : World) (k h b r f q off lim pk nr c g n cp kk : Nat) (s : ByteArray) (sz crc d : Nat) (cur : Array Value) (t : TypeId) (hK : CKD w k h b r f q off lim pk nr c s sz crc d) (hg : Blk w g t cur) (hn : 0 < n) (hnc : n ≤ cp) (hcp : cp ≤ 4000000000) (hfit : n ≤ cur.size) (hol : off < lim) (hl : lim ≤ s.size) (hs : s.size ≤ 4000000000) (hkk : kk = min n (lim - off))
    (hne : g ≠ k ∧ g ≠ h ∧ g ≠ b ∧ g ≠ f ∧ g ≠ r ∧ k ≠ h ∧ k ≠ b ∧ k ≠ f ∧ k ≠ r ∧ h ≠ b ∧ h ≠ f ∧ h ≠ r ∧ b ≠ f ∧ b ≠ r) (hc : c < 4294967296) (hnr : nr + kk ≤ sz) (hsz : sz ≤ 4294967295) (l : By) (hl0 : (s.data.toList.drop off).take kk = l) :
    Calls Tryz.prog 215 #[.pointer (some ⟨k, 0, none⟩), .slice (some ⟨g, 0, none⟩) n cp] w fun e w' => e = .returned (.tuple #[.int .i64 (kk : Int), .nilIface]) ∧ CKD w' k h b r f q (off + kk) lim pk (nr + kk) (crcOf c l) s sz crc d ∧ Blk w' g t (spl cur 0 l) ∧ Fr [k, h, b, g] w w' := by
  have k0 := hK.k_.at_ 0 (nopV b) rfl
  have k5 := hK.k_.at_ 5 .nilIface rfl
  have hR := (secRead_data b r g 0 n cp q off lim pk kk s cur t w hK.b_ (hK.r_.at_ 0 _ rfl) hg hn hnc (by omega) hol hl hs (Ne.symm hne.2.2.1) hkk)
  rw [hl0] at hR
  have HR := Lib.hid hR
  clear hR
  have HK := Lib.hid hK
  have HG := Lib.hid hg
  have HN := Lib.hid hne
  have hk1 : kk ≤ n := by omega
  have hk2 : off + kk ≤ lim := by omega
  have hk3 : 0 < kk := by omega
  clear hK hg hne hkk
  go_enter Tryz.func215, Tryz.ntmps215
  go_wp2_with fail
  refine HR.out.mono ?_
  rintro e w1 ⟨rfl, m1, hw1⟩
  have hll : l.length = kk := by rw [← hl0, List.length_take, List.length_drop, ← Lib.size_eq]; omega
  obtain ⟨n1, n2, n3, n4, n5, n6, n7, n8, n9, n10, n11, n12, n13, n14⟩ := HN.out
  have hF1 : Fr [g, b] w w1 := by rw [hw1]; exact (((Fr.refl _ w).setRow (.inl (by simp)) _).setCell (.inl (by simp)) _).drewN _
  have hg1 : Blk w1 g t (spl cur 0 l) := by rw [hw1]; exact ((HG.out.row _).far n3 _).drewN _
  have hb1 : Blk w1 b 198 #[strRd r, .int .i64 (q : Int), .int .i64 ((off + kk : Nat) : Int), .int .i64 (lim : Int), .int .i64 (pk : Int)] := by rw [hw1]; exact ((HK.out.b_.rowFar n3.symm _).set_ 2 _).drewN _
  have hk1 := HK.out.k_.fr hF1 (by simp [n1.symm, n7])
  have hh1 := HK.out.h_.fr hF1 (by simp [n2.symm, n10])
  have hr1 : StrR w1 r s := Blk.fr HK.out.r_ hF1 (by simp [n5.symm, n14.symm])
  have k1 := hk1.at_ 1 _ rfl
  have k1' : w1.drew.cell? ⟨k, 1, none⟩ = some (.pointer (some ⟨h, 0, none⟩)) := k1
  have HQ := Lib.hid (hashWrite h c 159 g 0 kk cp l w1.drew hh1.drew ((Rd.spl hg1 (by omega)).drew) hll (by omega) hcp hc hg1.lt hh1.lt)
  have hkc : (kk : Int) ≤ (cp : Int) := by omega
  have hk0 : (0 : Int) ≤ (kk : Int) := by omega
  have lk := hk1.lt
  have KS := Lib.hid (show ∀ w2, Fr [h] w1.drew w2 → w2.cell? ⟨k, 1, none⟩ = some (.pointer (some ⟨h, 0, none⟩)) from fun w2 hf => (hf.cell (p := ⟨k, 1, none⟩) lk (by simpa using n6)).trans k1')
  have HW := Lib.hid hw1
  have HF1 := Lib.hid hF1
  have HG1 := Lib.hid hg1
  have HB1 := Lib.hid hb1
  have HK1 := Lib.hid hk1
  have HH1 := Lib.hid hh1
  have HR1 := Lib.hid hr1
  clear hw1 hF1 hg1 hb1 hk1 hh1 hr1 n1 n2 n3 n4 n5 n6 n7 n8 n9 n10 n11 n12 n13 n14 k0 k5
  go_wp2_with fail
  rename_i K hK
  go_region_held3 (fun w' => w'.cell? ⟨k, 1, none⟩ = some (.pointer (some ⟨h, 0, none⟩)))
    ((first | exact k1 | assumption))
    ((first | (go_at_call 204; (with_reducible refine HQ.out.mono ?_); rintro e w2 ⟨rfl, hb2, hf2⟩; have k1b := KS.out _ hf2)))
  refine hK _ _ ?_
  obtain ⟨n1, n2, n3, n4, n5, n6, n7, n8, n9, n10, n11, n12, n13, n14⟩ := HN.out
  have hf2' : Fr [h] w1 w2 := ((Fr.refl [h] w1).drew).trans hf2 (by simp)
  have hF1' : Fr [g, b, h] w w1 := HF1.out.mono (by simp)
  have hF2 : Fr [g, b, h] w w2 := hF1'.trans hf2' (by simp)
  have hk2 : Blk w2 k _ _ := HK1.out.fr hf2' (by simpa using n6)
  have hg2 : Blk w2 g _ _ := HG1.out.fr hf2' (by simpa using n2)
  have hb2' : Blk w2 b _ _ := HB1.out.fr hf2' (by simpa using n10.symm)
  have hr2 : StrR w2 r s := Blk.fr HR1.out hf2' (by simpa using n12.symm)
  have d12 := (hF2.cell (p := ⟨f, 12, none⟩) HK.out.lf (by simp [n4.symm, n13.symm, n11.symm])).trans HK.out.c12
  have d16 := (hF2.cell (p := ⟨f, 16, none⟩) HK.out.lf (by simp [n4.symm, n13.symm, n11.symm])).trans HK.out.c16
  have e2 := hk2.at_ 2 (.int .u64 (nr : Int)) rfl
  have fz := hk2.frozen 2
  have hk3' := hk2.set_ 2 (.int .u64 ((nr + kk : Nat) : Int))
  have g2 := hk3'.at_ 2 (.int .u64 ((nr + kk : Nat) : Int)) rfl
  have g3 := hk3'.at_ 3 (.pointer (some ⟨f, 0, none⟩)) rfl
  have g16 := (World.cell?_setCell_other w2 ⟨k, 2, none⟩ ⟨f, 16, none⟩ (.int .u64 ((nr + kk : Nat) : Int)) (by intro e; injection e with e; exact n8 e)).trans d16
  have HF2 := Lib.hid hF2
  have HK2 := Lib.hid hk3'
  have HG2 := Lib.hid hg2
  have HB2 := Lib.hid hb2'
  have HH2 := Lib.hid hb2
  have HR2 := Lib.hid hr2
  have HD12 := Lib.hid d12
  have HD16 := Lib.hid d16
  have hle : (nr : Int) + (kk : Int) ≤ (sz : Int) := by omega
  have hszi : (sz : Int) ≤ 4294967295 := by omega
  clear hf2' hF1' hF2 hk2 hg2 hb2' hr2 d12 d16 hk3' hb2 hf2 k1b n1 n2 n3 n4 n5 n6 n7 n8 n9 n10 n11 n12 n13 n14 HQ KS k1 k1' hK
  go_upto_region 6 with fail
  try rw [show (nr : Int) + (kk : Int) = ((nr + kk : Nat) : Int) from (Int.natCast_add _ _).symm]
  have HF3 := Lib.hid (show Fr [k, h, b, g] w (w2.setCell ⟨k, 2, none⟩ (.int .u64 ((nr + kk : Nat) : Int))) from (HF2.out.mono (by simp)).setCell (.inl (by simp)) _)
  have HG3 := Lib.hid (HG2.out.far (p := ⟨k, 2, none⟩) HN.out.1 (.int .u64 ((nr + kk : Nat) : Int)))
  have HB3 := Lib.hid (HB2.out.far (p := ⟨k, 2, none⟩) HN.out.2.2.2.2.2.2.1.symm (.int .u64 ((nr + kk : Nat) : Int)))
  have HH3 := Lib.hid (HH2.out.far (p := ⟨k, 2, none⟩) HN.out.2.2.2.2.2.1.symm (.int .u64 ((nr + kk : Nat) : Int)))
  have HR3 := Lib.hid (Blk.far HR2.out (p := ⟨k, 2, none⟩) HN.out.2.2.2.2.2.2.2.2.1.symm (.int .u64 ((nr + kk : Nat) : Int)))
  have g12 := Lib.hid ((World.cell?_setCell_other w2 ⟨k, 2, none⟩ ⟨f, 12, none⟩ (.int .u64 ((nr + kk : Nat) : Int)) (by intro e; injection e with e; exact HN.out.2.2.2.2.2.2.2.1 e)).trans HD12.out)
  have HG16 := Lib.hid g16
  clear e2 fz HG2 HB2 HH2 HR2 HD12 HD16 HF2
  generalize w2.setCell ⟨k, 2, none⟩ (.int .u64 ((nr + kk : Nat) : Int)) = w3 at *
  have hng : ¬ ((sz : Int) < ((nr + kk : Nat) : Int)) := by omega
  obtain ⟨N, hN⟩ : ∃ N : Nat, nr + kk = N := ⟨_, rfl⟩
  rw [hN] at hng g2 HK2 ⊢
  go_quiet (fail)
  clear g2 g3 g16
  go_wp2_with fail
  go_ret2
  refine ⟨rfl, ⟨HK2.out.drewN _, HH3.out.drewN _, HB3.out.drewN _, HR3.out.drewN _, g12.out, HG16.out, ?_⟩, HG3.out.drewN _, HF3.out.drewN _⟩
  exact Nat.lt_of_lt_of_le HK.out.lf (HF3.out.drewN _).size
end Go.Proofs.YtalgnjkdoaaacaaGreatDoor

/- checksumReader.Read of a file with a data descriptor, at its end. -/
namespace Go.Proofs.YtalgnjkdoaaacaaGreatDoor
open Go Go.RowKit
open Zp
set_option maxRecDepth 100000 in
set_option maxHeartbeats 4000000 in
theorem ckd_end (E : Errs) (B0 : Nat) (w : World) (k h b r f q off lim pk g n cp o2 : Nat) (s : ByteArray) (nr c d : Nat) (hE : Env E w) (hEB : EB E B0 w) (hB : B0 ≤ k ∧ B0 ≤ h ∧ B0 ≤ d) (hK : CKD w k h b r f q off lim pk nr c s nr c d) (cur : Array Value) (t : TypeId) (hg : Blk w g t cur) (hcp : cp ≤ 4000000000) (hol : lim ≤ off)
    (hne : g ≠ k ∧ g ≠ h ∧ k ≠ h ∧ k ≠ f ∧ h ≠ f) (hc : c < 4294967296) (hsz : nr ≤ 4294967295) (hD : Blk w d 198 (secC r o2 o2 (o2 + 16) 16)) (hdd : d ≠ k ∧ d ≠ h ∧ d ≠ f ∧ d ≠ r ∧ h ≠ r ∧ k ≠ r) (hl2 : o2 + 16 ≤ s.size) (hs : s.size ≤ 4000000000) (h4 : num ((s.data.toList.drop o2).take 4) = 134695760) (hv : num ((s.data.toList.drop (o2 + 4)).take 4) = c) :
    Calls Tryz.prog 215 #[.pointer (some ⟨k, 0, none⟩), .slice (some ⟨g, 0, none⟩) n cp] w fun e w' => e = .returned (.tuple #[.int .i64 0, errv E.eof]) ∧ Fr [k, h, d] w w' := by
  have k0 := hK.k_.at_ 0 (nopV b) rfl
  have k5 := hK.k_.at_ 5 .nilIface rfl
  have HR := Lib.hid (secRead_end E b (.slice (some ⟨g, 0, none⟩) n cp) (strRd r) q off lim pk w hE hK.b_ hol)
  have HE := Lib.hid hE
  have HEB := Lib.hid hEB
  have HK := Lib.hid hK
  have HN := Lib.hid hne
  have k1 := hK.k_.at_ 1 (.pointer (some ⟨h, 0, none⟩)) rfl
  have lk := hK.k_.lt
  have lh := hK.h_.lt
  have hQ : ∀ m, Calls Tryz.prog 204 #[.pointer (some ⟨h, 0, none⟩), .slice (some ⟨g, 0, none⟩) 0 cp] ((w.drewN m).drew) _ := fun m => hashWrite h c 159 g 0 0 cp [] ((w.drewN m).drew) ((hK.h_.drewN m).drew) (Rd.nil_ _ _ _) rfl (Nat.zero_le _) hcp hc hg.lt lh
  have HQ := Lib.hid hQ
  have HDB := Lib.hid hD
  have HDD := Lib.hid hdd
  clear hK hg hne hQ hE hEB hD hdd
  go_enter Tryz.func215, Tryz.ntmps215
  go_wp2_with fail
  refine HR.out.mono ?_
  rintro e w1 ⟨rfl, m1, hw1⟩
  have k1a : w1.cell? ⟨k, 1, none⟩ = some (.pointer (some ⟨h, 0, none⟩)) := by rw [hw1]; exact k1
  have hcp0 : (0 : Int) ≤ (cp : Int) := by omega
  have KS := Lib.hid (show ∀ w2, Fr [h] w1.drew w2 → w2.cell? ⟨k, 1, none⟩ = some (.pointer (some ⟨h, 0, none⟩)) from fun w2 hf => (hf.cell (p := ⟨k, 1, none⟩) (by rw [hw1]; exact lk) (by simpa using HN.out.2.2.1)).trans k1a)
  have HQ1 := Lib.hid (HQ.out m1)
  rw [← hw1] at HQ1
  have HW := Lib.hid hw1
  clear k0 k5 HQ hw1 k1
  go_wp2_with fail
  rename_i K hK
  go_region_held3 (fun w' => w'.cell? ⟨k, 1, none⟩ = some (.pointer (some ⟨h, 0, none⟩)))
    ((first | exact k1a | assumption))
    ((first | (go_at_call 204; (with_reducible refine HQ1.out.mono ?_); rintro e w2 ⟨rfl, hb2, hf2⟩; have k1b := KS.out _ hf2)))
  refine hK _ _ ?_
  obtain ⟨n1, n2, n3, n4, n5⟩ := HN.out
  have hfw : Fr [h] w w2 := by
    have h1 : Fr [h] w w1.drew := by rw [HW.out]; exact ((Fr.refl [h] w).drewN _).drew
    exact h1.trans hf2 (by simp)
  have hk2 : Blk w2 k _ _ := HK.out.k_.fr hfw (by simpa using n3)
  rw [crcOf_nil] at hb2
  have d12 := (hfw.cell (p := ⟨f, 12, none⟩) HK.out.lf (by simpa using n5.symm)).trans HK.out.c12
  have d16 := (hfw.cell (p := ⟨f, 16, none⟩) HK.out.lf (by simpa using n5.symm)).trans HK.out.c16
  have e2 := hk2.at_ 2 (.int .u64 (nr : Int)) rfl
  have fz := hk2.frozen 2
  have hk3 := hk2.set_ 2 (.int .u64 (nr : Int))
  have hh3 := hb2.far (p := ⟨k, 2, none⟩) n3.symm (.int .u64 (nr : Int))
  have g12 := (World.cell?_setCell_other w2 ⟨k, 2, none⟩ ⟨f, 12, none⟩ (.int .u64 (nr : Int)) (by intro e; injection e with e; exact n4 e)).trans d12
  have g16 := (World.cell?_setCell_other w2 ⟨k, 2, none⟩ ⟨f, 16, none⟩ (.int .u64 (nr : Int)) (by intro e; injection e with e; exact n4 e)).trans d16
  have hf3 : Fr [k, h] w (w2.setCell ⟨k, 2, none⟩ (.int .u64 (nr : Int))) := (hfw.mono (by simp)).setCell (.inl (by simp)) _
  have HK3 := Lib.hid hk3
  have HH3 := Lib.hid hh3
  have G12 := Lib.hid g12
  have G16 := Lib.hid g16
  have HF3 := Lib.hid hf3
  have hnri : (nr : Int) ≤ 4294967295 := by omega
  clear hk3 hh3 g12 g16 hf3 d12 d16 hk2 hb2 hf2 hfw k1b k1a n1 n2 n3 n4 n5 KS HQ1
  go_upto_region 6 with fail
  have hE3 := HE.out.fr HF3.out (by have := HEB.out.b18; simp; omega) (by have := HEB.out.b18; have := HEB.out.le; omega)
  have hEB3 := HEB.out.fr HF3.out (by simp; omega)
  generalize w2.setCell ⟨k, 2, none⟩ (.int .u64 (nr : Int)) = w3 at *
  have k2' := HK3.out.at_ 2 (.int .u64 (nr : Int)) rfl
  have k3' := HK3.out.at_ 3 (.pointer (some ⟨f, 0, none⟩)) rfl
  have f16 := G16.out
  have hng : ¬ ((nr : Int) < (nr : Int)) := by omega
  have HE3 := Lib.hid hE3
  have HEB3 := Lib.hid hEB3
  clear hE3 hEB3 e2 fz
  go_quiet (fail)
  have xe := HE3.out.eof
  have xs := eql_same' E.eof (w3.drewN nq)
  go_wp2_with fail
  clear xs
  have xu := HE3.out.unx
  have k4' := HK3.out.at_ 4 (.iface 124 (.pointer (some ⟨d, 0, none⟩))) rfl
  go_quiet (fail)
  go_wp2_with fail
  have k3'' := HK3.out.at_ 3 (.pointer (some ⟨f, 0, none⟩)) rfl
  obtain ⟨dd1, dd2, dd3, dd4, dd5, dd6⟩ := HDD.out
  have HD3 := Lib.hid (HDB.out.fr HF3.out (by simp; omega))
  have HR3 := Lib.hid (Blk.fr HK.out.r_ HF3.out (by simp; omega))
  have lf3 := Nat.lt_of_lt_of_le HK.out.lf HF3.out.size
  have hb18 := HEB.out.b18
  have hB0 := HEB.out.le
  have hz3 := HF3.out.size
  have HQD := Lib.hid (fun m => rddOk E (w3.drewN m) d r f o2 o2 (o2 + 16) 16 c s [] (HE3.out.fr ((Fr.refl [] w3).drewN m) (by simp) (by omega)) (HD3.out.drewN m) (Blk.drewN HR3.out m) dd4 (by omega) (by show 14 ≤ w3.heap.size; omega) rfl hl2 hs G12.out lf3 (fun e => dd3 e.symm) h4 hv)
  have KS := Lib.hid (fun (m : Nat) (w5 : World) (hf : Fr [d] (w3.drewN m) w5) => (show w5.cell? ⟨k, 4, none⟩ = some (.iface 124 (.pointer (some ⟨d, 0, none⟩))) ∧ w5.cell? ⟨k, 3, none⟩ = some (.pointer (some ⟨f, 0, none⟩)) from
    ⟨(hf.cell (p := ⟨k, 4, none⟩) HK3.out.lt (by simp; exact fun e => dd1 e.symm)).trans k4', (hf.cell (p := ⟨k, 3, none⟩) HK3.out.lt (by simp; exact fun e => dd1 e.symm)).trans k3''⟩))
  rename_i K hK
  go_region_held3 (fun w' => w'.cell? ⟨k, 4, none⟩ = some (.iface 124 (.pointer (some ⟨d, 0, none⟩))) ∧ w'.cell? ⟨k, 3, none⟩ = some (.pointer (some ⟨f, 0, none⟩)))
    ((first | exact ⟨k4', k3''⟩ | assumption))
    ((first | (go_at_call 216; (with_reducible refine (HQD.out _).mono ?_); rintro e w5 ⟨rfl, hf5⟩; have HF5 := Lib.hid hf5; have k5 := KS.out _ _ hf5; clear hf5)))
  refine hK _ _ ?_
  have hk5 := (HK3.out.drewN _).fr HF5.out (by simp; exact fun e => dd1 e.symm)
  have hh5 := (HH3.out.drewN _).fr HF5.out (by simp; exact fun e => dd2 e.symm)
  have hf5c : w5.cell? ⟨f, 12, none⟩ = some (.int .u32 (c : Int)) := (HF5.out.cell (p := ⟨f, 12, none⟩) lf3 (by simp; exact fun e => dd3 e.symm)).trans G12.out
  have hF35 : Fr [k, h, d] w w5 := ((HF3.out.mono (by simp)).trans (((Fr.refl [d] w3).drewN _).trans HF5.out (fun s hs => .inl hs)) (by simp))
  clear k5 k3'' k4' k3' k2' f16 xe xu
  have HE5 := Lib.hid (HE3.out.fr (((Fr.refl [d] w3).drewN _).trans HF5.out (fun s hs => .inl hs)) (by simp; omega) (by omega))
  have hv1 := hk5.at_ 1 (.pointer (some ⟨h, 0, none⟩)) rfl
  have hv3 := hk5.at_ 3 (.pointer (some ⟨f, 0, none⟩)) rfl
  have hv5 := hk5.at_ 5 .nilIface rfl
  have hz5 := hk5.frozen 5
  have xeo := HE5.out.eof
  have hce : ((c : Int) != (c : Int)) = false := by simp
  have HH5 := Lib.hid hh5
  have HF35 := Lib.hid hF35
  clear hh5 hF35 hk5
  go_wp2_with fail
  go_quiet (exact (hashSum h c 159 _ (HH5.out.drewN _)).mono (fun _ _ h => ⟨h.1, _, h.2⟩))
  go_wp2_with fail
  go_ret2
  refine ⟨?_, (HF35.out.setCell (.inl (by simp)) _).drewN _⟩
  rfl
end Go.Proofs.YtalgnjkdoaaacaaGreatDoor

/- impl.all over a file with a data descriptor. -/
namespace Go.Proofs.YtalgnjkdoaaacaaGreatDoor
open Go Go.RowKit
open Zp
theorem CKD.fr {S : List Nat} {w w' : World} {k h b r f q off lim pk nr c : Nat} {s : ByteArray} {sz crc d : Nat} (hK : CKD w k h b r f q off lim pk nr c s sz crc d) (hf : Fr S w w') (hS : k ∉ S ∧ h ∉ S ∧ b ∉ S ∧ r ∉ S ∧ f ∉ S) : CKD w' k h b r f q off lim pk nr c s sz crc d :=
  ⟨hK.k_.fr hf hS.1, hK.h_.fr hf hS.2.1, hK.b_.fr hf hS.2.2.1, Blk.fr hK.r_ hf hS.2.2.2.1, (hf.cell (p := ⟨f, 12, none⟩) hK.lf hS.2.2.2.2).trans hK.c12, (hf.cell (p := ⟨f, 16, none⟩) hK.lf hS.2.2.2.2).trans hK.c16, Nat.lt_of_lt_of_le hK.lf hf.size⟩
/-- The loop's state: j bytes are read. -/
structure ALD (w0 : World) (k h b r f q pk : Nat) (s : ByteArray) (d o2 : Nat) (D : By) (j : Nat) (v : Value) (w : World) : Prop where
  ck : CKD w k h b r f q (q + j) (q + pk) pk j (crcOf 0 (D.take j)) s pk (crcOf 0 D) d
  sd : Blk w d 198 (secC r o2 o2 (o2 + 16) 16)
  ob : OB w w0.heap.size (w0.heap.size + 1) v (D.take j)
  bg : ∃ cur, Blk w (w0.heap.size + 1) 5 cur ∧ cur.size = 512
  fr : Fr [k, h, b] w0 w
set_option maxRecDepth 100000 in
set_option maxHeartbeats 4000000 in
theorem all_fileD (E : Errs) (B0 : Nat) (w : World) (k h b r f q pk d o2 : Nat) (s : ByteArray) (D : By) (hE : Env E w) (hEB : EB E B0 w) (hB : B0 ≤ k ∧ B0 ≤ h ∧ B0 ≤ b ∧ B0 ≤ d) (hK : CKD w k h b r f q q (q + pk) pk 0 0 s pk (crcOf 0 D) d) (hSD : Blk w d 198 (secC r o2 o2 (o2 + 16) 16)) (hdd : d ≠ k ∧ d ≠ h ∧ d ≠ f ∧ d ≠ r ∧ d ≠ b) (hl2 : o2 + 16 ≤ s.size) (h4 : num ((s.data.toList.drop o2).take 4) = 134695760) (hv : num ((s.data.toList.drop (o2 + 4)).take 4) = crcOf 0 D)
    (hne : k ≠ h ∧ k ≠ b ∧ k ≠ f ∧ k ≠ r ∧ h ≠ b ∧ h ≠ f ∧ h ≠ r ∧ b ≠ f ∧ b ≠ r) (hs : s.size ≤ 4000000000) (hq : q + pk ≤ s.size) (hpk : pk ≤ 4294967295) (hD : (s.data.toList.drop q).take pk = D) :
    Calls Tryz.prog 41 #[.iface 177 (.pointer (some ⟨k, 0, none⟩))] w fun e w' => e = .returned (.tuple #[.string ⟨D.toArray⟩, .int .i64 0]) ∧ Fr [k, h, b, d] w w' := by
  have hmk : ∀ w, (Instr.makeSlice 76 (.int .i64 512) (.int .i64 512)).run Tryz.prog w = .ok (.slice (some ⟨w.heap.size, 0, none⟩) 512 512) (w.alloc (.cells (zeros 512) 5)) := fun w => run_makeBytes 512 512 (Nat.le_refl _) (by decide) w
  have hmk1 := hmk (w.alloc (.cells #[] 5))
  have ho : OB ((w.alloc (.cells #[] 5)).alloc (.cells (zeros 512) 5)) w.heap.size (w.heap.size + 1) (.slice (some ⟨w.heap.size, 0, none⟩) 0 0) (D.take 0) := ⟨w.heap.size, 0, #[], rfl, Nat.le_refl _, by omega, (Blk.new w _ _).alloc _, Nat.le_refl _, by unfold maxLen; omega, rfl, rfl⟩
  have hbg : Blk ((w.alloc (.cells #[] 5)).alloc (.cells (zeros 512) 5)) (w.heap.size + 1) 5 (zeros 512) := by
    have := Blk.new (w.alloc (.cells #[] 5)) 5 (zeros 512)
    rw [World.size_alloc] at this
    exact this
  have hf0 : Fr [k, h, b] w ((w.alloc (.cells #[] 5)).alloc (.cells (zeros 512) 5)) := ((Fr.refl _ _).alloc _).alloc _
  have hk0 : CKD ((w.alloc (.cells #[] 5)).alloc (.cells (zeros 512) 5)) k h b r f q (q + 0) (q + pk) pk 0 (crcOf 0 (D.take 0)) s pk (crcOf 0 D) d := by
    rw [List.take_zero, crcOf_nil]
    have hf : Fr [] w ((w.alloc (.cells #[] 5)).alloc (.cells (zeros 512) 5)) := ((Fr.refl _ _).alloc _).alloc _
    exact ⟨hK.k_.fr hf (by simp), hK.h_.fr hf (by simp), hK.b_.fr hf (by simp), Blk.fr hK.r_ hf (by simp), (hf.cell (p := ⟨f, 12, none⟩) hK.lf (by simp)).trans hK.c12, (hf.cell (p := ⟨f, 16, none⟩) hK.lf (by simp)).trans hK.c16, Nat.lt_of_lt_of_le hK.lf hf.size⟩
  have HA := Lib.hid (show ALD w k h b r f q pk s d o2 D 0 (.slice (some ⟨w.heap.size, 0, none⟩) 0 0) ((w.alloc (.cells #[] 5)).alloc (.cells (zeros 512) 5)) from ⟨hk0, hSD.fr ((Fr.refl [] w).alloc _ |>.alloc _) (by simp), ho, ⟨_, hbg, zeros_size _⟩, hf0⟩)
  have HE := Lib.hid hE
  have HEB := Lib.hid hEB
  have HK := Lib.hid hK
  have HDD := Lib.hid hdd
  have hdl := hSD.lt
  clear hSD hdd ho hbg hf0 hk0 hE hEB hK
  go_enter Tryz.func41, Tryz.ntmps41
  go_wp2_with fail
  go_loopw [4] (fun v4 wr => ∃ j : Nat, j ≤ pk ∧ ALD w k h b r f q pk s d o2 D j v4 wr) (fun v4 _ => pk - slLen v4)
  case atStart => exact ⟨0, by omega, HA.out⟩
  case round =>
    obtain ⟨j, hj, hal⟩ := hrel
    obtain ⟨hck, hsd, hob, ⟨cur, hbg, hcs⟩, hfr⟩ := hal
    have lk := HK.out.k_.lt
    have lh := HK.out.h_.lt
    have lb := HK.out.b_.lt
    have lr := Blk.lt HK.out.r_
    have lf := HK.out.lf
    by_cases hlt : j < pk
    · obtain ⟨kk, hkk⟩ : ∃ kk, min 512 (q + pk - (q + j)) = kk := ⟨_, rfl⟩
      have hk1 : kk ≤ 512 := by omega
      have hk2 : j + kk ≤ pk := by omega
      have hk3 : 0 < kk := by omega
      obtain ⟨l, hl0⟩ : ∃ l, (s.data.toList.drop (q + j)).take kk = l := ⟨_, rfl⟩
      have HQ := Lib.hid (ckd_data wr k h b r f q (q + j) (q + pk) pk j (crcOf 0 (D.take j)) (w.heap.size + 1) 512 512 kk s pk (crcOf 0 D) d cur 5 hck hbg (by omega) (by omega) (by omega) (by omega) (by omega) hq hs hkk.symm ⟨by omega, by omega, by omega, by omega, by omega, hne⟩ (crcOf_lt _ (by omega) _) (by omega) hpk l hl0)
      have HO := Lib.hid hob
      have HF := Lib.hid hfr
      have HKK := Lib.hid hkk
      have HL0 := Lib.hid hl0
      have HSD := Lib.hid hsd
      obtain ⟨dd1, dd2, dd3, dd4, dd5⟩ := HDD.out
      clear hck hob hbg hfr hkk hl0 hsd
      have hll : l.length = kk := by rw [← HL0.out, List.length_take, List.length_drop, ← Lib.size_eq]; omega
      have hDl : D.length = pk := by rw [← hD, List.length_take, List.length_drop, ← Lib.size_eq]; omega
      have hjl : (D.take j).length = j := by rw [List.length_take]; omega
      go_wp2_with fail
      refine HQ.out.mono ?_
      rintro e w2 ⟨rfl, hck2, hbg2, hf2⟩
      have hz2 := HF.out.size
      have hz3 := hf2.size
      obtain ⟨v', w3, hrun, ho3, g', hg1, hg2, hf3⟩ := append_b w2 w.heap.size (w.heap.size + 1) u4 (D.take j) l (w.heap.size + 1) 0 512 (HO.out.fr hf2 (by simp; omega)) (Rd.spl hbg2 (by omega)) (by omega) (by omega) hbg2.lt
      rw [hll] at hrun
      have hf4 : Fr [k, h, b] w w3 := (HF.out.trans hf2 (by simp <;> omega)).trans hf3 (by simp <;> omega)
      have hu4 : slLen u4 = j := by
        obtain ⟨_, _, e, _⟩ := HO.out.rd
        rw [e]; exact hjl
      have hT : D.take (j + kk) = D.take j ++ l := by rw [List.take_add, ← HL0.out, ← hD, List.drop_take, List.drop_drop, List.take_take, List.take_take, Nat.min_eq_left (by omega), Nat.min_eq_left (by omega)]
      have HT := Lib.hid hT
      clear hT
      have hb18 := HEB.out.b18
      have x1 := (HE.out.fr hf4 (by simp; omega) (Nat.le_trans hb18 HEB.out.le)).eof
      have x2 := nil_eql E.eof w3
      have HF4 := Lib.hid hf4
      have hbg3 : Blk w3 (w.heap.size + 1) 5 (spl cur 0 l) := hbg2.fr hf3 (by simp; omega)
      have HBG3 := Lib.hid hbg3
      have hck3 : CKD w3 k h b r f q (q + j + kk) (q + pk) pk (j + kk) (crcOf (crcOf 0 (D.take j)) l) s pk (crcOf 0 D) d := hck2.fr hf3 (by simp; omega)
      have HSD3 := Lib.hid ((HSD.out.fr hf2 (by simp; omega)).fr hf3 (by simp; omega))
      have HCK3 := Lib.hid hck3
      clear hf4 hbg3 hck3
      have HCK := Lib.hid hck2
      have HBG := Lib.hid hbg2
      have HF2 := Lib.hid hf2
      have HO3 := Lib.hid ho3
      have HF3 := Lib.hid hf3
      have hkc : (kk : Int) ≤ 512 := by omega
      clear hck2 hbg2 hf2 ho3 hf3 HQ HO hmk hmk1 HA
      go_wp2_with (at_builtin; refine wpList_append_run rfl _ _ 76 rfl _ _ _ _ rfl rfl hrun ?_)
      have hv' : slLen v' = j + kk := by
        obtain ⟨_, _, e, _⟩ := HO3.out.rd
        rw [e]; show (D.take j ++ l).length = _; rw [List.length_append]; omega
      refine ⟨⟨j + kk, by omega, ?_, HSD3.out, ?_, ⟨_, HBG3.out, by rw [spl_size (by omega)]; exact hcs⟩, HF4.out⟩, by omega⟩
      · rw [HT.out, crcOf_append, ← Nat.add_assoc]
        exact HCK3.out
      · rw [HT.out]
        exact HO3.out
    · obtain rfl : j = pk := by omega
      have hDl : D.length = j := by rw [← hD, List.length_take, List.length_drop, ← Lib.size_eq]; omega
      have hDt : D.take j = D := List.take_of_length_le (by omega)
      rw [hDt] at hck hob
      have hb18 := HEB.out.b18
      have h18 : 14 ≤ w.heap.size := Nat.le_trans hb18 HEB.out.le
      have hsz1 := hfr.size
      obtain ⟨dd1, dd2, dd3, dd4, dd5⟩ := HDD.out
      have hEr := HE.out.fr hfr (by simp; omega) h18
      have hEBr := HEB.out.fr hfr (by simp; omega)
      have HQ := Lib.hid (ckd_end E B0 wr k h b r f q (q + j) (q + j) j (w.heap.size + 1) 512 512 o2 s j (crcOf 0 D) d hEr hEBr ⟨hB.1, hB.2.1, hB.2.2.2⟩ hck cur 5 hbg (by omega) (by omega) ⟨by omega, by omega, hne.1, hne.2.2.1, hne.2.2.2.2.2.1⟩ (crcOf_lt _ (by omega) _) hpk hsd ⟨dd1, dd2, dd3, dd4, hne.2.2.2.2.2.2.1, hne.2.2.2.1⟩ hl2 hs h4 hv)
      have HO := Lib.hid hob
      have HF := Lib.hid hfr
      have HBG := Lib.hid hbg
      clear hck hob hfr hbg hEr hEBr hmk hmk1 HA
      go_wp2_with fail
      refine HQ.out.mono ?_
      rintro e w2 ⟨rfl, hf2⟩
      obtain ⟨v', w3, hrun, ho3, g', hg1, hg2, hf3⟩ := append_b w2 w.heap.size (w.heap.size + 1) u4 D [] (w.heap.size + 1) 0 512 (HO.out.fr hf2 (by simp; omega)) (fun i b hi => by simp at hi) (by simp; omega) (by have := hf2.size; omega) (HBG.out.fr hf2 (by simp; omega)).lt
      rw [List.append_nil] at ho3
      rw [List.length_nil] at hrun
      have hf4 : Fr [k, h, b, d] w w3 := ((HF.out.mono (by simp) : Fr [k, h, b, d] w wr).trans hf2 (by simp <;> omega)).trans hf3 (by simp <;> omega)
      have hE3 := HE.out.fr hf4 (by simp; omega) h18
      have hEB3 := HEB.out.fr hf4 (by simp; omega)
      have x1 := hE3.eof
      have hcv := ho3.str
      obtain ⟨gv, cv, rfl, -⟩ := ho3.rd
      have HO5 := Lib.hid ho3
      have HF4 := Lib.hid hf4
      have HE3 := Lib.hid hE3
      have HEB3 := Lib.hid hEB3
      clear hf2 hf3 hf4 hE3 hEB3 ho3 HQ HO HBG hDl hDt
      have t1 := eql_same' E.eof w3
      clear HE3 HEB3
      go_wp2_with (at_builtin; refine wpList_append_run rfl _ _ 76 rfl _ _ _ _ rfl rfl hrun ?_)
      go_ret2
      exact ⟨rfl, HF4.out⟩
end Go.Proofs.YtalgnjkdoaaacaaGreatDoor

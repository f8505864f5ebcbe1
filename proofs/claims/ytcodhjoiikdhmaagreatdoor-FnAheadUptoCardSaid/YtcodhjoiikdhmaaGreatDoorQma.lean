/- io.ReadFull over an io.SectionReader; readDirectoryHeader over one where no header stands. -/
import Derived.Test.YtcodhjoiikdhmaaGreatDoorQh
import Derived.Test.YtcodhjoiikdhmaaGreatDoorQral
import Derived.Test.YtcodhjoiikdhmaaGreatDoorQna
set_option linter.unusedVariables false
set_option linter.unusedSimpArgs false
namespace Go.Proofs.YtcodhjoiikdhmaaGreatDoor
open Go Go.RowKit
open Zp
abbrev secC (r base off lim N : Nat) : Array Value := #[strRd r, .int .i64 (base : Int), .int .i64 (off : Int), .int .i64 (lim : Int), .int .i64 (N : Int)]
/-- What a read of a section turns. -/
structure SecRd (w : World) (b g : Nat) (t : TypeId) (r base off lim M : Nat) (cur : Array Value) (w' : World) : Prop where
  dst : Blk w' g t cur
  sec : Blk w' b 128 (secC r base off lim M)
  fr : Fr [b, g] w w'
theorem secRead_fr (b r g o n c base off lim M k : Nat) (s : ByteArray) (cur : Array Value) (t : TypeId) (w : World)
    (hb : Blk w b 128 (secC r base off lim M))
    (hr : StrR w r s) (hg : Blk w g t cur) (hn : 0 < n) (hnc : n ≤ c) (hfit : o + n ≤ cur.size) (hol : off < lim) (hl : lim ≤ s.size) (hs : s.size ≤ 4000000000) (hbg : b ≠ g) (hk : k = min n (lim - off)) :
    Calls Tryz.prog 140 #[.pointer (some ⟨b, 0, none⟩), .slice (some ⟨g, o, none⟩) n c] w fun e w' =>
      e = .returned (.tuple #[.int .i64 (k : Int), .nilIface]) ∧ SecRd w b g t r base (off + k) lim M (spl cur o ((s.data.toList.drop off).take k)) w' := by
  refine (secRead_data b r g o n c base off lim M k s cur t w hb (Blk.at_ hr 0 _ rfl) hg hn hnc hfit hol hl hs hbg hk).mono ?_
  rintro e w' ⟨rfl, m, rfl⟩
  exact ⟨rfl, ((hg.row _).far (p := ⟨b, 2, none⟩) (fun h => hbg h.symm) _).drewN m, ((hb.rowFar hbg _).set_ 2 _).drewN m, (((Fr.refl _ _).setRow (.inl (by simp)) _).setCell (.inl (by simp)) _).drewN m⟩
theorem secRead_eof (E : Errs) (b : Nat) (v rd : Value) (base off lim N : Nat) (w : World) (hE : Env E w)
    (hb : Blk w b 128 #[rd, .int .i64 (base : Int), .int .i64 (off : Int), .int .i64 (lim : Int), .int .i64 (N : Int)]) (h : lim ≤ off) :
    Calls Tryz.prog 140 #[.pointer (some ⟨b, 0, none⟩), v] w fun e w' =>
      e = .returned (.tuple #[.int .i64 0, errv E.eof]) ∧ Fr [] w w' := by
  refine (secRead_end E b v rd base off lim N w hE hb h).mono ?_
  rintro e w' ⟨rfl, m, rfl⟩
  exact ⟨rfl, (Fr.refl _ _).drewN m⟩
def RAS (E : Errs) (b r g : Nat) (t : TypeId) (s : ByteArray) (base off lim M N : Nat) (cur : Array Value) (w : World) (v6 v7 : Value) (wr : World) : Prop :=
  ∃ j : Nat, j ≤ N ∧ off + j ≤ lim ∧ v6 = .int .i64 (j : Int) ∧ (v7 = .nilIface ∨ (v7 = errv E.eof ∧ off + j = lim ∧ j < N)) ∧ Blk wr g t (spl cur 0 ((s.data.toList.drop off).take j)) ∧ Blk wr b 128 (secC r base (off + j) lim M) ∧ Fr [b, g] w wr
/-- What ReadFull comes to. -/
inductive RdS (E : Errs) (b g : Nat) (t : TypeId) (s : ByteArray) (off lim N : Nat) (cur : Array Value) (w : World) : Ending → World → Prop
  | all (w' : World) (h : off + N ≤ lim) (hb : Blk w' g t (spl cur 0 ((s.data.toList.drop off).take N))) (hf : Fr [b, g] w w') :
      RdS E b g t s off lim N cur w (.returned (.tuple #[.int .i64 (N : Int), .nilIface])) w'
  | part (w' : World) (j : Nat) (h : lim < off + N) (hp : off < lim) (hf : Fr [b, g] w w') :
      RdS E b g t s off lim N cur w (.returned (.tuple #[.int .i64 (j : Int), errv E.unx])) w'
set_option maxRecDepth 100000 in
set_option maxHeartbeats 4000000 in
theorem readAtLeast_sec (E : Errs) (b r g c base off lim M N : Nat) (t : TypeId) (s : ByteArray) (cur : Array Value) (w : World) (hE : Env E w) (hB : Blk w b 128 (secC r base off lim M)) (hr : StrR w r s)
    (hg : Blk w g t cur) (hfit : N ≤ cur.size) (hN : N ≤ 4000000) (hnc : N ≤ c) (hne : g ≠ b ∧ g ≠ r ∧ b ≠ r) (h18 : 11 ≤ g ∧ 11 ≤ b) (hw18 : 11 ≤ w.heap.size) (hol : off < lim) (hl : lim ≤ s.size) (hs : s.size ≤ 4000000000) :
    Calls Tryz.prog 90 #[.iface 100 (.pointer (some ⟨b, 0, none⟩)), .slice (some ⟨g, 0, none⟩) N c, .int .i64 (N : Int)] w fun e w' => RdS E b g t s off lim N cur w e w' := by
  have he := fun w => eql_same E.eof w
  have hna : ∀ W, (nilAhead 347 100 (.pointer (some ⟨b, 0, none⟩)) "Read").run Tryz.prog W = .ok (some false) W := fun W => by kernel_rfl
  have hS : ∀ s ∈ [b, g], 11 ≤ s := by simp; omega
  have H0 := Lib.hid hB
  have HG := Lib.hid hg
  have HE := Lib.hid hE
  have HSR := Lib.hid hr
  clear hB hg hE hr
  go_enter Tryz.func90, Tryz.ntmps90
  go_wp2_with fail
  go_loopw [6, 7, 8] (fun v6 v7 _ wr => RAS E b r g t s base off lim M N cur w v6 v7 wr) (fun v6 v7 _ _ => 2 * (N - (intOf v6).toNat) + (match v7 with | .nilIface => 1 | _ => 0))
  case atStart => exact ⟨0, Nat.zero_le _, by omega, rfl, .inl rfl, by rw [List.take_zero, spl_nil]; exact HG.out, H0.out, Fr.refl _ _⟩
  case round =>
    obtain ⟨j, hj, hjs, rfl, hv, hb, hr, hf⟩ := hrel
    have HB := Lib.hid hb
    have HR := Lib.hid hr
    have HF := Lib.hid hf
    have HSR1 := Lib.hid (Blk.fr HSR.out hf (by simp; omega))
    clear hb hr hf
    rcases hv with rfl | ⟨rfl, h1, h2⟩
    · by_cases hlt : j < N
      · have i1 : (j : Int) ≤ (N : Int) := by omega
        have i2 : (j : Int) ≤ (c : Int) := by omega
        have i3 : ¬ c = j := by omega
        by_cases hps : off + j < lim
        · obtain ⟨k, hk⟩ : ∃ k, k = min (N - j) (lim - (off + j)) := ⟨_, rfl⟩
          have k1 : k ≤ N - j := by omega
          have k2 : k ≤ lim - (off + j) := by omega
          have k3 : 0 < k := by omega
          have H := Lib.hid (fun (w' : World) (hw : Fr [] wr w') => secRead_fr b r g j (N - j) (c - j) base (off + j) lim M k s (spl cur 0 ((s.data.toList.drop off).take j)) t w' (HR.out.fr hw (by simp)) (Blk.fr HSR1.out hw (by simp)) (HB.out.fr hw (by simp)) (by omega)
            (by omega) (by rw [spl_size (by rw [List.length_take]; omega)]; omega) hps hl hs (fun h => hne.1 h.symm) hk)
          clear hk
          go_wp2_with fail
          go_region_held3 (fun _ => True) (trivial) ((go_at_call 140; (with_reducible refine (H.out _ ((Fr.refl [] wr).drew)).mono ?_); rintro e w1 ⟨rfl, hsr⟩; have HSR2 := Lib.hid hsr; clear hsr))
          go_wp2_with fail
          have hl : ((s.data.toList.drop off).take j).length = j := by rw [List.length_take, List.length_drop, ← Lib.size_eq]; omega
          refine ⟨⟨j + k, by omega, by omega, rfl, .inl rfl, ?_, ?_, ?_⟩, by simp [intOf]; omega⟩
          · rw [← take_take_drop, ← spl_spl (by rw [hl]) (by rw [take_take_drop, List.length_take]; omega)]
            have := HSR2.out.dst
            rw [Nat.zero_add]
            exact this
          · rw [← Nat.add_assoc]
            exact HSR2.out.sec
          · exact HF.out.drew.trans HSR2.out.fr (fun _ h => .inl h)
        · have hps' : off + j = lim := by omega
          have H := Lib.hid (fun (w' : World) (hw : Fr [] wr w') => secRead_eof E b (.slice (some ⟨g, j, none⟩) (N - j) (c - j)) (strRd r) base (off + j) lim M w' (HE.out.fr (HF.out.trans hw (by simp)) hS hw18) (HR.out.fr hw (by simp)) (by omega))
          have HP := Lib.hid hps'
          clear hps'
          go_wp2_with fail
          go_region_held3 (fun _ => True) (trivial) ((go_at_call 140; (with_reducible refine (H.out _ ((Fr.refl [] wr).drew)).mono ?_); rintro e w1 ⟨rfl, hfe⟩; have HFE := Lib.hid hfe; clear hfe))
          go_wp2_with fail
          refine ⟨⟨j, hj, hjs, rfl, .inr ⟨rfl, HP.out, hlt⟩, Blk.fr HB.out.drew HFE.out (by simp), Blk.fr HR.out.drew HFE.out (by simp), HF.out.drew.trans HFE.out (by simp)⟩, by simp [intOf]⟩
      · go_wp2_with fail
        go_ret2
        obtain rfl : j = N := by omega
        exact RdS.all wr hjs HB.out HF.out
    · have hEr := HE.out.fr HF.out hS hw18
      have x1 := hEr.eof
      have x2 := hEr.unx
      have HS := Lib.hid h1
      clear h1 hEr
      have h0 : ¬ j = 0 := by have := HS.out; omega
      go_wp2_with fail
      go_ret2
      exact RdS.part wr j (by have := HS.out; omega) (by have := HS.out; omega) HF.out
set_option maxRecDepth 100000 in
theorem readFull_sec (E : Errs) (b r g c base off lim M N : Nat) (t : TypeId) (s : ByteArray) (cur : Array Value) (w : World) (hE : Env E w) (hB : Blk w b 128 (secC r base off lim M)) (hr : StrR w r s)
    (hg : Blk w g t cur) (hfit : N ≤ cur.size) (hN : N ≤ 4000000) (hnc : N ≤ c) (hne : g ≠ b ∧ g ≠ r ∧ b ≠ r) (h18 : 11 ≤ g ∧ 11 ≤ b) (hw18 : 11 ≤ w.heap.size) (hol : off < lim) (hl : lim ≤ s.size) (hs : s.size ≤ 4000000000) :
    Calls Tryz.prog 74 #[.iface 100 (.pointer (some ⟨b, 0, none⟩)), .slice (some ⟨g, 0, none⟩) N c] w fun e w' => RdS E b g t s off lim N cur w e w' := by
  have H := Lib.hid (readAtLeast_sec E b r g c base off lim M N t s cur w hE hB hr hg hfit hN hnc hne h18 hw18 hol hl hs)
  clear hE hB hg hr
  go_enter Tryz.func74, Tryz.ntmps74
  go_wp2_with fail
  refine H.out.mono ?_
  rintro e w1 h
  cases h <;> (go_wp2_with fail; go_ret2)
  · exact RdS.all _ ‹_› ‹_› ‹_›
  · exact RdS.part _ _ ‹_› ‹_› ‹_›
/-- No header is read. -/
def HdrBad (E : Errs) (b : Nat) (w : World) (e : Ending) (w' : World) : Prop := (e = .returned (errv E.unx) ∨ e = .returned (errv E.fmt)) ∧ Fr [b] w w'
set_option maxRecDepth 100000 in
set_option maxHeartbeats 2000000 in
theorem hdr_badS (E : Errs) (b r f base off lim M : Nat) (s : ByteArray) (w : World) (hE : Env E w) (hB : Blk w b 128 (secC r base off lim M)) (hr : StrR w r s) (hbr : b ≠ r) (hb18 : 11 ≤ b) (hw18 : 11 ≤ w.heap.size) (hol : off < lim) (hl : lim ≤ s.size) (hs : s.size ≤ 4000000000)
    (hbad : lim < off + 46 ∨ num ((s.data.toList.drop off).take 4) ≠ 33639248) :
    Calls Tryz.prog 65 #[.pointer (some ⟨f, 0, none⟩), .iface 100 (.pointer (some ⟨b, 0, none⟩))] w (HdrBad E b w) := by
  have lb := hB.lt
  have lr := Blk.lt hr
  have HE := Lib.hid hE
  have HBAD := Lib.hid hbad
  have HR := Lib.hid (readFull_sec E b r w.heap.size 46 base off lim M 46 149 s (zeros 46) (w.alloc (.cells (zeros 46) 149)) (hE.fr ((Fr.refl [] w).alloc _) (by simp) hw18) (hB.alloc _) (Blk.alloc hr _)
    (Blk.new _ _ _) (by rw [zeros_size]; omega) (by omega) (by omega) (by omega) (by omega) (by simp; omega) hol hl hs)
  clear hE hB hr hbad
  have hal : ∀ (ρ : Operand → Value) (W : World), (execOp ρ { dst := some 5, op := .alloc 149, type := 0, pos := "reader.go:283", after := #[], guard := none }).run Tryz.prog W = .ok (.value (.pointer (some ⟨W.heap.size, 0, none⟩))) (W.alloc (.cells (zeros 46) 149)) := fun ρ W => by kernel_rfl
  go_enter Tryz.func65, Tryz.ntmps65
  go_wp2_with fail
  apply wp_scope_straight
  apply wp_seq_k; intro K hK
  refine wp_region_list ?_
  change wpList _ _ _ [_] _ _
  refine Go.Great.wpList_runTo rfl (some 5) rfl _ _ (hal _ _) ?_
  go_wp2_with fail
  refine HR.out.mono ?_
  rintro e w1 h
  cases h with
  | part _ j h hp hf =>
    have HF := Lib.hid (((Fr.refl [b] w).alloc _).trans hf (by simp))
    clear hf
    go_wp2_with fail
    rw [Exit.noGoto_ret]
    go_ret
    exact ⟨.inl rfl, HF.out⟩
  | all _ h hb hf =>
    have HF := Lib.hid (((Fr.refl [b] w).alloc _).trans hf (by simp))
    have hl : ((s.data.toList.drop off).take 46).length = 46 := by rw [List.length_take, List.length_drop, ← Lib.size_eq]; omega
    have H32 := Lib.hid (rb32d _ _ _ _ _ _ _ (RB.start (t' := 124) hb hl (by rw [zeros_size]; omega)) (by omega))
    have hx : num (((s.data.toList.drop off).take 46).take 4) ≠ 33639248 := by
      rw [List.take_take]
      rcases HBAD.out with h2 | h2
      · omega
      · exact h2
    have HE1 := Lib.hid (fun w' (hw : Fr [w1.heap.size] (w1.alloc (.cells #[.slice (some ⟨w.heap.size, 0, none⟩) 46 46] 124)) w') => ((HE.out.fr HF.out (by simp; omega) hw18).fr ((Fr.refl [w1.heap.size] w1).alloc (.cells #[.slice (some ⟨w.heap.size, 0, none⟩) 46 46] 124)) (by have := HF.out.size; simp; omega) (by have := HF.out.size; omega)).fr hw (by have := HF.out.size; simp; omega) (by have := HF.out.size; simp; omega))
    obtain ⟨x, hxe⟩ : ∃ x, num (((s.data.toList.drop off).take 46).take 4) = x := ⟨_, rfl⟩
    rw [hxe] at hx
    clear hb hf
    go_wp2_with fail
    rw [hxe] at H32
    refine H32.out.mono ?_
    rintro e w2 ⟨rfl, hn⟩
    have hEr := HE1.out _ hn.fr
    have x1 := hEr.fmt
    have hne : ((x : Int) == 33639248) = false := by simp; omega
    have HF2 := Lib.hid ((HF.out.alloc _).trans hn.fr (by have := HF.out.size; simp; omega))
    clear hn hEr
    go_wp2_with fail
    rw [Exit.noGoto_ret]
    go_ret
    exact ⟨.inr rfl, HF2.out⟩
end Go.Proofs.YtcodhjoiikdhmaaGreatDoor

/- readDirectoryEnd where the archive stands behind something. -/
namespace Go.Proofs.YtcodhjoiikdhmaaGreatDoor
open Go Go.RowKit
open Zp
set_option maxRecDepth 100000 in
set_option maxHeartbeats 4000000 in
theorem rde39_B (E : Errs) (a : Act) (w : World) (r d B F : Nat) (s : ByteArray) (x4 x6 x8 x10 x12 x20 : Int) (cm : ByteArray) (hE : Env E w) (hr : StrR w r s) (hw18 : 11 ≤ w.heap.size) (hs4 : s.size ≤ 4000000000) (hB : 0 < B) (hB4 : B ≤ 4000000000) (hbad : EndAt s.data.toList F) (hdb : Blk w d 136 (deC x4 x6 x8 x10 x12 (F : Int) x20 cm))
    (hs : a.tmps.size = 211) (hd : a.defers = []) (h0 : slotOf a 0 = strRd r) (h1 : slotOf a 1 = .int .i64 (s.size : Int)) (h5 : slotOf a 5 = .int .i64 (B : Int)) (h15 : slotOf a 15 = .pointer (some ⟨d, 0, none⟩)) (Q : Exit → Act → World → Prop)
    (hQ : ∀ a' w', a'.defers = [] → a'.tmps.getD 4 undef = .pointer (some ⟨d, 0, none⟩) → a'.tmps.getD 5 undef = .int .i64 (B : Int) → a'.tmps.getD 6 undef = .nilIface → Fr [] w w' → Q .ret a' w') :
    (rdeG 39).wp Tryz.prog Q a w := by
  have hsl : s.data.toList.length = s.size := (Lib.size_eq s).symm
  obtain ⟨hF1, hF2⟩ := hbad
  rw [hsl] at hF1 hF2
  have HQ := Lib.hid hQ
  have HE := Lib.hid hE
  have HR := Lib.hid hr
  have HD := Lib.hid hdb
  have HF2 := Lib.hid hF2
  have e5 := hdb.at_ 5 (.int .u64 (F : Int)) rfl
  have hB0 : (0 : Int) < (B : Int) := by omega
  have v1 : IntKind.i64.wrap (F : Int) = (F : Int) := IntWalk.i64_in _ (by omega)
  have v2 : IntKind.i64.wrap ((s.size : Int) - (F : Int)) = ((s.size - F : Nat) : Int) := by rw [IntWalk.i64_in _ (by omega)]; omega
  have hsub : (s.size : Int) - (F : Int) = ((s.size - F : Nat) : Int) := by omega
  have HN := Lib.hid (newSection_any r F (s.size - F) (by omega) w)
  rw [frame211 hs hd, h0, h1, h5, h15]
  clear hQ hs hd h0 h1 h5 h15 hE hr hdb hF2
  obtain ⟨z, hz⟩ : ∃ z, s.size = z := ⟨_, rfl⟩
  have HZ := Lib.hid hz
  rw [hz] at hs4 hF1 v2 HN hsub ⊢
  clear hz
  conv => arg 2; whnf
  go_wp2_with fail
  refine HN.out.mono ?_
  rintro e w1 ⟨rfl, hw1⟩
  have hf1 : Fr [] w w1 := by rw [hw1]; exact (Fr.refl _ _).alloc _
  have hb1 : Blk w1 w.heap.size 128 (secC r F F (F + (z - F)) (z - F)) := by rw [hw1]; exact Blk.new _ _ _
  clear hw1
  rw [show F + (z - F) = z by omega] at hb1
  have HF1 := Lib.hid hf1
  have HB1 := Lib.hid hb1
  clear hf1 hb1
  have lr := Blk.lt HR.out
  have HH := Lib.hid (fun f (w2 : World) (hf : Fr [] w1 w2) => hdr_badS E w.heap.size r f F F z (z - F) s w2 (HE.out.fr (HF1.out.trans hf (by simp)) (by simp) hw18) (HB1.out.fr hf (by simp)) (Blk.fr HR.out (HF1.out.trans hf (by simp)) (by simp)) (by omega) hw18 (by have := HF1.out.size; have := hf.size; omega) hF1 (by rw [HZ.out]; omega) (by rw [HZ.out]; exact hs4) (by rw [← HZ.out]; exact HF2.out))
  go_wp2_with fail
  refine (HH.out _ _ ((Fr.refl [] w1).alloc _)).mono ?_
  rintro e w2 ⟨he, hf2⟩
  have HF3 := Lib.hid ((HF1.out.alloc _).trans hf2 (by simp))
  clear hf2
  rcases he with rfl | rfl
  · go_wp2_with fail
    exact HQ.out _ _ rfl rfl rfl rfl HF3.out
  · go_wp2_with fail
    exact HQ.out _ _ rfl rfl rfl rfl HF3.out
theorem DirEnd.fr {w w1 w2 : World} {T : By} {d : Nat} (h : DirEnd w T d w1) (hf : Fr [] w1 w2) : DirEnd w T d w2 := ⟨h.1, h.2.1.fr hf (by simp), h.2.2.trans hf (by simp)⟩
set_option maxRecDepth 100000 in
theorem rde_base (E : Errs) (w : World) (r e B : Nat) (s : ByteArray) (T : By) (hE : Env E w) (hr : StrR w r s) (hw18 : 11 ≤ w.heap.size) (hs : s.size ≤ 4000000000) (hok : OkEnd s.data.toList e) (hT : s.data.toList.drop e = T)
    (n10 : num ((T.drop 10).take 2) ≠ 65535) (n12 : num ((T.drop 12).take 4) ≠ 4294967295) (n16 : num ((T.drop 16).take 4) ≠ 4294967295) (hbase : e = num ((T.drop 12).take 4) + num ((T.drop 16).take 4) + B) (hbz : B = 0 ∨ EndAt s.data.toList (num ((T.drop 16).take 4))) :
    Calls Tryz.prog 62 #[strRd r, .int .i64 (s.size : Int)] w fun e w' => ∃ d, e = .returned (.tuple #[.pointer (some ⟨d, 0, none⟩), .int .i64 (B : Int), .nilIface]) ∧ DirEnd w T d w' := by
  refine rde_any E w r e B s T hE hr hw18 hs hok hT n10 n12 n16 hbase _ ?_
  intro d a' w' h1 h2 h3 h4 h5 h6 h7
  by_cases hB : B = 0
  · subst hB
    refine rde39_0 a' w' r s.size d h1 h2 h3 h4 h5 h6 _ ?_
    intro a2 k1 k2 k3 k4
    refine bodyPost_ret (v := .tuple #[.pointer (some ⟨d, 0, none⟩), .int .i64 0, .nilIface]) ?_ k1 ⟨d, rfl, h7⟩
    rw [results_tmp3 rfl, k2, k3, k4]
  · have hbad : EndAt s.data.toList (num ((T.drop 16).take 4)) := by
      rcases hbz with h | h
      · exact absurd h hB
      · exact h
    have hel := hok.fits
    rw [show s.data.toList.length = s.size from (Lib.size_eq s).symm] at hel
    refine rde39_B E a' w' r d B _ s _ _ _ _ _ _ _ (hE.fr h7.2.2 (by simp) hw18) (Blk.fr hr h7.2.2 (by simp)) (Nat.le_trans hw18 h7.2.2.size) hs (by omega) (by omega) hbad h7.2.1 h1 h2 h3 h4 h5 h6 _ ?_
    intro a2 w2 k1 k2 k3 k4 k5
    refine bodyPost_ret (v := .tuple #[.pointer (some ⟨d, 0, none⟩), .int .i64 (B : Int), .nilIface]) ?_ k1 ⟨d, rfl, h7.fr k5⟩
    rw [results_tmp3 rfl, k2, k3, k4]
end Go.Proofs.YtcodhjoiikdhmaaGreatDoor

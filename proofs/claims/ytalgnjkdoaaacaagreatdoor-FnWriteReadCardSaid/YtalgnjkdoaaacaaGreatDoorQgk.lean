/- readDirectoryHeader: a whole header. -/
import Derived.Test.YtalgnjkdoaaacaaGreatDoorQgf
set_option linter.unusedVariables false
set_option linter.unusedSimpArgs false
namespace Go.Proofs.YtalgnjkdoaaacaaGreatDoor
open Go Go.RowKit
open Zp
/-- The four bytes at the pointer are passed over. -/
theorem HS.skip {w0 w : World} {f pb g n k : Nat} {t : TypeId} {hd : List UInt8} {cells : Array Value} {ad : Addr} (h : HS w0 f pb g n t hd k cells w) (m : Nat) (hm : m ≤ n - k) (ha : m < n - k → ad = ⟨g, k + m, none⟩) :
    HS w0 f pb g n t hd (k + m) cells (w.setCell ⟨pb, 0, none⟩ (.slice (some ad) (n - k - m) (n - k - m))) := by
  obtain ⟨b, hc, _⟩ := h.rb.cell
  have hlen := h.rb.len
  rw [List.length_drop] at hlen
  refine ⟨⟨⟨ad, ?_, fun h0 => ha (by omega)⟩, by simpa using h.rb.free, ?_, by rw [List.length_drop]; omega, by omega, h.rb.ne⟩, h.blk.far (fun e => h.fp e) _, h.fr.setCell (.inl (by simp)) _, h.fg, h.fp, by simpa [World.setCell] using h.gl, by simpa [World.setCell] using h.size⟩
  · rw [World.cell?_setCell_same w _ _ hc, Nat.sub_sub]
  · have := h.rb.rd.drop m
    rw [List.drop_drop] at this
    exact this.far (fun e => h.rb.ne e) _
/-- What a whole header comes to. -/
structure HdrAll (w : World) (q gb b r f pos : Nat) (s : ByteArray) (hd : List UInt8) (z : Nat) (w' : World) : Prop where
  out : HdrOut w q gb b r f (pos + 46) (num ((hd.drop 28).take 2)) (num ((hd.drop 30).take 2)) (num ((hd.drop 32).take 2)) s (num ((hd.drop 4).take 2)) (num ((hd.drop 6).take 2)) (num ((hd.drop 8).take 2)) (num ((hd.drop 10).take 2)) (num ((hd.drop 12).take 2)) (num ((hd.drop 14).take 2)) (num ((hd.drop 16).take 4)) (num ((hd.drop 20).take 4)) (num ((hd.drop 24).take 4)) (num ((hd.drop 20).take 4)) (num ((hd.drop 24).take 4)) (num ((hd.drop 38).take 4)) (num ((hd.drop 42).take 4)) z w'
theorem HdrOut.base {w0 w w' : World} {q gb b r f pos n x c : Nat} {s : ByteArray} {a3 a4 a5 a6 a10 a11 a12 a13 a14 a15 a16 a18 a21 : Int} {z : Nat} (h : HdrOut w q gb b r f pos n x c s a3 a4 a5 a6 a10 a11 a12 a13 a14 a15 a16 a18 a21 z w') (h0 : Fr [q, gb, b, f] w0 w) :
    HdrOut w0 q gb b r f pos n x c s a3 a4 a5 a6 a10 a11 a12 a13 a14 a15 a16 a18 a21 z w' := by
  obtain ⟨v1, q1, v2, q2, ad, db, m0, m1, mp, d1, d2, hb, ha, hd, h2⟩ := h.out
  exact ⟨⟨v1, q1, v2, q2, ad, db, m0, m1, mp, d1, d2, hb, ha, Nat.le_trans h0.size hd, h2⟩, h.buf, h0.trans h.fr (by simp)⟩
set_option maxRecDepth 100000 in
set_option maxHeartbeats 8000000 in
theorem hdr_ok (E : Errs) (q gb b r f pos : Nat) (s : ByteArray) (hd : List UInt8) (w : World) (hE : Env E w) (hU : UT w) (hB : BufR w q gb b r s pos) (hpos : pos + 46 ≤ s.size) (hs : s.size ≤ 4000000000) (hhd : (s.data.toList.drop pos).take 46 = hd) (hsig : num (hd.take 4) = 33639248)
    (hall : pos + 46 + (num ((hd.drop 28).take 2) + num ((hd.drop 30).take 2) + num ((hd.drop 32).take 2)) ≤ s.size) (n20 : num ((hd.drop 20).take 4) ≠ 4294967295) (n24 : num ((hd.drop 24).take 4) ≠ 4294967295) (n42 : num ((hd.drop 42).take 4) ≠ 4294967295)
    (z : Nat) (hf : Blk w f fileT (hdrC 0 0 0 0 0 0 0 0 0 0 0 0 0 ⟨#[]⟩ ⟨#[]⟩ false (.slice none 0 0) 0 0 none z r)) (hfd : f ≠ q ∧ f ≠ gb ∧ f ≠ b ∧ f ≠ r) (hf18 : 14 ≤ f) :
    Calls Tryz.prog 87 #[.pointer (some ⟨f, 0, none⟩), .iface 189 (.pointer (some ⟨q, 0, none⟩))] w fun e w' =>
      e = .returned .nilIface ∧ HdrAll w q gb b r f pos s hd z w' := by
  have hlt := hB.lt4
  have hE18 := hB.h18
  have HE := Lib.hid hE
  have HU := Lib.hid hU
  have HFB := Lib.hid hf
  have HR := Lib.hid (readFull_buf E q gb b r w.heap.size 0 46 pos 46 203 s (zeros 46) (w.alloc (.cells (zeros 46) 203)) (hE.fr ((Fr.refl [] w).alloc _) (by simp) hB.h18.2) (hB.fr (S := []) ((Fr.refl [] w).alloc _) (by simp) (by simp) (by simp) (by simp))
    (Blk.new _ _ _) (by rw [zeros_size]; omega) (by omega) (by omega) (by omega) hB.h18.2 (by omega) hs)
  have HALL := Lib.hid hall
  have HHD := Lib.hid hhd
  have N20 := Lib.hid n20
  have N24 := Lib.hid n24
  have N42 := Lib.hid n42
  replace e0 := Lib.hid hsig
  clear hE hB hf hU hall hhd n20 n24 n42 hsig
  have hal : ∀ (ρ : Operand → Value) (W : World), (execOp ρ { dst := some 5, op := .alloc 203, type := 0, pos := "reader.go:283", after := #[], guard := none }).run Tryz.prog W = .ok (.value (.pointer (some ⟨W.heap.size, 0, none⟩))) (W.alloc (.cells (zeros 46) 203)) := fun ρ W => by kernel_rfl
  go_enter Tryz.func87, Tryz.ntmps87
  go_wp2_with fail
  apply wp_scope_straight
  apply wp_seq_k; intro K hK
  refine wp_region_list ?_
  change wpList _ _ _ [_] _ _
  refine Go.Great.wpList_runTo rfl (some 5) rfl _ _ (hal _ _) ?_
  clear hal
  go_wp2_with fail
  refine HR.out.mono ?_
  rintro e w1 h
  cases h with
  | part _ j h hp hr hf => exact absurd h (by omega)
  | end_ _ h hp hr hf => exact absurd hp (by omega)
  | all _ h hb hr hf1 =>
    have HBR := Lib.hid hr
    have HF := Lib.hid (((Fr.refl [q, gb, b] w).alloc _).trans hf1 (by simp))
    rw [HHD.out] at hb
    have hl : hd.length = 46 := by rw [← HHD.out, List.length_take, List.length_drop, ← Lib.size_eq]; omega
    have HL := Lib.hid hl
    obtain ⟨x4, h4⟩ : ∃ x, num ((hd.drop 4).take 2) = x := ⟨_, rfl⟩
    replace e4 := Lib.hid h4
    have b4 : x4 < 65536 := by rw [← h4]; exact num_take2 _
    clear h4
    obtain ⟨x6, h6⟩ : ∃ x, num ((hd.drop 6).take 2) = x := ⟨_, rfl⟩
    replace e6 := Lib.hid h6
    have b6 : x6 < 65536 := by rw [← h6]; exact num_take2 _
    clear h6
    obtain ⟨x8, h8⟩ : ∃ x, num ((hd.drop 8).take 2) = x := ⟨_, rfl⟩
    replace e8 := Lib.hid h8
    have b8 : x8 < 65536 := by rw [← h8]; exact num_take2 _
    clear h8
    obtain ⟨x10, h10⟩ : ∃ x, num ((hd.drop 10).take 2) = x := ⟨_, rfl⟩
    replace e10 := Lib.hid h10
    have b10 : x10 < 65536 := by rw [← h10]; exact num_take2 _
    clear h10
    obtain ⟨x12, h12⟩ : ∃ x, num ((hd.drop 12).take 2) = x := ⟨_, rfl⟩
    replace e12 := Lib.hid h12
    have b12 : x12 < 65536 := by rw [← h12]; exact num_take2 _
    clear h12
    obtain ⟨x14, h14⟩ : ∃ x, num ((hd.drop 14).take 2) = x := ⟨_, rfl⟩
    replace e14 := Lib.hid h14
    have b14 : x14 < 65536 := by rw [← h14]; exact num_take2 _
    clear h14
    obtain ⟨x16, h16⟩ : ∃ x, num ((hd.drop 16).take 4) = x := ⟨_, rfl⟩
    replace e16 := Lib.hid h16
    have b16 : x16 < 4294967296 := by rw [← h16]; exact num_take4 _
    clear h16
    obtain ⟨x20, h20⟩ : ∃ x, num ((hd.drop 20).take 4) = x := ⟨_, rfl⟩
    replace e20 := Lib.hid h20
    have b20 : x20 < 4294967296 := by rw [← h20]; exact num_take4 _
    clear h20
    obtain ⟨x24, h24⟩ : ∃ x, num ((hd.drop 24).take 4) = x := ⟨_, rfl⟩
    replace e24 := Lib.hid h24
    have b24 : x24 < 4294967296 := by rw [← h24]; exact num_take4 _
    clear h24
    obtain ⟨x28, h28⟩ : ∃ x, num ((hd.drop 28).take 2) = x := ⟨_, rfl⟩
    replace e28 := Lib.hid h28
    have b28 : x28 < 65536 := by rw [← h28]; exact num_take2 _
    clear h28
    obtain ⟨x30, h30⟩ : ∃ x, num ((hd.drop 30).take 2) = x := ⟨_, rfl⟩
    replace e30 := Lib.hid h30
    have b30 : x30 < 65536 := by rw [← h30]; exact num_take2 _
    clear h30
    obtain ⟨x32, h32⟩ : ∃ x, num ((hd.drop 32).take 2) = x := ⟨_, rfl⟩
    replace e32 := Lib.hid h32
    have b32 : x32 < 65536 := by rw [← h32]; exact num_take2 _
    clear h32
    obtain ⟨x38, h38⟩ : ∃ x, num ((hd.drop 38).take 4) = x := ⟨_, rfl⟩
    replace e38 := Lib.hid h38
    have b38 : x38 < 4294967296 := by rw [← h38]; exact num_take4 _
    clear h38
    obtain ⟨x42, h42⟩ : ∃ x, num ((hd.drop 42).take 4) = x := ⟨_, rfl⟩
    replace e42 := Lib.hid h42
    have b42 : x42 < 4294967296 := by rw [← h42]; exact num_take4 _
    clear h42
    have hflt := HFB.out.lt
    have hsz := HF.out.size
    have hfb1 : Blk w1 f fileT (hdrC 0 0 0 0 0 0 0 0 0 0 0 0 0 ⟨#[]⟩ ⟨#[]⟩ false (.slice none 0 0) 0 0 none z r) := HFB.out.fr (((Fr.refl [q, gb, b] w).alloc (.cells (zeros 46) 203)).trans hf1 (by simp)) (by simp; omega)
    have H1 := Lib.hid (show HS (w1.alloc (.cells #[.slice (some ⟨w.heap.size, 0, none⟩) 46 46] 194)) f w1.heap.size w.heap.size 46 fileT hd 0 (hdrC 0 0 0 0 0 0 0 0 0 0 0 0 0 ⟨#[]⟩ ⟨#[]⟩ false (.slice none 0 0) 0 0 none z r) _ from ⟨RB.start (t' := 194) hb hl (by rw [zeros_size]; omega), hfb1.alloc _, Fr.refl _ _, by omega, by omega, by simp; omega, rfl⟩)
    clear hb hr hf1 hl hfb1 HR
    go_wp2_with fail
    refine (rb32d _ _ _ _ _ _ _ H1.out.rb (by rw [List.drop_zero, HL.out]; decide)).mono ?_
    rintro e w2 ⟨rfl, hn⟩
    have H2 := Lib.hid (H1.out.call hn)
    rw [List.drop_zero, e0.out]
    clear hn H1
    go_wp2_with fail
    try clear cc ff
    refine (rb16d _ _ _ _ _ _ _ H2.out.rb (by rw [List.length_drop, HL.out]; decide)).mono ?_
    rintro e w3 ⟨rfl, hn⟩
    have hh := H2.out.call hn
    have cc := hh.blk.at_ 3 (.int .u16 0) rfl
    have ff := hh.blk.frozen 3
    have H3 := Lib.hid (show HS _ f w1.heap.size w.heap.size 46 fileT hd 6 (hdrC x4 0 0 0 0 0 0 0 0 0 0 0 0 ⟨#[]⟩ ⟨#[]⟩ false (.slice none 0 0) 0 0 none z r) (w3.setCell ⟨f, 3, none⟩ (.int .u16 (x4 : Int))) from hh.put 3 (.int .u16 (x4 : Int)))
    rw [e4.out]
    clear hn hh H2
    go_wp2_with fail
    try clear cc ff
    refine (rb16d _ _ _ _ _ _ _ H3.out.rb (by rw [List.length_drop, HL.out]; decide)).mono ?_
    rintro e w4 ⟨rfl, hn⟩
    have hh := H3.out.call hn
    have cc := hh.blk.at_ 4 (.int .u16 0) rfl
    have ff := hh.blk.frozen 4
    have H4 := Lib.hid (show HS _ f w1.heap.size w.heap.size 46 fileT hd 8 (hdrC x4 x6 0 0 0 0 0 0 0 0 0 0 0 ⟨#[]⟩ ⟨#[]⟩ false (.slice none 0 0) 0 0 none z r) (w4.setCell ⟨f, 4, none⟩ (.int .u16 (x6 : Int))) from hh.put 4 (.int .u16 (x6 : Int)))
    rw [e6.out]
    clear hn hh H3
    go_wp2_with fail
    try clear cc ff
    refine (rb16d _ _ _ _ _ _ _ H4.out.rb (by rw [List.length_drop, HL.out]; decide)).mono ?_
    rintro e w5 ⟨rfl, hn⟩
    have hh := H4.out.call hn
    have cc := hh.blk.at_ 5 (.int .u16 0) rfl
    have ff := hh.blk.frozen 5
    have H5 := Lib.hid (show HS _ f w1.heap.size w.heap.size 46 fileT hd 10 (hdrC x4 x6 x8 0 0 0 0 0 0 0 0 0 0 ⟨#[]⟩ ⟨#[]⟩ false (.slice none 0 0) 0 0 none z r) (w5.setCell ⟨f, 5, none⟩ (.int .u16 (x8 : Int))) from hh.put 5 (.int .u16 (x8 : Int)))
    rw [e8.out]
    clear hn hh H4
    go_wp2_with fail
    try clear cc ff
    refine (rb16d _ _ _ _ _ _ _ H5.out.rb (by rw [List.length_drop, HL.out]; decide)).mono ?_
    rintro e w6 ⟨rfl, hn⟩
    have hh := H5.out.call hn
    have cc := hh.blk.at_ 6 (.int .u16 0) rfl
    have ff := hh.blk.frozen 6
    have H6 := Lib.hid (show HS _ f w1.heap.size w.heap.size 46 fileT hd 12 (hdrC x4 x6 x8 x10 0 0 0 0 0 0 0 0 0 ⟨#[]⟩ ⟨#[]⟩ false (.slice none 0 0) 0 0 none z r) (w6.setCell ⟨f, 6, none⟩ (.int .u16 (x10 : Int))) from hh.put 6 (.int .u16 (x10 : Int)))
    rw [e10.out]
    clear hn hh H5
    go_wp2_with fail
    try clear cc ff
    refine (rb16d _ _ _ _ _ _ _ H6.out.rb (by rw [List.length_drop, HL.out]; decide)).mono ?_
    rintro e w7 ⟨rfl, hn⟩
    have hh := H6.out.call hn
    have cc := hh.blk.at_ 10 (.int .u16 0) rfl
    have ff := hh.blk.frozen 10
    have H7 := Lib.hid (show HS _ f w1.heap.size w.heap.size 46 fileT hd 14 (hdrC x4 x6 x8 x10 x12 0 0 0 0 0 0 0 0 ⟨#[]⟩ ⟨#[]⟩ false (.slice none 0 0) 0 0 none z r) (w7.setCell ⟨f, 10, none⟩ (.int .u16 (x12 : Int))) from hh.put 10 (.int .u16 (x12 : Int)))
    rw [e12.out]
    clear hn hh H6
    go_wp2_with fail
    try clear cc ff
    refine (rb16d _ _ _ _ _ _ _ H7.out.rb (by rw [List.length_drop, HL.out]; decide)).mono ?_
    rintro e w8 ⟨rfl, hn⟩
    have hh := H7.out.call hn
    have cc := hh.blk.at_ 11 (.int .u16 0) rfl
    have ff := hh.blk.frozen 11
    have H8 := Lib.hid (show HS _ f w1.heap.size w.heap.size 46 fileT hd 16 (hdrC x4 x6 x8 x10 x12 x14 0 0 0 0 0 0 0 ⟨#[]⟩ ⟨#[]⟩ false (.slice none 0 0) 0 0 none z r) (w8.setCell ⟨f, 11, none⟩ (.int .u16 (x14 : Int))) from hh.put 11 (.int .u16 (x14 : Int)))
    rw [e14.out]
    clear hn hh H7
    go_wp2_with fail
    try clear cc ff
    refine (rb32d _ _ _ _ _ _ _ H8.out.rb (by rw [List.length_drop, HL.out]; decide)).mono ?_
    rintro e w9 ⟨rfl, hn⟩
    have hh := H8.out.call hn
    have cc := hh.blk.at_ 12 (.int .u32 0) rfl
    have ff := hh.blk.frozen 12
    have H9 := Lib.hid (show HS _ f w1.heap.size w.heap.size 46 fileT hd 20 (hdrC x4 x6 x8 x10 x12 x14 x16 0 0 0 0 0 0 ⟨#[]⟩ ⟨#[]⟩ false (.slice none 0 0) 0 0 none z r) (w9.setCell ⟨f, 12, none⟩ (.int .u32 (x16 : Int))) from hh.put 12 (.int .u32 (x16 : Int)))
    rw [e16.out]
    clear hn hh H8
    go_wp2_with fail
    try clear cc ff
    refine (rb32d _ _ _ _ _ _ _ H9.out.rb (by rw [List.length_drop, HL.out]; decide)).mono ?_
    rintro e w10 ⟨rfl, hn⟩
    have hh := H9.out.call hn
    have cc := hh.blk.at_ 13 (.int .u32 0) rfl
    have ff := hh.blk.frozen 13
    have H10 := Lib.hid (show HS _ f w1.heap.size w.heap.size 46 fileT hd 24 (hdrC x4 x6 x8 x10 x12 x14 x16 x20 0 0 0 0 0 ⟨#[]⟩ ⟨#[]⟩ false (.slice none 0 0) 0 0 none z r) (w10.setCell ⟨f, 13, none⟩ (.int .u32 (x20 : Int))) from hh.put 13 (.int .u32 (x20 : Int)))
    rw [e20.out]
    clear hn hh H9
    go_wp2_with fail
    try clear cc ff
    refine (rb32d _ _ _ _ _ _ _ H10.out.rb (by rw [List.length_drop, HL.out]; decide)).mono ?_
    rintro e w11 ⟨rfl, hn⟩
    have hh := H10.out.call hn
    have cc := hh.blk.at_ 14 (.int .u32 0) rfl
    have ff := hh.blk.frozen 14
    have H11 := Lib.hid (show HS _ f w1.heap.size w.heap.size 46 fileT hd 28 (hdrC x4 x6 x8 x10 x12 x14 x16 x20 x24 0 0 0 0 ⟨#[]⟩ ⟨#[]⟩ false (.slice none 0 0) 0 0 none z r) (w11.setCell ⟨f, 14, none⟩ (.int .u32 (x24 : Int))) from hh.put 14 (.int .u32 (x24 : Int)))
    have d13 := hh.blk.at_ 13 (.int .u32 x20) rfl
    have d15 := hh.blk.at_ 15 (.int .u64 0) rfl
    have d16 := hh.blk.at_ 16 (.int .u64 0) rfl
    have f15 := hh.blk.frozen 15
    have f16 := hh.blk.frozen 16
    rw [e24.out]
    clear hn hh H10
    have HX := Lib.hid (show HS _ f w1.heap.size w.heap.size 46 fileT hd 28 (hdrC x4 x6 x8 x10 x12 x14 x16 x20 x24 x20 x24 0 0 ⟨#[]⟩ ⟨#[]⟩ false (.slice none 0 0) 0 0 none z r) (((w11.setCell ⟨f, 14, none⟩ (.int .u32 (x24 : Int))).setCell ⟨f, 15, none⟩ (.int .u64 (x20 : Int))).setCell ⟨f, 16, none⟩ (.int .u64 (x24 : Int))) from (H11.out.put 15 (.int .u64 (x20 : Int))).put 16 (.int .u64 (x24 : Int)))
    clear H11
    go_wp2_with fail
    clear cc ff d13 d15 d16 f15 f16
    refine (rb16d _ _ _ _ _ _ _ HX.out.rb (by rw [List.length_drop, HL.out]; decide)).mono ?_
    rintro e w12 ⟨rfl, hn⟩
    have H12 := Lib.hid (HX.out.call hn)
    rw [e28.out]
    clear hn HX
    go_wp2_with fail
    refine (rb16d _ _ _ _ _ _ _ H12.out.rb (by rw [List.length_drop, HL.out]; decide)).mono ?_
    rintro e w13 ⟨rfl, hn⟩
    have H13 := Lib.hid (H12.out.call hn)
    rw [e30.out]
    clear hn H12
    go_wp2_with fail
    refine (rb16d _ _ _ _ _ _ _ H13.out.rb (by rw [List.length_drop, HL.out]; decide)).mono ?_
    rintro e w14 ⟨rfl, hn⟩
    have H14 := Lib.hid (H13.out.call hn)
    rw [e32.out]
    clear hn H13
    obtain ⟨ad0, ce, had0⟩ := H14.out.rb.cell
    have fe := H14.out.rb.free
    have had := had0 (by decide)
    subst had
    have HS4 := Lib.hid (H14.out.skip (ad := ⟨w.heap.size, 38, none⟩) 4 (by decide) (fun _ => rfl))
    clear had0
    go_wp2_with fail
    clear ce fe
    have H15 := Lib.hid (show HS _ f w1.heap.size w.heap.size 46 fileT hd 38 (hdrC x4 x6 x8 x10 x12 x14 x16 x20 x24 x20 x24 0 0 ⟨#[]⟩ ⟨#[]⟩ false (.slice none 0 0) 0 0 none z r) (w14.setCell ⟨w1.heap.size, 0, none⟩ (.slice (some ⟨w.heap.size, 38, none⟩) 8 8)) from HS4.out)
    clear HS4 H14
    refine (rb32d _ _ _ _ _ _ _ H15.out.rb (by rw [List.length_drop, HL.out]; decide)).mono ?_
    rintro e w16 ⟨rfl, hn⟩
    have hh := H15.out.call hn
    have cc := hh.blk.at_ 18 (.int .u32 0) rfl
    have ff := hh.blk.frozen 18
    have H16 := Lib.hid (show HS _ f w1.heap.size w.heap.size 46 fileT hd 42 (hdrC x4 x6 x8 x10 x12 x14 x16 x20 x24 x20 x24 x38 0 ⟨#[]⟩ ⟨#[]⟩ false (.slice none 0 0) 0 0 none z r) (w16.setCell ⟨f, 18, none⟩ (.int .u32 (x38 : Int))) from hh.put 18 (.int .u32 (x38 : Int)))
    rw [e38.out]
    clear hn hh H15
    go_wp2_with fail
    rename_i K25 hK25 K26 hK26
    have HK := Lib.hid hK25
    clear hK25 cc ff
    refine (rb32d _ _ _ _ _ _ _ H16.out.rb (by rw [List.length_drop, HL.out]; decide)).mono ?_
    rintro e w17 ⟨rfl, hn⟩
    have hh := H16.out.call hn
    have cc := hh.blk.at_ 21 (.int .i64 0) rfl
    have ff := hh.blk.frozen 21
    have H17 := Lib.hid (show HS _ f w1.heap.size w.heap.size 46 fileT hd 46 (hdrC x4 x6 x8 x10 x12 x14 x16 x20 x24 x20 x24 x38 x42 ⟨#[]⟩ ⟨#[]⟩ false (.slice none 0 0) 0 0 none z r) (w17.setCell ⟨f, 21, none⟩ (.int .i64 (x42 : Int))) from hh.put 21 (.int .i64 (x42 : Int)))
    rw [e42.out]
    clear hn hh H16
    go_wp2_with fail
    clear cc ff
    have hF2 : Fr [q, gb, b, f] w (w17.setCell ⟨f, 21, none⟩ (.int .i64 (x42 : Int))) := ((HF.out.alloc _).mono (S' := [q, gb, b, f]) (by simp)).trans H17.out.fr (by simp; omega)
    have hFB2 : Fr [f, w1.heap.size] w1 (w17.setCell ⟨f, 21, none⟩ (.int .i64 (x42 : Int))) := ((Fr.refl [f, w1.heap.size] w1).alloc _).trans H17.out.fr (by simp)
    have l4 := HBR.out.lt4
    have HFF := Lib.hid hF2
    refine HK.out _ _ (rdh26 E _ _ q gb b r f (pos + 46) x28 x30 x32 s x4 x6 x8 x10 x12 x14 x16 x20 x24 x20 x24 x38 x42 z ?_ ?_ (HBR.out.fr hFB2 (by simp; omega) (by simp; omega) (by simp; omega) (by simp; omega)) ?_ hs (by omega) (by omega) (by omega) ?_ ?_ ?_ rfl rfl rfl rfl rfl rfl rfl H17.out.blk hf18 hfd _ ?_)
    · exact HE.out.fr hF2 (by simp; omega) hE18.2
    · exact HU.out.fr hF2 (by simp; omega) hE18.2
    · have := HALL.out
      rw [e28.out, e30.out, e32.out] at this
      exact this
    · have := N20.out; rw [e20.out] at this; omega
    · have := N24.out; rw [e24.out] at this; omega
    · have := N42.out; rw [e42.out] at this; omega
    · intro a' w' h1 h2 h3
      refine bodyPost_ret (R := fun e w' => e = .returned .nilIface ∧ HdrAll w q gb b r f pos s hd z w') (v := .nilIface) ?_ h1 ⟨rfl, ⟨?_⟩⟩
      · rw [results_tmp rfl, h2]
      · rw [e28.out, e30.out, e32.out, e4.out, e6.out, e8.out, e10.out, e12.out, e14.out, e16.out, e20.out, e24.out, e38.out, e42.out]
        exact h3.base HFF.out
end Go.Proofs.YtalgnjkdoaaacaaGreatDoor

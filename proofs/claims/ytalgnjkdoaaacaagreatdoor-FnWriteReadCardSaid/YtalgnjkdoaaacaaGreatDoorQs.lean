/- The library's contract of DecodeRuneInString, laid at this program. -/
import Derived.Test.YtalgnjkdoaaacaaGreatDoorProg
import Derived.Shelf.Unicode.DecodeAny
import Derived.Test.YtalgnjkdoaaacaaGreatDoorQp
import Derived.WalkKit
import Derived.WalkLawsBesides
import Derived.WalkSpells
import Derived.Handy
import Derived.IntWalk
import Derived.Lib.RuneCountTail
import Derived.Lib.DecodeN
import Derived.Shelf.Small.Utf8
import Derived.Test.YtalgnjkdoaaacaaGreatDoorQrb
import Derived.Test.YtalgnjkdoaaacaaGreatDoorQbr
import Derived.Test.YtalgnjkdoaaacaaGreatDoorQt
import Derived.Great.Walk
import Derived.WalkMore
set_option linter.unusedVariables false
set_option linter.unusedSimpArgs false
namespace Go.Proofs
open Go Go.Shelf Go.RowKit
def Tryz.lays197_ren : Go.Shelf.Ren := ⟨fun | 197 => 97 | 260 => 132 | n => n, fun | 9 => 9 | 21 => 21 | 3 => 3 | 4 => 4 | 5 => 5 | 105 => 207 | 119 => 298 | 0 => 0 | 46 => 213 | 139 => 301 | 138 => 300 | n => n, fun | 3 => 12 | 4 => 13 | n => n⟩
theorem Tryz.lays197 : Go.Proofs.Lays.n197 Tryz.prog Tryz.lays197_ren where
  mixed := by kernel_rfl
  f197 := Tryz.func97.trans (congrArg some (by kernel_rfl))
  f260 := Tryz.func132.trans (congrArg some (by kernel_rfl))
  t0 := Tryz.underlying0
  a0 := Tryz.isAgg0
  z0 := Tryz.sizeOf0
  v0 := Tryz.zeroValue0
  t3 := Tryz.underlying3
  a3 := Tryz.isAgg3
  z3 := Tryz.sizeOf3
  v3 := Tryz.zeroValue3
  t4 := Tryz.underlying4
  a4 := Tryz.isAgg4
  z4 := Tryz.sizeOf4
  v4 := Tryz.zeroValue4
  t5 := Tryz.underlying5
  a5 := Tryz.isAgg5
  z5 := Tryz.sizeOf5
  v5 := Tryz.zeroValue5
  t9 := Tryz.underlying9
  a9 := Tryz.isAgg9
  z9 := Tryz.sizeOf9
  v9 := Tryz.zeroValue9
  t21 := Tryz.underlying21
  a21 := Tryz.isAgg21
  z21 := Tryz.sizeOf21
  v21 := Tryz.zeroValue21
  t46 := Tryz.underlying213
  a46 := Tryz.isAgg213
  z46 := Tryz.sizeOf213
  v46 := Tryz.zeroValue213
  t105 := Tryz.underlying207
  a105 := Tryz.isAgg207
  z105 := Tryz.sizeOf207
  v105 := Tryz.zeroValue207
  t119 := Tryz.underlying298
  a119 := Tryz.isAgg298
  z119 := Tryz.sizeOf298
  t138 := Tryz.underlying300
  a138 := Tryz.isAgg300
  z138 := Tryz.sizeOf300
  v138 := Tryz.zeroValue300
  t139 := Tryz.underlying301
  a139 := Tryz.isAgg301
  z139 := Tryz.sizeOf301
  v139 := Tryz.zeroValue301
  g3 := by kernel_rfl
  g4 := by kernel_rfl
theorem YtalgnjkdoaaacaaGreatDoor.decodeRune (s : ByteArray) (w : World) (hT : Lib.Utf8Tabs 12 13 w) :
    Calls Tryz.prog 97 #[.string s] w fun e w' => e = .returned (.tuple #[.int .i32 (Lib.decodeGo s).1, .int .i64 (Lib.decodeGo s).2]) ∧ Below w.heap.size w w' := Any.utf8_DecodeRuneInString Tryz.lays197 s w hT
end Go.Proofs

/- detectUTF8: what it tells of a text, as a relation over the decoded runes. -/
namespace Go.Proofs
open Go Go.Shelf Go.RowKit
def Tryz.lays119_ren : Go.Shelf.Ren := ⟨fun | 119 => 98 | n => n, fun | 21 => 21 | 4 => 4 | n => n, fun | n => n⟩
theorem Tryz.lays119 : Go.Proofs.Lays.n119 Tryz.prog Tryz.lays119_ren where
  mixed := by kernel_rfl
  f119 := Tryz.func98.trans (congrArg some (by kernel_rfl))
  t4 := Tryz.underlying4
  a4 := Tryz.isAgg4
  z4 := Tryz.sizeOf4
  v4 := Tryz.zeroValue4
  t21 := Tryz.underlying21
  a21 := Tryz.isAgg21
  z21 := Tryz.sizeOf21
  v21 := Tryz.zeroValue21
theorem YtalgnjkdoaaacaaGreatDoor.validRune (r : Int) (w : World) :
    Calls Tryz.prog 98 #[.int .i32 r] w fun e w' => e = .returned (.bool (Lib.validRune r)) ∧ w' = w := Any.utf8_ValidRune Tryz.lays119 r w
end Go.Proofs
namespace Go.Proofs.YtalgnjkdoaaacaaGreatDoor
open Go Go.RowKit
/-- A rune that asks for nothing. -/
def PlainR (r : Nat) : Prop := 32 ≤ r ∧ r ≤ 125 ∧ r ≠ 92
instance (r : Nat) : Decidable (PlainR r) := inferInstanceAs (Decidable (_ ∧ _ ∧ _))
/-- A rune that is no text. -/
def BadR (r k : Nat) : Prop := Lib.validRune (r : Int) = false ∨ (r = 65533 ∧ k = 1)
instance (r k : Nat) : Decidable (BadR r k) := inferInstanceAs (Decidable (_ ∨ (_ ∧ _)))
def tailAt (s : ByteArray) (i : Nat) : ByteArray := s.extract i s.size
inductive Det (s : ByteArray) : Nat → Bool → Bool → Bool → Prop
  | stop {i : Nat} {req : Bool} : s.size ≤ i → Det s i req true req
  | plain {i r k : Nat} {req v q : Bool} : i < s.size → Utf8.decode s i = (r, k) → PlainR r → Det s (i + k) req v q → Det s i req v q
  | bad {i r k : Nat} {req : Bool} : i < s.size → Utf8.decode s i = (r, k) → ¬ PlainR r → BadR r k → Det s i req false false
  | need {i r k : Nat} {req v q : Bool} : i < s.size → Utf8.decode s i = (r, k) → ¬ PlainR r → ¬ BadR r k → Det s (i + k) true v q → Det s i req v q
theorem decN_le (n b0 b1 b2 b3 : Nat) (hn : 1 ≤ n) : (Lib.decodeN n b0 b1 b2 b3).2 ≤ n := by
  unfold Lib.decodeN
  repeat' split
  all_goals (simp only; omega)
theorem decN_ge (n b0 b1 b2 b3 : Nat) : 1 ≤ (Lib.decodeN n b0 b1 b2 b3).2 := by
  unfold Lib.decodeN
  repeat' split
  all_goals simp
theorem decN_rune (n b0 b1 b2 b3 : Nat) (h0 : b0 < 256) : (Lib.decodeN n b0 b1 b2 b3).1 ≤ 1114111 := by
  unfold Lib.decodeN
  repeat' split
  all_goals (simp only; omega)
theorem width_ge (s : ByteArray) (i : Nat) : 1 ≤ (Utf8.decode s i).2 := by rw [Lib.decode_at]; exact decN_ge _ _ _ _ _
theorem rune_max (s : ByteArray) (i : Nat) : (Utf8.decode s i).1 ≤ 1114111 := by rw [Lib.decode_at]; exact decN_rune _ _ _ _ _ (UInt8.toNat_lt _)
theorem decodeTail (s : ByteArray) (i : Nat) (h : i < s.size) : Lib.decodeGo (s.extract i s.size) = Utf8.decode s i := by
  unfold Lib.decodeGo
  rw [if_neg (by rw [Lib.tail_size]; omega), Lib.tail_decode, Nat.add_zero]
theorem width_le (s : ByteArray) (i : Nat) (h : i < s.size) : (Utf8.decode s i).2 ≤ s.size - i := by
  rw [Lib.decode_at]
  exact decN_le _ _ _ _ _ (by omega)
/-- The loop of detectUTF8. -/
def DUr (s : ByteArray) (w : World) (s2 s3 s4 : Value) (wx : World) : Prop :=
  ∃ (i : Nat) (req : Bool), s2 = .bool false ∧ s3 = .bool req ∧ s4 = .int .i64 (i : Int) ∧ i ≤ s.size ∧ Fr [] w wx ∧ ∀ v q, Det s i req v q → Det s 0 false v q
def DUp (s : ByteArray) (w : World) (e : Ending) (w' : World) : Prop := ∃ v q : Bool, Det s 0 false v q ∧ e = .returned (.tuple #[.bool v, .bool q]) ∧ Fr [] w w'
set_option maxRecDepth 100000 in
set_option maxHeartbeats 2000000 in
theorem detect_any (s : ByteArray) (w : World) (hs : s.size ≤ 4000000000) (hT : ∀ w', Fr [] w w' → Lib.Utf8Tabs 12 13 w') :
    Calls Tryz.prog 70 #[.string s] w (DUp s w) := by
  go_enter Tryz.func70, Tryz.ntmps70
  go_wp2_with fail
  go_loopw [2, 3, 4] (fun s2 s3 s4 wx => DUr s w s2 s3 s4 wx) (fun _ _ s4 _ => s.size - (intOf s4).toNat)
  case atStart => exact ⟨0, false, rfl, rfl, rfl, Nat.zero_le _, Fr.refl _ _, fun _ _ h => h⟩
  case round =>
    obtain ⟨i, req, rfl, rfl, rfl, hi, hf, hd⟩ := hrel
    have HD := Lib.hid hd
    have HF := Lib.hid hf
    have HT := Lib.hid (hT _ hf)
    clear hd hf
    by_cases hlt : i < s.size
    · obtain ⟨r, hr⟩ : ∃ r, (Utf8.decode s i).1 = r := ⟨_, rfl⟩
      obtain ⟨k, hk⟩ : ∃ k, (Utf8.decode s i).2 = k := ⟨_, rfl⟩
      have hdec := Lib.hid (show Utf8.decode s i = (r, k) from by rw [← hr, ← hk])
      have k1 : 1 ≤ k := hk ▸ width_ge s i
      have k2 : k ≤ s.size - i := hk ▸ width_le s i hlt
      have k3 : r ≤ 1114111 := hr ▸ rune_max s i
      clear hr hk
      have i1 : (i : Int) < (s.size : Int) := by omega
      have HC := Lib.hid (decodeTail s i hlt)
      have hC := Lib.hid (YtalgnjkdoaaacaaGreatDoor.decodeRune (s.extract i s.size) wr HT.out)
      have i2 : (i : Int) + (k : Int) ≤ (s.size : Int) := by omega
      have i3 : (1 : Int) ≤ (k : Int) := by omega
      have i4 : (r : Int) ≤ 1114111 := by omega
      obtain ⟨vr, hvr⟩ : ∃ b, Lib.validRune (r : Int) = b := ⟨_, rfl⟩
      have HV := Lib.hid (show ∀ W, Calls Tryz.prog 98 #[.int .i32 (r : Int)] W fun e w' => e = .returned (.bool vr) ∧ w' = W from fun W => by rw [← hvr]; exact YtalgnjkdoaaacaaGreatDoor.validRune (r : Int) W)
      have HR := Lib.hid (show BadR r k ↔ vr = false ∨ (r = 65533 ∧ k = 1) by unfold BadR; rw [hvr])
      clear hvr
      have hi2 : ((i : Int) + (k : Int)) = ((i + k : Nat) : Int) := by omega
      have HI := Lib.hid hi2
      clear hi2
      by_cases hp : PlainR r
      · have HP := Lib.hid hp
        have p1 : (32 : Int) ≤ (r : Int) := by have := hp.1; omega
        have p2 : (r : Int) ≤ 125 := by have := hp.2.1; omega
        have p3 : ((r : Int) == 92) = false := by have := hp.2.2; simp; omega
        clear hp
        go_wp2_with (first
          | (go_at_call 97; refine hC.out.mono ?_; rintro e w1 ⟨rfl, hb⟩; rw [HC.out, hdec.out])
          | fail)
        have hf2 := HF.out.trans (Fr.of_below hb (Nat.le_refl _) []) (fun _ h => .inl h)
        exact ⟨⟨i + k, req, rfl, rfl, by rw [HI.out], by omega, hf2, fun v q h => HD.out v q (.plain hlt hdec.out HP.out h)⟩, by rw [HI.out]; simp [intOf]; omega⟩
      · have HP := Lib.hid hp
        have HQ : 32 ≤ r → r ≤ 125 → ¬ r = 92 → False := fun a b c => hp ⟨a, b, c⟩
        have HQ := Lib.hid HQ
        clear hp
        go_wp2_with (first
          | (go_at_call 97; refine hC.out.mono ?_; rintro e w1 ⟨rfl, hb⟩; rw [HC.out, hdec.out])
          | (go_at_call 98; refine (HV.out _).mono ?_; rintro e w2 ⟨rfl, rfl⟩)
          | fail)
        all_goals have hf2 := HF.out.trans (Fr.of_below hb (Nat.le_refl _) []) (fun _ h => .inl h)
        all_goals first
          | (exfalso; refine HQ.out (by omega) (by omega) (fun hx => ?_); subst hx; simp_all; done)
          | (go_ret2
             refine ⟨false, false, HD.out _ _ (.bad hlt hdec.out HP.out (HR.out.2 ?_)), rfl, hf2⟩
             first
             | (left; simpa using ‹¬ vr = true›)
             | (right; refine ⟨by omega, ?_⟩; have hx := ‹((k : Int) == 1) = true›; simp only [beq_iff_eq] at hx; omega))
          | (refine ⟨⟨i + k, true, rfl, rfl, by rw [HI.out], by omega, hf2, fun v q h => HD.out v q (.need hlt hdec.out HP.out ?_ h)⟩, by rw [HI.out]; simp [intOf]; omega⟩
             rw [HR.out]
             rintro (hx | ⟨hx, hy⟩)
             · simp_all
             · first | omega | simp_all)
    · have i1 : (s.size : Int) ≤ (i : Int) := by omega
      go_wp2_with fail
      go_ret2
      exact ⟨true, req, HD.out _ _ (.stop (by omega)), rfl, HF.out⟩
end Go.Proofs.YtalgnjkdoaaacaaGreatDoor

/- The steps of reading a header: a field is taken from the buffer, and stored into the file's block. -/
namespace Go.Proofs.YtalgnjkdoaaacaaGreatDoor
open Go Go.RowKit
open Zp
theorem rb16d (p : Addr) (g o n c : Nat) (l : List UInt8) (w : World) (h : RB w p g o n c l) (hl : 2 ≤ l.length) :
    Calls Tryz.prog 90 #[.pointer (some p)] w fun e w' => e = .returned (.int .u16 (num (l.take 2) : Int)) ∧ Nx w p g o n c 2 (l.drop 2) w' := by
  match l, h, hl with
  | b0 :: b1 :: l, h, _ => exact rb16 p g o n c b0 b1 l _ rfl w h
theorem rb32d (p : Addr) (g o n c : Nat) (l : List UInt8) (w : World) (h : RB w p g o n c l) (hl : 4 ≤ l.length) :
    Calls Tryz.prog 89 #[.pointer (some p)] w fun e w' => e = .returned (.int .u32 (num (l.take 4) : Int)) ∧ Nx w p g o n c 4 (l.drop 4) w' := by
  match l, h, hl with
  | b0 :: b1 :: b2 :: b3 :: l, h, _ => exact rb32 p g o n c b0 b1 b2 b3 l _ rfl w h
/-- A header of n bytes lies in the buffer g, k of them are read through the pointer at pb; the block f is filled. -/
structure HS (w0 : World) (f pb g n : Nat) (t : TypeId) (hd : List UInt8) (k : Nat) (cells : Array Value) (w : World) : Prop where
  rb : RB w ⟨pb, 0, none⟩ g k (n - k) (n - k) (hd.drop k)
  blk : Blk w f t cells
  fr : Fr [f, pb] w0 w
  fg : f ≠ g
  fp : f ≠ pb
  gl : g < w.heap.size
  size : w0.heap.size = w.heap.size
namespace HS
variable {w0 w w' : World} {f pb g n k m : Nat} {t : TypeId} {hd : List UInt8} {cells : Array Value}
theorem call (h : HS w0 f pb g n t hd k cells w) (hn : Nx w ⟨pb, 0, none⟩ g k (n - k) (n - k) m ((hd.drop k).drop m) w') : HS w0 f pb g n t hd (k + m) cells w' :=
  ⟨by
    have := hn.nx
    rw [List.drop_drop, Nat.sub_sub] at this
    exact this, h.blk.fr hn.fr (by simpa using h.fp), h.fr.trans hn.fr (by simp), h.fg, h.fp, by rw [hn.size]; exact h.gl, by rw [hn.size]; exact h.size⟩
theorem put (h : HS w0 f pb g n t hd k cells w) (i : Nat) (v : Value) : HS w0 f pb g n t hd k (cells.setIfInBounds i v) (w.setCell ⟨f, i, none⟩ v) := by
  refine ⟨⟨?_, ?_, h.rb.rd.far (fun e => h.fg e.symm) _, h.rb.len, h.rb.cap, h.rb.ne⟩, h.blk.set_ i v, h.fr.setCell (.inl (by simp)) v, h.fg, h.fp, by simpa [World.setCell] using h.gl, by simpa [World.setCell] using h.size⟩
  · obtain ⟨a, h1, h2⟩ := h.rb.cell
    exact ⟨a, (World.cell?_setCell_far w ⟨f, i, none⟩ ⟨pb, 0, none⟩ v (by simpa using h.fp)).trans h1, h2⟩
  · simpa using h.rb.free
theorem drewN (h : HS w0 f pb g n t hd k cells w) (j : Nat) : HS w0 f pb g n t hd k cells (w.drewN j) :=
  ⟨⟨h.rb.cell, h.rb.free, h.rb.rd, h.rb.len, h.rb.cap, h.rb.ne⟩, h.blk, h.fr.drewN j, h.fg, h.fp, h.gl, h.size⟩
end HS
end Go.Proofs.YtalgnjkdoaaacaaGreatDoor

/- readDirectoryHeader over a bufio.Reader. -/
namespace Go.Proofs.YtalgnjkdoaaacaaGreatDoor
open Go Go.RowKit
open Zp
theorem BufR.lt4 {w : World} {q gb b r : Nat} {s : ByteArray} {pos : Nat} (h : BufR w q gb b r s pos) : q < w.heap.size ∧ gb < w.heap.size ∧ b < w.heap.size ∧ r < w.heap.size := by
  obtain ⟨rdn, wn, off, lb, lr, cur, h⟩ := h
  exact ⟨Blk.lt h.hq, Blk.lt h.hgb, Blk.lt h.hb, Blk.lt h.hr⟩
set_option maxRecDepth 100000 in
set_option maxHeartbeats 2000000 in
theorem hdr_short (E : Errs) (q gb b r f pos : Nat) (s : ByteArray) (w : World) (hE : Env E w) (hB : BufR w q gb b r s pos) (hpos : pos ≤ s.size) (hs : s.size ≤ 4000000000) (hsh : s.size < pos + 46) :
    Calls Tryz.prog 87 #[.pointer (some ⟨f, 0, none⟩), .iface 189 (.pointer (some ⟨q, 0, none⟩))] w fun e w' =>
      (e = .returned (errv E.eof) ∨ e = .returned (errv E.unx)) ∧ BufR w' q gb b r s s.size ∧ Fr [q, gb, b] w w' := by
  have hlt := hB.lt4
  have HR := Lib.hid (readFull_buf E q gb b r w.heap.size 0 46 pos 46 203 s (zeros 46) (w.alloc (.cells (zeros 46) 203)) (hE.fr ((Fr.refl [] w).alloc _) (by simp) hB.h18.2) (hB.fr (S := []) ((Fr.refl [] w).alloc _) (by simp) (by simp) (by simp) (by simp))
    (Blk.new _ _ _) (by rw [zeros_size]; omega) (by omega) (by omega) (by omega) hB.h18.2 hpos hs)
  clear hE hB
  have hal : ∀ (ρ : Operand → Value) (W : World), (execOp ρ { dst := some 5, op := .alloc 203, type := 0, pos := "reader.go:283", after := #[], guard := none }).run Tryz.prog W = .ok (.value (.pointer (some ⟨W.heap.size, 0, none⟩))) (W.alloc (.cells (zeros 46) 203)) := fun ρ W => by kernel_rfl
  go_enter Tryz.func87, Tryz.ntmps87
  go_wp2_with fail
  apply wp_scope_straight
  apply wp_seq_k; intro K hK
  refine wp_region_list ?_
  change wpList _ _ _ [_] _ _
  refine Go.Great.wpList_runTo rfl (some 5) rfl _ _ (hal _ _) ?_
  go_wp2_with fail
  refine HR.out.mono ?_
  rintro e w1 h
  cases h with
  | all _ h _ _ _ => exact absurd h (by omega)
  | part _ j h hp hr hf =>
    have HBR := Lib.hid hr
    have HF := Lib.hid (((Fr.refl [q, gb, b] w).alloc _).trans hf (by simp))
    clear hr hf
    go_wp2_with fail
    rw [Exit.noGoto_ret]
    go_ret
    exact ⟨.inr rfl, HBR.out, HF.out⟩

  | end_ _ h hp hr hf =>
    have HBR := Lib.hid hr
    have HF := Lib.hid (((Fr.refl [q, gb, b] w).alloc _).trans hf (by simp))
    clear hr hf
    go_wp2_with fail
    rw [Exit.noGoto_ret]
    go_ret
    exact ⟨.inl rfl, HBR.out, HF.out⟩

end Go.Proofs.YtalgnjkdoaaacaaGreatDoor

/- readDirectoryHeader: a wrong signature. -/
namespace Go.Proofs.YtalgnjkdoaaacaaGreatDoor
open Go Go.RowKit
open Zp
theorem RB.start {w1 : World} {g n : Nat} {t t' : TypeId} {cur : Array Value} {hd : List UInt8} (h : Blk w1 g t (spl cur 0 hd)) (hl : hd.length = n) (hc : n ≤ cur.size) :
    RB (w1.alloc (.cells #[.slice (some ⟨g, 0, none⟩) n n] t')) ⟨w1.heap.size, 0, none⟩ g 0 n n hd := by
  have hB := Blk.new w1 t' #[.slice (some ⟨g, 0, none⟩) n n]
  exact ⟨⟨_, hB.at_ 0 _ rfl, fun _ => rfl⟩, hB.frozen 0, Rd.spl (h.alloc _) (by omega), hl, Nat.le_refl _, Nat.ne_of_lt h.lt⟩
set_option maxRecDepth 100000 in
set_option maxHeartbeats 2000000 in
theorem hdr_sig (E : Errs) (q gb b r f pos : Nat) (s : ByteArray) (w : World) (hE : Env E w) (hB : BufR w q gb b r s pos) (hpos : pos + 46 ≤ s.size) (hs : s.size ≤ 4000000000) (hsig : num ((s.data.toList.drop pos).take 4) ≠ 33639248) :
    Calls Tryz.prog 87 #[.pointer (some ⟨f, 0, none⟩), .iface 189 (.pointer (some ⟨q, 0, none⟩))] w fun e w' =>
      e = .returned (errv E.fmt) ∧ BufR w' q gb b r s (pos + 46) ∧ Fr [q, gb, b] w w' := by
  have hlt := hB.lt4
  have hE18 := hB.h18
  have HE := Lib.hid hE
  have HR := Lib.hid (readFull_buf E q gb b r w.heap.size 0 46 pos 46 203 s (zeros 46) (w.alloc (.cells (zeros 46) 203)) (hE.fr ((Fr.refl [] w).alloc _) (by simp) hB.h18.2) (hB.fr (S := []) ((Fr.refl [] w).alloc _) (by simp) (by simp) (by simp) (by simp))
    (Blk.new _ _ _) (by rw [zeros_size]; omega) (by omega) (by omega) (by omega) hB.h18.2 (by omega) hs)
  clear hE hB
  have hal : ∀ (ρ : Operand → Value) (W : World), (execOp ρ { dst := some 5, op := .alloc 203, type := 0, pos := "reader.go:283", after := #[], guard := none }).run Tryz.prog W = .ok (.value (.pointer (some ⟨W.heap.size, 0, none⟩))) (W.alloc (.cells (zeros 46) 203)) := fun ρ W => by kernel_rfl
  go_enter Tryz.func87, Tryz.ntmps87
  go_wp2_with fail
  apply wp_scope_straight
  apply wp_seq_k; intro K hK
  refine wp_region_list ?_
  change wpList _ _ _ [_] _ _
  refine Go.Great.wpList_runTo rfl (some 5) rfl _ _ (hal _ _) ?_
  go_wp2_with fail
  refine HR.out.mono ?_
  rintro e w1 h
  cases h with
  | part _ j h hp hr hf => exact absurd h (by omega)
  | end_ _ h hp hr hf => exact absurd hp (by omega)
  | all _ h hb hr hf =>
    have HBR := Lib.hid hr
    have HF := Lib.hid (((Fr.refl [q, gb, b] w).alloc _).trans hf (by simp))
    have hl : ((s.data.toList.drop pos).take 46).length = 46 := by rw [List.length_take, List.length_drop, ← Lib.size_eq]; omega
    have H32 := Lib.hid (rb32d _ _ _ _ _ _ _ (RB.start (t' := 194) hb hl (by rw [zeros_size]; omega)) (by omega))
    have hx : num (((s.data.toList.drop pos).take 46).take 4) ≠ 33639248 := by rw [List.take_take]; exact hsig
    have HE1 := Lib.hid (fun w' (hw : Fr [w1.heap.size] (w1.alloc (.cells #[.slice (some ⟨w.heap.size, 0, none⟩) 46 46] 194)) w') => ((HE.out.fr HF.out (by simp; omega) hE18.2).fr ((Fr.refl [w1.heap.size] w1).alloc (.cells #[.slice (some ⟨w.heap.size, 0, none⟩) 46 46] 194)) (by have := HF.out.size; simp; omega) (by have := HF.out.size; omega)).fr hw (by have := HF.out.size; simp; omega) (by have := HF.out.size; simp; omega))
    have hq1 := Lib.hid hr.lt4
    obtain ⟨x, hxe⟩ : ∃ x, num (((s.data.toList.drop pos).take 46).take 4) = x := ⟨_, rfl⟩
    rw [hxe] at hx
    clear hb hr hf
    go_wp2_with fail
    rw [hxe] at H32
    refine H32.out.mono ?_
    rintro e w2 ⟨rfl, hn⟩
    have hEr := HE1.out _ hn.fr
    have x1 := hEr.fmt
    have hne : ((x : Int) == 33639248) = false := by simp; omega
    have HBR2 := Lib.hid ((HBR.out.fr (S := []) ((Fr.refl [] w1).alloc _) (by simp) (by simp) (by simp) (by simp)).fr hn.fr (by have := hq1.out; simp; omega) (by have := hq1.out; simp; omega) (by have := hq1.out; simp; omega) (by have := hq1.out; simp; omega))
    have HF2 := Lib.hid ((HF.out.alloc _).trans hn.fr (by have := HF.out.size; simp; omega))
    clear hn hEr
    go_wp2_with fail
    rw [Exit.noGoto_ret]
    go_ret
    exact ⟨rfl, HBR2.out, HF2.out⟩
end Go.Proofs.YtalgnjkdoaaacaaGreatDoor

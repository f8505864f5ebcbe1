/- readDirectoryEnd, whole. -/
import Derived.Test.YtalgnjkdoaaacaaGreatDoorQka
import Derived.Test.YtalgnjkdoaaacaaGreatDoorQgk
import Derived.Test.YtalgnjkdoaaacaaGreatDoorQs
import Derived.Test.YtalgnjkdoaaacaaGreatDoorQbr
import Derived.BigRegion
set_option linter.unusedVariables false
set_option linter.unusedSimpArgs false
namespace Go.Proofs.YtalgnjkdoaaacaaGreatDoor
open Go Go.RowKit
open Zp
set_option maxRecDepth 100000 in
set_option maxHeartbeats 4000000 in
theorem rde_bad (E : Errs) (w : World) (r : Nat) (s : ByteArray) (hE : Env E w) (hr : StrR w r s) (hw18 : 14 ≤ w.heap.size) (hs : s.size ≤ 4000000000) (hno : NoEnd s.data.toList) :
    Calls Tryz.prog 84 #[strRd r, .int .i64 (s.size : Int)] w fun e w' => e = .returned (.tuple #[.pointer none, .int .i64 0, errv E.fmt]) ∧ Fr [] w w' := by
  have HE := Lib.hid hE
  have HR := Lib.hid hr
  have HNO := Lib.hid hno
  obtain ⟨L, hL⟩ : ∃ L : Nat, L = 66560 := ⟨_, rfl⟩
  have hLi : (66560 : Int) = (L : Int) := by omega
  have HLi := Lib.hid hLi
  have HL := Lib.hid hL
  clear hE hr hno hL hLi
  go_enter Tryz.func84, Tryz.ntmps84
  go_wp2_with fail
  rw [HLi.out]
  refine rde_loop E _ w _ r w.heap.size 0 s HE.out HR.out hw18 hs (by omega) ⟨rfl, rfl, rfl, rfl, rfl, rfl, rfl⟩ ((Fr.refl [] w).alloc _) L HL.out (Blk.new _ _ _) _ ?_ ?_
  · intro n p i a' w' h1 h2 h3 h4 h5
    have := fs_no HNO.out h3
    omega
  · intro n a' w' h1 h2 h3 h4 h5 h6 h7
    refine bodyPost_ret (R := fun e w' => e = .returned (.tuple #[.pointer none, .int .i64 0, errv E.fmt]) ∧ Fr [] w w') (v := .tuple #[.pointer none, .int .i64 0, errv E.fmt]) ?_ h3 ⟨rfl, h7⟩
    rw [results_tmp3 rfl, h4, h5, h6]
set_option maxRecDepth 100000 in
set_option maxHeartbeats 4000000 in
theorem rde_any (E : Errs) (w : World) (r e B : Nat) (s : ByteArray) (T : By) (hE : Env E w) (hr : StrR w r s) (hw18 : 14 ≤ w.heap.size) (hs : s.size ≤ 4000000000) (hok : OkEnd s.data.toList e) (hT : s.data.toList.drop e = T)
    (n10 : num ((T.drop 10).take 2) ≠ 65535) (n12 : num ((T.drop 12).take 4) ≠ 4294967295) (n16 : num ((T.drop 16).take 4) ≠ 4294967295) (hbase : e = num ((T.drop 12).take 4) + num ((T.drop 16).take 4) + B) (R : Ending → World → Prop)
    (hQ : ∀ d a' w', a'.tmps.size = 211 → a'.defers = [] → slotOf a' 0 = strRd r → slotOf a' 1 = .int .i64 (s.size : Int) → slotOf a' 5 = .int .i64 (B : Int) → slotOf a' 15 = .pointer (some ⟨d, 0, none⟩) → DirEnd w T d w' → (rdeG 39).wp Tryz.prog (bodyPost Tryz.prog Tryz.f84 R) a' w') :
    Calls Tryz.prog 84 #[strRd r, .int .i64 (s.size : Int)] w R := by
  have HE := Lib.hid hE
  have HR := Lib.hid hr
  have HOK := Lib.hid hok
  have HT := Lib.hid hT
  have HQ := Lib.hid hQ
  have N10 := Lib.hid n10
  have N12 := Lib.hid n12
  have N16 := Lib.hid n16
  have HB := Lib.hid hbase
  obtain ⟨L, hL⟩ : ∃ L : Nat, L = 66560 := ⟨_, rfl⟩
  have hLi : (66560 : Int) = (L : Int) := by omega
  have HLi := Lib.hid hLi
  have HL := Lib.hid hL
  clear hE hr hok hT hQ n10 n12 n16 hbase hL hLi
  go_enter Tryz.func84, Tryz.ntmps84
  go_wp2_with fail
  rename_i K hK
  rw [HLi.out]
  have hlen : s.data.toList.length = s.size := (Lib.size_eq s).symm
  have hnear := HOK.out.near
  have hfits := HOK.out.fits
  rw [hlen] at hnear hfits
  refine rde_loop E _ w _ r w.heap.size 0 s HE.out HR.out hw18 hs (by omega) ⟨rfl, rfl, rfl, rfl, rfl, rfl, rfl⟩ ((Fr.refl [] w).alloc _) L HL.out (Blk.new _ _ _) _ ?_ ?_
  · intro n p i a' w' h1 h2 h3 h4 ⟨g, g1, g2, g3, g4, g5, g6⟩
    have hp := fs_ok HOK.out (by omega) h3
    have hpe : s.size - n + p = e := by omega
    have hTl : T.length = s.size - e := by rw [← HT.out, List.length_drop, hlen]
    refine hK _ _ (rde19 a' w' r s.size g p (n - p) e T h4.size h4.defers h4.s0 h4.s1 g3 (by rw [g4]; congr 1; omega) ?_ (by omega) g2 (by omega) (by omega) (by omega) hs ?_ N10.out N12.out N16.out B HB.out _ ?_)
    · have := g5.drop p
      rw [List.drop_drop, hpe, HT.out, Nat.zero_add] at this
      exact this
    · have e1 : (T.drop 20).take 2 = (s.data.toList.drop (e + 20)).take 2 := by rw [← HT.out, List.drop_drop]
      rw [e1]; omega
    · intro d a2 w2 k1 k2 k3 k4 k5 k6 k7
      exact HQ.out d a2 w2 k1 k2 k3 k4 k5 k6 ⟨Nat.le_trans g6.size k7.1, k7.2.1, g6.trans k7.2.2 (by simp)⟩
  · intro n a' w' h1 h2 h3 h4 h5 h6 h7
    exfalso
    have := fs_ok HOK.out (by omega) h2
    have := HL.out
    omega
set_option maxRecDepth 100000 in
theorem rde_ok (E : Errs) (w : World) (r e : Nat) (s : ByteArray) (T : By) (hE : Env E w) (hr : StrR w r s) (hw18 : 14 ≤ w.heap.size) (hs : s.size ≤ 4000000000) (hok : OkEnd s.data.toList e) (hT : s.data.toList.drop e = T)
    (n10 : num ((T.drop 10).take 2) ≠ 65535) (n12 : num ((T.drop 12).take 4) ≠ 4294967295) (n16 : num ((T.drop 16).take 4) ≠ 4294967295) (hbase : e = num ((T.drop 12).take 4) + num ((T.drop 16).take 4)) :
    Calls Tryz.prog 84 #[strRd r, .int .i64 (s.size : Int)] w fun e w' => ∃ d, e = .returned (.tuple #[.pointer (some ⟨d, 0, none⟩), .int .i64 0, .nilIface]) ∧ DirEnd w T d w' := by
  refine rde_any E w r e 0 s T hE hr hw18 hs hok hT n10 n12 n16 hbase _ ?_
  intro d a' w' h1 h2 h3 h4 h5 h6 h7
  refine rde39_0 a' w' r s.size d h1 h2 h3 h4 h5 h6 _ ?_
  intro a2 k1 k2 k3 k4
  refine bodyPost_ret (v := .tuple #[.pointer (some ⟨d, 0, none⟩), .int .i64 0, .nilIface]) ?_ k1 ⟨d, rfl, h7⟩
  rw [results_tmp3 rfl, k2, k3, k4]
end Go.Proofs.YtalgnjkdoaaacaaGreatDoor

/- Errors that differ; what a directory's headers come to. -/
namespace Go.Proofs.YtalgnjkdoaaacaaGreatDoor
open Go Go.RowKit
open Zp
def Errs.list (E : Errs) : List Addr := [E.fmt, E.eof, E.alg, E.chk, E.unx, E.ins]
/-- The errors' own blocks: they lie below B0, and no two are one. -/
structure EB (E : Errs) (B0 : Nat) (w : World) : Prop where
  blk : ∀ a ∈ E.list, a.block < B0 ∧ ∃ cs t, w.heap[a.block]? = some (.cells cs t (0, 0))
  nd : E.list.Nodup
  le : B0 ≤ w.heap.size
  b18 : 14 ≤ B0
theorem EB.fr {E : Errs} {B0 : Nat} {w w' : World} {S : List Nat} (h : EB E B0 w) (hf : Fr S w w') (hS : ∀ s ∈ S, B0 ≤ s) : EB E B0 w' := by
  refine ⟨fun a ha => ?_, h.nd, Nat.le_trans h.le hf.size, h.b18⟩
  obtain ⟨h1, cs, t, h2⟩ := h.blk a ha
  exact ⟨h1, cs, t, (hf.block _ (by have := h.le; omega) (fun hm => by have := hS _ hm; omega)).trans h2⟩
theorem infoErrSz : (Tryz.prog.info? 182).map (fun i => i.size) = some 1 := by kernel_rfl
theorem eql_other {E : Errs} {B0 : Nat} {w : World} (h : EB E B0 w) {x y : Addr} (hx : x ∈ E.list) (hy : y ∈ E.list) (hne : x ≠ y) : (binOp .eql 56 (errv x) (errv y)).run Tryz.prog w = .ok (.bool false) w := by
  obtain ⟨i, hi, hc⟩ := Option.map_eq_some_iff.1 infoErrPtr
  obtain ⟨j, hj, hz⟩ := Option.map_eq_some_iff.1 infoErrSz
  obtain ⟨_, ca, ta, ha⟩ := h.blk x hx
  obtain ⟨_, cb, tb, hb⟩ := h.blk y hy
  exact run_eql_iface_ptr_other w Tryz.underlying56 Tryz.underlying180 hi hc hj (by omega) hne ha hb
theorem neq_other {E : Errs} {B0 : Nat} {w : World} (h : EB E B0 w) {x y : Addr} (hx : x ∈ E.list) (hy : y ∈ E.list) (hne : x ≠ y) : (binOp .neq 56 (errv x) (errv y)).run Tryz.prog w = .ok (.bool true) w := by
  obtain ⟨i, hi, hc⟩ := Option.map_eq_some_iff.1 infoErrPtr
  obtain ⟨j, hj, hz⟩ := Option.map_eq_some_iff.1 infoErrSz
  obtain ⟨_, ca, ta, ha⟩ := h.blk x hx
  obtain ⟨_, cb, tb, hb⟩ := h.blk y hy
  simp only [binOp]
  simp [Op.equal, Op.maxDepth, run_equalIn_iface_ptr_other w 9998 Tryz.underlying56 Tryz.underlying180 hi hc hj (by omega) hne ha hb]
theorem Errs.m (E : Errs) : E.fmt ∈ E.list ∧ E.eof ∈ E.list ∧ E.alg ∈ E.list ∧ E.chk ∈ E.list ∧ E.unx ∈ E.list ∧ E.ins ∈ E.list := by simp [Errs.list]
theorem EB.ne {E : Errs} {B0 : Nat} {w : World} (h : EB E B0 w) : E.unx ≠ E.fmt ∧ E.fmt ≠ E.ins ∧ E.unx ≠ E.ins ∧ E.alg ≠ E.fmt ∧ E.chk ≠ E.fmt ∧ E.chk ≠ E.alg ∧ E.unx ≠ E.alg ∧ E.unx ≠ E.chk ∧ E.eof ≠ E.fmt ∧ E.eof ≠ E.unx ∧ E.fmt ≠ E.eof ∧ E.unx ≠ E.eof ∧ E.chk ≠ E.eof ∧ E.alg ≠ E.eof := by
  have := h.nd
  simp only [Errs.list, List.nodup_cons, List.mem_cons, List.not_mem_nil, or_false, not_or] at this
  obtain ⟨⟨a1, a2, a3, a4, a5⟩, ⟨b1, b2, b3, b4⟩, ⟨c1, c2, c3⟩, ⟨d1, d2⟩, e1, -⟩ := this
  exact ⟨fun h => a4 h.symm, a5, e1, fun h => a2 h.symm, fun h => a3 h.symm, fun h => c1 h.symm, fun h => c2 h.symm, fun h => d1 h.symm, fun h => a1 h.symm, b3, a1, fun h => b3 h.symm, fun h => b2 h.symm, fun h => b1 h.symm⟩
set_option maxRecDepth 100000 in
set_option maxHeartbeats 2000000 in
theorem hdr_cut (E : Errs) (q gb b r f pos : Nat) (s : ByteArray) (w : World) (hE : Env E w) (hB : BufR w q gb b r s pos) (hpos : pos < s.size) (hs : s.size ≤ 4000000000) (hsh : s.size < pos + 46) :
    Calls Tryz.prog 87 #[.pointer (some ⟨f, 0, none⟩), .iface 189 (.pointer (some ⟨q, 0, none⟩))] w fun e w' =>
      e = .returned (errv E.unx) ∧ BufR w' q gb b r s s.size ∧ Fr [q, gb, b] w w' := by
  have hlt := hB.lt4
  have HR := Lib.hid (readFull_buf E q gb b r w.heap.size 0 46 pos 46 203 s (zeros 46) (w.alloc (.cells (zeros 46) 203)) (hE.fr ((Fr.refl [] w).alloc _) (by simp) hB.h18.2) (hB.fr (S := []) ((Fr.refl [] w).alloc _) (by simp) (by simp) (by simp) (by simp))
    (Blk.new _ _ _) (by rw [zeros_size]; omega) (by omega) (by omega) (by omega) hB.h18.2 (by omega) hs)
  clear hE hB
  have hal : ∀ (ρ : Operand → Value) (W : World), (execOp ρ { dst := some 5, op := .alloc 203, type := 0, pos := "reader.go:283", after := #[], guard := none }).run Tryz.prog W = .ok (.value (.pointer (some ⟨W.heap.size, 0, none⟩))) (W.alloc (.cells (zeros 46) 203)) := fun ρ W => by kernel_rfl
  go_enter Tryz.func87, Tryz.ntmps87
  go_wp2_with fail
  apply wp_scope_straight
  apply wp_seq_k; intro K hK
  refine wp_region_list ?_
  change wpList _ _ _ [_] _ _
  refine Go.Great.wpList_runTo rfl (some 5) rfl _ _ (hal _ _) ?_
  go_wp2_with fail
  refine HR.out.mono ?_
  rintro e w1 h
  cases h with
  | all _ h _ _ _ => exact absurd h (by omega)
  | end_ _ h hp hr hf => exact absurd hp (by omega)
  | part _ j h hp hr hf =>
    have HBR := Lib.hid hr
    have HF := Lib.hid (((Fr.refl [q, gb, b] w).alloc _).trans hf (by simp))
    clear hr hf
    go_wp2_with fail
    rw [Exit.noGoto_ret]
    go_ret
    exact ⟨rfl, HBR.out, HF.out⟩
/-- A whole header stands at p. -/
structure RawOk (s : By) (p : Nat) : Prop where
  len : p + 46 ≤ s.length
  sig : num ((s.drop p).take 4) = 33639248
  all : p + 46 + (num ((s.drop (p + 28)).take 2) + num ((s.drop (p + 30)).take 2) + num ((s.drop (p + 32)).take 2)) ≤ s.length
  n20 : num ((s.drop (p + 20)).take 4) ≠ 4294967295
  n24 : num ((s.drop (p + 24)).take 4) ≠ 4294967295
  n42 : num ((s.drop (p + 42)).take 4) ≠ 4294967295
def nextP (s : By) (p : Nat) : Nat := p + 46 + (num ((s.drop (p + 28)).take 2) + num ((s.drop (p + 30)).take 2) + num ((s.drop (p + 32)).take 2))
/-- Whole headers stand one behind the other from p on to q. -/
inductive Chain (s : By) : Nat → List Nat → Nat → Prop
  | nil (p : Nat) : Chain s p [] p
  | cons {p q : Nat} {ps : List Nat} : RawOk s p → Chain s (nextP s p) ps q → Chain s p (p :: ps) q
/-- No header stands at q, where the text has not ended. -/
def EndAt (s : By) (q : Nat) : Prop := q < s.length ∧ (s.length < q + 46 ∨ num ((s.drop q).take 4) ≠ 33639248)
/-- The block of a file whose header was read at p; its place is moved by B. -/
def FileAt (s : By) (U z r f p : Nat) (B : Int) (w : World) : Prop :=
  ∃ (v1 q1 v2 q2 : Bool) (ad : Addr) (db : Nat) (m0 m1 : Int) (mp : Option Addr),
    Det ⟨((s.drop (p + 46)).take (num ((s.drop (p + 28)).take 2))).toArray⟩ 0 false v1 q1 ∧ Det ⟨((s.drop (p + 46 + num ((s.drop (p + 28)).take 2) + num ((s.drop (p + 30)).take 2))).take (num ((s.drop (p + 32)).take 2))).toArray⟩ 0 false v2 q2 ∧
    Blk w f fileT (hdrC (num ((s.drop (p + 4)).take 2)) (num ((s.drop (p + 6)).take 2)) (num ((s.drop (p + 8)).take 2)) (num ((s.drop (p + 10)).take 2)) (num ((s.drop (p + 12)).take 2)) (num ((s.drop (p + 14)).take 2)) (num ((s.drop (p + 16)).take 4)) (num ((s.drop (p + 20)).take 4)) (num ((s.drop (p + 24)).take 4)) (num ((s.drop (p + 20)).take 4)) (num ((s.drop (p + 24)).take 4)) (num ((s.drop (p + 38)).take 4)) ((num ((s.drop (p + 42)).take 4) : Int) + B)
      ⟨((s.drop (p + 46)).take (num ((s.drop (p + 28)).take 2))).toArray⟩ ⟨((s.drop (p + 46 + num ((s.drop (p + 28)).take 2) + num ((s.drop (p + 30)).take 2))).take (num ((s.drop (p + 32)).take 2))).toArray⟩ (nonB v1 q1 v2 q2 (num ((s.drop (p + 8)).take 2))) (.slice (some ad) (num ((s.drop (p + 30)).take 2)) (num ((s.drop (p + 30)).take 2) + num ((s.drop (p + 32)).take 2))) m0 m1 mp z r) ∧
    (0 < num ((s.drop (p + 30)).take 2) → ad = ⟨db, num ((s.drop (p + 28)).take 2), none⟩) ∧ U ≤ db ∧ (∃ cs, Blk w db byteT cs) ∧ db ≠ f ∧ Rd w db (num ((s.drop (p + 28)).take 2)) ((s.drop (p + 46 + num ((s.drop (p + 28)).take 2))).take (num ((s.drop (p + 30)).take 2))) ∧ U ≤ f
theorem FileAt.fr {s : By} {U z r f p : Nat} {B : Int} {w w' : World} {S : List Nat} (h : FileAt s U z r f p B w) (hf : Fr S w w') (h1 : ∀ x ∈ S, x < U ∨ w.heap.size ≤ x) : FileAt s U z r f p B w' := by
  obtain ⟨v1, q1, v2, q2, ad, db, m0, m1, mp, d1, d2, hb, ha, h3, ⟨cs, h4⟩, h5, h6, h7⟩ := h
  have l1 := hb.lt
  have l2 := h4.lt
  have n1 : f ∉ S := fun hm => by have := h1 _ hm; omega
  have n2 : db ∉ S := fun hm => by have := h1 _ hm; omega
  exact ⟨v1, q1, v2, q2, ad, db, m0, m1, mp, d1, d2, hb.fr hf n1, ha, h3, ⟨cs, h4.fr hf n2⟩, h5, h6.fr hf l2 n2, h7⟩
/-- An append to a row of another kind. -/
theorem FileAt.grown {s : By} {U z r f p : Nat} {B : Int} {w w' : World} {row : Option Nat} (h : FileAt s U z r f p B w) (hf : w.grownBy w' row) (hr : ∀ g, row = some g → ∃ cur t, w.heap[g]? = some (.cells cur t (0, 0)) ∧ t ≠ fileT ∧ t ≠ byteT) : FileAt s U z r f p B w' := by
  obtain ⟨v1, q1, v2, q2, ad, db, m0, m1, mp, d1, d2, hb, ha, h3, ⟨cs, h4⟩, h5, h6, h7⟩ := h
  have hne : ∀ (g : Nat) (t : TypeId) (cs : Array Value), Blk w g t cs → (t = fileT ∨ t = byteT) → some g ≠ row := fun g t cs hb ht hg => by
    obtain ⟨cur, t', h1, h2, h3⟩ := hr g hg.symm
    unfold Blk at hb
    rw [hb] at h1
    injection h1 with h1
    injection h1 with _ h1
    rcases ht with ht | ht
    · exact h2 (h1.symm.trans ht)
    · exact h3 (h1.symm.trans ht)
  have k1 : Blk w' f fileT _ := (hf.block f hb.lt (hne _ _ _ hb (.inl rfl))).trans hb
  have k2 : Blk w' db byteT cs := (hf.block db h4.lt (hne _ _ _ h4 (.inr rfl))).trans h4
  exact ⟨v1, q1, v2, q2, ad, db, m0, m1, mp, d1, d2, k1, ha, h3, ⟨cs, k2⟩, h5, h6.keep (fun i => World.cell?_of_block (w := w) (hf.block db h4.lt (hne _ _ _ h4 (.inr rfl)))), h7⟩
end Go.Proofs.YtalgnjkdoaaacaaGreatDoor

/- io.ReadFull over an io.SectionReader; readDirectoryHeader over one where no header stands. -/
namespace Go.Proofs.YtalgnjkdoaaacaaGreatDoor
open Go Go.RowKit
open Zp
abbrev secC (r base off lim N : Nat) : Array Value := #[strRd r, .int .i64 (base : Int), .int .i64 (off : Int), .int .i64 (lim : Int), .int .i64 (N : Int)]
/-- What a read of a section turns. -/
structure SecRd (w : World) (b g : Nat) (t : TypeId) (r base off lim M : Nat) (cur : Array Value) (w' : World) : Prop where
  dst : Blk w' g t cur
  sec : Blk w' b 198 (secC r base off lim M)
  fr : Fr [b, g] w w'
theorem secRead_fr (b r g o n c base off lim M k : Nat) (s : ByteArray) (cur : Array Value) (t : TypeId) (w : World)
    (hb : Blk w b 198 (secC r base off lim M))
    (hr : StrR w r s) (hg : Blk w g t cur) (hn : 0 < n) (hnc : n ≤ c) (hfit : o + n ≤ cur.size) (hol : off < lim) (hl : lim ≤ s.size) (hs : s.size ≤ 4000000000) (hbg : b ≠ g) (hk : k = min n (lim - off)) :
    Calls Tryz.prog 195 #[.pointer (some ⟨b, 0, none⟩), .slice (some ⟨g, o, none⟩) n c] w fun e w' =>
      e = .returned (.tuple #[.int .i64 (k : Int), .nilIface]) ∧ SecRd w b g t r base (off + k) lim M (spl cur o ((s.data.toList.drop off).take k)) w' := by
  refine (secRead_data b r g o n c base off lim M k s cur t w hb (Blk.at_ hr 0 _ rfl) hg hn hnc hfit hol hl hs hbg hk).mono ?_
  rintro e w' ⟨rfl, m, rfl⟩
  exact ⟨rfl, ((hg.row _).far (p := ⟨b, 2, none⟩) (fun h => hbg h.symm) _).drewN m, ((hb.rowFar hbg _).set_ 2 _).drewN m, (((Fr.refl _ _).setRow (.inl (by simp)) _).setCell (.inl (by simp)) _).drewN m⟩
theorem secRead_eof (E : Errs) (b : Nat) (v rd : Value) (base off lim N : Nat) (w : World) (hE : Env E w)
    (hb : Blk w b 198 #[rd, .int .i64 (base : Int), .int .i64 (off : Int), .int .i64 (lim : Int), .int .i64 (N : Int)]) (h : lim ≤ off) :
    Calls Tryz.prog 195 #[.pointer (some ⟨b, 0, none⟩), v] w fun e w' =>
      e = .returned (.tuple #[.int .i64 0, errv E.eof]) ∧ Fr [] w w' := by
  refine (secRead_end E b v rd base off lim N w hE hb h).mono ?_
  rintro e w' ⟨rfl, m, rfl⟩
  exact ⟨rfl, (Fr.refl _ _).drewN m⟩
def RAS (E : Errs) (b r g : Nat) (t : TypeId) (s : ByteArray) (base off lim M N : Nat) (cur : Array Value) (w : World) (v6 v7 : Value) (wr : World) : Prop :=
  ∃ j : Nat, j ≤ N ∧ off + j ≤ lim ∧ v6 = .int .i64 (j : Int) ∧ (v7 = .nilIface ∨ (v7 = errv E.eof ∧ off + j = lim ∧ j < N)) ∧ Blk wr g t (spl cur 0 ((s.data.toList.drop off).take j)) ∧ Blk wr b 198 (secC r base (off + j) lim M) ∧ Fr [b, g] w wr
/-- What ReadFull comes to. -/
inductive RdS (E : Errs) (b g : Nat) (t : TypeId) (s : ByteArray) (off lim N : Nat) (cur : Array Value) (w : World) : Ending → World → Prop
  | all (w' : World) (h : off + N ≤ lim) (hb : Blk w' g t (spl cur 0 ((s.data.toList.drop off).take N))) (hf : Fr [b, g] w w') :
      RdS E b g t s off lim N cur w (.returned (.tuple #[.int .i64 (N : Int), .nilIface])) w'
  | part (w' : World) (j : Nat) (h : lim < off + N) (hp : off < lim) (hf : Fr [b, g] w w') :
      RdS E b g t s off lim N cur w (.returned (.tuple #[.int .i64 (j : Int), errv E.unx])) w'
set_option maxRecDepth 100000 in
set_option maxHeartbeats 4000000 in
theorem readAtLeast_sec (E : Errs) (b r g c base off lim M N : Nat) (t : TypeId) (s : ByteArray) (cur : Array Value) (w : World) (hE : Env E w) (hB : Blk w b 198 (secC r base off lim M)) (hr : StrR w r s)
    (hg : Blk w g t cur) (hfit : N ≤ cur.size) (hN : N ≤ 4000000) (hnc : N ≤ c) (hne : g ≠ b ∧ g ≠ r ∧ b ≠ r) (h18 : 14 ≤ g ∧ 14 ≤ b) (hw18 : 14 ≤ w.heap.size) (hol : off < lim) (hl : lim ≤ s.size) (hs : s.size ≤ 4000000000) :
    Calls Tryz.prog 144 #[.iface 124 (.pointer (some ⟨b, 0, none⟩)), .slice (some ⟨g, 0, none⟩) N c, .int .i64 (N : Int)] w fun e w' => RdS E b g t s off lim N cur w e w' := by
  have he := fun w => eql_same E.eof w
  have hna : ∀ W, (nilAhead 452 124 (.pointer (some ⟨b, 0, none⟩)) "Read").run Tryz.prog W = .ok (some false) W := fun W => by kernel_rfl
  have hS : ∀ s ∈ [b, g], 14 ≤ s := by simp; omega
  have H0 := Lib.hid hB
  have HG := Lib.hid hg
  have HE := Lib.hid hE
  have HSR := Lib.hid hr
  clear hB hg hE hr
  go_enter Tryz.func144, Tryz.ntmps144
  go_wp2_with fail
  go_loopw [6, 7, 8] (fun v6 v7 _ wr => RAS E b r g t s base off lim M N cur w v6 v7 wr) (fun v6 v7 _ _ => 2 * (N - (intOf v6).toNat) + (match v7 with | .nilIface => 1 | _ => 0))
  case atStart => exact ⟨0, Nat.zero_le _, by omega, rfl, .inl rfl, by rw [List.take_zero, spl_nil]; exact HG.out, H0.out, Fr.refl _ _⟩
  case round =>
    obtain ⟨j, hj, hjs, rfl, hv, hb, hr, hf⟩ := hrel
    have HB := Lib.hid hb
    have HR := Lib.hid hr
    have HF := Lib.hid hf
    have HSR1 := Lib.hid (Blk.fr HSR.out hf (by simp; omega))
    clear hb hr hf
    rcases hv with rfl | ⟨rfl, h1, h2⟩
    · by_cases hlt : j < N
      · have i1 : (j : Int) ≤ (N : Int) := by omega
        have i2 : (j : Int) ≤ (c : Int) := by omega
        have i3 : ¬ c = j := by omega
        by_cases hps : off + j < lim
        · obtain ⟨k, hk⟩ : ∃ k, k = min (N - j) (lim - (off + j)) := ⟨_, rfl⟩
          have k1 : k ≤ N - j := by omega
          have k2 : k ≤ lim - (off + j) := by omega
          have k3 : 0 < k := by omega
          have H := Lib.hid (fun (w' : World) (hw : Fr [] wr w') => secRead_fr b r g j (N - j) (c - j) base (off + j) lim M k s (spl cur 0 ((s.data.toList.drop off).take j)) t w' (HR.out.fr hw (by simp)) (Blk.fr HSR1.out hw (by simp)) (HB.out.fr hw (by simp)) (by omega)
            (by omega) (by rw [spl_size (by rw [List.length_take]; omega)]; omega) hps hl hs (fun h => hne.1 h.symm) hk)
          clear hk
          go_wp2_with fail
          go_region_held3 (fun _ => True) (trivial) ((go_at_call 195; (with_reducible refine (H.out _ ((Fr.refl [] wr).drew)).mono ?_); rintro e w1 ⟨rfl, hsr⟩; have HSR2 := Lib.hid hsr; clear hsr))
          go_wp2_with fail
          have hl : ((s.data.toList.drop off).take j).length = j := by rw [List.length_take, List.length_drop, ← Lib.size_eq]; omega
          refine ⟨⟨j + k, by omega, by omega, rfl, .inl rfl, ?_, ?_, ?_⟩, by simp [intOf]; omega⟩
          · rw [← take_take_drop, ← spl_spl (by rw [hl]) (by rw [take_take_drop, List.length_take]; omega)]
            have := HSR2.out.dst
            rw [Nat.zero_add]
            exact this
          · rw [← Nat.add_assoc]
            exact HSR2.out.sec
          · exact HF.out.drew.trans HSR2.out.fr (fun _ h => .inl h)
        · have hps' : off + j = lim := by omega
          have H := Lib.hid (fun (w' : World) (hw : Fr [] wr w') => secRead_eof E b (.slice (some ⟨g, j, none⟩) (N - j) (c - j)) (strRd r) base (off + j) lim M w' (HE.out.fr (HF.out.trans hw (by simp)) hS hw18) (HR.out.fr hw (by simp)) (by omega))
          have HP := Lib.hid hps'
          clear hps'
          go_wp2_with fail
          go_region_held3 (fun _ => True) (trivial) ((go_at_call 195; (with_reducible refine (H.out _ ((Fr.refl [] wr).drew)).mono ?_); rintro e w1 ⟨rfl, hfe⟩; have HFE := Lib.hid hfe; clear hfe))
          go_wp2_with fail
          refine ⟨⟨j, hj, hjs, rfl, .inr ⟨rfl, HP.out, hlt⟩, Blk.fr HB.out.drew HFE.out (by simp), Blk.fr HR.out.drew HFE.out (by simp), HF.out.drew.trans HFE.out (by simp)⟩, by simp [intOf]⟩
      · go_wp2_with fail
        go_ret2
        obtain rfl : j = N := by omega
        exact RdS.all wr hjs HB.out HF.out
    · have hEr := HE.out.fr HF.out hS hw18
      have x1 := hEr.eof
      have x2 := hEr.unx
      have HS := Lib.hid h1
      clear h1 hEr
      have h0 : ¬ j = 0 := by have := HS.out; omega
      go_wp2_with fail
      go_ret2
      exact RdS.part wr j (by have := HS.out; omega) (by have := HS.out; omega) HF.out
set_option maxRecDepth 100000 in
theorem readFull_sec (E : Errs) (b r g c base off lim M N : Nat) (t : TypeId) (s : ByteArray) (cur : Array Value) (w : World) (hE : Env E w) (hB : Blk w b 198 (secC r base off lim M)) (hr : StrR w r s)
    (hg : Blk w g t cur) (hfit : N ≤ cur.size) (hN : N ≤ 4000000) (hnc : N ≤ c) (hne : g ≠ b ∧ g ≠ r ∧ b ≠ r) (h18 : 14 ≤ g ∧ 14 ≤ b) (hw18 : 14 ≤ w.heap.size) (hol : off < lim) (hl : lim ≤ s.size) (hs : s.size ≤ 4000000000) :
    Calls Tryz.prog 115 #[.iface 124 (.pointer (some ⟨b, 0, none⟩)), .slice (some ⟨g, 0, none⟩) N c] w fun e w' => RdS E b g t s off lim N cur w e w' := by
  have H := Lib.hid (readAtLeast_sec E b r g c base off lim M N t s cur w hE hB hr hg hfit hN hnc hne h18 hw18 hol hl hs)
  clear hE hB hg hr
  go_enter Tryz.func115, Tryz.ntmps115
  go_wp2_with fail
  refine H.out.mono ?_
  rintro e w1 h
  cases h <;> (go_wp2_with fail; go_ret2)
  · exact RdS.all _ ‹_› ‹_› ‹_›
  · exact RdS.part _ _ ‹_› ‹_› ‹_›
/-- No header is read. -/
def HdrBad (E : Errs) (b : Nat) (w : World) (e : Ending) (w' : World) : Prop := (e = .returned (errv E.unx) ∨ e = .returned (errv E.fmt)) ∧ Fr [b] w w'
set_option maxRecDepth 100000 in
set_option maxHeartbeats 2000000 in
theorem hdr_badS (E : Errs) (b r f base off lim M : Nat) (s : ByteArray) (w : World) (hE : Env E w) (hB : Blk w b 198 (secC r base off lim M)) (hr : StrR w r s) (hbr : b ≠ r) (hb18 : 14 ≤ b) (hw18 : 14 ≤ w.heap.size) (hol : off < lim) (hl : lim ≤ s.size) (hs : s.size ≤ 4000000000)
    (hbad : lim < off + 46 ∨ num ((s.data.toList.drop off).take 4) ≠ 33639248) :
    Calls Tryz.prog 87 #[.pointer (some ⟨f, 0, none⟩), .iface 124 (.pointer (some ⟨b, 0, none⟩))] w (HdrBad E b w) := by
  have lb := hB.lt
  have lr := Blk.lt hr
  have HE := Lib.hid hE
  have HBAD := Lib.hid hbad
  have HR := Lib.hid (readFull_sec E b r w.heap.size 46 base off lim M 46 203 s (zeros 46) (w.alloc (.cells (zeros 46) 203)) (hE.fr ((Fr.refl [] w).alloc _) (by simp) hw18) (hB.alloc _) (Blk.alloc hr _)
    (Blk.new _ _ _) (by rw [zeros_size]; omega) (by omega) (by omega) (by omega) (by omega) (by simp; omega) hol hl hs)
  clear hE hB hr hbad
  have hal : ∀ (ρ : Operand → Value) (W : World), (execOp ρ { dst := some 5, op := .alloc 203, type := 0, pos := "reader.go:283", after := #[], guard := none }).run Tryz.prog W = .ok (.value (.pointer (some ⟨W.heap.size, 0, none⟩))) (W.alloc (.cells (zeros 46) 203)) := fun ρ W => by kernel_rfl
  go_enter Tryz.func87, Tryz.ntmps87
  go_wp2_with fail
  apply wp_scope_straight
  apply wp_seq_k; intro K hK
  refine wp_region_list ?_
  change wpList _ _ _ [_] _ _
  refine Go.Great.wpList_runTo rfl (some 5) rfl _ _ (hal _ _) ?_
  go_wp2_with fail
  refine HR.out.mono ?_
  rintro e w1 h
  cases h with
  | part _ j h hp hf =>
    have HF := Lib.hid (((Fr.refl [b] w).alloc _).trans hf (by simp))
    clear hf
    go_wp2_with fail
    rw [Exit.noGoto_ret]
    go_ret
    exact ⟨.inl rfl, HF.out⟩
  | all _ h hb hf =>
    have HF := Lib.hid (((Fr.refl [b] w).alloc _).trans hf (by simp))
    have hl : ((s.data.toList.drop off).take 46).length = 46 := by rw [List.length_take, List.length_drop, ← Lib.size_eq]; omega
    have H32 := Lib.hid (rb32d _ _ _ _ _ _ _ (RB.start (t' := 194) hb hl (by rw [zeros_size]; omega)) (by omega))
    have hx : num (((s.data.toList.drop off).take 46).take 4) ≠ 33639248 := by
      rw [List.take_take]
      rcases HBAD.out with h2 | h2
      · omega
      · exact h2
    have HE1 := Lib.hid (fun w' (hw : Fr [w1.heap.size] (w1.alloc (.cells #[.slice (some ⟨w.heap.size, 0, none⟩) 46 46] 194)) w') => ((HE.out.fr HF.out (by simp; omega) hw18).fr ((Fr.refl [w1.heap.size] w1).alloc (.cells #[.slice (some ⟨w.heap.size, 0, none⟩) 46 46] 194)) (by have := HF.out.size; simp; omega) (by have := HF.out.size; omega)).fr hw (by have := HF.out.size; simp; omega) (by have := HF.out.size; simp; omega))
    obtain ⟨x, hxe⟩ : ∃ x, num (((s.data.toList.drop off).take 46).take 4) = x := ⟨_, rfl⟩
    rw [hxe] at hx
    clear hb hf
    go_wp2_with fail
    rw [hxe] at H32
    refine H32.out.mono ?_
    rintro e w2 ⟨rfl, hn⟩
    have hEr := HE1.out _ hn.fr
    have x1 := hEr.fmt
    have hne : ((x : Int) == 33639248) = false := by simp; omega
    have HF2 := Lib.hid ((HF.out.alloc _).trans hn.fr (by have := HF.out.size; simp; omega))
    clear hn hEr
    go_wp2_with fail
    rw [Exit.noGoto_ret]
    go_ret
    exact ⟨.inr rfl, HF2.out⟩
end Go.Proofs.YtalgnjkdoaaacaaGreatDoor

/- readDirectoryEnd where the archive stands behind something. -/
namespace Go.Proofs.YtalgnjkdoaaacaaGreatDoor
open Go Go.RowKit
open Zp
set_option maxRecDepth 100000 in
set_option maxHeartbeats 4000000 in
theorem rde39_B (E : Errs) (a : Act) (w : World) (r d B F : Nat) (s : ByteArray) (x4 x6 x8 x10 x12 x20 : Int) (cm : ByteArray) (hE : Env E w) (hr : StrR w r s) (hw18 : 14 ≤ w.heap.size) (hs4 : s.size ≤ 4000000000) (hB : 0 < B) (hB4 : B ≤ 4000000000) (hbad : EndAt s.data.toList F) (hdb : Blk w d 187 (deC x4 x6 x8 x10 x12 (F : Int) x20 cm))
    (hs : a.tmps.size = 211) (hd : a.defers = []) (h0 : slotOf a 0 = strRd r) (h1 : slotOf a 1 = .int .i64 (s.size : Int)) (h5 : slotOf a 5 = .int .i64 (B : Int)) (h15 : slotOf a 15 = .pointer (some ⟨d, 0, none⟩)) (Q : Exit → Act → World → Prop)
    (hQ : ∀ a' w', a'.defers = [] → a'.tmps.getD 4 undef = .pointer (some ⟨d, 0, none⟩) → a'.tmps.getD 5 undef = .int .i64 (B : Int) → a'.tmps.getD 6 undef = .nilIface → Fr [] w w' → Q .ret a' w') :
    (rdeG 39).wp Tryz.prog Q a w := by
  have hsl : s.data.toList.length = s.size := (Lib.size_eq s).symm
  obtain ⟨hF1, hF2⟩ := hbad
  rw [hsl] at hF1 hF2
  have HQ := Lib.hid hQ
  have HE := Lib.hid hE
  have HR := Lib.hid hr
  have HD := Lib.hid hdb
  have HF2 := Lib.hid hF2
  have e5 := hdb.at_ 5 (.int .u64 (F : Int)) rfl
  have hB0 : (0 : Int) < (B : Int) := by omega
  have v1 : IntKind.i64.wrap (F : Int) = (F : Int) := IntWalk.i64_in _ (by omega)
  have v2 : IntKind.i64.wrap ((s.size : Int) - (F : Int)) = ((s.size - F : Nat) : Int) := by rw [IntWalk.i64_in _ (by omega)]; omega
  have hsub : (s.size : Int) - (F : Int) = ((s.size - F : Nat) : Int) := by omega
  have HN := Lib.hid (newSection_any r F (s.size - F) (by omega) w)
  rw [frame211 hs hd, h0, h1, h5, h15]
  clear hQ hs hd h0 h1 h5 h15 hE hr hdb hF2
  obtain ⟨z, hz⟩ : ∃ z, s.size = z := ⟨_, rfl⟩
  have HZ := Lib.hid hz
  rw [hz] at hs4 hF1 v2 HN hsub ⊢
  clear hz
  conv => arg 2; whnf
  go_wp2_with fail
  refine HN.out.mono ?_
  rintro e w1 ⟨rfl, hw1⟩
  have hf1 : Fr [] w w1 := by rw [hw1]; exact (Fr.refl _ _).alloc _
  have hb1 : Blk w1 w.heap.size 198 (secC r F F (F + (z - F)) (z - F)) := by rw [hw1]; exact Blk.new _ _ _
  clear hw1
  rw [show F + (z - F) = z by omega] at hb1
  have HF1 := Lib.hid hf1
  have HB1 := Lib.hid hb1
  clear hf1 hb1
  have lr := Blk.lt HR.out
  have HH := Lib.hid (fun f (w2 : World) (hf : Fr [] w1 w2) => hdr_badS E w.heap.size r f F F z (z - F) s w2 (HE.out.fr (HF1.out.trans hf (by simp)) (by simp) hw18) (HB1.out.fr hf (by simp)) (Blk.fr HR.out (HF1.out.trans hf (by simp)) (by simp)) (by omega) hw18 (by have := HF1.out.size; have := hf.size; omega) hF1 (by rw [HZ.out]; omega) (by rw [HZ.out]; exact hs4) (by rw [← HZ.out]; exact HF2.out))
  go_wp2_with fail
  refine (HH.out _ _ ((Fr.refl [] w1).alloc _)).mono ?_
  rintro e w2 ⟨he, hf2⟩
  have HF3 := Lib.hid ((HF1.out.alloc _).trans hf2 (by simp))
  clear hf2
  rcases he with rfl | rfl
  · go_wp2_with fail
    exact HQ.out _ _ rfl rfl rfl rfl HF3.out
  · go_wp2_with fail
    exact HQ.out _ _ rfl rfl rfl rfl HF3.out
theorem DirEnd.fr {w w1 w2 : World} {T : By} {d : Nat} (h : DirEnd w T d w1) (hf : Fr [] w1 w2) : DirEnd w T d w2 := ⟨h.1, h.2.1.fr hf (by simp), h.2.2.trans hf (by simp)⟩
set_option maxRecDepth 100000 in
theorem rde_base (E : Errs) (w : World) (r e B : Nat) (s : ByteArray) (T : By) (hE : Env E w) (hr : StrR w r s) (hw18 : 14 ≤ w.heap.size) (hs : s.size ≤ 4000000000) (hok : OkEnd s.data.toList e) (hT : s.data.toList.drop e = T)
    (n10 : num ((T.drop 10).take 2) ≠ 65535) (n12 : num ((T.drop 12).take 4) ≠ 4294967295) (n16 : num ((T.drop 16).take 4) ≠ 4294967295) (hbase : e = num ((T.drop 12).take 4) + num ((T.drop 16).take 4) + B) (hbz : B = 0 ∨ EndAt s.data.toList (num ((T.drop 16).take 4))) :
    Calls Tryz.prog 84 #[strRd r, .int .i64 (s.size : Int)] w fun e w' => ∃ d, e = .returned (.tuple #[.pointer (some ⟨d, 0, none⟩), .int .i64 (B : Int), .nilIface]) ∧ DirEnd w T d w' := by
  refine rde_any E w r e B s T hE hr hw18 hs hok hT n10 n12 n16 hbase _ ?_
  intro d a' w' h1 h2 h3 h4 h5 h6 h7
  by_cases hB : B = 0
  · subst hB
    refine rde39_0 a' w' r s.size d h1 h2 h3 h4 h5 h6 _ ?_
    intro a2 k1 k2 k3 k4
    refine bodyPost_ret (v := .tuple #[.pointer (some ⟨d, 0, none⟩), .int .i64 0, .nilIface]) ?_ k1 ⟨d, rfl, h7⟩
    rw [results_tmp3 rfl, k2, k3, k4]
  · have hbad : EndAt s.data.toList (num ((T.drop 16).take 4)) := by
      rcases hbz with h | h
      · exact absurd h hB
      · exact h
    have hel := hok.fits
    rw [show s.data.toList.length = s.size from (Lib.size_eq s).symm] at hel
    refine rde39_B E a' w' r d B _ s _ _ _ _ _ _ _ (hE.fr h7.2.2 (by simp) hw18) (Blk.fr hr h7.2.2 (by simp)) (Nat.le_trans hw18 h7.2.2.size) hs (by omega) (by omega) hbad h7.2.1 h1 h2 h3 h4 h5 h6 _ ?_
    intro a2 w2 k1 k2 k3 k4 k5
    refine bodyPost_ret (v := .tuple #[.pointer (some ⟨d, 0, none⟩), .int .i64 (B : Int), .nilIface]) ?_ k1 ⟨d, rfl, h7.fr k5⟩
    rw [results_tmp3 rfl, k2, k3, k4]
end Go.Proofs.YtalgnjkdoaaacaaGreatDoor

/- The frame of Reader.init; the loop over the headers: its state. -/
namespace Go.Proofs.YtalgnjkdoaaacaaGreatDoor
open Go Go.RowKit
open Zp
noncomputable def rinFrom (n : Nat) : Code := ((Tryz.f59.body.bind (sufG n))).getD .skip
noncomputable def rinLoop (n : Nat) : Code := ((Tryz.f59.body.bind (loopAt n))).getD .skip
set_option maxRecDepth 100000 in
theorem frame145 {a : Act} (hs : a.tmps.size = 145) (hd : a.defers = []) : a = ⟨#[slotOf a 0, slotOf a 1, slotOf a 2, slotOf a 3, slotOf a 4, slotOf a 5, slotOf a 6, slotOf a 7, slotOf a 8, slotOf a 9, slotOf a 10, slotOf a 11, slotOf a 12, slotOf a 13, slotOf a 14, slotOf a 15, slotOf a 16, slotOf a 17, slotOf a 18, slotOf a 19, slotOf a 20, slotOf a 21, slotOf a 22, slotOf a 23, slotOf a 24, slotOf a 25, slotOf a 26, slotOf a 27, slotOf a 28, slotOf a 29, slotOf a 30, slotOf a 31, slotOf a 32, slotOf a 33, slotOf a 34, slotOf a 35, slotOf a 36, slotOf a 37, slotOf a 38, slotOf a 39, slotOf a 40, slotOf a 41, slotOf a 42, slotOf a 43, slotOf a 44, slotOf a 45, slotOf a 46, slotOf a 47, slotOf a 48, slotOf a 49, slotOf a 50, slotOf a 51, slotOf a 52, slotOf a 53, slotOf a 54, slotOf a 55, slotOf a 56, slotOf a 57, slotOf a 58, slotOf a 59, slotOf a 60, slotOf a 61, slotOf a 62, slotOf a 63, slotOf a 64, slotOf a 65, slotOf a 66, slotOf a 67, slotOf a 68, slotOf a 69, slotOf a 70, slotOf a 71, slotOf a 72, slotOf a 73, slotOf a 74, slotOf a 75, slotOf a 76, slotOf a 77, slotOf a 78, slotOf a 79, slotOf a 80, slotOf a 81, slotOf a 82, slotOf a 83, slotOf a 84, slotOf a 85, slotOf a 86, slotOf a 87, slotOf a 88, slotOf a 89, slotOf a 90, slotOf a 91, slotOf a 92, slotOf a 93, slotOf a 94, slotOf a 95, slotOf a 96, slotOf a 97, slotOf a 98, slotOf a 99, slotOf a 100, slotOf a 101, slotOf a 102, slotOf a 103, slotOf a 104, slotOf a 105, slotOf a 106, slotOf a 107, slotOf a 108, slotOf a 109, slotOf a 110, slotOf a 111, slotOf a 112, slotOf a 113, slotOf a 114, slotOf a 115, slotOf a 116, slotOf a 117, slotOf a 118, slotOf a 119, slotOf a 120, slotOf a 121, slotOf a 122, slotOf a 123, slotOf a 124, slotOf a 125, slotOf a 126, slotOf a 127, slotOf a 128, slotOf a 129, slotOf a 130, slotOf a 131, slotOf a 132, slotOf a 133, slotOf a 134, slotOf a 135, slotOf a 136, slotOf a 137, slotOf a 138, slotOf a 139, slotOf a 140, slotOf a 141, slotOf a 142, slotOf a 143, slotOf a 144], []⟩ := frame_of hs hd
structure FrI (rb r sz d q : Nat) (a : Act) : Prop where
  size : a.tmps.size = 145
  defers : a.defers = []
  s0 : slotOf a 0 = .pointer (some ⟨rb, 0, none⟩)
  s1 : slotOf a 1 = strRd r
  s2 : slotOf a 2 = .int .i64 (sz : Int)
  s7 : slotOf a 7 = .pointer (some ⟨d, 0, none⟩)
  s11 : slotOf a 11 = .pointer (some ⟨q, 0, none⟩)
abbrev rdC (r : Nat) (v : Value) (cm : ByteArray) (B : Int) : Array Value := #[strRd r, v, .string cm, .map none, .int .i64 B]
abbrev fptrs (fs : List Nat) : List Value := fs.map fun f => .pointer (some ⟨f, 0, none⟩)
/-- The state of the loop over the headers: the files fs have been read, from the places ps. -/
structure IN (w00 : World) (U rb r d q gb b : Nat) (s : ByteArray) (cm : ByteArray) (B : Nat) (x4 x6 x8 x10 x12 x16 x20 : Int) (fs ps : List Nat) (pos : Nat) (w : World) : Prop where
  rd : ∃ v, Blk w rb 66 (rdC r v cm B) ∧ w.ownsRow w00.heap.size 67 1 v fs.length (fptrs fs)
  files : ∀ (i f p : Nat), fs[i]? = some f → ps[i]? = some p → FileAt s.data.toList U rb r f p B w
  len : fs.length = ps.length
  buf : BufR w q gb b r s pos
  de : Blk w d 187 (deC x4 x6 x8 x10 x12 x16 x20 cm)
  fr : Fr [rb] w00 w
  low : rb < U ∧ q < U ∧ gb < U ∧ b < U ∧ r < U ∧ d < U ∧ U ≤ w.heap.size
  new : w00.heap.size ≤ q ∧ w00.heap.size ≤ gb ∧ w00.heap.size ≤ b ∧ w00.heap.size ≤ d ∧ w00.heap.size ≤ U
theorem infoFile : (Tryz.prog.info? 67).map (fun i => (i.zero, i.size, i.bytes)) = some (some (.pointer none), 1, 8) := by kernel_rfl
theorem nil_eql (a : Addr) (w : World) : (binOp .eql 56 .nilIface (errv a)).run Tryz.prog w = .ok (.bool false) w := run_eql_iface_nil_left w _ _ Tryz.underlying56
end Go.Proofs.YtalgnjkdoaaacaaGreatDoor

/- Reader.init: one header is read. -/
namespace Go.Proofs.YtalgnjkdoaaacaaGreatDoor
open Go Go.RowKit
open Zp
theorem drop_take_drop (l : By) (p k n : Nat) (h : k + n ≤ 46) : (((l.drop p).take 46).drop k).take n = (l.drop (p + k)).take n := by
  rw [List.drop_take, List.drop_drop, List.take_take, Nat.min_eq_left (by omega)]
theorem HdrAll.file {w w' : World} {q gb b r f pos : Nat} {s : ByteArray} {hd : By} {z U : Nat} (h : HdrAll w q gb b r f pos s hd z w') (hhd : (s.data.toList.drop pos).take 46 = hd) (hU : U ≤ f) (hfw : f < w.heap.size) :
    FileAt s.data.toList U z r f pos 0 w' ∧ BufR w' q gb b r s (nextP s.data.toList pos) ∧ Fr [q, gb, b, f] w w' := by
  subst hhd
  obtain ⟨⟨v1, q1, v2, q2, ad, db, m0, m1, mp, d1, d2, hb, ha, h3, h4, h5⟩, hbuf, hfr⟩ := h.out
  simp only [drop_take_drop, Nat.reduceAdd, Nat.reduceLeDiff] at *
  refine ⟨⟨v1, q1, v2, q2, ad, db, m0, m1, mp, d1, d2, ?_, ha, by omega, h4, by omega, h5, hU⟩, hbuf, hfr⟩
  rw [Int.add_zero]
  exact hb
/-- The place of a file is moved. -/
theorem FileAt.move {s : By} {U z r f p : Nat} {w : World} (h : FileAt s U z r f p 0 w) (B : Int) : FileAt s U z r f p B (w.setCell ⟨f, 21, none⟩ (.int .i64 ((num ((s.drop (p + 42)).take 4) : Int) + B))) := by
  obtain ⟨v1, q1, v2, q2, ad, db, m0, m1, mp, d1, d2, hb, ha, h3, ⟨cs, h4⟩, h5, h6, h7⟩ := h
  exact ⟨v1, q1, v2, q2, ad, db, m0, m1, mp, d1, d2, hb.set_ 21 _, ha, h3, ⟨cs, h4.far h5 _⟩, h5, h6.far h5 _, h7⟩
theorem FileAt.c21 {s : By} {U z r f p : Nat} {w : World} (h : FileAt s U z r f p 0 w) : w.cell? ⟨f, 21, none⟩ = some (.int .i64 (num ((s.drop (p + 42)).take 4) : Int)) ∧ w.frozen? ⟨f, 21, none⟩ = false := by
  obtain ⟨v1, q1, v2, q2, ad, db, m0, m1, mp, d1, d2, hb, -⟩ := h
  rw [Int.add_zero] at hb
  exact ⟨hb.at_ 21 _ rfl, hb.frozen 21⟩
theorem ownsRow_fr {w w' : World} {S : List Nat} {base : Nat} {e : TypeId} {size : Nat} {v : Value} {n : Nat} {xs : List Value} (h : w.ownsRow base e size v n xs) (hf : Fr S w w') (hS : ∀ g cur, Blk w g e cur → base ≤ g → g ∉ S) : w'.ownsRow base e size v n xs := by
  refine ⟨h.1, ?_⟩
  rcases h.2 with hn | ⟨g, cap, cur, rfl, hb, hgg, rest⟩
  · exact .inl hn
  · refine .inr ⟨g, cap, cur, rfl, hb, ?_, rest⟩
    rw [hf.block g (Array.getElem?_eq_some_iff.1 hgg).1 (hS g cur hgg hb)]
    exact hgg
theorem grown_blk {w w' : World} {row : Option Nat} (hg : w.grownBy w' row) {k : Nat} {t : TypeId} {cs : Array Value} (h : Blk w k t cs) (hr : some k ≠ row) : Blk w' k t cs := (hg.block k h.lt hr).trans h
theorem own_row {w : World} {base : Nat} {e : TypeId} {size : Nat} {v : Value} {n : Nat} {xs : List Value} (h : w.ownsRow base e size v n xs) : ∀ g, v.ownBlock = some g → base ≤ g ∧ ∃ cur, Blk w g e cur := by
  intro g hg
  rcases h.2 with ⟨rfl, _⟩ | ⟨g', cap, cur, rfl, hb, hgg, _⟩
  · simp [Value.ownBlock] at hg
  · simp [Value.ownBlock] at hg
    subst hg
    exact ⟨hb, cur, hgg⟩
theorem own_shape {w : World} {base : Nat} {e : TypeId} {size : Nat} {v : Value} {n : Nat} {xs : List Value} (h : w.ownsRow base e size v n xs) : ∃ a c, v = .slice a n c := by
  rcases h.2 with ⟨rfl, rfl⟩ | ⟨g', cap, cur, rfl, _⟩
  · exact ⟨none, 0, rfl⟩
  · exact ⟨_, _, rfl⟩
theorem own_bytes {w w' : World} {t : TypeId} {cs : Array Value} {k : Nat} {v : Value} {base n : Nat} {xs : List Value} (h : w.ownsRow base 67 1 v n xs) (hb : Blk w k t cs) (ht : t ≠ 67) (hg : w.grownBy w' v.ownBlock) : Blk w' k t cs :=
  grown_blk hg hb (fun e => by
    obtain ⟨_, cur, h2⟩ := own_row h k e.symm
    exact (hb.ne_ h2 ht) rfl)
theorem BufR.grown {w w' : World} {q gb b r pos : Nat} {s : ByteArray} {v : Value} {base n : Nat} {xs : List Value} (hb : BufR w q gb b r s pos) (h : w.ownsRow base 67 1 v n xs) (hg : w.grownBy w' v.ownBlock) : BufR w' q gb b r s pos := by
  obtain ⟨rdn, wn, off, lb, lr, cur, hs⟩ := hb
  have hgb := own_bytes h hs.hgb (by decide) hg
  refine ⟨rdn, wn, off, lb, lr, cur, own_bytes h hs.hq (by decide) hg, hgb, own_bytes h hs.hb (by decide) hg, own_bytes h hs.hr (by decide) hg, hs.hsize, hs.hones, hs.hrw, hs.hw4, hs.hoff, hs.hle, hs.hrd.keep (fun i => ?_), hs.h18⟩
  rw [hgb.cell, hs.hgb.cell]
theorem FileAt.own {s : By} {U z r f p : Nat} {B : Int} {w w' : World} {v : Value} {base n : Nat} {xs : List Value} (hb : FileAt s U z r f p B w) (h : w.ownsRow base 67 1 v n xs) (hg : w.grownBy w' v.ownBlock) : FileAt s U z r f p B w' :=
  hb.grown hg (fun g e => by
    obtain ⟨_, cur, h2⟩ := own_row h g e
    exact ⟨cur, _, h2, by decide, by decide⟩)
set_option maxRecDepth 100000 in
set_option maxHeartbeats 4000000 in
theorem rin_round (E : Errs) (a : Act) (w00 w : World) (U rb r d q gb b : Nat) (s cm : ByteArray) (x4 x6 x8 x10 x12 x16 x20 : Int) (fs ps : List Nat) (pos B : Nat) (hB4 : B ≤ 4000000000)
    (hE : Env E w) (hU : UT w) (hA : FrI rb r s.size d q a) (hI : IN w00 U rb r d q gb b s cm B x4 x6 x8 x10 x12 x16 x20 fs ps pos w) (hs : s.size ≤ 4000000000) (hraw : RawOk s.data.toList pos) (hlen : fs.length ≤ 100000) (hne4 : rb ≠ q ∧ rb ≠ gb ∧ rb ≠ b ∧ d ≠ q ∧ d ≠ gb ∧ d ≠ b ∧ d ≠ rb ∧ r ≠ rb) (Q : Exit → Act → World → Prop)
    (hQ : ∀ f a' w', FrI rb r s.size d q a' → IN w00 U rb r d q gb b s cm B x4 x6 x8 x10 x12 x16 x20 (fs ++ [f]) (ps ++ [pos]) (nextP s.data.toList pos) w' → Q .normal a' w') :
    (rinLoop 14).wp Tryz.prog Q a w := by
  have hsz : s.data.toList.length = s.size := (Lib.size_eq s).symm
  obtain ⟨v, hrd, hown⟩ := hI.rd
  have HQ := Lib.hid hQ
  have HI := Lib.hid hI
  have HO := Lib.hid hown
  have hlow := hI.low
  have hb18 := hI.buf.h18
  have hnil := fun W => nil_eql E.fmt W
  have hnil2 := fun W => nil_eql E.unx W
  obtain ⟨hd, hhd⟩ : ∃ hd, (s.data.toList.drop pos).take 46 = hd := ⟨_, rfl⟩
  have HHD := Lib.hid hhd
  have hr46 := hraw.len
  rw [hsz] at hr46
  have key : ∀ k n, k + n ≤ 46 → (hd.drop k).take n = (s.data.toList.drop (pos + k)).take n := fun k n h => by rw [← hhd]; exact drop_take_drop _ _ _ _ h
  have hw1 : Fr [] w (w.alloc (.cells (hdrC 0 0 0 0 0 0 0 0 0 0 0 0 0 ⟨#[]⟩ ⟨#[]⟩ false (.slice none 0 0) 0 0 none rb r) fileT)) := (Fr.refl _ _).alloc _
  have hdr := hdr_ok E q gb b r w.heap.size pos s hd (w.alloc (.cells (hdrC 0 0 0 0 0 0 0 0 0 0 0 0 0 ⟨#[]⟩ ⟨#[]⟩ false (.slice none 0 0) 0 0 none rb r) fileT)) (hE.fr hw1 (by simp) (by omega)) (hU.fr hw1 (by simp) (by omega)) (hI.buf.fr hw1 (by simp) (by simp) (by simp) (by simp)) hr46 hs hhd
    (by rw [← hraw.sig, ← hhd, List.take_take]; rfl) (by rw [key 28 2 (by omega), key 30 2 (by omega), key 32 2 (by omega), ← hsz]; exact hraw.all) (by rw [key 20 4 (by omega)]; exact hraw.n20) (by rw [key 24 4 (by omega)]; exact hraw.n24) (by rw [key 42 4 (by omega)]; exact hraw.n42)
    rb (Blk.new _ _ _) (by omega) (by omega)
  have HD := Lib.hid hdr
  have HNE := Lib.hid hne4
  have HE := Lib.hid hE
  have HRD := Lib.hid hrd
  rw [frame145 hA.size hA.defers, hA.s0, hA.s1, hA.s2, hA.s7, hA.s11]
  clear hne4 hQ hI hown hrd hdr key hw1 hhd hE hU hA
  conv => arg 2; whnf
  go_wp2_with fail
  refine HD.out.mono ?_
  rintro e w2 ⟨rfl, hall⟩
  obtain ⟨hfile, hbuf, hfr⟩ := hall.file (U := U) HHD.out (by omega) (by simp)
  have HF := Lib.hid hfile
  have HBF := Lib.hid hbuf
  have HFR := Lib.hid (((Fr.refl [q, gb, b] w).alloc _).trans hfr (by simp))
  have hEw := HE.out.fr HFR.out (by simp; omega) (by omega)
  have e0 := hEw.fmt
  have e4 := hEw.unx
  obtain ⟨c21, f21⟩ := hfile.c21
  have hrd2 := HRD.out.fr HFR.out (by simp; have := HNE.out; omega)
  have c4 := hrd2.at_ 4 (.int .i64 (B : Int)) rfl
  obtain ⟨X, hX⟩ : ∃ X, num ((s.data.toList.drop (pos + 42)).take 4) = X := ⟨_, rfl⟩
  have hX4 : X < 4294967296 := by rw [← hX]; exact num_take4 _
  rw [hX] at c21
  have HX := Lib.hid hX
  have HRD2 := Lib.hid hrd2
  clear hall hfile hbuf hfr hEw hX hrd2
  go_wp2_with fail
  go_region
  have hF3 := ((HF.out.move (B : Int)).fr ((Fr.refl [] _).drew) (by simp))
  rw [HX.out] at hF3
  have hFR3 := (HFR.out.setCell (p := ⟨w.heap.size, 21, none⟩) (.inr (Nat.le_refl _)) (.int .i64 ((X : Int) + (B : Int)))).drew
  have hBF3 : BufR ((w2.setCell ⟨w.heap.size, 21, none⟩ (.int .i64 ((X : Int) + (B : Int)))).drew) q gb b r s (nextP s.data.toList pos) := HBF.out.fr (S := [w.heap.size]) (((Fr.refl _ w2).setCell (.inl (by simp)) _).drew) (by simp; omega) (by simp; omega) (by simp; omega) (by simp; omega)
  generalize (w2.setCell ⟨w.heap.size, 21, none⟩ (.int .i64 ((X : Int) + (B : Int)))).drew = w3 at *
  have HF3 := Lib.hid hF3
  have HFR3 := Lib.hid hFR3
  have HBF3 := Lib.hid hBF3
  clear e0 e4 f21 c4 c21 hF3 hFR3 hBF3 hnil hnil2
  have hrd3 := HRD.out.fr HFR3.out (by simp; have := HNE.out; omega)
  have c1 := hrd3.at_ 1 v rfl
  have f1 := hrd3.frozen 1
  have HRD3 := Lib.hid hrd3
  clear hrd3
  obtain ⟨i0, hi, hz0, hz1, hz2⟩ := info_parts infoFile
  have HI0 := Lib.hid (And.intro hi (And.intro hz0 (And.intro hz1 hz2)))
  have hown3 := ownsRow_fr HO.out HFR3.out (fun g cur hg _ hm => by
    simp only [List.mem_cons, List.not_mem_nil, or_false] at hm
    obtain ⟨_, _, _, _, _, _, hbs⟩ := HI.out.buf
    rcases hm with h | h | h
    · subst h; exact (hg.ne_ hbs.hq (by decide)) rfl
    · subst h; exact (hg.ne_ hbs.hgb (by decide)) rfl
    · subst h; exact (hg.ne_ hbs.hb (by decide)) rfl)
  have HO4 := Lib.hid (hown3.alloc (.cells #[.pointer (some ⟨w.heap.size, 0, none⟩)] 67))
  have hB4 := Blk.new w3 67 #[.pointer (some ⟨w.heap.size, 0, none⟩)]
  have HB4 := Lib.hid hB4
  clear hi hz0 hz1 hz2 hown3 hB4
  have hbase : w00.heap.size ≤ (w3.alloc (.cells #[.pointer (some ⟨w.heap.size, 0, none⟩)] 67)).heap.size := by
    have h1 := HI.out.fr.size; have h2 := HFR3.out.size; simp; omega
  go_wp2_with (at_builtin; refine wpList_append_own _ rfl _ _ 63 rfl w00.heap.size 67 i0 (.pointer none) 1 8 Tryz.underlying63 HI0.out.1 HI0.out.2.1 HI0.out.2.2.1 HI0.out.2.2.2 rfl (by decide) v fs.length (fptrs fs) rfl HO4.out ⟨w3.heap.size, 0, none⟩ 1 1 [.pointer (some ⟨w.heap.size, 0, none⟩)] rfl rfl (cell_one_new _ _ _) (fun x hx => by simp at hx; subst hx; rfl) (by unfold maxLen; omega) (by omega) hbase ?_; intro v' w4 hown4 hgrow4 hv4; obtain ⟨ba, bc, hvv⟩ := own_shape hown4; subst hvv; have HOW4 := Lib.hid hown4; have HG4 := Lib.hid hgrow4; clear hown4 hgrow4 hv4; have hrd4 := own_bytes HO4.out (HRD3.out.alloc _) (by decide) HG4.out; have c1 := hrd4.at_ 1 v rfl; have f1 := hrd4.frozen 1; have HRD4 := Lib.hid hrd4; clear hrd4)
  have hgw : ∀ k t cs, Blk (w3.alloc (.cells #[.pointer (some ⟨w.heap.size, 0, none⟩)] 67)) k t cs → t ≠ 67 → Blk w4 k t cs := fun k t cs hb ht => own_bytes HO4.out hb ht HG4.out
  have hrow : ∀ g, v.ownBlock = some g → w00.heap.size ≤ g := fun g hg => (own_row HO4.out g hg).1
  have hfg : Fr [rb] w00 w4 := by
    have h1 := (HI.out.fr.trans HFR3.out (by have := HI.out.new; simp; omega)).alloc (.cells #[.pointer (some ⟨w.heap.size, 0, none⟩)] 67)
    have h2 : Fr (match v.ownBlock with | some g => [g] | none => []) _ w4 := Fr.of_grown HG4.out (fun k hk => .inl (by rw [hk]; simp))
    refine h1.trans h2 (fun s hs => .inr ?_)
    cases hv : v.ownBlock with
    | none => rw [hv] at hs; simp at hs
    | some g => rw [hv] at hs; simp at hs; subst hs; exact hrow _ hv
  refine HQ.out w.heap.size _ _ ⟨rfl, rfl, rfl, rfl, rfl, rfl, rfl⟩ ⟨⟨_, HRD4.out.set_ 1 _, ?_⟩, ?_, ?_, ?_, ?_, hfg.setCell (.inl (by simp)) _, ?_, HI.out.new⟩
  · have h1 := ownsRow_fr HOW4.out (S := [rb]) ((Fr.refl _ w4).setCell (p := ⟨rb, 1, none⟩) (.inl (by simp)) (.slice ba (fs.length + 1) bc)) (fun g cur hg _ hm => by
      simp only [List.mem_singleton] at hm
      subst hm
      exact (hg.ne_ HRD4.out (by decide)) rfl)
    simpa [fptrs] using h1
  · intro i f p hf hp
    have hll := HI.out.len
    have hfin : ∀ {f p : Nat}, FileAt s.data.toList U rb r f p B w3 → FileAt s.data.toList U rb r f p B (w4.setCell ⟨rb, 1, none⟩ (.slice ba (fs.length + 1) bc)) := fun h =>
      ((h.fr (S := []) ((Fr.refl _ w3).alloc _) (by simp)).own HO4.out HG4.out).fr (S := [rb]) ((Fr.refl _ w4).setCell (.inl (by simp)) _) (by simp; omega)
    rcases Nat.lt_trichotomy i fs.length with hi | hi | hi
    · rw [List.getElem?_append_left hi] at hf
      rw [List.getElem?_append_left (by omega)] at hp
      exact hfin ((HI.out.files i f p hf hp).fr HFR3.out (by simp; omega))
    · subst hi
      rw [List.getElem?_append_right (Nat.le_refl _)] at hf
      rw [List.getElem?_append_right (by omega), hll] at hp
      simp at hf hp
      subst hf hp
      exact hfin HF3.out
    · rw [List.getElem?_eq_none (by simp; omega)] at hf
      cases hf
  · simp [HI.out.len]
  · exact (BufR.grown (HBF3.out.fr (S := []) ((Fr.refl _ w3).alloc _) (by simp) (by simp) (by simp) (by simp)) HO4.out HG4.out).fr (S := [rb]) ((Fr.refl _ w4).setCell (.inl (by simp)) _) (by have := HNE.out; simp; omega) (by have := HNE.out; simp; omega) (by have := HNE.out; simp; omega) (by have := HNE.out; simp; omega)
  · exact (hgw _ _ _ ((HI.out.de.fr HFR3.out (by have := HNE.out; simp; omega)).alloc _) (by decide)).far (by have := HNE.out; simp; omega) _
  · have h1 := HG4.out.size
    have h2 := HFR3.out.size
    simp [World.setCell] at h1 ⊢
    omega
end Go.Proofs.YtalgnjkdoaaacaaGreatDoor

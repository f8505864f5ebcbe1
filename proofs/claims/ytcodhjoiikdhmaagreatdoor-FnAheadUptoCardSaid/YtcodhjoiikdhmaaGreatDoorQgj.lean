/- readDirectoryHeader: name, extra fields, comment. -/
import Derived.Test.YtcodhjoiikdhmaaGreatDoorQgf
set_option linter.unusedVariables false
set_option linter.unusedSimpArgs false
namespace Go.Proofs.YtcodhjoiikdhmaaGreatDoor
open Go Go.RowKit
open Zp
/-- The tables of package utf8. -/
def UT (w : World) : Prop := Lib.Utf8Tabs 9 10 w
theorem UT.fr {w w' : World} {S : List Nat} (h : UT w) (hf : Fr S w w') (hS : ∀ s ∈ S, 11 ≤ s) (hw : 11 ≤ w.heap.size) : UT w' := by
  have hb := hf.below (B := 11) hS hw
  exact ⟨fun c hc => (hb.cell (p := ⟨9, c, none⟩) (by simp)).trans (h.1 c hc), fun i hi => ⟨(hb.cell (p := ⟨10, 2 * i, none⟩) (by simp)).trans (h.2 i hi).1, (hb.cell (p := ⟨10, 2 * i + 1, none⟩) (by simp)).trans (h.2 i hi).2⟩⟩
abbrev sliceT : Nat := 66
abbrev byteT : Nat := 5
theorem sizeOf_byte : ∀ w, (Go.sizeOf byteT).run Tryz.prog w = .ok 1 w := fun _ => by kernel_rfl
theorem u8slice : Tryz.prog.underlying sliceT = some (.slice (Tryz.prog.elem sliceT)) := by kernel_rfl
theorem u8elem : Tryz.prog.elem sliceT = byteT := by kernel_rfl
/-- 's[l:h]' of a row of bytes. -/
theorem slice_mid (g o len cap l h : Nat) (hlh : l ≤ h) (hh : h ≤ cap) : ∃ ad : Addr, (l < cap → ad = ⟨g, o + l, none⟩) ∧
    ∀ W, (Instr.slice sliceT (.slice (some ⟨g, o, none⟩) len cap) (some (.int .i64 (l : Int))) (some (.int .i64 (h : Int))) none).run Tryz.prog W = .ok (.slice (some ad) (h - l) (cap - l)) W := by
  refine ⟨if cap = l then ⟨g, o, none⟩ else ⟨g, o + l, none⟩, fun hl => if_neg (by omega), fun W => ?_⟩
  rw [run_slice_lh W sliceT _ _ _ u8slice .i64 .i64 _ _ (by omega) (by omega) (by omega), u8elem, sizeOf_byte]
  by_cases h0 : l = 0
  · subst h0
    by_cases hne : cap = 0
    · subst hne; simp [Result.andThen, sliced]
    · simp [Result.andThen, sliced, Addr.add, hne]
  · by_cases hne : cap = l
    · subst hne; simp [Result.andThen, sliced]
    · simp [Result.andThen, sliced, Addr.add, hne, h0]
/-- 's[l:]' of a row of bytes. -/
theorem slice_from (g o len cap l : Nat) (hl : l ≤ len) (hc : len ≤ cap) : ∃ ad : Addr, (l < cap → ad = ⟨g, o + l, none⟩) ∧
    ∀ W, (Instr.slice sliceT (.slice (some ⟨g, o, none⟩) len cap) (some (.int .i64 (l : Int))) none none).run Tryz.prog W = .ok (.slice (some ad) (len - l) (cap - l)) W := by
  refine ⟨if cap = l then ⟨g, o, none⟩ else ⟨g, o + l, none⟩, fun hl => if_neg (by omega), fun W => ?_⟩
  rw [run_slice_l W sliceT _ _ _ u8slice .i64 _ (by omega) (by omega), u8elem, sizeOf_byte]
  by_cases h0 : l = 0
  · subst h0
    by_cases hne : cap = 0
    · subst hne; simp [Result.andThen, sliced]
    · simp [Result.andThen, sliced, Addr.add, hne]
  · by_cases hne : cap = l
    · subst hne; simp [Result.andThen, sliced]
    · simp [Result.andThen, sliced, Addr.add, hne, h0]
/-- 'string(b)'. -/
theorem conv_str (w : World) (a : Addr) (g o n cap : Nat) (l : List UInt8) (hl : l.length = n) (ha : 0 < n → a = ⟨g, o, none⟩) (hr : Rd w g o l) :
    (convert sliceT 9 (.slice (some a) n cap)).run Tryz.prog w = .ok (.string ⟨l.toArray⟩) w := by
  subst hl
  refine run_convert_bytes_back w sliceT 9 byteT a cap l Tryz.underlying66 (by kernel_rfl) (by kernel_rfl) fun j hj => ?_
  rw [ha (by omega)]
  have := hr j l[j] (List.getElem?_eq_getElem hj)
  unfold Addr.add
  split
  · rename_i h; subst h; exact this
  · exact this
/-- Whether a name and a comment are told not to be UTF-8. -/
def nonB (v1 q1 v2 q2 : Bool) (fl : Int) : Bool := if !v1 || !v2 then true else if !q1 && !q2 then false else bits .and .u16 fl 2048 == 0
/-- What the rest of a header comes to. -/
structure HdrOut (w : World) (q gb b r f pos n x c : Nat) (s : ByteArray) (a3 a4 a5 a6 a10 a11 a12 a13 a14 a15 a16 a18 a21 : Int) (z : Nat) (w' : World) : Prop where
  out : ∃ (v1 q1 v2 q2 : Bool) (ad : Addr) (db : Nat) (m0 m1 : Int) (mp : Option Addr),
    Det ⟨((s.data.toList.drop pos).take n).toArray⟩ 0 false v1 q1 ∧ Det ⟨((s.data.toList.drop (pos + n + x)).take c).toArray⟩ 0 false v2 q2 ∧
    Blk w' f fileT (hdrC a3 a4 a5 a6 a10 a11 a12 a13 a14 a15 a16 a18 a21 ⟨((s.data.toList.drop pos).take n).toArray⟩ ⟨((s.data.toList.drop (pos + n + x)).take c).toArray⟩ (nonB v1 q1 v2 q2 a5) (.slice (some ad) x (x + c)) m0 m1 mp z r) ∧
    (0 < x → ad = ⟨db, n, none⟩) ∧ w.heap.size ≤ db ∧ (∃ cs, Blk w' db byteT cs) ∧ Rd w' db n ((s.data.toList.drop (pos + n)).take x)
  buf : BufR w' q gb b r s (pos + (n + x + c))
  fr : Fr [q, gb, b, f] w w'
/-- What stands behind name, extra fields and comment. -/
def Rdh30 (w : World) (f g n x c r z : Nat) (nm cm : List UInt8) (a3 a4 a5 a6 a10 a11 a12 a13 a14 a15 a16 a18 a21 : Int) (w' : World) : Prop :=
  (∃ (v1 q1 v2 q2 : Bool) (ad : Addr) (m0 m1 : Int) (mp : Option Addr), Det ⟨nm.toArray⟩ 0 false v1 q1 ∧ Det ⟨cm.toArray⟩ 0 false v2 q2 ∧
    Blk w' f fileT (hdrC a3 a4 a5 a6 a10 a11 a12 a13 a14 a15 a16 a18 a21 ⟨nm.toArray⟩ ⟨cm.toArray⟩ (nonB v1 q1 v2 q2 a5) (.slice (some ad) x (x + c)) m0 m1 mp z r) ∧ (0 < x → ad = ⟨g, n, none⟩)) ∧ Fr [f] w w'
set_option maxRecDepth 100000 in
set_option maxHeartbeats 4000000 in
theorem rdh30 (a : Act) (w : World) (f g n x c N r z : Nat) (nm ex cm : List UInt8) (a3 a4 a5 a6 a10 a11 a12 a13 a14 a15 a16 a18 a21 : Int) (hU : UT w)
    (hn : n ≤ 65535) (hx : x ≤ 65535) (hc : c ≤ 65535) (hN : n + x + c = N) (n13 : a13 ≠ 4294967295) (n14 : a14 ≠ 4294967295) (n21 : a21 ≠ 4294967295)
    (hs : a.tmps.size = 404) (hd : a.defers = []) (h0 : slotOf a 0 = .pointer (some ⟨f, 0, none⟩))
    (h10 : slotOf a 10 = .int .i64 (n : Int)) (h11 : slotOf a 11 = .int .i64 (x : Int)) (h13 : slotOf a 13 = .slice (some ⟨g, 0, none⟩) N N)
    (r1 : Rd w g 0 nm) (r2 : Rd w g n ex) (r3 : Rd w g (n + x) cm) (lnm : nm.length = n) (lex : ex.length = x) (lcm : cm.length = c) (hg : g < w.heap.size) (hgf : g ≠ f)
    (hf : Blk w f fileT (hdrC a3 a4 a5 a6 a10 a11 a12 a13 a14 a15 a16 a18 a21 ⟨#[]⟩ ⟨#[]⟩ false (.slice none 0 0) 0 0 none z r)) (hf18 : 11 ≤ f) (hw18 : 11 ≤ w.heap.size) (Q : Exit → Act → World → Prop)
    (hQ : ∀ a' w', a'.defers = [] → a'.tmps.getD 4 undef = .nilIface → Rdh30 w f g n x c r z nm cm a3 a4 a5 a6 a10 a11 a12 a13 a14 a15 a16 a18 a21 w' → Q .ret a' w') :
    (rdhFrom 30).wp Tryz.prog Q a w := by
  obtain ⟨ad1, had1, hm1⟩ := slice_mid g 0 N N n (n + x) (by omega) (by omega)
  obtain ⟨ad2, had2, hm2⟩ := slice_from g 0 N N (n + x) (by omega) (Nat.le_refl _)
  rw [show n + x - n = x by omega, show N - n = x + c by omega, Int.natCast_add] at hm1
  rw [show N - (n + x) = c by omega, Int.natCast_add] at hm2
  have i1 : (n : Int) ≤ (N : Int) := by omega
  have B0 := hf.set_ 0 (.string ⟨nm.toArray⟩)
  have B1 := B0.set_ 17 (.slice (some ad1) x (x + c))
  have B2 := B1.set_ 1 (.string ⟨cm.toArray⟩)
  have k1 := conv_str w ⟨g, 0, none⟩ g 0 n N nm lnm (fun _ => rfl) r1
  have k2 := conv_str _ ad2 g (n + x) c c cm lcm (fun h => by rw [had2 (by omega), Nat.zero_add]) ((r3.far (p := ⟨f, 0, none⟩) hgf (.string ⟨nm.toArray⟩)).far (p := ⟨f, 17, none⟩) hgf (.slice (some ad1) x (x + c)))
  have c0 := hf.at_ 0 (.string ⟨#[]⟩) rfl
  have c1 := hf.at_ 1 (.string ⟨#[]⟩) rfl
  have c2 := hf.at_ 2 (.bool false) rfl
  have c17 := hf.at_ 17 (.slice none 0 0) rfl
  have f0 := hf.frozen 0
  have f1 := hf.frozen 1
  have f17 := hf.frozen 17
  have HQ := Lib.hid hQ
  have HU := Lib.hid hU
  have HF := Lib.hid hf
  have HB := Lib.hid B2
  have HN := Lib.hid hN
  have HA1 := Lib.hid had1
  have HLE := Lib.hid lex
  have HR2 := Lib.hid r2
  have HL1 := Lib.hid lnm
  have HL2 := Lib.hid lcm
  have HW := Lib.hid ((((Fr.refl [f] w).setCell (p := ⟨f, 0, none⟩) (.inl (by simp)) (.string ⟨nm.toArray⟩)).setCell (p := ⟨f, 17, none⟩) (.inl (by simp)) (.slice (some ad1) x (x + c))).setCell (p := ⟨f, 1, none⟩) (.inl (by simp)) (.string ⟨cm.toArray⟩))
  rw [frame404 hs hd, h0, h10, h11, h13]
  clear hQ hU hs hd h0 h10 h11 h13 hf B0 B1 B2 hN had1 had2 r1 r2 r3 lnm lex lcm
  conv => arg 2; whnf
  go_wp2_with fail
  have hz1 : (⟨nm.toArray⟩ : ByteArray).size ≤ 4000000000 := by show nm.toArray.size ≤ _; rw [List.size_toArray, HL1.out]; omega
  have hz2 : (⟨cm.toArray⟩ : ByteArray).size ≤ 4000000000 := by show cm.toArray.size ≤ _; rw [List.size_toArray, HL2.out]; omega
  have hs18 : ∀ s ∈ [f], 11 ≤ s := by simpa using hf18
  refine (detect_any _ _ hz1 (fun w' h => (HU.out.fr HW.out hs18 hw18).fr h (by simp) (by simpa [World.setCell] using hw18))).mono ?_
  rintro e w2 ⟨v1, q1, hd1, rfl, hf2⟩
  have HD1 := Lib.hid hd1
  have HW2 := Lib.hid (HW.out.trans hf2 (by simp))
  have HB2 := Lib.hid (HB.out.fr hf2 (by simp))
  clear hm1 hm2 i1 k1 k2 c0 c1 c2 c17 f0 f1 f17 hd1 hf2
  have c1 := HB2.out.at_ 1 (.string ⟨cm.toArray⟩) rfl
  go_wp2_with fail
  refine (detect_any _ _ hz2 (fun w' h => (HU.out.fr HW2.out hs18 hw18).fr h (by simp) (by have := HW2.out.size; omega))).mono ?_
  rintro e w3 ⟨v2, q2, hd2, rfl, hf3⟩
  have HD2 := Lib.hid hd2
  have HW3 := Lib.hid (HW2.out.trans hf3 (by simp))
  have hB3 := HB2.out.fr hf3 (by simp)
  have HB3 := Lib.hid (show Blk w3 f fileT (hdrC a3 a4 a5 a6 a10 a11 a12 a13 a14 a15 a16 a18 a21 ⟨nm.toArray⟩ ⟨cm.toArray⟩ false (.slice (some ad1) x (x + c)) 0 0 none z r) from hB3)
  clear c1 hd2 hf3 hB3 hz1 hz2
  have c2 := HB3.out.at_ 2 (.bool false) rfl
  have c5 := HB3.out.at_ 5 (.int .u16 a5) rfl
  have f2 := HB3.out.frozen 2
  go_upto_block 0 with fail
  rename_i K hK
  have HK := Lib.hid hK
  clear hK
  refine wp_block ?_
  have fin : ∀ (nu : Bool) (a' : Act), nu = nonB v1 q1 v2 q2 a5 → a'.tmps.size = 404 → a'.defers = [] → slotOf a' 0 = .pointer (some ⟨f, 0, none⟩) → K a' (w3.setCell ⟨f, 2, none⟩ (.bool nu)) := by
    intro nu a' hnu hs' hd' h0'
    subst hnu
    have hB4 := HB3.out.set_ 2 (.bool (nonB v1 q1 v2 q2 a5))
    have hN := HN.out
    have hr2 := (HR2.out.fr HW3.out hg (by simpa using hgf)).far (p := ⟨f, 2, none⟩) hgf (.bool (nonB v1 q1 v2 q2 a5))
    refine HK.out _ _ (rdh40 a' _ f g n x (x + c) ex (some ad1) (fun m0 m1 mp => hdrC a3 a4 a5 a6 a10 a11 a12 a13 a14 a15 a16 a18 a21 ⟨nm.toArray⟩ ⟨cm.toArray⟩ (nonB v1 q1 v2 q2 a5) (.slice (some ad1) x (x + c)) m0 m1 mp z r) a10 a11 a13 a14 a21 ⟨fun _ _ _ => rfl, fun _ _ _ => rfl, fun _ _ _ => rfl, fun _ _ _ => rfl, fun _ _ _ => rfl, fun _ _ _ _ _ _ => rfl⟩ ⟨fun _ _ _ => rfl, fun _ _ _ => rfl, fun _ _ _ => rfl, n13, n14, n21⟩ 0 0 none
      hs' hd' h0' hB4 rfl ⟨ad1, rfl, fun h => by rw [HA1.out (by omega), Nat.zero_add]⟩ HLE.out (by omega) (by omega) hr2 (by have := HW3.out.size; simp [World.setCell]; omega) _ ?_)
    intro a2 w2 h1 h2 h3
    obtain ⟨⟨m0, m1, mp, hb⟩, hfr⟩ := h3
    exact HQ.out _ _ h1 h2 ⟨⟨v1, q1, v2, q2, ad1, m0, m1, mp, HD1.out, HD2.out, hb, fun h => by rw [HA1.out (by omega), Nat.zero_add]⟩, (HW3.out.setCell (.inl (by simp)) _).trans hfr (by simp)⟩
  have HFIN := Lib.hid fin
  clear fin
  cases v1
  · go_wp2_with fail
    exact HFIN.out true _ rfl rfl rfl rfl
  · cases v2
    · go_wp2_with fail
      exact HFIN.out true _ rfl rfl rfl rfl
    · cases q1
      · cases q2
        · go_wp2_with fail
          exact HFIN.out false _ rfl rfl rfl rfl
        · go_wp2_with fail
          exact HFIN.out _ _ rfl rfl rfl rfl
      · go_wp2_with fail
        exact HFIN.out _ _ rfl rfl rfl rfl
set_option maxRecDepth 100000 in
set_option maxHeartbeats 4000000 in
theorem rdh26 (E : Errs) (a : Act) (w : World) (q gb b r f pos n x c : Nat) (s : ByteArray) (a3 a4 a5 a6 a10 a11 a12 a13 a14 a15 a16 a18 a21 : Int) (z : Nat) (hE : Env E w) (hU : UT w) (hB : BufR w q gb b r s pos)
    (hpos : pos + (n + x + c) ≤ s.size) (hs4 : s.size ≤ 4000000000) (hn : n ≤ 65535) (hx : x ≤ 65535) (hc : c ≤ 65535) (n13 : a13 ≠ 4294967295) (n14 : a14 ≠ 4294967295) (n21 : a21 ≠ 4294967295)
    (hs : a.tmps.size = 404) (hd : a.defers = []) (h0 : slotOf a 0 = .pointer (some ⟨f, 0, none⟩)) (h1 : slotOf a 1 = .iface 138 (.pointer (some ⟨q, 0, none⟩)))
    (h10 : slotOf a 10 = .int .i64 (n : Int)) (h11 : slotOf a 11 = .int .i64 (x : Int)) (h12 : slotOf a 12 = .int .i64 (c : Int))
    (hf : Blk w f fileT (hdrC a3 a4 a5 a6 a10 a11 a12 a13 a14 a15 a16 a18 a21 ⟨#[]⟩ ⟨#[]⟩ false (.slice none 0 0) 0 0 none z r)) (hf18 : 11 ≤ f) (hfq : f ≠ q ∧ f ≠ gb ∧ f ≠ b ∧ f ≠ r) (Q : Exit → Act → World → Prop)
    (hQ : ∀ a' w', a'.defers = [] → a'.tmps.getD 4 undef = .nilIface → HdrOut w q gb b r f pos n x c s a3 a4 a5 a6 a10 a11 a12 a13 a14 a15 a16 a18 a21 z w' → Q .ret a' w') :
    (rdhFrom 26).wp Tryz.prog Q a w := by
  have hlt := hB.lt4
  have hE18 := hB.h18
  have hfl := hf.lt
  obtain ⟨N, hN⟩ : ∃ N, n + x + c = N := ⟨_, rfl⟩
  have hNi : (n : Int) + (x : Int) + (c : Int) = (N : Int) := by omega
  have hmk : ∀ W, (Instr.makeSlice sliceT (.int .i64 ((n : Int) + (x : Int) + (c : Int))) (.int .i64 ((n : Int) + (x : Int) + (c : Int)))).run Tryz.prog W = .ok (.slice (some ⟨W.heap.size, 0, none⟩) N N) (W.alloc (.cells (zeros N) byteT)) := fun W => by
    rw [hNi]; exact run_makeBytes N N (Nat.le_refl _) (by omega) W
  have HR := Lib.hid (readFull_buf E q gb b r w.heap.size 0 N pos N byteT s (zeros N) (w.alloc (.cells (zeros N) byteT)) (hE.fr ((Fr.refl [] w).alloc _) (by simp) hE18.2) (hB.fr (S := []) ((Fr.refl [] w).alloc _) (by simp) (by simp) (by simp) (by simp))
    (Blk.new _ _ _) (by rw [zeros_size]; omega) (by omega) (by omega) (by omega) hE18.2 (by omega) hs4)
  have HNI := Lib.hid hNi
  have HNN := Lib.hid hN
  have HQ := Lib.hid hQ
  have HE := Lib.hid hE
  have HU := Lib.hid hU
  have HF := Lib.hid hf
  rw [frame404 hs hd, h0, h1, h10, h11, h12]
  clear hQ hE hU hB hs hd h0 h1 h10 h11 h12 hf hN hNi
  conv => arg 2; whnf
  go_wp2_with fail
  refine HR.out.mono ?_
  rintro e w1 h
  cases h with
  | part _ j h hp hr hf => exact absurd h (by have := HNN.out; omega)
  | end_ _ h hp hr hf => exact absurd hp (by have := HNN.out; omega)
  | all _ h hb hr hf1 =>
    have hN := HNN.out
    have hL : ((s.data.toList.drop pos).take N).length = N := by rw [List.length_take, List.length_drop, ← Lib.size_eq]; omega
    have hRD : Rd w1 w.heap.size 0 ((s.data.toList.drop pos).take N) := Rd.spl hb (by rw [zeros_size]; omega)
    have hsplit : (s.data.toList.drop pos).take N = (s.data.toList.drop pos).take n ++ ((s.data.toList.drop (pos + n)).take x ++ (s.data.toList.drop (pos + n + x)).take c) := by
      rw [← hN, Nat.add_assoc n x c, List.take_add, List.take_add, List.drop_drop, List.drop_drop]
    have lnm : ((s.data.toList.drop pos).take n).length = n := by rw [List.length_take, List.length_drop, ← Lib.size_eq]; omega
    have lex : ((s.data.toList.drop (pos + n)).take x).length = x := by rw [List.length_take, List.length_drop, ← Lib.size_eq]; omega
    have lcm : ((s.data.toList.drop (pos + n + x)).take c).length = c := by rw [List.length_take, List.length_drop, ← Lib.size_eq]; omega
    rw [hsplit] at hRD
    have r1 := hRD.left
    have r2 : Rd w1 w.heap.size n ((s.data.toList.drop (pos + n)).take x) := by have := hRD.right.left; rw [lnm, Nat.zero_add] at this; exact this
    have r3 : Rd w1 w.heap.size (n + x) ((s.data.toList.drop (pos + n + x)).take c) := by have := hRD.right.right; rw [lnm, lex, Nat.zero_add] at this; exact this
    have hfr1 : Fr [q, gb, b] w w1 := ((Fr.refl [q, gb, b] w).alloc (.cells (zeros N) byteT)).trans hf1 (by simp)
    have hF1 := HF.out.fr hfr1 (by simp; omega)
    have hU1 : UT w1 := HU.out.fr hfr1 (by simp; omega) hE18.2
    have hsz := hb.lt
    have hsz1 := hfr1.size
    have HR1 := Lib.hid r1
    have HR2 := Lib.hid r2
    have HR3 := Lib.hid r3
    have HBB := Lib.hid hb
    have HH := Lib.hid (And.intro hF1 (And.intro hU1 (And.intro hr hfr1)))
    clear hRD hsplit hL hb hr hf1 r1 r2 r3 hF1 hU1 hfr1 lnm lex lcm hN
    go_upto_if 145 with fail
    rename_i K hK
    have HK := Lib.hid hK
    clear hK hmk HR
    go_wp2_with fail
    refine HK.out _ _ (rdh30 _ w1 f w.heap.size n x c N r z _ _ _ a3 a4 a5 a6 a10 a11 a12 a13 a14 a15 a16 a18 a21 HH.out.2.1 hn hx hc HNN.out n13 n14 n21 rfl rfl rfl rfl rfl rfl HR1.out HR2.out HR3.out ?_ ?_ ?_ hsz (by omega) HH.out.1 hf18 (by omega) _ ?_)
    · rw [List.length_take, List.length_drop, ← Lib.size_eq]; have := HNN.out; omega
    · rw [List.length_take, List.length_drop, ← Lib.size_eq]; have := HNN.out; omega
    · rw [List.length_take, List.length_drop, ← Lib.size_eq]; have := HNN.out; omega
    · intro a' w' h1 h2 h3
      obtain ⟨⟨v1, q1, v2, q2, ad, m0, m1, mp, d1, d2, hb, ha⟩, hfr⟩ := h3
      obtain ⟨-, -, hbuf, hfr1⟩ := HH.out
      have hN := HNN.out
      refine HQ.out _ _ h1 h2 ⟨⟨v1, q1, v2, q2, ad, w.heap.size, m0, m1, mp, d1, d2, hb, ha, Nat.le_refl _, ⟨_, HBB.out.fr hfr (by simp; omega)⟩, HR2.out.fr hfr hsz (by simp; omega)⟩, ?_, ?_⟩
      · rw [hN]; exact hbuf.fr hfr (by simp; omega) (by simp; omega) (by simp; omega) (by simp; omega)
      · exact (hfr1.mono (S' := [q, gb, b, f]) (by simp)).trans hfr (by simp)
end Go.Proofs.YtcodhjoiikdhmaaGreatDoor

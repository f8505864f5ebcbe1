/- readDirectoryEnd: the end's fields. -/
import Derived.Test.YtcodhjoiikdhmaaGreatDoorQkb
set_option linter.unusedVariables false
set_option linter.unusedSimpArgs false
namespace Go.Proofs.YtcodhjoiikdhmaaGreatDoor
open Go Go.RowKit
open Zp
/-- The rest of a body from the statement on whose first region is n. -/
def sufG (n : Nat) : Code → Option Code
  | .seq a b => if firstReg a = some n then some (.seq a b) else match sufG n a with
    | some c => some c
    | none => sufG n b
  | .scope c => sufG n c
  | .block _ c => sufG n c
  | .loop c => sufG n c
  | .cond _ a b => match sufG n a with
    | some c => some c
    | none => sufG n b
  | _ => none
noncomputable def rdeG (n : Nat) : Code := ((Tryz.f62.body.bind (sufG n))).getD .skip
/-- The cells of a directory end. -/
abbrev deC (x4 x6 x8 x10 x12 x16 x20 : Int) (cm : ByteArray) : Array Value := #[.int .u32 x4, .int .u32 x6, .int .u64 x8, .int .u64 x10, .int .u64 x12, .int .u64 x16, .int .u16 x20, .string cm]
abbrev rbT : Nat := 124
theorem rbslice : Tryz.prog.underlying rbT = some (.slice (Tryz.prog.elem rbT)) := by kernel_rfl
theorem rbelem : Tryz.prog.elem rbT = byteT := by kernel_rfl
theorem conv_strB (w : World) (a : Addr) (g o n cap : Nat) (l : List UInt8) (hl : l.length = n) (ha : 0 < n → a = ⟨g, o, none⟩) (hr : Rd w g o l) :
    (convert rbT 9 (.slice (some a) n cap)).run Tryz.prog w = .ok (.string ⟨l.toArray⟩) w := by
  subst hl
  refine run_convert_bytes_back w rbT 9 byteT a cap l (by kernel_rfl) (by kernel_rfl) (by kernel_rfl) fun j hj => ?_
  rw [ha (by omega)]
  have := hr j l[j] (List.getElem?_eq_getElem hj)
  unfold Addr.add
  split
  · rename_i h; subst h; exact this
  · exact this
/-- What readDirectoryEnd leaves: the block of the end, and nothing else turned. -/
def DirEnd (w : World) (T : By) (d : Nat) (w' : World) : Prop := w.heap.size ≤ d ∧ Blk w' d 136 (deC (num ((T.drop 4).take 2)) (num ((T.drop 6).take 2)) (num ((T.drop 8).take 2)) (num ((T.drop 10).take 2)) (num ((T.drop 12).take 4)) (num ((T.drop 16).take 4)) (num ((T.drop 20).take 2)) ⟨((T.drop 22).take (num ((T.drop 20).take 2))).toArray⟩) ∧ Fr [] w w'
set_option maxRecDepth 100000 in
set_option maxHeartbeats 8000000 in
theorem rde19 (a : Act) (w : World) (r sz g p m e : Nat) (T : By) (hs : a.tmps.size = 211) (hd : a.defers = []) (h0 : slotOf a 0 = strRd r) (h1 : slotOf a 1 = .int .i64 (sz : Int))
    (h7 : slotOf a 7 = .slice (some ⟨g, p, none⟩) m m) (h8 : slotOf a 8 = .int .i64 (e : Int)) (hr : Rd w g p T) (hT : T.length = m) (hg : g < w.heap.size) (hm : 22 ≤ m) (hm4 : m ≤ 100000) (hsz : e + m = sz) (hsz4 : sz ≤ 4000000000)
    (hfit : num ((T.drop 20).take 2) + 22 ≤ m) (n10 : num ((T.drop 10).take 2) ≠ 65535) (n12 : num ((T.drop 12).take 4) ≠ 4294967295) (n16 : num ((T.drop 16).take 4) ≠ 4294967295)
    (B : Nat) (hbase : e = num ((T.drop 12).take 4) + num ((T.drop 16).take 4) + B) (Q : Exit → Act → World → Prop)
    (hQ : ∀ d a' w', a'.tmps.size = 211 → a'.defers = [] → slotOf a' 0 = strRd r → slotOf a' 1 = .int .i64 (sz : Int) → slotOf a' 5 = .int .i64 (B : Int) → slotOf a' 15 = .pointer (some ⟨d, 0, none⟩) → DirEnd w T d w' → (rdeG 39).wp Tryz.prog Q a' w') :
    (rdeFrom 19).wp Tryz.prog Q a w := by
  have HQ := Lib.hid hQ
  have HT := Lib.hid hT
  have HRd := Lib.hid hr
  have hB1 := Blk.new w rbT #[.slice (some ⟨g, p + 4, none⟩) (m - 4) (m - 4)]
  have R0 := Lib.hid (show RB (w.alloc (.cells #[.slice (some ⟨g, p + 4, none⟩) (m - 4) (m - 4)] rbT)) ⟨w.heap.size, 0, none⟩ g (p + 4) (m - 4) (m - 4) (T.drop 4) from ⟨⟨_, hB1.at_ 0 _ rfl, fun _ => rfl⟩, hB1.frozen 0, (hr.drop 4).fr (S := []) ((Fr.refl [] w).alloc _) hg (by simp), by rw [List.length_drop, hT], Nat.le_refl _, Nat.ne_of_lt hg⟩)
  have i4 : (4 : Int) ≤ (m : Int) := by omega
  have ne4 : ¬ m = 4 := by omega
  obtain ⟨x4, hx4⟩ : ∃ x, num ((T.drop 4).take 2) = x := ⟨_, rfl⟩
  have e4 := Lib.hid hx4
  have b4 : x4 < 65536 := by rw [← hx4]; exact num_take2 _
  obtain ⟨x6, hx6⟩ : ∃ x, num ((T.drop 6).take 2) = x := ⟨_, rfl⟩
  have e6 := Lib.hid hx6
  have b6 : x6 < 65536 := by rw [← hx6]; exact num_take2 _
  obtain ⟨x8, hx8⟩ : ∃ x, num ((T.drop 8).take 2) = x := ⟨_, rfl⟩
  have e8 := Lib.hid hx8
  have b8 : x8 < 65536 := by rw [← hx8]; exact num_take2 _
  obtain ⟨x10, hx10⟩ : ∃ x, num ((T.drop 10).take 2) = x := ⟨_, rfl⟩
  have e10 := Lib.hid hx10
  have b10 : x10 < 65536 := by rw [← hx10]; exact num_take2 _
  obtain ⟨x12, hx12⟩ : ∃ x, num ((T.drop 12).take 4) = x := ⟨_, rfl⟩
  have e12 := Lib.hid hx12
  have b12 : x12 < 4294967296 := by rw [← hx12]; exact num_take4 _
  obtain ⟨x16, hx16⟩ : ∃ x, num ((T.drop 16).take 4) = x := ⟨_, rfl⟩
  have e16 := Lib.hid hx16
  have b16 : x16 < 4294967296 := by rw [← hx16]; exact num_take4 _
  obtain ⟨x20, hx20⟩ : ∃ x, num ((T.drop 20).take 2) = x := ⟨_, rfl⟩
  have e20 := Lib.hid hx20
  have b20 : x20 < 65536 := by rw [← hx20]; exact num_take2 _
  rw [hx10] at n10
  rw [hx12] at n12
  rw [hx16] at n16
  rw [hx20] at hfit
  rw [hx12, hx16] at hbase
  have N10 := Lib.hid n10
  have N12 := Lib.hid n12
  have N16 := Lib.hid n16
  have HBS := Lib.hid hbase
  rw [frame211 hs hd, h0, h1, h7, h8]
  clear hQ hT hr hB1 hs hd h0 h1 h7 h8 n10 n12 n16 hbase hx4 hx6 hx8 hx10 hx12 hx16 hx20
  conv => arg 2; whnf
  go_wp2_with fail
  refine (rb16d _ _ _ _ _ _ _ R0.out (by rw [List.length_drop, HT.out]; omega)).mono ?_
  rintro _ w1 ⟨rfl, hn⟩
  rw [e4.out]
  simp only [List.drop_drop, Nat.reduceAdd] at hn
  have R1 := Lib.hid hn
  clear hn
  go_wp2_with fail
  refine (rb16d _ _ _ _ _ _ _ R1.out.nx (by rw [List.length_drop, HT.out]; omega)).mono ?_
  rintro _ w2 ⟨rfl, hn⟩
  rw [e6.out]
  simp only [List.drop_drop, Nat.reduceAdd] at hn
  have R2 := Lib.hid hn
  clear hn
  go_wp2_with fail
  refine (rb16d _ _ _ _ _ _ _ R2.out.nx (by rw [List.length_drop, HT.out]; omega)).mono ?_
  rintro _ w3 ⟨rfl, hn⟩
  rw [e8.out]
  simp only [List.drop_drop, Nat.reduceAdd] at hn
  have R3 := Lib.hid hn
  clear hn
  go_wp2_with fail
  refine (rb16d _ _ _ _ _ _ _ R3.out.nx (by rw [List.length_drop, HT.out]; omega)).mono ?_
  rintro _ w4 ⟨rfl, hn⟩
  rw [e10.out]
  simp only [List.drop_drop, Nat.reduceAdd] at hn
  have R4 := Lib.hid hn
  clear hn
  go_wp2_with fail
  refine (rb32d _ _ _ _ _ _ _ R4.out.nx (by rw [List.length_drop, HT.out]; omega)).mono ?_
  rintro _ w5 ⟨rfl, hn⟩
  rw [e12.out]
  simp only [List.drop_drop, Nat.reduceAdd] at hn
  have R5 := Lib.hid hn
  clear hn
  go_wp2_with fail
  refine (rb32d _ _ _ _ _ _ _ R5.out.nx (by rw [List.length_drop, HT.out]; omega)).mono ?_
  rintro _ w6 ⟨rfl, hn⟩
  rw [e16.out]
  simp only [List.drop_drop, Nat.reduceAdd] at hn
  have R6 := Lib.hid hn
  clear hn
  go_wp2_with fail
  refine (rb16d _ _ _ _ _ _ _ R6.out.nx (by rw [List.length_drop, HT.out]; omega)).mono ?_
  rintro _ w7 ⟨rfl, hn⟩
  rw [e20.out]
  simp only [List.drop_drop, Nat.reduceAdd] at hn
  have R7 := Lib.hid hn
  clear hn
  have hrb : RB w7 ⟨w.heap.size, 0, none⟩ g (p + 22) (m - 22) (m - 22) (T.drop 22) := by
    have := R7.out.nx
    simp only [Nat.add_assoc, Nat.sub_sub, Nat.reduceAdd] at this
    exact this
  have hF7 : Fr [] w w7 := by
    refine ((Fr.refl [] w).alloc (.cells #[.slice (some ⟨g, p + 4, none⟩) (m - 4) (m - 4)] rbT)).trans (S' := [w.heap.size]) (((((((R1.out.fr).trans R2.out.fr (by simp)).trans R3.out.fr (by simp)).trans R4.out.fr (by simp)).trans R5.out.fr (by simp)).trans R6.out.fr (by simp)).trans R7.out.fr (by simp)) (by simp)
  have HF7 := Lib.hid hF7
  have HRB := Lib.hid hrb
  obtain ⟨ad7, c7, had7⟩ := hrb.cell
  have hwl : w.heap.size < w7.heap.size := by
    have h1 := R7.out.size; have h2 := R6.out.size; have h3 := R5.out.size; have h4 := R4.out.size; have h5 := R3.out.size; have h6 := R2.out.size; have h7 := R1.out.size
    simp at h7
    omega
  obtain ⟨cm, hcm⟩ : ∃ l, (T.drop 22).take x20 = l := ⟨_, rfl⟩
  have lcm : cm.length = x20 := by rw [← hcm, List.length_take, List.length_drop, HT.out]; omega
  have rcm : Rd w7 g (p + 22) cm := by rw [← hcm]; exact Rd.left (m := (T.drop 22).drop x20) (by rw [List.take_append_drop]; exact hrb.rd)
  have hgl : g < w7.heap.size := by have := hF7.size; omega
  have k1 : ∀ o, (convert rbT 9 (.slice (some ad7) x20 (m - 22))).run Tryz.prog (w7.alloc o) = .ok (.string ⟨cm.toArray⟩) (w7.alloc o) := fun o => conv_strB _ ad7 g (p + 22) x20 (m - 22) cm lcm (fun h => had7 (by omega)) (rcm.fr (S := []) ((Fr.refl [] w7).alloc _) hgl (by simp))
  have c7' : ∀ o, (w7.alloc o).cell? ⟨w.heap.size, 0, none⟩ = some (.slice (some ad7) (m - 22) (m - 22)) := fun o => (((Fr.refl [] w7).alloc o).cell (p := ⟨w.heap.size, 0, none⟩) hwl (by simp)).trans c7
  have HCM := Lib.hid hcm
  have j1 : (x20 : Int) ≤ ((m - 22 : Nat) : Int) := by omega
  have t10 : ((x10 : Int) == 65535) = false := by have := N10.out; simp; omega
  have t12 : ((x12 : Int) == 4294967295) = false := by have := N12.out; simp; omega
  have t16 : ((x16 : Int) == 4294967295) = false := by have := N16.out; simp; omega
  have j12 : (x12 : Int) ≤ 9223372036854775807 := by omega
  have j16 : (x16 : Int) ≤ 9223372036854775807 := by omega
  clear R0 R1 R2 R3 R4 R5 R6 R7 hrb hF7 c7 had7 lcm rcm hcm
  obtain ⟨Y, hY⟩ : ∃ Y : Nat, Y = x16 + B := ⟨_, rfl⟩
  have hbs := HBS.out
  have v1 : IntKind.i64.wrap ((e : Int) - (x12 : Int)) = (Y : Int) := by rw [IntWalk.i64_in _ (by omega)]; omega
  have v2 : IntKind.i64.wrap ((Y : Int) - (x16 : Int)) = (B : Int) := by rw [IntWalk.i64_in _ (by omega)]; omega
  have v3 : ¬ ((B : Int) + (x16 : Int) < 0) := by omega
  have v4 : ((B : Int) + (x16 : Int) < (sz : Int)) := by omega
  have hYB := Lib.hid hY
  clear hbs hY
  go_wp2_with fail
  go_quiet (fail)
  clear v1 v2
  go_upto_if 188 with fail
  rename_i K hK
  have HK := Lib.hid hK
  clear hK
  go_wp2_with fail
  refine HK.out _ _ (HQ.out w7.heap.size _ _ rfl rfl rfl rfl rfl rfl ⟨HF7.out.size, ?_, (HF7.out.alloc _).drewN _⟩)
  rw [e4.out, e6.out, e8.out, e10.out, e12.out, e16.out, e20.out, HCM.out]
  exact (Blk.new _ _ _).drewN _
set_option maxRecDepth 100000 in
theorem rde39_0 (a : Act) (w : World) (r sz d : Nat) (hs : a.tmps.size = 211) (hd : a.defers = []) (h0 : slotOf a 0 = strRd r) (h1 : slotOf a 1 = .int .i64 (sz : Int)) (h5 : slotOf a 5 = .int .i64 0) (h15 : slotOf a 15 = .pointer (some ⟨d, 0, none⟩)) (Q : Exit → Act → World → Prop)
    (hQ : ∀ a', a'.defers = [] → a'.tmps.getD 4 undef = .pointer (some ⟨d, 0, none⟩) → a'.tmps.getD 5 undef = .int .i64 0 → a'.tmps.getD 6 undef = .nilIface → Q .ret a' w) :
    (rdeG 39).wp Tryz.prog Q a w := by
  have HQ := Lib.hid hQ
  rw [frame211 hs hd, h0, h1, h5, h15]
  clear hQ hs hd h0 h1 h5 h15
  conv => arg 2; whnf
  go_wp2_with fail
  exact HQ.out _ rfl rfl rfl rfl
end Go.Proofs.YtcodhjoiikdhmaaGreatDoor

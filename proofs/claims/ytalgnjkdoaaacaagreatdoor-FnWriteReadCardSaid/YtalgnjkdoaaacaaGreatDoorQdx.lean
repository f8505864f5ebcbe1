/- FnCopyRead: a copy of an archive is read as the archive is. -/
import Derived.Test.YtalgnjkdoaaacaaGreatDoorQdu
import Derived.Test.YtalgnjkdoaaacaaGreatDoorQwc
import Derived.Test.YtalgnjkdoaaacaaGreatDoorQyb
import Derived.Test.YtalgnjkdoaaacaaGreatDoorQrk
import Derived.Test.YtalgnjkdoaaacaaGreatDoorQqf
import Derived.Test.YtalgnjkdoaaacaaGreatDoorQxe0
set_option linter.unusedVariables false
set_option linter.unusedSimpArgs false
namespace Go.Proofs.YtalgnjkdoaaacaaGreatDoor
open Go Go.RowKit
open Zp
noncomputable def cprFrom (n : Nat) : Code := ((Tryz.f6.body.bind (sufHead n))).getD .skip
set_option maxRecDepth 100000 in
theorem frame201 {a : Act} (hs : a.tmps.size = 201) (hd : a.defers = []) : a = ⟨#[slotOf a 0, slotOf a 1, slotOf a 2, slotOf a 3, slotOf a 4, slotOf a 5, slotOf a 6, slotOf a 7, slotOf a 8, slotOf a 9, slotOf a 10, slotOf a 11, slotOf a 12, slotOf a 13, slotOf a 14, slotOf a 15, slotOf a 16, slotOf a 17, slotOf a 18, slotOf a 19, slotOf a 20, slotOf a 21, slotOf a 22, slotOf a 23, slotOf a 24, slotOf a 25, slotOf a 26, slotOf a 27, slotOf a 28, slotOf a 29, slotOf a 30, slotOf a 31, slotOf a 32, slotOf a 33, slotOf a 34, slotOf a 35, slotOf a 36, slotOf a 37, slotOf a 38, slotOf a 39, slotOf a 40, slotOf a 41, slotOf a 42, slotOf a 43, slotOf a 44, slotOf a 45, slotOf a 46, slotOf a 47, slotOf a 48, slotOf a 49, slotOf a 50, slotOf a 51, slotOf a 52, slotOf a 53, slotOf a 54, slotOf a 55, slotOf a 56, slotOf a 57, slotOf a 58, slotOf a 59, slotOf a 60, slotOf a 61, slotOf a 62, slotOf a 63, slotOf a 64, slotOf a 65, slotOf a 66, slotOf a 67, slotOf a 68, slotOf a 69, slotOf a 70, slotOf a 71, slotOf a 72, slotOf a 73, slotOf a 74, slotOf a 75, slotOf a 76, slotOf a 77, slotOf a 78, slotOf a 79, slotOf a 80, slotOf a 81, slotOf a 82, slotOf a 83, slotOf a 84, slotOf a 85, slotOf a 86, slotOf a 87, slotOf a 88, slotOf a 89, slotOf a 90, slotOf a 91, slotOf a 92, slotOf a 93, slotOf a 94, slotOf a 95, slotOf a 96, slotOf a 97, slotOf a 98, slotOf a 99, slotOf a 100, slotOf a 101, slotOf a 102, slotOf a 103, slotOf a 104, slotOf a 105, slotOf a 106, slotOf a 107, slotOf a 108, slotOf a 109, slotOf a 110, slotOf a 111, slotOf a 112, slotOf a 113, slotOf a 114, slotOf a 115, slotOf a 116, slotOf a 117, slotOf a 118, slotOf a 119, slotOf a 120, slotOf a 121, slotOf a 122, slotOf a 123, slotOf a 124, slotOf a 125, slotOf a 126, slotOf a 127, slotOf a 128, slotOf a 129, slotOf a 130, slotOf a 131, slotOf a 132, slotOf a 133, slotOf a 134, slotOf a 135, slotOf a 136, slotOf a 137, slotOf a 138, slotOf a 139, slotOf a 140, slotOf a 141, slotOf a 142, slotOf a 143, slotOf a 144, slotOf a 145, slotOf a 146, slotOf a 147, slotOf a 148, slotOf a 149, slotOf a 150, slotOf a 151, slotOf a 152, slotOf a 153, slotOf a 154, slotOf a 155, slotOf a 156, slotOf a 157, slotOf a 158, slotOf a 159, slotOf a 160, slotOf a 161, slotOf a 162, slotOf a 163, slotOf a 164, slotOf a 165, slotOf a 166, slotOf a 167, slotOf a 168, slotOf a 169, slotOf a 170, slotOf a 171, slotOf a 172, slotOf a 173, slotOf a 174, slotOf a 175, slotOf a 176, slotOf a 177, slotOf a 178, slotOf a 179, slotOf a 180, slotOf a 181, slotOf a 182, slotOf a 183, slotOf a 184, slotOf a 185, slotOf a 186, slotOf a 187, slotOf a 188, slotOf a 189, slotOf a 190, slotOf a 191, slotOf a 192, slotOf a 193, slotOf a 194, slotOf a 195, slotOf a 196, slotOf a 197, slotOf a 198, slotOf a 199, slotOf a 200], []⟩ := frame_of hs hd
theorem copyGood (E : Errs) (B0 : Nat) (w : World) (l : List Ent) (c : By) (hW : WE E B0 w) (hg : GoodP l c) (hpk : ∀ e ∈ l, e.h.packed = e.data.length) (hsim : ∀ e ∈ l, (e.h.flags.tdiv 8).tmod 2 = 0) (hdir : DirOk l) :
    Calls Tryz.prog 20 #[.string (bs (archB l c))] w fun x w' => x = .returned (.tuple #[.string (bs (archB l c)), .bool true]) ∧ Fr [] w w' := by
  obtain ⟨s1, s2, e1, e2⟩ := goodArc hg
  rw [e1] at s1
  obtain ⟨hall, h1000, hc, he⟩ := hg
  have h0 : archB l c = [] ++ archB l c ++ [] := by simp
  have he' : ends ([] ++ archB l c ++ []) = 1 := by rw [← h0]; exact he
  have hT := arcT_of (X := []) (Y := []) hall h1000 hc he' (by simp) (by simp) (.inl rfl)
  have hpl := places_length l (([] : By).length + (filesB l).length) 0
  rw [← hpl] at hT
  rw [← h0] at hT
  refine copyC E B0 w (bs (archB l c)) c _ _ _ _ l hW hT hpl h1000 hc ?_ (by omega)
  intro k e hk
  have hm : e ∈ l := List.mem_of_getElem? hk
  obtain ⟨-, hp, hat, hok⟩ := parts_gen (X := []) (Y := []) hall h1000 hc he' (by simp) (by simp) (.inl rfl) hk
  rw [← h0] at hat
  refine ⟨hok, hpk e hm, ?_, fun hs => ?_, _, _, hp, hat⟩
  · have h1 := simple_fl hok.2.2.1.1 (hsim e hm)
    have := hok.2.2.1.1
    omega
  · have h1 := hdir e hm
    by_cases hd : e.data = []
    · exact hd
    · exact absurd ⟨(slash_iff _).1 hs, hd⟩ h1
/-- Where the law's parts end. -/
def LawR (w0 : World) (a' : Act) (w' : World) : Prop := a'.defers = [] ∧ slotOf a' 4 = .bool true ∧ Fr [] w0 w'
set_option maxRecDepth 100000 in
set_option maxHeartbeats 8000000 in
theorem cpr11 (E : Errs) (B0 : Nat) (a : Act) (w : World) (l : List Ent) (c : By) (v : Value) (hs : a.tmps.size = 201) (hd : a.defers = []) (h0 : slotOf a 0 = v) (h1 : slotOf a 1 = .string (bs c))
    (hW : WE E B0 w) (hv : SV w v l) (hI : ∀ e ∈ l, EntI e) (hcc : c.length ≤ 2147483647) (hpk : ∀ e ∈ l, e.h.packed = e.data.length) (hsim : ∀ e ∈ l, (e.h.flags.tdiv 8).tmod 2 = 0) :
    (cprFrom 11).wp Tryz.prog (RQ (LawR w)) a w := by
  have HV := Lib.hid hv
  have HW := Lib.hid hW
  have HI := Lib.hid hI
  have HPK := Lib.hid hpk
  have HSIM := Lib.hid hsim
  have HPOS := Lib.hid (fun (w' : World) (hf : Fr [] w w') => (show 0 < w'.heap.size from by have := HW.out.h18; have := hf.size; omega))
  have HG := Lib.hid (goodC l HI.out c hcc v w hv (HPOS.out w (Fr.refl _ _)))
  have HDC := Lib.hid (fun (w' : World) (hf : Fr [] w w') => dirsC l HI.out v w' (hv.fr hf (by simp)))
  obtain ⟨pv, cv, rfl⟩ : ∃ pv cv, v = .slice pv l.length cv := by obtain ⟨p, cap, h, -⟩ := hv; exact ⟨p, cap, h⟩
  rw [frame201 hs hd, h0, h1]
  clear hv hW hI hpk hsim hs hd h0 h1
  conv => arg 2; whnf
  go_wp2_with fail
  refine HG.out.mono ?_
  rintro x w2 ⟨b2, rfl, hb2, hf2⟩
  have HB2 := Lib.hid hb2
  have HF2 := Lib.hid hf2
  clear hb2 hf2
  cases b2 with
  | false =>
    go_wp2_with fail
    exact ⟨rfl, rfl, HF2.out⟩
  | true =>
  have HGOOD := Lib.hid (HB2.out.1 (by first | rfl | trivial))
  clear HB2
  go_wp2_with fail
  refine (HDC.out w2 HF2.out).mono ?_
  rintro x w3 ⟨b3, rfl, hb3, hf3⟩
  have HB3 := Lib.hid hb3
  have HF3 := Lib.hid (HF2.out.trans hf3 (by simp))
  clear hb3 hf3
  cases b3 with
  | false =>
    go_wp2_with fail
    exact ⟨rfl, rfl, HF3.out⟩
  | true =>
  have HDIR := Lib.hid (HB3.out.1 (by first | rfl | trivial))
  clear HB3
  obtain ⟨s1, s2, e1, e2⟩ := goodArc HGOOD.out
  have h1000 := HGOOD.out.2.1
  have hc6 := HGOOD.out.2.2.1
  have hok : ∀ e ∈ l, HdOk e.h := fun e he => (HGOOD.out.1 e he).1
  have HOK := Lib.hid hok
  have HAR := Lib.hid (archC l HI.out c _ w3 (HV.out.fr HF3.out (by simp)) (HPOS.out w3 HF3.out) (by omega) (by omega) (by omega) hcc)
  rw [archI_ok c hok] at HAR
  have hsz : (archB l c).length ≤ 4000000000 := by
    have s1' := s1
    have s2' := s2
    rw [e1] at s1'
    rw [e2] at s2'
    rw [archB, List.length_append, List.length_append, endB_length]
    omega
  have HCG := Lib.hid (fun (w' : World) (hf : Fr [] w w') => copyGood E B0 w' l c (HW.out.fr hf (by simp)) HGOOD.out HPK.out HSIM.out HDIR.out)
  have HRG := Lib.hid (fun (w' : World) (hf : Fr [] w w') => readGood0 E B0 w' l c (HW.out.fr hf (by simp)) HGOOD.out)
  have HEN := Lib.hid (fun (w' : World) => endsC (bs (archB l c)) w' (by rw [bs_size]; omega))
  have hen : ends (archB l c) = 1 := HGOOD.out.2.2.2
  have HFK := Lib.hid (fun (k : Nat) (e : Ent) (hk : l[k]? = some e) => fileK_of HGOOD.out hk)
  rw [bs_list, hen] at HEN
  obtain ⟨X, hX⟩ : ∃ X, bs (archB l c) = X := ⟨_, rfl⟩
  rw [hX] at HAR HRG HCG HEN HFK
  clear s1 s2 e1 e2 hok hX hen hsz
  go_wp2_with fail
  refine HAR.out.mono ?_
  rintro x w4 ⟨rfl, hf4⟩
  have HF4 := Lib.hid (HF3.out.trans hf4 (by simp))
  clear hf4
  go_wp2_with fail
  refine (HCG.out _ HF4.out).mono ?_
  rintro x w5 ⟨rfl, hf5⟩
  have HF5 := Lib.hid (HF4.out.trans hf5 (by simp))
  clear hf5
  go_wp2_with fail
  refine (HEN.out _).mono ?_
  rintro x w6 ⟨rfl, hw6⟩
  rw [hw6]
  clear hw6 w6
  go_wp2_with fail
  refine (HRG.out _ HF5.out).mono ?_
  rintro x w6 ⟨v6, rfl, hh6, hf6⟩
  obtain ⟨p6, c6, hv6⟩ := hh6.len
  subst hv6
  have HH6 := Lib.hid hh6
  have HF6 := Lib.hid (HF5.out.trans hf6 (by simp))
  clear hf6 hh6
  go_wp2_with fail
  refine (HRG.out _ HF6.out).mono ?_
  rintro x w7 ⟨v7, rfl, hh7, hf7⟩
  obtain ⟨p7, c7, hv7⟩ := hh7.len
  subst hv7
  have HH7 := Lib.hid hh7
  have HF67 := Lib.hid hf7
  have HF7 := Lib.hid (HF6.out.trans hf7 (by simp))
  clear hf7 hh7
  go_wp2_with fail
  have hw8 : ∃ w8, ((w7.alloc (.cells #[.bool true, .string (bs c), .slice p6 (l.map lh).length c6] 28)).alloc (.cells #[.bool true, .string (bs c), .slice p7 (l.map lh).length c7] 28)) = w8 := ⟨_, rfl⟩
  obtain ⟨w8, hw8⟩ := hw8
  have hf8 : Fr [] w7 w8 := by rw [← hw8]; exact ((Fr.refl [] w7).alloc _).alloc _
  have hb9 : Blk w8 w7.heap.size 28 #[.bool true, .string (bs c), .slice p6 (l.map lh).length c6] := by rw [← hw8]; exact (Blk.new w7 _ _).alloc _
  have hb10 : Blk w8 (w7.heap.size + 1) 28 #[.bool true, .string (bs c), .slice p7 (l.map lh).length c7] := by
    rw [← hw8]
    have := Blk.new (w7.alloc (.cells #[.bool true, .string (bs c), .slice p6 (l.map lh).length c6] 28)) 28 #[.bool true, .string (bs c), .slice p7 (l.map lh).length c7]
    rw [World.size_alloc] at this
    exact this
  rw [List.length_map] at hw8 hb9 hb10
  rw [hw8]
  have HF8 := Lib.hid (HF7.out.trans hf8 (by simp))
  have HB9 := Lib.hid hb9
  have HB10 := Lib.hid hb10
  have HH68 := Lib.hid ((HH6.out.fr HF67.out (by simp)).fr hf8 (by simp))
  have HH78 := Lib.hid (HH7.out.fr hf8 (by simp))
  rw [List.length_map] at HH68 HH78
  obtain ⟨n, hn⟩ : ∃ n, l.length = n := ⟨_, rfl⟩
  have HN := Lib.hid hn
  clear hw8 hf8 hb9 hb10
  rw [hn] at HB9 HB10 HH68 HH78 h1000 ⊢
  clear hn
  obtain ⟨b9, hb9⟩ : ∃ b9, w7.heap.size = b9 := ⟨_, rfl⟩
  rw [hb9] at HB9 HB10 ⊢
  clear hb9
  go_loopw [102] (fun v102 wr => ∃ k : Nat, k ≤ n ∧ v102 = .int .i64 (k : Int) ∧ Fr [] w8 wr) (fun v102 _ => n - (intOf v102).toNat)
  case atStart => exact ⟨0, by omega, rfl, Fr.refl _ _⟩
  case round =>
    obtain ⟨k, hk, rfl, hf⟩ := hrel
    have HF := Lib.hid hf
    clear hf
    by_cases hlt : k < n
    · have hkl : k < l.length := by have := HN.out; omega
      obtain ⟨e, he⟩ : ∃ e, l[k] = e := ⟨_, rfl⟩
      have hle : l[k]? = some e := by rw [List.getElem?_eq_getElem hkl, he]
      have hem : e ∈ l := by rw [← he]; exact List.getElem_mem hkl
      have HRW := Lib.hid (fun (w' : World) (hf : Fr [] w8 w') => raw_file E B0 w' X k e (HW.out.fr (HF8.out.trans hf (by simp)) (by simp)) (HFK.out k e hle) (HPK.out e hem))
      have hne : l.map lh ≠ [] := fun h => by have := congrArg List.length h; simp at this; rw [this] at hkl; simp at hkl
      obtain ⟨g6, cap6, hs6, -, hg6, -, -⟩ := HH68.out.row hne
      obtain ⟨g7, cap7, hs7, -, hg7, -, -⟩ := HH78.out.row hne
      injection hs6 with q1 q2 q3
      subst q1
      injection hs7 with q4 q5 q6
      subst q4
      clear q2 q3 q5 q6
      have hlm : (l.map lh)[k]? = some (lh e) := by rw [List.getElem?_map, hle]; rfl
      have HR6 := Lib.hid (fun (w' : World) (hf : Fr [] w8 w') => rangeAt_fr (HH68.out.range hlm) hg6 hf)
      have HR7 := Lib.hid (fun (w' : World) (hf : Fr [] w8 w') => rangeAt_fr (HH78.out.range hlm) hg7 hf)
      have i3 : (k : Int) < (n : Int) := by omega
      clear he hle hem hne hlm
      go_wp2_with fail
      refine (HRW.out _ HF.out).mono ?_
      rintro x w9 ⟨rfl, hf9⟩
      have HF9 := Lib.hid (HF.out.trans hf9 (by simp))
      clear hf9
      go_wp2_with fail
      refine (HRW.out _ HF9.out).mono ?_
      rintro x w10 ⟨rfl, hf10⟩
      have HF10 := Lib.hid (HF9.out.trans hf10 (by simp))
      clear hf10
      have y9 := (HB9.out.fr HF10.out (by simp)).at_ 2 _ rfl
      have y10 := (HB10.out.fr HF10.out (by simp)).at_ 2 _ rfl
      have r6 := HR6.out _ HF10.out
      have r7 := HR7.out _ HF10.out
      have a0 : w10.cell? ⟨g6, k * 14, none⟩ = some (.string (bs e.h.name)) := r6 0 _ rfl
      have a1 : w10.cell? ⟨g6, k * 14 + 1, none⟩ = some (.string (bs e.h.comment)) := r6 1 _ rfl
      have a7 : w10.cell? ⟨g6, k * 14 + 7, none⟩ = some (.int .i64 e.h.method) := r6 7 _ rfl
      have a10 : w10.cell? ⟨g6, k * 14 + 10, none⟩ = some (.int .i64 e.h.crc) := r6 10 _ rfl
      have a12 : w10.cell? ⟨g6, k * 14 + 12, none⟩ = some (.int .i64 e.h.size) := r6 12 _ rfl
      have b0 : w10.cell? ⟨g7, k * 14, none⟩ = some (.string (bs e.h.name)) := r7 0 _ rfl
      have b1 : w10.cell? ⟨g7, k * 14 + 1, none⟩ = some (.string (bs e.h.comment)) := r7 1 _ rfl
      have b7 : w10.cell? ⟨g7, k * 14 + 7, none⟩ = some (.int .i64 e.h.method) := r7 7 _ rfl
      have b10 : w10.cell? ⟨g7, k * 14 + 10, none⟩ = some (.int .i64 e.h.crc) := r7 10 _ rfl
      have b12 : w10.cell? ⟨g7, k * 14 + 12, none⟩ = some (.int .i64 e.h.size) := r7 12 _ rfl
      clear r6 r7
      go_upto_region 25 with fail
      simp only [List.append_eq, List.cons_append, List.nil_append]
      go_quiet (fail)
      go_wp2_with fail
      exact ⟨⟨k + 1, by omega, by rw [Int.natCast_add]; rfl, HF10.out.drewN _⟩, by simp [intOf]; omega⟩
    · obtain rfl : k = n := by omega
      have i1 : ¬ (k : Int) < (k : Int) := by omega
      have HRD := Lib.hid (readsC E B0 wr (HW.out.fr (HF8.out.trans HF.out (by simp)) (by simp)))
      go_wp2_with fail
      refine HRD.out.mono ?_
      rintro x w11 ⟨rfl, hf11⟩
      have HF11 := Lib.hid ((HF8.out.trans HF.out (by simp)).trans hf11 (by simp))
      clear hf11
      go_wp2_with fail
      exact ⟨rfl, rfl, HF11.out⟩
end Go.Proofs.YtalgnjkdoaaacaaGreatDoor

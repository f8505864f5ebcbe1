/- CreateHeader: the directory and the header. -/
import Derived.Test.YtalgnjkdoaaacaaGreatDoorQed
import Derived.Test.YtalgnjkdoaaacaaGreatDoorQds
set_option linter.unusedVariables false
set_option linter.unusedSimpArgs false
namespace Go.Proofs.YtalgnjkdoaaacaaGreatDoor
open Go Go.RowKit
open Zp
/-- The blocks of entries stand as they did. -/
def KE (w w' : World) : Prop := ∀ g cs, Blk w g 38 cs → Blk w' g 38 cs
theorem KE.refl (w : World) : KE w w := fun _ _ h => h
theorem KE.trans {w w1 w2 : World} (h : KE w w1) (k : KE w1 w2) : KE w w2 := fun g cs hb => k g cs (h g cs hb)
theorem KE.of_fr {w w' : World} {S : List Nat} (hf : Fr S w w') (hS : ∀ s ∈ S, w.heap.size ≤ s ∨ ∃ t cs, Blk w s t cs ∧ t ≠ 38) : KE w w' := fun g cs hb => hb.fr hf fun hm => by
  rcases hS g hm with h | ⟨t, cs', hb', ht⟩
  · have := hb.lt; omega
  · exact hb.ne_ hb' (fun e => ht e.symm) rfl
/-- The cells of a file's writer that is not raw. -/
abbrev fnC (hh cw rc nc cc cr : Nat) (cl : Bool) : Array Value := #[.pointer (some ⟨hh, 0, none⟩), .iface 126 (.pointer (some ⟨cw, 0, none⟩)), .pointer (some ⟨rc, 0, none⟩), .iface 271 (.pointer (some ⟨nc, 0, none⟩)), .pointer (some ⟨cc, 0, none⟩), .pointer (some ⟨cr, 0, none⟩), .bool cl]
noncomputable def chdFrom (n : Nat) : Code := ((Tryz.f45.body.bind (sufHead n))).getD .skip
set_option maxRecDepth 100000 in
theorem frame252 {a : Act} (hs : a.tmps.size = 252) (hd : a.defers = []) : a = ⟨#[slotOf a 0, slotOf a 1, slotOf a 2, slotOf a 3, slotOf a 4, slotOf a 5, slotOf a 6, slotOf a 7, slotOf a 8, slotOf a 9, slotOf a 10, slotOf a 11, slotOf a 12, slotOf a 13, slotOf a 14, slotOf a 15, slotOf a 16, slotOf a 17, slotOf a 18, slotOf a 19, slotOf a 20, slotOf a 21, slotOf a 22, slotOf a 23, slotOf a 24, slotOf a 25, slotOf a 26, slotOf a 27, slotOf a 28, slotOf a 29, slotOf a 30, slotOf a 31, slotOf a 32, slotOf a 33, slotOf a 34, slotOf a 35, slotOf a 36, slotOf a 37, slotOf a 38, slotOf a 39, slotOf a 40, slotOf a 41, slotOf a 42, slotOf a 43, slotOf a 44, slotOf a 45, slotOf a 46, slotOf a 47, slotOf a 48, slotOf a 49, slotOf a 50, slotOf a 51, slotOf a 52, slotOf a 53, slotOf a 54, slotOf a 55, slotOf a 56, slotOf a 57, slotOf a 58, slotOf a 59, slotOf a 60, slotOf a 61, slotOf a 62, slotOf a 63, slotOf a 64, slotOf a 65, slotOf a 66, slotOf a 67, slotOf a 68, slotOf a 69, slotOf a 70, slotOf a 71, slotOf a 72, slotOf a 73, slotOf a 74, slotOf a 75, slotOf a 76, slotOf a 77, slotOf a 78, slotOf a 79, slotOf a 80, slotOf a 81, slotOf a 82, slotOf a 83, slotOf a 84, slotOf a 85, slotOf a 86, slotOf a 87, slotOf a 88, slotOf a 89, slotOf a 90, slotOf a 91, slotOf a 92, slotOf a 93, slotOf a 94, slotOf a 95, slotOf a 96, slotOf a 97, slotOf a 98, slotOf a 99, slotOf a 100, slotOf a 101, slotOf a 102, slotOf a 103, slotOf a 104, slotOf a 105, slotOf a 106, slotOf a 107, slotOf a 108, slotOf a 109, slotOf a 110, slotOf a 111, slotOf a 112, slotOf a 113, slotOf a 114, slotOf a 115, slotOf a 116, slotOf a 117, slotOf a 118, slotOf a 119, slotOf a 120, slotOf a 121, slotOf a 122, slotOf a 123, slotOf a 124, slotOf a 125, slotOf a 126, slotOf a 127, slotOf a 128, slotOf a 129, slotOf a 130, slotOf a 131, slotOf a 132, slotOf a 133, slotOf a 134, slotOf a 135, slotOf a 136, slotOf a 137, slotOf a 138, slotOf a 139, slotOf a 140, slotOf a 141, slotOf a 142, slotOf a 143, slotOf a 144, slotOf a 145, slotOf a 146, slotOf a 147, slotOf a 148, slotOf a 149, slotOf a 150, slotOf a 151, slotOf a 152, slotOf a 153, slotOf a 154, slotOf a 155, slotOf a 156, slotOf a 157, slotOf a 158, slotOf a 159, slotOf a 160, slotOf a 161, slotOf a 162, slotOf a 163, slotOf a 164, slotOf a 165, slotOf a 166, slotOf a 167, slotOf a 168, slotOf a 169, slotOf a 170, slotOf a 171, slotOf a 172, slotOf a 173, slotOf a 174, slotOf a 175, slotOf a 176, slotOf a 177, slotOf a 178, slotOf a 179, slotOf a 180, slotOf a 181, slotOf a 182, slotOf a 183, slotOf a 184, slotOf a 185, slotOf a 186, slotOf a 187, slotOf a 188, slotOf a 189, slotOf a 190, slotOf a 191, slotOf a 192, slotOf a 193, slotOf a 194, slotOf a 195, slotOf a 196, slotOf a 197, slotOf a 198, slotOf a 199, slotOf a 200, slotOf a 201, slotOf a 202, slotOf a 203, slotOf a 204, slotOf a 205, slotOf a 206, slotOf a 207, slotOf a 208, slotOf a 209, slotOf a 210, slotOf a 211, slotOf a 212, slotOf a 213, slotOf a 214, slotOf a 215, slotOf a 216, slotOf a 217, slotOf a 218, slotOf a 219, slotOf a 220, slotOf a 221, slotOf a 222, slotOf a 223, slotOf a 224, slotOf a 225, slotOf a 226, slotOf a 227, slotOf a 228, slotOf a 229, slotOf a 230, slotOf a 231, slotOf a 232, slotOf a 233, slotOf a 234, slotOf a 235, slotOf a 236, slotOf a 237, slotOf a 238, slotOf a 239, slotOf a 240, slotOf a 241, slotOf a 242, slotOf a 243, slotOf a 244, slotOf a 245, slotOf a 246, slotOf a 247, slotOf a 248, slotOf a 249, slotOf a 250, slotOf a 251], []⟩ := frame_of hs hd
/-- What the tail of CreateHeader leaves. -/
def ChW (w : World) (zw base cw bw bf sb n hh fh off : Nat) (own : Option Nat) (T : By) (dv : Value) (c : By) (xs : List Value) (nm cm : By) (nu : Bool) (cr rd fl me ti da ext : Nat) (m0 m1 : Int) (mp : Option Addr) (fwv : Value) (w' : World) : Prop :=
  ∃ own' dv', CW w' base cw bw bf sb own' (T ++ locL rd fl me ti da 0 0 0 nm []) ∧ OwnN w own own' ∧ Blk w' zw 136 (zwC cw dv' fwv false c) ∧
    w'.ownsRow base 151 1 dv' (n + 1) (xs ++ [.pointer (some ⟨hh, 0, none⟩)]) ∧ HN w' hh fh off nm cm nu cr rd fl me ti da ext m0 m1 mp ∧ Fr (zw :: (dv.ownBlock.toList ++ cwS cw bw bf sb own)) w w'
set_option maxRecDepth 100000 in
set_option maxHeartbeats 16000000 in
theorem chd45 (a : Act) (w : World) (zw base cw bw bf sb n hh fh off : Nat) (own : Option Nat) (T : By) (dv last : Value) (c : By) (xs : List Value) (nm cm : By) (nu : Bool) (cr rd fl me ti da ext : Nat) (m0 m1 : Int) (mp : Option Addr) (ow : Value) (p15 : Option Addr)
    (hs : a.tmps.size = 252) (hd : a.defers = []) (h0 : slotOf a 0 = .pointer (some ⟨zw, 0, none⟩)) (h14 : slotOf a 14 = ow) (h15 : slotOf a 15 = .pointer p15) (h16 : slotOf a 16 = .pointer (some ⟨hh, 0, none⟩))
    (hz : Blk w zw 136 (zwC cw dv last false c)) (hC : CW w base cw bw bf sb own T) (hdir : w.ownsRow base 151 1 dv n xs) (hH : HN w hh fh off nm cm nu cr rd fl me ti da ext m0 m1 mp) (hbs : base ≤ w.heap.size) (hn : n ≤ 1000) (hT : T.length + 200000 ≤ 4000000000)
    (b1 : rd ≤ 65535) (b2 : fl ≤ 65535) (b3 : me ≤ 65535) (b4 : ti ≤ 65535) (b5 : da ≤ 65535) (b9 : nm.length ≤ 65535) :
    (chdFrom 45).wp Tryz.prog (RQ (fun a' w' => a'.defers = [] ∧ slotOf a' 4 = ow ∧ slotOf a' 5 = .nilIface ∧ ChW w zw base cw bw bf sb n hh fh off own T dv c xs nm cm nu cr rd fl me ti da ext m0 m1 mp (.pointer p15) w')) a w := by
  obtain ⟨i0, hi0, hz0⟩ := Option.map_eq_some_iff.1 infoHP
  simp only [Prod.mk.injEq] at hz0
  obtain ⟨hz1, hz2, hz3⟩ := hz0
  obtain ⟨z0, hz4, hz5⟩ := Option.map_eq_some_iff.1 hz1
  have HI0 := Lib.hid (And.intro hi0 (And.intro hz4 (And.intro hz2 (And.intro hz3 hz5))))
  clear hi0 hz1 hz2 hz3 hz4 hz5
  have of2 := hC.offBlk hz (by decide) (by decide) (by decide) (by decide)
  have ofh := hC.offBlk hH.h (by decide) (by decide) (by decide) (by decide)
  have off_ := hC.offBlk hH.f (by decide) (by decide) (by decide) (by decide)
  have hdz := rowB_ty hdir hz (by decide)
  have hdh := rowB_ty hdir hH.h (by decide)
  have hdf := rowB_ty hdir hH.f (by decide)
  have n1 : hh ≠ zw := hH.h.ne_ hz (by decide)
  have n2 : fh ≠ zw := hH.f.ne_ hz (by decide)
  have c0 := hz.at_ 0 (.pointer (some ⟨cw, 0, none⟩)) rfl
  have c1 := hz.at_ 1 dv rfl
  have hd3 := rowB_fr hdir ((Fr.refl [] w).alloc (.cells #[.pointer (some ⟨hh, 0, none⟩)] 151)) (by simp)
  have HD3 := Lib.hid hd3
  have HD1 := Lib.hid hdir
  have HZ := Lib.hid hz
  have HC := Lib.hid hC
  have HH := Lib.hid hH
  rw [frame252 hs hd, h0, h14, h15, h16]
  clear hz hC hdir hH hd3 hs hd h0 h14 h15 h16
  conv => arg 2; whnf
  go_wp2_with (at_builtin; refine wpList_append_own _ rfl _ _ 131 rfl base 151 i0 z0 1 8 Tryz.underlying131 HI0.out.1 HI0.out.2.1 HI0.out.2.2.1 HI0.out.2.2.2.1 HI0.out.2.2.2.2 (by decide) dv n xs rfl HD3.out ⟨w.heap.size, 0, none⟩ 1 1 [.pointer (some ⟨hh, 0, none⟩)] rfl rfl (newP _ _ rfl) (by intro u hu; simp at hu; subst hu; rfl) (by unfold maxLen; omega) (by omega) (by rw [World.size_alloc]; omega) ?_; intro v' w4 hown4 hgrow4 hv4; have HO4 := Lib.hid hown4; have HG4 := Lib.hid hgrow4; obtain ⟨pq, cq, rfl⟩ := rowB_slice hown4; have hzb := rowB_grown (HZ.out.alloc _) hgrow4 hdz; have p0 := hzb.at_ 0 (.pointer (some ⟨cw, 0, none⟩)) rfl; have x1 := hzb.at_ 1 dv rfl; have x1f := hzb.frozen 1; have HZB := Lib.hid hzb; clear hown4 hgrow4 hv4 hzb)
  have hF5 : Fr (zw :: dv.ownBlock.toList) w (w4.setCell ⟨zw, 1, none⟩ (.slice pq (n + 1) cq)) := by
    refine Fr.setCell ?_ (.inl (by simp)) _
    exact Fr.trans (((Fr.refl (zw :: dv.ownBlock.toList) w)).alloc _) (Fr.of_grown (S := dv.ownBlock.toList) HG4.out (fun g hg => .inl (by rw [hg]; simp))) (fun s hs => .inl (List.mem_cons_of_mem _ hs))
  have hoff : ∀ x, x ∈ cwS cw bw bf sb own → x ∉ zw :: dv.ownBlock.toList := fun x hx hm => by
    rcases List.mem_cons.1 hm with h | h
    · subst h; exact of2.not hx
    · obtain ⟨t, cs, hb, hk⟩ := HC.out.typ hx
      exact rowB_ty HD1.out hb (by rcases hk with ⟨k, -⟩ | ⟨k, -⟩ | ⟨k, -⟩ | ⟨k, -⟩ <;> (rw [k]; decide)) (by simpa using h)
  have hC5 : CW (w4.setCell ⟨zw, 1, none⟩ (.slice pq (n + 1) cq)) base cw bw bf sb own T := HC.out.fr hF5 (hoff _ (by simp [cwS])) (hoff _ (by simp [cwS])) (hoff _ (by simp [cwS])) (hoff _ (by simp [cwS])) (fun g hg => hoff g (by simp [cwS, hg]))
  have hH5 : HN (w4.setCell ⟨zw, 1, none⟩ (.slice pq (n + 1) cq)) hh fh off nm cm nu cr rd fl me ti da ext m0 m1 mp := HH.out.fr hF5 (by simp only [List.mem_cons, Option.mem_toList, not_or]; exact ⟨n1, hdh⟩) (by simp only [List.mem_cons, Option.mem_toList, not_or]; exact ⟨n2, hdf⟩)
  have HWH := Lib.hid (writeHdN _ base cw bw bf sb own T hh fh off nm cm nu cr rd fl me ti da ext m0 m1 mp hC5 hH5 ofh off_ hT b1 b2 b3 b4 b5 b9)
  have hz5 : Blk (w4.setCell ⟨zw, 1, none⟩ (.slice pq (n + 1) cq)) zw 136 (zwC cw (.slice pq (n + 1) cq) last false c) := HZB.out.set_ 1 (.slice pq (n + 1) cq)
  have hrow5 : (w4.setCell ⟨zw, 1, none⟩ (.slice pq (n + 1) cq)).ownsRow base 151 1 (.slice pq (n + 1) cq) (n + 1) (xs ++ [.pointer (some ⟨hh, 0, none⟩)]) := rowB_fr HO4.out ((Fr.refl [zw] w4).setCell (p := ⟨zw, 1, none⟩) (.inl (by simp)) _) (fun s hs => by simp at hs; subst hs; exact rowB_ty HO4.out HZB.out (by decide))
  have HC5 := Lib.hid hC5
  have HH5 := Lib.hid hH5
  have HZ5 := Lib.hid hz5
  have HR5 := Lib.hid hrow5
  have HF5 := Lib.hid hF5
  clear hC5 hH5 hz5 hrow5 hF5 hoff
  refine HWH.out.mono ?_
  rintro e w6 ⟨own6, rfl, hc6, ho6, hf6⟩
  have hz6 := HZ5.out.fr hf6 of2.not
  have y2 := hz6.frozen 2
  have y3 := hz6.at_ 2 last rfl
  have hrow6 : w6.ownsRow base 151 1 (.slice pq (n + 1) cq) (n + 1) (xs ++ [.pointer (some ⟨hh, 0, none⟩)]) := rowB_fr HR5.out hf6 (fun s hs => by
    obtain ⟨t, cs, hb, hk⟩ := HC5.out.typ hs
    exact rowB_ty HR5.out hb (by rcases hk with ⟨k, -⟩ | ⟨k, -⟩ | ⟨k, -⟩ | ⟨k, -⟩ <;> (rw [k]; decide)))
  have hH6 := HH5.out.fr hf6 ofh.not off_.not
  have HC6 := Lib.hid hc6
  have HO6 := Lib.hid ((show OwnN w own own from .inl rfl).trans ho6 HF5.out.size)
  have HF6 := Lib.hid hf6
  have HR6 := Lib.hid hrow6
  have HH6 := Lib.hid hH6
  have HZ6 := Lib.hid hz6
  clear hc6 ho6 hf6 hrow6 hH6 hz6
  go_wp2_with fail
  have hfz : Fr [zw] w6 (w6.setCell ⟨zw, 2, none⟩ (.pointer p15)) := (Fr.refl [zw] w6).setCell (p := ⟨zw, 2, none⟩) (.inl (by simp)) _
  have hno := HC6.out.offBlk HZ6.out (by decide) (by decide) (by decide) (by decide)
  refine ⟨rfl, rfl, rfl, own6, .slice pq (n + 1) cq, ?_, HO6.out, HZ6.out.set_ 2 (.pointer p15), ?_, HH6.out.fr hfz (by simpa using n1) (by simpa using n2), ?_⟩
  · exact HC6.out.fr hfz (by simp; exact fun e => hno.1 e.symm) (by simp; exact fun e => hno.2.1 e.symm) (by simp; exact fun e => hno.2.2.1 e.symm) (by simp; exact fun e => hno.2.2.2.1 e.symm) (fun g hg => by simp; exact fun e => hno.2.2.2.2 (by rw [hg, e]))
  · exact rowB_fr HR6.out hfz (fun s hs => by simp at hs; subst hs; exact rowB_ty HR6.out HZ6.out (by decide))
  · refine ((HF5.out.mono (S' := zw :: (dv.ownBlock.toList ++ cwS cw bw bf sb own)) (fun s hs => .inl ?_)).trans HF6.out (fun s hs => .inl ?_)).trans hfz (fun s hs => .inl ?_)
    · rcases List.mem_cons.1 hs with h | h
      · simp [h]
      · exact List.mem_cons_of_mem _ (List.mem_append_left _ h)
    · exact List.mem_cons_of_mem _ (List.mem_append_right _ hs)
    · simp at hs; simp [hs]
end Go.Proofs.YtalgnjkdoaaacaaGreatDoor

/- CreateHeader: the writer of a file. -/
namespace Go.Proofs.YtalgnjkdoaaacaaGreatDoor
open Go Go.RowKit
open Zp
/-- The blocks of a file's writer that is not raw: n bytes are written, their checksum is v. -/
structure FwN (w : World) (hh cw fw rc nc cc cr n v : Nat) (cl : Bool) : Prop where
  f : Blk w fw 163 (fnC hh cw rc nc cc cr cl)
  r : Blk w rc 130 #[.iface 271 (.pointer (some ⟨nc, 0, none⟩)), .int .i64 (n : Int)]
  k : Blk w nc 273 #[.iface 126 (.pointer (some ⟨cc, 0, none⟩))]
  c : Blk w cc 130 #[.iface 126 (.pointer (some ⟨cw, 0, none⟩)), .int .i64 (n : Int)]
  s : Blk w cr 159 #[.int .u32 (v : Int)]
  ne : rc ≠ cc ∧ rc ≠ cw ∧ cc ≠ cw
theorem FwN.fr {w w' : World} {S : List Nat} {hh cw fw rc nc cc cr n v : Nat} {cl : Bool} (h : FwN w hh cw fw rc nc cc cr n v cl) (hf : Fr S w w') (h1 : fw ∉ S) (h2 : rc ∉ S) (h3 : nc ∉ S) (h4 : cc ∉ S) (h5 : cr ∉ S) : FwN w' hh cw fw rc nc cc cr n v cl := ⟨h.f.fr hf h1, h.r.fr hf h2, h.k.fr hf h3, h.c.fr hf h4, h.s.fr hf h5, h.ne⟩
/-- What the making of a file's writer leaves. -/
def MkR (w : World) (zw hh cw fw cc cr : Nat) (a' : Act) (w' : World) : Prop :=
  a'.tmps.size = 252 ∧ a'.defers = [] ∧ slotOf a' 0 = .pointer (some ⟨zw, 0, none⟩) ∧ slotOf a' 14 = .iface 132 (.pointer (some ⟨fw, 0, none⟩)) ∧ slotOf a' 15 = .pointer (some ⟨fw, 0, none⟩) ∧ slotOf a' 16 = .pointer (some ⟨hh, 0, none⟩) ∧
    ∃ rc nc, w.heap.size ≤ rc ∧ w.heap.size ≤ nc ∧ FwN w' hh cw fw rc nc cc cr 0 0 false ∧ Fr [fw] w w'
set_option maxRecDepth 100000 in
set_option maxHeartbeats 16000000 in
theorem chd35 (a : Act) (w : World) (zw fh hh cw fw cc cr : Nat) (dv last : Value) (cl : Bool) (c : By) (cf : Array Value)
    (hs : a.tmps.size = 252) (hd : a.defers = []) (h0 : slotOf a 0 = .pointer (some ⟨zw, 0, none⟩)) (h1 : slotOf a 1 = .pointer (some ⟨fh, 0, none⟩)) (h15 : slotOf a 15 = .pointer (some ⟨fw, 0, none⟩)) (h16 : slotOf a 16 = .pointer (some ⟨hh, 0, none⟩))
    (hz : Blk w zw 136 (zwC cw dv last cl c)) (hfh : Blk w fh 78 cf) (hm : cf[6]? = some (.int .u16 0))
    (hfw : Blk w fw 163 #[.pointer none, .iface 126 (.pointer (some ⟨cw, 0, none⟩)), .pointer none, .nilIface, .pointer (some ⟨cc, 0, none⟩), .pointer (some ⟨cr, 0, none⟩), .bool false])
    (hcc : Blk w cc 130 #[.iface 126 (.pointer (some ⟨cw, 0, none⟩)), .int .i64 0]) (hcr : Blk w cr 159 #[.int .u32 0]) (hcw : cc ≠ cw) (hcwl : cw < w.heap.size) :
    (chdFrom 35).wp Tryz.prog (NQ (MkR w zw hh cw fw cc cr)) a w := by
  have c6 := hfh.at_ 6 _ hm
  have z4 := hz.at_ 4 (.map none) rfl
  have HCP := Lib.hid (comprC w zw z4)
  have hnn := cprNil w
  have g4 := hfw.at_ 4 (.pointer (some ⟨cc, 0, none⟩)) rfl
  have HC1 := Lib.hid (compr1 w cc)
  have hl := hfw.lt
  have HFW := Lib.hid hfw
  have HCC := Lib.hid hcc
  have HCR := Lib.hid hcr
  have hlc := hcc.lt
  rw [frame252 hs hd, h0, h1, h15, h16]
  clear hs hd h0 h1 h15 h16 hz hfh hfw hcc hcr
  conv => arg 2; whnf
  go_wp2_with fail
  refine HCP.out.mono ?_
  rintro e w1 ⟨rfl, hw1⟩
  rw [hw1]
  clear hw1 w1
  go_wp2_with fail
  refine HC1.out.mono ?_
  rintro e w2 ⟨rfl, hw2⟩
  have hf2 : Fr [] w w2 := by rw [hw2]; exact (Fr.refl [] w).alloc _
  have hnc : Blk w2 w.heap.size 273 #[.iface 126 (.pointer (some ⟨cc, 0, none⟩))] := by rw [hw2]; exact Blk.new _ _ _
  have hs2 : w2.heap.size = w.heap.size + 1 := by rw [hw2]; exact World.size_alloc _ _
  clear hw2
  have hfw2 := HFW.out.fr hf2 (by simp)
  have a3 := hfw2.at_ 3 .nilIface rfl
  have z3 := hfw2.frozen 3
  have hfw3 := hfw2.set_ 3 (.iface 271 (.pointer (some ⟨w.heap.size, 0, none⟩)))
  have b3 := hfw3.at_ 3 (.iface 271 (.pointer (some ⟨w.heap.size, 0, none⟩))) rfl
  have hfw4 := hfw3.alloc (.cells #[.iface 271 (.pointer (some ⟨w.heap.size, 0, none⟩)), .int .i64 0] 130)
  have a2 := hfw4.at_ 2 (.pointer none) rfl
  have z2 := hfw4.frozen 2
  have hfw5 := hfw3.set_ 2 (.pointer (some ⟨w.heap.size + 1, 0, none⟩))
  have hfw5a := hfw5.alloc (.cells #[.iface 271 (.pointer (some ⟨w.heap.size, 0, none⟩)), .int .i64 0] 130)
  have a0 := hfw5a.at_ 0 (.pointer none) rfl
  have z0 := hfw5a.frozen 0
  have hfw6 := (hfw5.set_ 0 (.pointer (some ⟨hh, 0, none⟩))).alloc (.cells #[.iface 271 (.pointer (some ⟨w.heap.size, 0, none⟩)), .int .i64 0] 130)
  have hf6 : Fr [fw] w2 (((((w2.setCell ⟨fw, 3, none⟩ (.iface 271 (.pointer (some ⟨w.heap.size, 0, none⟩)))).setCell ⟨fw, 2, none⟩ (.pointer (some ⟨w.heap.size + 1, 0, none⟩))).setCell ⟨fw, 0, none⟩ (.pointer (some ⟨hh, 0, none⟩))).alloc (.cells #[.iface 271 (.pointer (some ⟨w.heap.size, 0, none⟩)), .int .i64 0] 130))) :=
    ((((Fr.refl [fw] w2).setCell (p := ⟨fw, 3, none⟩) (.inl (by simp)) _).setCell (p := ⟨fw, 2, none⟩) (.inl (by simp)) _).setCell (p := ⟨fw, 0, none⟩) (.inl (by simp)) _).alloc _
  have hrc := Blk.new (((w2.setCell ⟨fw, 3, none⟩ (.iface 271 (.pointer (some ⟨w.heap.size, 0, none⟩)))).setCell ⟨fw, 2, none⟩ (.pointer (some ⟨w.heap.size + 1, 0, none⟩))).setCell ⟨fw, 0, none⟩ (.pointer (some ⟨hh, 0, none⟩))) 130 #[.iface 271 (.pointer (some ⟨w.heap.size, 0, none⟩)), .int .i64 0]
  rw [show ((((w2.setCell ⟨fw, 3, none⟩ (.iface 271 (.pointer (some ⟨w.heap.size, 0, none⟩)))).setCell ⟨fw, 2, none⟩ (.pointer (some ⟨w.heap.size + 1, 0, none⟩))).setCell ⟨fw, 0, none⟩ (.pointer (some ⟨hh, 0, none⟩)))).heap.size = w.heap.size + 1 from by simp [World.setCell]; exact hs2] at hrc
  have HF6 := Lib.hid hfw6
  have HFR6 := Lib.hid hf6
  have HF2 := Lib.hid hf2
  have HNC := Lib.hid hnc
  have HRC := Lib.hid hrc
  clear hf2 hnc hfw2 hfw3 hfw4 hfw5 hfw5a hfw6 hf6 hrc
  go_wp2_with fail
  exact ⟨rfl, rfl, rfl, rfl, rfl, rfl, w.heap.size + 1, w.heap.size, by omega, Nat.le_refl _, ⟨HF6.out, HRC.out, HNC.out.fr HFR6.out (by simp; omega), (HCC.out.fr HF2.out (by simp)).fr HFR6.out (by simp; exact HCC.out.ne_ HFW.out (by decide)), (HCR.out.fr HF2.out (by simp)).fr HFR6.out (by simp; exact HCR.out.ne_ HFW.out (by decide)), by omega, by omega, hcw⟩, (HF2.out.mono (by simp)).trans HFR6.out (by simp)⟩
end Go.Proofs.YtalgnjkdoaaacaaGreatDoor

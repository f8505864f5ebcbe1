/- What impl.Write's files look like; moves between worlds. -/
import Derived.Test.YtalgnjkdoaaacaaGreatDoorQeq
import Derived.Test.YtalgnjkdoaaacaaGreatDoorQec
import Derived.Test.YtalgnjkdoaaacaaGreatDoorQea
set_option linter.unusedVariables false
set_option linter.unusedSimpArgs false
namespace Go.Proofs.YtalgnjkdoaaacaaGreatDoor
open Go Go.RowKit
open Zp
/-- The header that the directory tells of a written file. -/
def wHd (e : Ent) (fl crc n : Nat) : Hd := ⟨e.h.name, e.h.comment, [], false, 20, 20, (fl : Int), 0, 0, 0, (crc : Int), (n : Int), (n : Int), e.h.ext⟩
/-- A written file. -/
def wEnt (e : Ent) (fl : Nat) : GEnt :=
  if slash (bs e.h.name) = true then ⟨wHd e fl 0 0, wHd e fl 0 0, [], []⟩ else ⟨wHd e (fl + 8) (crcOf 0 e.data) e.data.length, wHd e (fl + 8) 0 0, e.data, ddB (crcOf 0 e.data) e.data.length e.data.length⟩
/-- What an entry must be like. -/
structure WOk (e : Ent) : Prop where
  nm : e.h.name.length ≤ 60000
  cm : e.h.comment.length ≤ 60000
  dl : e.data.length ≤ 1048576
  e0 : 0 ≤ e.h.ext
  e1 : e.h.ext ≤ 4294967295
  dr : slash (bs e.h.name) = true → e.data = []
theorem wHd_ok {e : Ent} (h : WOk e) {fl crc n : Nat} (h1 : fl ≤ 65535) (h2 : crc < 4294967296) (h3 : n ≤ 1048576) : HdOk (wHd e fl crc n) := by
  have := h.nm; have := h.cm; have := h.e0; have := h.e1
  unfold HdOk wHd In16
  simp only [List.length_nil]
  refine ⟨by omega, by omega, by omega, by omega, by omega, by omega, by omega, by omega, by omega, by omega, by omega, by omega, by omega⟩
theorem wEnt_ok {e : Ent} (h : WOk e) {fl : Nat} (hf : fl = 0 ∨ fl = 2048) : GOk (wEnt e fl) := by
  have hc := crcOf_lt 0 (by omega) e.data
  have hdd : (ddB (crcOf 0 e.data) e.data.length e.data.length).length = 16 := by simp [ddB, le_length]
  unfold wEnt
  split
  · exact ⟨wHd_ok h (by omega) (by omega) (by omega), rfl, rfl, rfl, rfl, by simp, by simp⟩
  · exact ⟨wHd_ok h (by omega) hc h.dl, rfl, rfl, rfl, rfl, h.dl, by show _ ≤ 16; rw [hdd]; exact Nat.le_refl _⟩
theorem wEnt_data {e : Ent} (h : WOk e) (fl : Nat) : (wEnt e fl).data = e.data ∧ (wEnt e fl).h.size = e.data.length ∧ (wEnt e fl).h.name = e.h.name ∧ (wEnt e fl).h.comment = e.h.comment := by
  unfold wEnt
  split
  · rename_i hs
    rw [h.dr hs]
    exact ⟨rfl, rfl, rfl, rfl⟩
  · exact ⟨rfl, rfl, rfl, rfl⟩
/-- The flags of the first files. -/
def FlOk (k : Nat) (fls : List Nat) : Prop := fls.length = k ∧ ∀ f ∈ fls, f = 0 ∨ f = 2048
theorem FlOk.snoc {k : Nat} {fls : List Nat} (h : FlOk k fls) {f : Nat} (hf : f = 0 ∨ f = 2048) : FlOk (k + 1) (fls ++ [f]) :=
  ⟨by rw [List.length_append, h.1]; rfl, fun g hg => by
    rcases List.mem_append.1 hg with h1 | h1
    · exact h.2 g h1
    · have : g = f := by simpa using h1
      rw [this]; exact hf⟩
/-- The written files of these entries. -/
def wList (l : List Ent) (fls : List Nat) : List GEnt := List.zipWith wEnt l fls
theorem wList_length {l : List Ent} {fls : List Nat} (h : FlOk l.length fls) : (wList l fls).length = l.length := by rw [wList, List.length_zipWith, h.1, Nat.min_self]
theorem wList_snoc {l : List Ent} {k : Nat} {e : Ent} {fls : List Nat} (hk : l[k]? = some e) (h : FlOk k fls) (f : Nat) : wList (l.take (k + 1)) (fls ++ [f]) = wList (l.take k) fls ++ [wEnt e f] := by
  have hkl : k < l.length := (List.getElem?_eq_some_iff.1 hk).1
  rw [List.take_add_one, hk, wList, wList, Option.toList_some, List.zipWith_append (by rw [List.length_take, h.1]; omega)]
  rfl
theorem wList_get {l : List Ent} {fls : List Nat} (h : FlOk l.length fls) {k : Nat} {e : Ent} (hk : l[k]? = some e) : ∃ f, (f = 0 ∨ f = 2048) ∧ (wList l fls)[k]? = some (wEnt e f) := by
  have hkl : k < l.length := (List.getElem?_eq_some_iff.1 hk).1
  have hkf : k < fls.length := by rw [h.1]; exact hkl
  refine ⟨fls[k], h.2 _ (List.getElem_mem hkf), ?_⟩
  rw [wList, List.getElem?_zipWith, hk, List.getElem?_eq_getElem hkf]
theorem wList_ok {l : List Ent} (hW : ∀ e ∈ l, WOk e) {k : Nat} {fls : List Nat} (h : FlOk k fls) : ∀ g ∈ wList l fls, GOk g := fun g hg => by
  obtain ⟨j, hj, hje⟩ := List.getElem_of_mem hg
  have hj1 : j < l.length := by rw [wList, List.length_zipWith] at hj; omega
  have hj2 : j < fls.length := by rw [wList, List.length_zipWith] at hj; omega
  have : g = wEnt l[j] fls[j] := by rw [← hje]; simp [wList]
  rw [this]
  exact wEnt_ok (hW _ (List.getElem_mem hj1)) (h.2 _ (List.getElem_mem hj2))
theorem gfiles_snoc (G : List GEnt) (g : GEnt) : gfiles (G ++ [g]) = gfiles G ++ gone g := by rw [gfiles_append]; simp [gfiles]
theorem gdir_snoc (G : List GEnt) (g : GEnt) : gdir 0 (G ++ [g]) = gdir 0 G ++ centralB g.h (gfiles G).length := by rw [gdir_append]; simp [gdir]
/-- A directory's bytes. -/
theorem wDir_one {e : Ent} {fl : Nat} (hs : slash (bs e.h.name) = true) : gone (wEnt e fl) = locL 20 fl 0 0 0 0 0 0 e.h.name [] := by
  rw [wEnt, if_pos hs, gone, List.append_nil, List.append_nil]
  rfl
theorem wDir_cen {e : Ent} {fl off hh fh ext : Nat} (hs : slash (bs e.h.name) = true) (hx : e.h.ext = (ext : Int)) : cenL (mkW e.h.name e.h.comment fl ext off hh fh) = centralB (wEnt e fl).h off := by
  rw [wEnt, if_pos hs]
  unfold cenL mkW centralB wHd fieldsB
  rw [hx]
  rfl
/-- A file's bytes. -/
theorem wFile_one {e : Ent} {fl : Nat} (hs : slash (bs e.h.name) = false) : gone (wEnt e fl) = locL 20 (fl + 8) 0 0 0 0 0 0 e.h.name [] ++ (e.data ++ ddB (crcOf 0 e.data) e.data.length e.data.length) := by
  rw [wEnt, if_neg (by rw [hs]; decide), gone]
  rfl
theorem wFile_cen {e : Ent} {fl off hh fh ext : Nat} (hs : slash (bs e.h.name) = false) (hx : e.h.ext = (ext : Int)) : cenL (clW (mkW e.h.name e.h.comment (fl + 8) ext off hh fh) (crcOf 0 e.data) e.data.length) = centralB (wEnt e fl).h off := by
  rw [wEnt, if_neg (by rw [hs]; decide)]
  unfold cenL clW mkW centralB wHd fieldsB
  rw [hx]
  rfl
theorem PN.nil {w w' : World} {base cw bw bf sb : Nat} {own : Option Nat} {T : By} {dv : Value} {L : List WR} {x : WR} {nu : Bool} {fw rc nc cc cr n v : Nat} (h : PN w base cw bw bf sb own T dv L x nu fw rc nc cc cr n v) (hf : Fr [] w w') : PN w' base cw bw bf sb own T dv L x nu fw rc nc cc cr n v :=
  h.step (h.hC.nil hf) hf (.inl rfl) (by simp) (h.hw.fr hf (by simp) (by simp) (by simp) (by simp) (by simp))
theorem CW.zw {w w' : World} {base cw bw bf sb zw : Nat} {own : Option Nat} {T : By} {cz : Array Value} (h : CW w base cw bw bf sb own T) (hz : Blk w zw 136 cz) (hf : Fr [zw] w w') : CW w' base cw bw bf sb own T := by
  have hoz := h.offBlk hz (by decide) (by decide) (by decide) (by decide)
  exact h.fr hf (by simp; exact fun e => hoz.1 e.symm) (by simp; exact fun e => hoz.2.1 e.symm) (by simp; exact fun e => hoz.2.2.1 e.symm) (by simp; exact fun e => hoz.2.2.2.1 e.symm) (fun g hg => by simp; exact fun e => hoz.2.2.2.2 (by rw [hg, e]))
theorem PN.zw {w w' : World} {base cw bw bf sb zw : Nat} {own : Option Nat} {T : By} {dv : Value} {L : List WR} {x : WR} {nu : Bool} {fw rc nc cc cr n v : Nat} {cz : Array Value} (h : PN w base cw bw bf sb own T dv L x nu fw rc nc cc cr n v) (hz : Blk w zw 136 cz) (hf : Fr [zw] w w') : PN w' base cw bw bf sb own T dv L x nu fw rc nc cc cr n v := by
  have hn : ∀ g t cs, Blk w g t cs → t ≠ 136 → g ∉ [zw] := fun g t cs hb ht hm => by
    have : g = zw := by simpa using hm
    subst this
    exact hb.ne_ hz ht rfl
  have hfar : FarR w cw bw bf sb own [zw] := fun s hs => by
    have : s = zw := by simpa using hs
    subst this
    exact .inr (.inr ⟨_, _, hz, by decide, by decide, by decide⟩)
  refine ⟨h.hC.zw hz hf, rowB_fr h.hd hf (fun s hs => ?_), fun y hy => ⟨(h.hL y hy).1.fr h.hC hf (.inl rfl) hfar, (h.hL y hy).2⟩, h.hx.fr hf (hn _ _ _ h.hx.h (by decide)) (hn _ _ _ h.hx.f (by decide)), h.hw.fr hf (hn _ _ _ h.hw.f (by decide)) (hn _ _ _ h.hw.r (by decide)) (hn _ _ _ h.hw.k (by decide)) (hn _ _ _ h.hw.c (by decide)) (hn _ _ _ h.hw.s (by decide)), h.hnf, h.lo⟩
  have : s = zw := by simpa using hs
  subst this
  exact rowB_ty h.hd hz (by decide)
theorem LastN.nil {w w' : World} {base cw bw bf sb : Nat} {own : Option Nat} {T : By} {dv last : Value} {L : List WR} (h : LastN w base cw bw bf sb own T dv last L) (hf : Fr [] w w') : LastN w' base cw bw bf sb own T dv last L := by
  rcases h with ⟨rfl, hW⟩ | ⟨T0, L0, x, nu, fw, rc, nc, cc, cr, n, v, rfl, rfl, rfl, hP, hr⟩
  · exact .inl ⟨rfl, hW.fr (hW.hC.nil hf) hf (.inl rfl) (FarR.nil _ _ _ _ _ _) (by simp)⟩
  · exact .inr ⟨T0, L0, x, nu, fw, rc, nc, cc, cr, n, v, rfl, rfl, rfl, hP.nil hf, hr⟩
theorem LastN.zw {w w' : World} {base cw bw bf sb zw : Nat} {own : Option Nat} {T : By} {dv last : Value} {L : List WR} {cz : Array Value} (h : LastN w base cw bw bf sb own T dv last L) (hz : Blk w zw 136 cz) (hf : Fr [zw] w w') : LastN w' base cw bw bf sb own T dv last L := by
  rcases h with ⟨rfl, hW⟩ | ⟨T0, L0, x, nu, fw, rc, nc, cc, cr, n, v, rfl, rfl, rfl, hP, hr⟩
  · exact .inl ⟨rfl, hW.fr (hW.hC.zw hz hf) hf (.inl rfl) (fun s hs => by simp at hs; subst hs; exact .inr (.inr ⟨_, _, hz, by decide, by decide, by decide⟩)) (fun s hs => by simp at hs; subst hs; exact hW.dvty hz (by decide))⟩
  · exact .inr ⟨T0, L0, x, nu, fw, rc, nc, cc, cr, n, v, rfl, rfl, rfl, hP.zw hz hf, hr⟩
theorem LastN.lt {w : World} {base cw bw bf sb : Nat} {own : Option Nat} {T : By} {dv last : Value} {L : List WR} (h : LastN w base cw bw bf sb own T dv last L) : ∀ y ∈ L, y.fh < w.heap.size := by
  rcases h with ⟨rfl, hW⟩ | ⟨T0, L0, x, nu, fw, rc, nc, cc, cr, n, v, rfl, rfl, rfl, hP, hr⟩
  · intro y hy
    obtain ⟨⟨_, _, _, _, _, _, _, x1, x2, x3⟩, _⟩ := hW.hL y hy
    exact x2.lt
  · intro y hy
    rcases List.mem_append.1 hy with hy | hy
    · obtain ⟨⟨_, _, _, _, _, _, _, x1, x2, x3⟩, _⟩ := hP.hL y hy
      exact x2.lt
    · have : y = clW x v n := by simpa using hy
      subst this
      exact hP.hx.f.lt
theorem LastN.ok {w : World} {base cw bw bf sb : Nat} {own : Option Nat} {T : By} {dv last : Value} {L : List WR} (h : LastN w base cw bw bf sb own T dv last L) : ∀ y ∈ L, y.Ok := by
  rcases h with ⟨rfl, hW⟩ | ⟨T0, L0, x, nu, fw, rc, nc, cc, cr, n, v, rfl, rfl, rfl, hP, -, hok, -⟩
  · exact fun y hy => (hW.hL y hy).2
  · intro y hy
    rcases List.mem_append.1 hy with hy | hy
    · exact (hP.hL y hy).2
    · have : y = clW x v n := by simpa using hy
      subst this
      exact hok
/-- The state of impl.Write's loop: k files are written. -/
def CLn (w3 : World) (base zw cw bw bf sb : Nat) (l : List Ent) (k : Nat) (wr : World) : Prop :=
  ∃ own dv last L fls, FlOk k fls ∧ LastN wr base cw bw bf sb own (gfiles (wList (l.take k) fls)) dv last L ∧ Blk wr zw 136 (zwC cw dv last false []) ∧ L.length = k ∧ dirL L = gdir 0 (wList (l.take k) fls) ∧ Below base w3 wr
end Go.Proofs.YtalgnjkdoaaacaaGreatDoor

/- impl.Write. -/
namespace Go.Proofs.YtalgnjkdoaaacaaGreatDoor
open Go Go.RowKit
open Zp
/-- What impl.Write answers: an archive of these entries, whose flags tell UTF-8 or not. -/
def WriteP (w : World) (l : List Ent) (c : By) (x : Ending) (w' : World) : Prop :=
  ∃ fls, FlOk l.length fls ∧ x = .returned (.tuple #[.string (bs (garch (wList l fls) c)), .bool true]) ∧ Fr [] w w'
set_option maxRecDepth 100000 in
set_option maxHeartbeats 16000000 in
theorem writeC (w : World) (l : List Ent) (c : By) (v : Value) (hv : SV w v l) (hU : UT w) (h18 : 14 ≤ w.heap.size) (h1000 : l.length ≤ 1000) (hc : c.length ≤ 65535) (hK : ∀ e ∈ l, WOk e) :
    Calls Tryz.prog 22 #[v, .string (bs c)] w (WriteP w l c) := by
  obtain ⟨p, cap, rfl, hlc, hcm, hp⟩ := hv
  have HP := Lib.hid hp
  have HK := Lib.hid hK
  have HU := Lib.hid hU
  clear hp hK hU
  obtain ⟨n, hn⟩ : ∃ n, l.length = n := ⟨_, rfl⟩
  have HNN := Lib.hid hn
  rw [hn] at hlc ⊢
  have hn47 : n ≤ 9223372036854775807 := by unfold maxLen at hcm; omega
  have HNZ := Lib.hid (newZw (w.alloc (.cells #[.pointer none, .slice none 0 0] 95)) w.heap.size w.heap.size (Blk.new _ _ _) (Nat.le_refl _))
  go_enter Tryz.func22, Tryz.ntmps22
  go_wp2_with fail
  refine HNZ.out.mono ?_
  rintro e w3 ⟨zw, cw, bw, bf, rfl, hC, hz, hf3, hzl⟩
  rw [World.size_alloc] at hzl
  have hf23 : Fr [] w w3 := ((Fr.refl [] w).alloc _).trans hf3 (by simp)
  have HB23 := Lib.hid (hf23.below (by simp) (Nat.le_refl _) : Below w.heap.size w w3)
  have HC3 := Lib.hid hC
  have HZ3 := Lib.hid hz
  clear hC hz hf3 hf23
  go_wp2_with fail
  go_loopw [22] (fun v22 wr => ∃ k : Nat, k ≤ n ∧ v22 = .int .i64 (k : Int) ∧ CLn w3 w.heap.size zw cw bw bf w.heap.size l k wr) (fun v22 _ => n - (intOf v22).toNat)
  case atStart => exact ⟨0, by omega, rfl, none, _, _, [], [], ⟨rfl, by simp⟩, .inl ⟨rfl, ⟨HC3.out, ⟨by simp, .inl ⟨rfl, rfl⟩⟩, by simp⟩⟩, HZ3.out, rfl, rfl, Below.refl _ _⟩
  case round =>
    obtain ⟨k, hk, rfl, own, dv, last, L, fls, hfl, hl, hz, hLk, hdl, hb⟩ := hrel
    have hB2 : Below w.heap.size w wr := HB23.out.trans hb
    have HLL := Lib.hid hl
    have HZ := Lib.hid hz
    have HDL := Lib.hid hdl
    have HB := Lib.hid hb
    have HB2 := Lib.hid hB2
    have HFL := Lib.hid hfl
    have HLK := Lib.hid hLk
    have hbase : w.heap.size ≤ wr.heap.size := hB2.size
    have hGok : ∀ g ∈ wList (l.take k) fls, GOk g := wList_ok (fun e he => HK.out e (List.mem_of_mem_take he)) hfl
    have hGl : (wList (l.take k) fls).length = k := by rw [wList_length (by rw [List.length_take]; exact ⟨by rw [hfl.1]; have := HNN.out; omega, hfl.2⟩), List.length_take]; have := HNN.out; omega
    obtain ⟨hs1, hs2⟩ := gsize hGok
    have hs3 := hs2 0
    rw [hGl] at hs1 hs3
    have HGL := Lib.hid hGl
    have hk1000 : k ≤ 1000 := by have := HNN.out; omega
    have hT4 : (gfiles (wList (l.take k) fls)).length ≤ 1168622000 := Nat.le_trans hs1 (Nat.mul_le_mul_right 1168622 hk1000)
    clear hl hz hdl hb hB2 hfl hLk hGl hGok hs1 hs2 hs3
    by_cases hlt : k < n
    · have hkl : k < l.length := by have := HNN.out; omega
      obtain ⟨e, he⟩ : ∃ e, l[k] = e := ⟨_, rfl⟩
      have hle : l[k]? = some e := by rw [List.getElem?_eq_getElem hkl, he]
      have hem : e ∈ l := by rw [← he]; exact List.getElem_mem hkl
      obtain ⟨g, o, rfl, hg, hles⟩ := HP.out (fun h => by rw [h] at hkl; simp at hkl)
      have hwo := HK.out e hem
      have hrg := (hles.fr (Fr.of_below HB2.out (Nat.le_refl _) []) hg (by simp)) k e hle
      obtain ⟨c0, c1, c2, c3, c4, c5, c6, c7, c8, c9, c10, c11, c12, c13, c14⟩ := cellsE hrg
      obtain ⟨ext, hext⟩ : ∃ ext : Nat, e.h.ext = (ext : Int) := ⟨e.h.ext.toNat, by have := hwo.e0; omega⟩
      have hext4 : (ext : Int) ≤ 4294967295 := by have := hwo.e1; omega
      rw [hext] at c13
      have i1 : (k : Int) < (n : Int) := by omega
      have HWO := Lib.hid hwo
      have HEXT := Lib.hid hext
      have HLE := Lib.hid hle
      clear hles hrg hwo hext hle he
      go_wp2_with fail
      clear c0 c1 c2 c3 c4 c5 c6 c7 c8 c9 c10 c11 c12 c13 c14
      have hE0 := Blk.new wr 38 (entL e).toArray
      have hfA : Fr [] wr (wr.alloc (.cells (entL e).toArray 38)) := (Fr.refl [] wr).alloc _
      have hsA : (wr.alloc (.cells (entL e).toArray 38)).heap.size = wr.heap.size + 1 := World.size_alloc _ _
      obtain ⟨wA, hwA⟩ : ∃ wA, wr.alloc (.cells (entL e).toArray 38) = wA := ⟨_, rfl⟩
      rw [hwA] at hE0 hfA hsA
      unfold entL at hwA
      rw [HEXT.out] at hwA
      rw [hwA]
      clear hwA
      have hFH0 := Blk.new wA 78 (fhC e.h.name e.h.comment e.h.non 0 0 0 0 0 0 0 0 0 ext (.slice none 0 0) 0 0 none)
      rw [hsA] at hFH0
      have hfB : Fr [] wr (wA.alloc (.cells (fhC e.h.name e.h.comment e.h.non 0 0 0 0 0 0 0 0 0 ext (.slice none 0 0) 0 0 none) 78)) := hfA.alloc _
      have hE1 := hE0.alloc (.cells (fhC e.h.name e.h.comment e.h.non 0 0 0 0 0 0 0 0 0 ext (.slice none 0 0) 0 0 none) 78)
      have hsB : (wA.alloc (.cells (fhC e.h.name e.h.comment e.h.non 0 0 0 0 0 0 0 0 0 ext (.slice none 0 0) 0 0 none) 78)).heap.size = wr.heap.size + 2 := by rw [World.size_alloc, hsA]
      have hfw := (Fr.of_below HB2.out (Nat.le_refl _) []).trans hfB (by simp)
      have hnf : ∀ y ∈ L, y.fh ≠ wr.heap.size + 1 := fun y hy => by have := HLL.out.lt y hy; omega
      have hpp := prepN _ zw w.heap.size cw bw bf w.heap.size (wr.heap.size + 1) own (gfiles (wList (l.take k) fls)) [] dv last L _ (HZ.out.fr hfB (by simp)) (HLL.out.nil hfB) hFH0 hnf (HU.out.fr hfw (by simp) h18) h18 (by omega) (by omega)
      have HCR := Lib.hid (createHdr _ zw w.heap.size cw bw bf w.heap.size (wr.heap.size + 1) ext (gfiles (wList (l.take k) fls)) [] e.h.name e.h.comment e.h.non dv last L (by omega) hpp (by omega) (by omega) (by omega) hnf (by have := HLK.out; omega) (by omega) HWO.out.nm HWO.out.cm (by omega))
      have HE1 := Lib.hid hE1
      have HBB := Lib.hid (HB.out.trans (hfB.below (by simp) hbase))
      clear hFH0 hfB hE1 hfw hnf hpp hE0 hfA
      refine HCR.out.mono ?_
      rintro x w1 ⟨v4, rfl, fl, hfl1, hke, hbl, hcase⟩
      have hE2 := hke _ _ HE1.out
      have d14 := hE2.at_ 14 (.string (bs e.data)) rfl
      have HB1 := Lib.hid (HBB.out.trans hbl)
      have hbase1 : w.heap.size ≤ w1.heap.size := by have := hbl.size; omega
      have hns := bs_size e.data
      have hcv : ∀ W : World, (convert 9 76 (.string (bs e.data))).run Tryz.prog W = .ok (.slice (some ⟨W.heap.size, 0, none⟩) (bs e.data).size (grownCap W (bs e.data).size 0 5)) (W.drew.alloc (.cells (bytesRow (bs e.data) (grownCap W (bs e.data).size 0 5)) 5 ((bytesRow (bs e.data) (grownCap W (bs e.data).size 0 5)).size, (bytesRow (bs e.data) (grownCap W (bs e.data).size 0 5)).size + 1))) := fun W => run_bytes_of_string W _ _ 5 (bs e.data) Tryz.underlying9 Tryz.underlying76 (by kernel_rfl)
      have HSN := Lib.hid (wList_snoc HLE.out HFL.out fl)
      have HF1 := Lib.hid (HFL.out.snoc hfl1)
      have hfl5 : fl ≤ 60000 := by omega
      have HFLL := Lib.hid hfl1
      clear hke hbl hE2 HCR HE1 HBB hfl1
      rcases hcase with ⟨hsl, rfl, own2, dv2, hh2, hW2, hz2⟩ | ⟨hsl, own2, dv2, hh2, fw, rc, nc, cc, cr, rfl, hP2, hz2⟩
      · have hd0 := HWO.out.dr hsl
        rw [hd0] at hcv d14 hns
        have HW2 := Lib.hid hW2
        have HZ2 := Lib.hid hz2
        have HSL := Lib.hid hsl
        clear hW2 hz2 hsl
        go_wp2_with fail
        refine (dirWrite _ _ _).mono ?_
        rintro x w4 ⟨rfl, hf4⟩
        have hF4 : Fr [] w1 w4 := ((Fr.refl [] w1).alloc _).drew.trans hf4 (by simp)
        have HF4 := Lib.hid hF4
        clear hf4 hF4 hcv
        go_wp2_with fail
        have hws4 := HW2.out.fr (HW2.out.hC.nil HF4.out) HF4.out (.inl rfl) (FarR.nil _ _ _ _ _ _) (by simp)
        refine ⟨⟨k + 1, by omega, by rw [Int.natCast_add]; rfl, own2, dv2, .pointer none, L ++ [mkW e.h.name e.h.comment fl ext (gfiles (wList (l.take k) fls)).length hh2 (wr.heap.size + 1)], fls ++ [fl], HF1.out, .inl ⟨rfl, ?_⟩, HZ2.out.fr HF4.out (by simp), by simp [HLK.out], ?_, HB1.out.trans (HF4.out.below (by simp) hbase1)⟩, by simp [intOf]; omega⟩
        · rw [HSN.out, gfiles_snoc, wDir_one HSL.out]
          exact hws4
        · rw [HSN.out, gdir_snoc, dirL, List.flatMap_append, ← dirL, HDL.out, ← wDir_cen (hh := hh2) (fh := wr.heap.size + 1) HSL.out HEXT.out]
          simp
      · have HP2 := Lib.hid hP2
        have HZ2 := Lib.hid hz2
        have HSL := Lib.hid hsl
        have hgr := grownCap_ge w1 e.data.length 0 5
        have hdl := HWO.out.dl
        have hgl := grownCap_le_maxLen w1 e.data.length 0 5 (by unfold maxLen; omega)
        have hfW : Fr [] w1 ((w1.alloc (.cells (bytesRow (bs e.data) (grownCap w1 e.data.length 0 5)) 5 ((bytesRow (bs e.data) (grownCap w1 e.data.length 0 5)).size, (bytesRow (bs e.data) (grownCap w1 e.data.length 0 5)).size + 1))).drew) := ((Fr.refl [] w1).alloc _).drew
        have hrdW := (rdStr w1 e.data (grownCap w1 e.data.length 0 5) 5 ((bytesRow (bs e.data) (grownCap w1 e.data.length 0 5)).size, (bytesRow (bs e.data) (grownCap w1 e.data.length 0 5)).size + 1) hgr).drew
        have hcrl := hP2.hw.s.lt
        have hTl : (gfiles (wList (l.take k) fls) ++ locL 20 (fl + 8) 0 0 0 0 0 0 e.h.name []).length ≤ 1168622000 + 60030 := by
          have := HWO.out.nm
          simp [locL, sigL, le_length]
          omega
        have hwr := fwWriteN _ w.heap.size cw bw bf w.heap.size own2 _ e.data dv2 L _ e.h.non fw rc nc cc cr 0 0 w1.heap.size 0 (grownCap w1 e.data.length 0 5) (hP2.nil hfW) (by omega) (by omega) (by omega) hrdW (by simp) (hP2.hC.fresh (Nat.le_refl _)) (by omega) hgr (by unfold maxLen at hgl; omega)
        have HWRT := Lib.hid hwr
        have HFW2 := Lib.hid hfW
        clear hP2 hz2 hsl hgr hgl hfW hrdW hwr hcrl
        go_wp2_with fail
        refine HWRT.out.mono ?_
        rintro x w4 ⟨own4, rfl, hp4, ho4, hf4⟩
        have hF4 : Fr (cr :: rc :: cc :: cwS cw bw bf w.heap.size own2) w1 w4 := fr0 HFW2.out hf4
        have HF4 := Lib.hid hF4
        rw [Nat.zero_add] at hp4
        have HP4 := Lib.hid hp4
        clear hf4 hF4 hcv ho4 hp4
        go_wp2_with fail
        have hzn : zw ∉ cr :: rc :: cc :: cwS cw bw bf w.heap.size own2 := fun hm => by
          rcases List.mem_cons.1 hm with hm | hm
          · exact HZ2.out.ne_ HP2.out.hw.s (by decide) hm
          · rcases List.mem_cons.1 hm with hm | hm
            · exact HZ2.out.ne_ HP2.out.hw.r (by decide) hm
            · rcases List.mem_cons.1 hm with hm | hm
              · exact HZ2.out.ne_ HP2.out.hw.c (by decide) hm
              · exact (HP2.out.hC.offBlk HZ2.out (by decide) (by decide) (by decide) (by decide)).not hm
        have hge : ∀ s ∈ cr :: rc :: cc :: cwS cw bw bf w.heap.size own2, w.heap.size ≤ s := fun s hm => by
          have hlo := HP2.out.lo
          rcases List.mem_cons.1 hm with hm | hm
          · rw [hm]; exact hlo.2.2.2.2.1
          · rcases List.mem_cons.1 hm with hm | hm
            · rw [hm]; exact hlo.2.1
            · rcases List.mem_cons.1 hm with hm | hm
              · rw [hm]; exact hlo.2.2.2.1
              · exact HP2.out.hC.ge s hm
        have hcl := crcOf_lt 0 (by omega) e.data
        have hok : (clW (mkW e.h.name e.h.comment (fl + 8) ext (gfiles (wList (l.take k) fls)).length hh2 (wr.heap.size + 1)) (crcOf 0 e.data) e.data.length).Ok :=
          ⟨by show 20 ≤ 65535; decide, by show 20 ≤ 65535; decide, by show fl + 8 ≤ _; omega, by show 0 ≤ 65535; decide, by show 0 ≤ 65535; decide, by show 0 ≤ 65535; decide, by show crcOf 0 e.data ≤ _; omega, by show e.data.length ≤ _; omega, by show e.data.length ≤ _; omega, by show ext ≤ _; omega, by show (gfiles (wList (l.take k) fls)).length ≤ _; omega, HWO.out.nm, HWO.out.cm, by show 0 ≤ _; omega⟩
        refine ⟨⟨k + 1, by omega, by rw [Int.natCast_add]; rfl, own4, dv2, _, L ++ [clW (mkW e.h.name e.h.comment (fl + 8) ext (gfiles (wList (l.take k) fls)).length hh2 (wr.heap.size + 1)) (crcOf 0 e.data) e.data.length], fls ++ [fl], HF1.out, .inr ⟨_, L, _, e.h.non, fw, rc, nc, cc, cr, e.data.length, crcOf 0 e.data, rfl, ?_, rfl, HP4.out, rfl, hok, ?_, hcl, by omega⟩, HZ2.out.fr HF4.out hzn, by simp [HLK.out], ?_, HB1.out.trans (HF4.out.below hge hbase1)⟩, by simp [intOf]; omega⟩
        · rw [HSN.out, gfiles_snoc, wFile_one HSL.out]
          simp only [List.append_assoc]
        · show (fl + 8) / 8 % 2 = 1
          rcases HFLL.out with h | h <;> (rw [h])
        · rw [HSN.out, gdir_snoc, dirL, List.flatMap_append, ← dirL, HDL.out, ← wFile_cen (hh := hh2) (fh := wr.heap.size + 1) HSL.out HEXT.out]
          simp
    · obtain rfl : k = n := by omega
      have i1 : ¬ (k : Int) < (k : Int) := by omega
      have htk : l.take k = l := List.take_of_length_le (by have := HNN.out; omega)
      have hl := HLL.out
      have hdl := HDL.out
      have hfl := HFL.out
      have hgl := HGL.out
      rw [htk] at hl hdl hT4 hgl
      have hf5 : Fr [zw] wr (wr.setCell ⟨zw, 5, none⟩ (.string (bs c))) := (Fr.refl _ _).setCell (.inl (by simp)) _
      have hl5 := hl.zw HZ.out hf5
      have hz5 := HZ.out.set_ 5 (.string (bs c))
      have hlc : LastC _ zw w.heap.size cw bw bf w.heap.size own (gfiles (wList l fls)) dv last c L := hl5.c hz5 (Nat.le_trans hbase hf5.size) (by omega)
      have hLk := HLK.out
      have HCD := Lib.hid (closedC wr zw w.heap.size cw bw bf w.heap.size own (gfiles (wList l fls)) dv last [] c L HZ.out hlc hbase (by omega) (by omega) (by rw [hLk]; omega) hc (by have := dirL_le (l := L) hl.ok; omega))
      have harc : gfiles (wList l fls) ++ dirL L ++ endB L.length (dirL L).length (gfiles (wList l fls)).length c = garch (wList l fls) c := by rw [hdl, hLk, garch, hgl]
      rw [harc] at HCD
      have HFLL := Lib.hid (show FlOk l.length fls from by rw [HNN.out]; exact hfl)
      clear hl hdl hfl hgl hf5 hl5 hz5 hlc harc
      go_wp2_with fail
      refine HCD.out.mono ?_
      rintro x w5 ⟨rfl, hb5⟩
      have HB5 := Lib.hid hb5
      clear hb5
      go_wp2_with fail
      go_ret2
      exact ⟨fls, HFLL.out, rfl, Fr.of_below (HB2.out.trans HB5.out) (Nat.le_refl _) []⟩
end Go.Proofs.YtalgnjkdoaaacaaGreatDoor

/- fileWriter of a raw file: close. -/
import Derived.Test.YtalgnjkdoaaacaaGreatDoorQdi
import Derived.BigQuiet
import Derived.LaidEqlPtr
set_option linter.unusedVariables false
set_option linter.unusedSimpArgs false
namespace Go.Proofs.YtalgnjkdoaaacaaGreatDoor
open Go Go.RowKit
open Zp
/-- The cells of a raw file's writer. -/
abbrev fwC (hh cw : Nat) (cl : Bool) : Array Value := #[.pointer (some ⟨hh, 0, none⟩), .iface 126 (.pointer (some ⟨cw, 0, none⟩)), .pointer none, .nilIface, .pointer none, .pointer none, .bool cl]
set_option maxRecDepth 100000 in
set_option maxHeartbeats 4000000 in
theorem ddNone (w : World) (fw cw : Nat) (cl : Bool) (hh fh off : Nat) (nm cm : List UInt8) (nu : Bool) (cr rd fl me ti da cs pk sz ext : Nat) (ex : Value) (m0 m1 : Int) (mp : Option Addr)
    (hf : Blk w fw 163 (fwC hh cw cl)) (hH : HH w hh fh off nm cm nu cr rd fl me ti da cs pk sz ext ex m0 m1 mp) (b2 : fl ≤ 65535) (hfl : fl / 8 % 2 = 0) :
    Calls Tryz.prog 129 #[.pointer (some ⟨fw, 0, none⟩)] w fun e w' => e = .returned .nilIface ∧ w' = w := by
  have g0 := hf.at_ 0 (.pointer (some ⟨hh, 0, none⟩)) rfl
  have c0 := hH.h.at_ 0 (.pointer (some ⟨fh, 0, none⟩)) rfl
  have HDD := Lib.hid (hasDD w fh fl b2 (hH.f.at_ 5 _ rfl))
  rw [show decide (fl / 8 % 2 = 1) = false from decide_eq_false (by omega)] at HDD
  clear hf hH
  go_enter Tryz.func129, Tryz.ntmps129
  go_wp2_with fail
  refine HDD.out.mono ?_
  rintro e w1 ⟨rfl, hw⟩
  rw [hw]
  clear hw w1
  go_wp2_with fail
  go_ret
  exact ⟨rfl, rfl⟩
set_option maxRecDepth 100000 in
set_option maxHeartbeats 4000000 in
theorem fwClose (w : World) (fw cw : Nat) (hh fh off : Nat) (nm cm : List UInt8) (nu : Bool) (cr rd fl me ti da cs pk sz ext : Nat) (ex : Value) (m0 m1 : Int) (mp : Option Addr)
    (hf : Blk w fw 163 (fwC hh cw false)) (hH : HH w hh fh off nm cm nu cr rd fl me ti da cs pk sz ext ex m0 m1 mp) (b2 : fl ≤ 65535) (hfl : fl / 8 % 2 = 0) :
    Calls Tryz.prog 93 #[.pointer (some ⟨fw, 0, none⟩)] w fun e w' => e = .returned .nilIface ∧ Blk w' fw 163 (fwC hh cw true) ∧ Fr [fw] w w' := by
  have hb2 := hf.set_ 6 (.bool true)
  have hn1 : hh ≠ fw := hH.h.ne_ hf (by decide)
  have hn2 : fh ≠ fw := hH.f.ne_ hf (by decide)
  have hF : Fr [fw] w (w.setCell ⟨fw, 6, none⟩ (.bool true)) := (Fr.refl _ _).setCell (.inl (by simp)) _
  have hH2 := hH.fr hF (by simpa using hn1) (by simpa using hn2)
  have HDN := Lib.hid (ddNone _ fw cw true hh fh off nm cm nu cr rd fl me ti da cs pk sz ext ex m0 m1 mp hb2 hH2 b2 hfl)
  have g6 := hf.at_ 6 (.bool false) rfl
  have z6 := hf.frozen 6
  have d0 := hb2.at_ 0 (.pointer (some ⟨hh, 0, none⟩)) rfl
  have e2 := hH2.h.at_ 2 (.bool true) rfl
  have HB := Lib.hid hb2
  have HF := Lib.hid hF
  clear hb2 hF hf hH hH2
  go_enter Tryz.func93, Tryz.ntmps93
  go_wp2_with fail
  refine HDN.out.mono ?_
  rintro e w1 ⟨rfl, hw⟩
  rw [hw]
  clear hw w1
  go_wp2_with fail
  go_ret
  exact ⟨rfl, HB.out, HF.out⟩
end Go.Proofs.YtalgnjkdoaaacaaGreatDoor

/- fileWriter.Write of a raw file; prepare. -/
namespace Go.Proofs.YtalgnjkdoaaacaaGreatDoor
open Go Go.RowKit
open Zp
set_option maxRecDepth 100000 in
set_option maxHeartbeats 4000000 in
theorem fwWrite (w : World) (fw hh cw : Nat) (sl : Value) (P : Ending → World → Prop) (fhp off : Value) (hf : Blk w fw 163 (fwC hh cw false)) (hh2 : w.cell? ⟨hh, 2, none⟩ = some (.bool true)) (p : Option Addr) (n c : Nat) (hsl : sl = .slice p n c)
    (hW : Calls Tryz.prog 95 #[.pointer (some ⟨cw, 0, none⟩), sl] w P) (hP : ∀ e w', P e w' → ∃ a b, e = .returned (.tuple #[a, b])) :
    Calls Tryz.prog 203 #[.pointer (some ⟨fw, 0, none⟩), sl] w P := by
  subst hsl
  have g0 := hf.at_ 0 (.pointer (some ⟨hh, 0, none⟩)) rfl
  have g1 := hf.at_ 1 (.iface 126 (.pointer (some ⟨cw, 0, none⟩))) rfl
  have g6 := hf.at_ 6 (.bool false) rfl
  have HW := Lib.hid hW
  have HP := Lib.hid hP
  clear hW hP hf
  go_enter Tryz.func203, Tryz.ntmps203
  go_wp2_with fail
  refine HW.out.mono ?_
  intro e w1 h1
  obtain ⟨a, b, rfl⟩ := HP.out e w1 h1
  have H1 := Lib.hid h1
  clear h1 g0 g1 g6 hh2
  go_wp2_with fail
  exact H1.out
/-- The last header of the directory. -/
def DirLast (w : World) (pd : Option Addr) (n cd fh : Nat) : Prop := n = 0 ∨ ∃ g hl fl, pd = some ⟨g, 0, none⟩ ∧ 0 < n ∧ n ≤ cd ∧ cd ≤ maxLen ∧ w.cell? ⟨g, n - 1, none⟩ = some (.pointer (some ⟨hl, 0, none⟩)) ∧ w.cell? ⟨hl, 0, none⟩ = some (.pointer (some ⟨fl, 0, none⟩)) ∧ fl ≠ fh ∧ ∃ cs, Blk w fl 78 cs
theorem infoFH : (Tryz.prog.info? 78).map (·.size) = some 19 := by kernel_rfl
set_option maxRecDepth 100000 in
set_option maxHeartbeats 4000000 in
theorem prepNone (w : World) (zw cw n cd fh : Nat) (pd : Option Addr) (c : List UInt8) (hz : Blk w zw 136 (zwC cw (.slice pd n cd) (.pointer none) false c)) (hd : DirLast w pd n cd fh) (cf : Array Value) (hfh : Blk w fh 78 cf) :
    Calls Tryz.prog 69 #[.pointer (some ⟨zw, 0, none⟩), .pointer (some ⟨fh, 0, none⟩)] w fun e w' => e = .returned .nilIface ∧ Fr [] w w' := by
  have c1 := hz.at_ 1 (.slice pd n cd) rfl
  have c2 := hz.at_ 2 (.pointer none) rfl
  rcases hd with rfl | ⟨g, hl, fl, rfl, h0, h1, h2, h3, h4, h5, cs, h6⟩
  · go_enter Tryz.func69, Tryz.ntmps69
    go_wp2_with fail
    go_quiet (fail)
    go_wp2_with fail
    go_ret
    exact ⟨rfl, (Fr.refl _ _).drewN _⟩
  · obtain ⟨j, hj, hjs⟩ := Option.map_eq_some_iff.1 infoFH
    have hpe : ∀ k, (binOp .eql 69 (.pointer (some ⟨fl, 0, none⟩)) (.pointer (some ⟨fh, 0, none⟩))).run Tryz.prog (w.drewN k) = .ok (.bool false) (w.drewN k) := fun k => run_eql_ptr_other (w.drewN k) Tryz.underlying69 hj (by rw [hjs]; decide) (by intro e; injection e with e1; exact h5 e1) (h6.drewN k) (hfh.drewN k)
    have d0 : decide ((0 : Int) < (n : Int)) = true := decide_eq_true (by omega)
    have d1 : (0 : Int) < (n : Int) := by omega
    have h9 : n ≤ 9223372036854775807 := by unfold maxLen at h2; omega
    have d2 : decide (0 < n) = true := decide_eq_true h0
    have e1 : IntKind.i64.wrap ((n : Int) - 1) = ((n - 1 : Nat) : Int) := by rw [IntWalk.i64_in _ (by unfold maxLen at h2; omega)]; omega
    have e2 : (n : Int) - 1 = ((n - 1 : Nat) : Int) := by omega
    have i1 : ((n - 1 : Nat) : Int) < (n : Int) := by omega
    have i0 : (0 : Int) ≤ ((n - 1 : Nat) : Int) := by omega
    obtain ⟨m, hm⟩ : ∃ m, n - 1 = m := ⟨_, rfl⟩
    rw [hm] at h3 e1 e2 i1 i0
    clear h5 h6 hj hjs hm
    go_enter Tryz.func69, Tryz.ntmps69
    go_wp2_with fail
    go_quiet (fail)
    go_wp2_with fail
    go_ret
    exact ⟨rfl, (Fr.refl _ _).drewN _⟩
set_option maxRecDepth 100000 in
set_option maxHeartbeats 4000000 in
theorem prepOpen (w : World) (zw cwz cw n cd fh fw : Nat) (pd : Option Addr) (c : List UInt8) (hh fh' off : Nat) (nm cm : List UInt8) (nu : Bool) (cr rd fl me ti da cs pk sz ext : Nat) (ex : Value) (m0 m1 : Int) (mp : Option Addr)
    (hz : Blk w zw 136 (zwC cwz (.slice pd n cd) (.pointer (some ⟨fw, 0, none⟩)) false c)) (hn : 0 < n) (hd : DirLast w pd n cd fh) (hdw : ∀ g, pd = some ⟨g, 0, none⟩ → g ≠ fw ∧ g < w.heap.size) (hdl : ∀ g hl, pd = some ⟨g, 0, none⟩ → w.cell? ⟨g, n - 1, none⟩ = some (.pointer (some ⟨hl, 0, none⟩)) → hl ≠ fw ∧ hl < w.heap.size) (cf : Array Value) (hfh : Blk w fh 78 cf)
    (hf : Blk w fw 163 (fwC hh cw false)) (hH : HH w hh fh' off nm cm nu cr rd fl me ti da cs pk sz ext ex m0 m1 mp) (b2 : fl ≤ 65535) (hfl : fl / 8 % 2 = 0) :
    Calls Tryz.prog 69 #[.pointer (some ⟨zw, 0, none⟩), .pointer (some ⟨fh, 0, none⟩)] w fun e w' => e = .returned .nilIface ∧ Blk w' fw 163 (fwC hh cw true) ∧ Fr [fw] w w' := by
  have c2 := hz.at_ 2 (.pointer (some ⟨fw, 0, none⟩)) rfl
  have g6 := hf.at_ 6 (.bool false) rfl
  have HCL := Lib.hid (fwClose w fw cw hh fh' off nm cm nu cr rd fl me ti da cs pk sz ext ex m0 m1 mp hf hH b2 hfl)
  have hzf : zw ≠ fw := hz.ne_ hf (by decide)
  have hff : fh ≠ fw := hfh.ne_ hf (by decide)
  rcases hd with rfl | ⟨g, hl, fl', rfl, h0, h1, h2, h3, h4, h5, cs', h6⟩
  · omega
  have hlf : fl' ≠ fw := h6.ne_ hf (by decide)
  obtain ⟨q1, q2⟩ := hdw g rfl
  obtain ⟨q3, q4⟩ := hdl g hl rfl h3
  have HZ := Lib.hid hz
  have HFH := Lib.hid hfh
  have H6 := Lib.hid h6
  clear hz hf hH hfh h6 hdw hdl
  obtain ⟨j, hj, hjs⟩ := Option.map_eq_some_iff.1 infoFH
  have d0 : decide ((0 : Int) < (n : Int)) = true := decide_eq_true (by omega)
  have d1 : (0 : Int) < (n : Int) := by omega
  have h9 : n ≤ 9223372036854775807 := by unfold maxLen at h2; omega
  have d2 : decide (0 < n) = true := decide_eq_true h0
  have e1 : IntKind.i64.wrap ((n : Int) - 1) = ((n - 1 : Nat) : Int) := by rw [IntWalk.i64_in _ (by unfold maxLen at h2; omega)]; omega
  have e2 : (n : Int) - 1 = ((n - 1 : Nat) : Int) := by omega
  have i1 : ((n - 1 : Nat) : Int) < (n : Int) := by omega
  have i0 : (0 : Int) ≤ ((n - 1 : Nat) : Int) := by omega
  obtain ⟨m, hm⟩ : ∃ m, n - 1 = m := ⟨_, rfl⟩
  rw [hm] at h3 e1 e2 i1 i0
  clear hm
  go_enter Tryz.func69, Tryz.ntmps69
  go_wp2_with fail
  refine HCL.out.mono ?_
  rintro e w1 ⟨rfl, hb, hf1⟩
  have k1 := (HZ.out.fr hf1 (by simpa using hzf)).at_ 1 (.slice (some ⟨g, 0, none⟩) n cd) rfl
  have k3 := (hf1.cell (p := ⟨g, m, none⟩) q2 (by simpa using q1)).trans h3
  have k4 := (hf1.cell (p := ⟨hl, 0, none⟩) q4 (by simpa using q3)).trans h4
  have hpe : ∀ k, (binOp .eql 69 (.pointer (some ⟨fl', 0, none⟩)) (.pointer (some ⟨fh, 0, none⟩))).run Tryz.prog (w1.drewN k) = .ok (.bool false) (w1.drewN k) := fun k => run_eql_ptr_other (w1.drewN k) Tryz.underlying69 hj (by rw [hjs]; decide) (by intro e; injection e with e1; exact h5 e1) ((H6.out.fr hf1 (by simpa using hlf)).drewN k) ((HFH.out.fr hf1 (by simpa using hff)).drewN k)
  have HB := Lib.hid hb
  have HF1 := Lib.hid hf1
  clear hb hf1 c2 g6 h3 h4 h5 hj hjs
  go_wp2_with fail
  go_quiet (fail)
  go_wp2_with fail
  go_ret
  exact ⟨rfl, HB.out.drewN _, HF1.out.drewN _⟩
end Go.Proofs.YtalgnjkdoaaacaaGreatDoor

/- Rows of pointers; what is none of the writer's blocks. -/
namespace Go.Proofs.YtalgnjkdoaaacaaGreatDoor
open Go Go.RowKit
open Zp
theorem infoHP : (Tryz.prog.info? 151).map (fun i => (i.zero.map (fun z => z.cells.size), i.size, i.bytes)) = some (some 1, 1, 8) := by kernel_rfl
/-- A block of another kind is none of the writer's. -/
theorem CW.offBlk {w : World} {base cw bw bf sb : Nat} {own : Option Nat} {T : List UInt8} (h : CW w base cw bw bf sb own T) {x : Nat} {t : TypeId} {cs : Array Value} (hb : Blk w x t cs) (h1 : t ≠ 130) (h2 : t ≠ 240) (h3 : t ≠ 5) (h4 : t ≠ 95) : Off x cw bw bf sb own := by
  obtain ⟨n, hbw⟩ := h.hb
  obtain ⟨cur, k1, k2⟩ := hbw.hf
  obtain ⟨T0, P, ⟨p, v, k3, hp, rfl, hown⟩, k4, k5, k6⟩ := hbw.hT
  refine ⟨hb.ne_ h.hc h1, hb.ne_ hbw.hb h2, hb.ne_ k1 h3, hb.ne_ k3 h4, fun hg => ?_⟩
  rcases hown.2 with ⟨h7, _⟩ | ⟨g', cap, cur', rfl, _, h8, _⟩
  · rw [h7] at hg; cases hg
  · have hg' : g' = x := by simpa [Value.ownBlock] using hg
    subst hg'
    exact absurd rfl (hb.ne_ (show Blk w g' 5 cur' from h8) h3)
theorem rowB_fr {w w' : World} {S : List Nat} {base : Nat} {e : TypeId} {size : Nat} {v : Value} {n : Nat} {xs : List Value} (h : w.ownsRow base e size v n xs) (hf : Fr S w w') (hS : ∀ s ∈ S, v.ownBlock ≠ some s) : w'.ownsRow base e size v n xs := by
  obtain ⟨h0, h⟩ := h
  refine ⟨h0, ?_⟩
  rcases h with h | ⟨g, cap, cur, h1, h2, h3, h4⟩
  · exact .inl h
  · exact .inr ⟨g, cap, cur, h1, h2, Blk.fr (t := e) (cs := cur) h3 hf (fun hm => hS _ hm (by rw [h1]; rfl)), h4⟩
theorem rowB_slice {w : World} {base : Nat} {e : TypeId} {size : Nat} {v : Value} {n : Nat} {xs : List Value} (h : w.ownsRow base e size v n xs) : ∃ p c, v = .slice p n c := by
  rcases h.2 with ⟨h1, h2⟩ | ⟨g, cap, cur, h1, _⟩
  · exact ⟨none, 0, by rw [h1, h2]⟩
  · exact ⟨_, _, h1⟩
theorem rowB_grown {w w' : World} {g : Nat} {t : TypeId} {cs : Array Value} {o : Option Nat} (h : Blk w g t cs) (hg : w.grownBy w' o) (hn : o ≠ some g) : Blk w' g t cs := (hg.block g h.lt (fun e => hn e.symm)).trans h
theorem rowB_ty {w : World} {base : Nat} {e : TypeId} {size : Nat} {v : Value} {n : Nat} {xs : List Value} (h : w.ownsRow base e size v n xs) {g : Nat} {t : TypeId} {cs : Array Value} (hb : Blk w g t cs) (ht : t ≠ e) : v.ownBlock ≠ some g := fun he => by
  rcases h.2 with ⟨h7, _⟩ | ⟨g', cap, cur, h7, _, h8, _⟩
  · rw [h7] at he; cases he
  · rw [h7] at he
    have hg' : g' = g := by simpa [Value.ownBlock] using he
    subst hg'
    exact absurd rfl ((show Blk w g' e cur from h8).ne_ hb (fun e' => ht e'.symm))
theorem newP (w : World) (v : Value) {g : Nat} (hg : w.heap.size = g) : ∀ j u, ([v] : List Value)[j]? = some u → (w.alloc (.cells #[v] 151)).cell? ((⟨g, 0, none⟩ : Addr).add j) = some u := fun j u hj => by
  subst hg
  rw [Addr.add_lit, Nat.zero_add]
  exact (Blk.new w 151 #[v]).at_ j u (by simpa using hj)
end Go.Proofs.YtalgnjkdoaaacaaGreatDoor

/- What has been written: the records of the directory. -/
namespace Go.Proofs.YtalgnjkdoaaacaaGreatDoor
open Go Go.RowKit
open Zp
/-- A record of the directory, and where it lies. -/
structure WR where
  nm : By
  cm : By
  exb : By
  cr : Nat
  rd : Nat
  fl : Nat
  me : Nat
  ti : Nat
  da : Nat
  cs : Nat
  pk : Nat
  sz : Nat
  ext : Nat
  off : Nat
  hh : Nat
  fh : Nat
structure WR.Ok (x : WR) : Prop where
  a1 : x.cr ≤ 65535
  a2 : x.rd ≤ 65535
  a3 : x.fl ≤ 65535
  a4 : x.me ≤ 65535
  a5 : x.ti ≤ 65535
  a6 : x.da ≤ 65535
  a7 : x.cs ≤ 4294967295
  a8 : x.pk ≤ 4294967294
  a9 : x.sz ≤ 4294967294
  a10 : x.ext ≤ 4294967295
  a11 : x.off ≤ 4294967294
  a12 : x.nm.length ≤ 60000
  a13 : x.cm.length ≤ 60000
  a14 : x.exb.length ≤ 60000
/-- The record's bytes in the directory. -/
def cenL (x : WR) : By := sigC ++ le 2 x.cr ++ le 2 x.rd ++ (le 2 x.fl ++ le 2 x.me ++ le 2 x.ti ++ le 2 x.da ++ le 4 x.cs ++ le 4 x.pk ++ le 4 x.sz) ++ le 2 x.nm.length ++ le 2 x.exb.length ++ le 2 x.cm.length ++ le 2 0 ++ le 2 0 ++ le 4 x.ext ++ le 4 x.off ++ x.nm ++ x.exb ++ x.cm
def dirL (l : List WR) : By := l.flatMap cenL
theorem cenL_length (x : WR) : (cenL x).length = 46 + x.nm.length + x.exb.length + x.cm.length := by simp [cenL, sigC, le_length]; omega
theorem dirL_le {l : List WR} (h : ∀ x ∈ l, x.Ok) : (dirL l).length ≤ l.length * 180046 := by
  induction l with
  | nil => simp [dirL]
  | cons x l ih =>
    have h1 := h x (by simp)
    have h2 := ih fun y hy => h y (by simp [hy])
    have h3 := cenL_length x
    have := h1.a12; have := h1.a13; have := h1.a14
    simp only [dirL, List.flatMap_cons, List.length_append, List.length_cons] at h2 ⊢
    omega
theorem dirL_take {l : List WR} {k : Nat} {x : WR} (h : l[k]? = some x) : dirL (l.take (k + 1)) = dirL (l.take k) ++ cenL x := by
  rw [List.take_add_one, h]; simp [dirL]
/-- Where extra fields lie. -/
def ExA (w : World) (bf : Nat) (own : Option Nat) (a : Option Addr) (c : Nat) (exb : By) : Prop :=
  exb = [] ∨ ∃ ge oe, a = some ⟨ge, oe, none⟩ ∧ Rd w ge oe exb ∧ (∃ cs q, w.heap[ge]? = some (.cells cs 5 q)) ∧ ge ≠ bf ∧ own ≠ some ge ∧ exb.length ≤ c ∧ c ≤ 9223372036854775807
/-- A record lies in the memory. -/
def RA (w : World) (bf : Nat) (own : Option Nat) (x : WR) : Prop :=
  ∃ rw nu m0 m1 mp a c, Blk w x.hh 153 #[.pointer (some ⟨x.fh, 0, none⟩), .int .u64 (x.off : Int), .bool rw] ∧ Blk w x.fh 78 (fhC x.nm x.cm nu x.cr x.rd x.fl x.me x.ti x.da x.cs x.pk x.sz x.ext (.slice a x.exb.length c) m0 m1 mp) ∧ ExA w bf own a c x.exb
theorem heap_lt {w : World} {g : Nat} {o : Obj} (h : w.heap[g]? = some o) : g < w.heap.size := by
  rcases Nat.lt_or_ge g w.heap.size with hlt | hge
  · exact hlt
  · rw [Array.getElem?_eq_none hge] at h; cases h
/-- The kinds of the writer's blocks. -/
theorem CW.typ {w : World} {base cw bw bf sb : Nat} {own : Option Nat} {T : List UInt8} (h : CW w base cw bw bf sb own T) {s : Nat} (hs : s ∈ cwS cw bw bf sb own) : ∃ t cs, Blk w s t cs ∧ ((t = 130 ∧ s = cw) ∨ (t = 240 ∧ s = bw) ∨ (t = 95 ∧ s = sb) ∨ (t = 5 ∧ (s = bf ∨ own = some s))) := by
  obtain ⟨n, hbw⟩ := h.hb
  obtain ⟨cur, k1, k2⟩ := hbw.hf
  obtain ⟨T0, P, ⟨p, v, k3, hp, rfl, hown⟩, k4, k5, k6⟩ := hbw.hT
  simp only [cwS, List.mem_cons, Option.mem_toList] at hs
  rcases hs with rfl | rfl | rfl | rfl | hs
  · exact ⟨_, _, h.hc, .inl ⟨rfl, rfl⟩⟩
  · exact ⟨_, _, hbw.hb, .inr (.inl ⟨rfl, rfl⟩)⟩
  · exact ⟨_, _, k1, .inr (.inr (.inr ⟨rfl, .inl rfl⟩))⟩
  · exact ⟨_, _, k3, .inr (.inr (.inl ⟨rfl, rfl⟩))⟩
  · rcases hown.2 with ⟨h7, _⟩ | ⟨g', cap, cur', rfl, _, h8, _⟩
    · rw [h7] at hs; cases hs
    · have hg' : g' = s := by simpa [Value.ownBlock] using hs
      subst hg'
      exact ⟨_, cur', h8, .inr (.inr (.inr ⟨rfl, .inr hs⟩))⟩
theorem CW.offU {w : World} {base cw bw bf sb : Nat} {own : Option Nat} {T : By} (hC : CW w base cw bw bf sb own T) {ge : Nat} {cs : Array Value} {q : Nat × Nat} (h3 : w.heap[ge]? = some (.cells cs 5 q)) (h4 : ge ≠ bf) (h5 : own ≠ some ge) : Off ge cw bw bf sb own := by
  have key : ∀ s, s ∈ cwS cw bw bf sb own → s ≠ ge := fun s hs he => by
    subst he
    obtain ⟨t, cs', hb, hk⟩ := hC.typ hs
    have ht : t = 5 := by
      unfold Blk at hb; rw [h3] at hb; injection hb with hb; injection hb with _ hb _; exact hb.symm
    rcases hk with ⟨k, -⟩ | ⟨k, -⟩ | ⟨k, -⟩ | ⟨-, k | k⟩
    · rw [ht] at k; exact absurd k (by decide)
    · rw [ht] at k; exact absurd k (by decide)
    · rw [ht] at k; exact absurd k (by decide)
    · exact h4 k
    · exact h5 k
  exact ⟨fun e => key cw (by simp [cwS]) e.symm, fun e => key bw (by simp [cwS]) e.symm, h4, fun e => key sb (by simp [cwS]) e.symm, h5⟩
theorem neU {w : World} {ge g : Nat} {t : TypeId} {cs cs' : Array Value} {q : Nat × Nat} (h3 : w.heap[ge]? = some (.cells cs 5 q)) (hb : Blk w g t cs') (ht : t ≠ 5) : ge ≠ g := fun e => by
  subst e
  unfold Blk at hb; rw [h3] at hb; injection hb with hb; injection hb with _ hb _; exact ht hb.symm
/-- What may be turned without harm to a record whose FileHeader is block f: new blocks, the writer's own, blocks of other kinds. -/
def FarX (w : World) (cw bw bf sb : Nat) (own : Option Nat) (f : Nat) (S : List Nat) : Prop := ∀ s ∈ S, w.heap.size ≤ s ∨ s ∈ cwS cw bw bf sb own ∨ ∃ t cs, Blk w s t cs ∧ t ≠ 153 ∧ (t ≠ 78 ∨ s ≠ f) ∧ t ≠ 5
def FarR (w : World) (cw bw bf sb : Nat) (own : Option Nat) (S : List Nat) : Prop := ∀ s ∈ S, w.heap.size ≤ s ∨ s ∈ cwS cw bw bf sb own ∨ ∃ t cs, Blk w s t cs ∧ t ≠ 153 ∧ t ≠ 78 ∧ t ≠ 5
theorem FarR.x {w : World} {cw bw bf sb : Nat} {own : Option Nat} {S : List Nat} (h : FarR w cw bw bf sb own S) (f : Nat) : FarX w cw bw bf sb own f S := fun s hs => by
  rcases h s hs with h | h | ⟨t, cs, h1, h2, h3, h4⟩
  · exact .inl h
  · exact .inr (.inl h)
  · exact .inr (.inr ⟨t, cs, h1, h2, .inl h3, h4⟩)
theorem FarR.cw (w : World) (cw bw bf sb : Nat) (own : Option Nat) : FarR w cw bw bf sb own (cwS cw bw bf sb own) := fun _ hs => .inr (.inl hs)
theorem FarR.nil (w : World) (cw bw bf sb : Nat) (own : Option Nat) : FarR w cw bw bf sb own [] := fun _ hs => by simp at hs
theorem ExA.frX {w w' : World} {base cw bw bf sb : Nat} {own own' : Option Nat} {T : By} {S : List Nat} {a : Option Addr} {c : Nat} {exb : By} {f : Nat} (h : ExA w bf own a c exb) (hC : CW w base cw bw bf sb own T) (hf : Fr S w w') (ho : OwnN w own own') (hS : FarX w cw bw bf sb own f S) : ExA w' bf own' a c exb := by
  rcases h with h | ⟨ge, oe, h1, h2, ⟨cs, q, h3⟩, h4, h5, h6, h7⟩
  · exact .inl h
  · have hl := heap_lt h3
    have hn : ge ∉ S := fun hm => by
      have key : ∀ t cs', Blk w ge t cs' → t = 5 := fun t cs' hb => by
        unfold Blk at hb; rw [h3] at hb; injection hb with hb; injection hb with _ hb _; exact hb.symm
      rcases hS ge hm with h | h | ⟨t, cs', hb, -, -, h⟩
      · omega
      · obtain ⟨t, cs', hb, hk⟩ := hC.typ h
        have ht := key t cs' hb
        rcases hk with ⟨k, -⟩ | ⟨k, -⟩ | ⟨k, -⟩ | ⟨-, k | k⟩
        · rw [ht] at k; exact absurd k (by decide)
        · rw [ht] at k; exact absurd k (by decide)
        · rw [ht] at k; exact absurd k (by decide)
        · exact h4 k
        · exact h5 k
      · exact h (key t cs' hb)
    exact .inr ⟨ge, oe, h1, h2.fr hf hl hn, ⟨cs, q, (hf.block ge hl hn).trans h3⟩, h4, ho.ne hl h5, h6, h7⟩
theorem ExA.fr {w w' : World} {base cw bw bf sb : Nat} {own own' : Option Nat} {T : By} {S : List Nat} {a : Option Addr} {c : Nat} {exb : By} (h : ExA w bf own a c exb) (hC : CW w base cw bw bf sb own T) (hf : Fr S w w') (ho : OwnN w own own') (hS : FarR w cw bw bf sb own S) : ExA w' bf own' a c exb := h.frX hC hf ho (hS.x 0)
theorem RA.frX {w w' : World} {base cw bw bf sb : Nat} {own own' : Option Nat} {T : By} {S : List Nat} {x : WR} (h : RA w bf own x) (hC : CW w base cw bw bf sb own T) (hf : Fr S w w') (ho : OwnN w own own') (hS : FarX w cw bw bf sb own x.fh S) : RA w' bf own' x := by
  obtain ⟨rw, nu, m0, m1, mp, a, c, h1, h2, h3⟩ := h
  have key : ∀ g t cs, Blk w g t cs → (t = 153 ∨ (t = 78 ∧ g = x.fh)) → g ∉ S := fun g t cs hb ht hm => by
    rcases hS g hm with h | h | ⟨t', cs', hb', k1, k2, k3⟩
    · have := hb.lt; omega
    · obtain ⟨t', cs', hb', hk⟩ := hC.typ h
      have hne : t ≠ t' := by
        rcases hk with ⟨k, -⟩ | ⟨k, -⟩ | ⟨k, -⟩ | ⟨k, -⟩ <;> rcases ht with ht | ⟨ht, -⟩ <;> (rw [k, ht]; decide)
      exact hb.ne_ hb' hne rfl
    · rcases ht with ht | ⟨ht, hg⟩
      · exact hb.ne_ hb' (fun e => k1 (by rw [← e, ht])) rfl
      · rcases k2 with k2 | k2
        · exact hb.ne_ hb' (fun e => k2 (by rw [← e, ht])) rfl
        · exact k2 hg
  exact ⟨rw, nu, m0, m1, mp, a, c, h1.fr hf (key _ _ _ h1 (.inl rfl)), h2.fr hf (key _ _ _ h2 (.inr ⟨rfl, rfl⟩)), h3.frX hC hf ho hS⟩
theorem RA.fr {w w' : World} {base cw bw bf sb : Nat} {own own' : Option Nat} {T : By} {S : List Nat} {x : WR} (h : RA w bf own x) (hC : CW w base cw bw bf sb own T) (hf : Fr S w w') (ho : OwnN w own own') (hS : FarR w cw bw bf sb own S) : RA w' bf own' x := h.frX hC hf ho (hS.x x.fh)
/-- The writer holds the text T and these records. -/
structure WS (w : World) (base cw bw bf sb : Nat) (own : Option Nat) (T : By) (dv : Value) (L : List WR) : Prop where
  hC : CW w base cw bw bf sb own T
  hd : w.ownsRow base 151 1 dv L.length (L.map fun x => .pointer (some ⟨x.hh, 0, none⟩))
  hL : ∀ x ∈ L, RA w bf own x ∧ x.Ok
theorem WS.fr {w w' : World} {base cw bw bf sb : Nat} {own own' : Option Nat} {T T' : By} {dv : Value} {L : List WR} {S : List Nat} (h : WS w base cw bw bf sb own T dv L) (hC : CW w' base cw bw bf sb own' T') (hf : Fr S w w') (ho : OwnN w own own') (hS : FarR w cw bw bf sb own S) (hd : ∀ s ∈ S, dv.ownBlock ≠ some s) : WS w' base cw bw bf sb own' T' dv L :=
  ⟨hC, rowB_fr h.hd hf hd, fun x hx => ⟨(h.hL x hx).1.fr h.hC hf ho hS, (h.hL x hx).2⟩⟩
/-- The directory's row is none of other blocks. -/
theorem WS.dvne {w : World} {base cw bw bf sb : Nat} {own : Option Nat} {T : By} {dv : Value} {L : List WR} (h : WS w base cw bw bf sb own T dv L) {s : Nat} (hs : dv.ownBlock = some s) : base ≤ s ∧ s < w.heap.size ∧ ∃ cs, Blk w s 151 cs := by
  rcases h.hd.2 with ⟨h7, _⟩ | ⟨g', cap, cur, h7, hb, h8, _⟩
  · rw [h7] at hs; cases hs
  · rw [h7] at hs
    have hg' : g' = s := by simpa [Value.ownBlock] using hs
    subst hg'
    exact ⟨hb, heap_lt h8, cur, h8⟩
theorem WS.dvty {w : World} {base cw bw bf sb : Nat} {own : Option Nat} {T : By} {dv : Value} {L : List WR} (h : WS w base cw bw bf sb own T dv L) {s : Nat} {t : TypeId} {cs : Array Value} (hb : Blk w s t cs) (ht : t ≠ 151) : dv.ownBlock ≠ some s := fun hs => by
  obtain ⟨-, -, cs', hb'⟩ := h.dvne hs
  exact hb.ne_ hb' ht rfl
theorem WS.dvcw {w : World} {base cw bw bf sb : Nat} {own : Option Nat} {T : By} {dv : Value} {L : List WR} (h : WS w base cw bw bf sb own T dv L) {s : Nat} (hs : s ∈ cwS cw bw bf sb own) : dv.ownBlock ≠ some s := by
  obtain ⟨t, cs, hb, hk⟩ := h.hC.typ hs
  exact h.dvty hb (by rcases hk with ⟨k, -⟩ | ⟨k, -⟩ | ⟨k, -⟩ | ⟨k, -⟩ <;> (rw [k]; decide))
/-- A write keeps the records. -/
theorem WS.wr {w w' : World} {base cw bw bf sb : Nat} {own own' : Option Nat} {T T' : By} {dv : Value} {L : List WR} (h : WS w base cw bw bf sb own T dv L) (hC : CW w' base cw bw bf sb own' T') (hf : Fr (cwS cw bw bf sb own) w w') (ho : OwnN w own own') : WS w' base cw bw bf sb own' T' dv L :=
  h.fr hC hf ho (FarR.cw _ _ _ _ _ _) (fun _ hs => h.dvcw hs)
end Go.Proofs.YtalgnjkdoaaacaaGreatDoor

/- CreateRaw. -/
namespace Go.Proofs.YtalgnjkdoaaacaaGreatDoor
open Go Go.RowKit
open Zp
/-- The cells of a FileHeader whose 32-bit sizes are any. -/
abbrev fhD (nm cm : List UInt8) (nu : Bool) (cr rd fl me ti da cs pk sz ext : Nat) (ex : Value) (m0 m1 : Int) (mp : Option Addr) (p13 p14 : Int) : Array Value :=
  #[.string (bs nm), .string (bs cm), .bool nu, .int .u16 (cr : Int), .int .u16 (rd : Int), .int .u16 (fl : Int), .int .u16 (me : Int), .int .u64 m0, .int .i64 m1, .pointer mp, .int .u16 (ti : Int), .int .u16 (da : Int), .int .u32 (cs : Int), .int .u32 p13, .int .u32 p14, .int .u64 (pk : Int), .int .u64 (sz : Int), ex, .int .u32 (ext : Int)]
/-- What CreateRaw leaves. -/
def CrP (w : World) (zw base cw bw bf sb n b2 fh : Nat) (own : Option Nat) (T : By) (dv : Value) (c : By) (xs : List Value) (S : List Nat)
    (nm cm exb : By) (nu : Bool) (cr rd fl me ti da cs pk sz ext : Nat) (ea : Addr) (ec : Nat) (m0 m1 : Int) (mp : Option Addr) (e : Ending) (w' : World) : Prop :=
  ∃ own' dv' hh last', CW w' base cw bw bf sb own' (T ++ locL rd fl me ti da cs pk sz nm exb) ∧ OwnN w own own' ∧ Blk w' zw 136 (zwC cw dv' last' false c) ∧
    w'.ownsRow b2 151 1 dv' (n + 1) (xs ++ [.pointer (some ⟨hh, 0, none⟩)]) ∧ HH w' hh fh T.length nm cm nu cr rd fl me ti da cs pk sz ext (.slice (some ea) exb.length ec) m0 m1 mp ∧ w.heap.size ≤ hh ∧
    Fr (S ++ fh :: zw :: (dv.ownBlock.toList ++ cwS cw bw bf sb own)) w w' ∧
    ((slash (bs nm) = true ∧ last' = .pointer none ∧ e = .returned (.tuple #[.iface 156 (.agg #[]), .nilIface])) ∨
     (slash (bs nm) = false ∧ ∃ fw, w.heap.size ≤ fw ∧ last' = .pointer (some ⟨fw, 0, none⟩) ∧ Blk w' fw 163 (fwC hh cw false) ∧ e = .returned (.tuple #[.iface 132 (.pointer (some ⟨fw, 0, none⟩)), .nilIface])))
set_option maxRecDepth 100000 in
set_option maxHeartbeats 8000000 in
theorem createRaw (w : World) (zw base cw bw bf sb n b2 fh : Nat) (own : Option Nat) (T : List UInt8) (dv last : Value) (c : List UInt8) (xs : List Value) (S : List Nat)
    (nm cm exb : List UInt8) (nu : Bool) (cr rd fl me ti da cs pk sz ext : Nat) (ea : Addr) (ec : Nat) (m0 m1 : Int) (mp : Option Addr)
    (hz : Blk w zw 136 (zwC cw dv last false c)) (hC : CW w base cw bw bf sb own T) (hdir : w.ownsRow b2 151 1 dv n xs)
    (p13 p14 : Int) (hf : Blk w fh 78 (fhD nm cm nu cr rd fl me ti da cs pk sz ext (.slice (some ea) exb.length ec) m0 m1 mp p13 p14))
    (hp : Calls Tryz.prog 69 #[.pointer (some ⟨zw, 0, none⟩), .pointer (some ⟨fh, 0, none⟩)] w fun e w' => e = .returned .nilIface ∧ Fr S w w')
    (hS : ∀ s ∈ S, s < w.heap.size ∧ s ≠ zw ∧ s ≠ fh ∧ Off s cw bw bf sb own ∧ dv.ownBlock ≠ some s) (hn : n ≤ 1000) (hb2 : b2 ≤ w.heap.size) (hT : T.length + 200000 ≤ 4000000000)
    (hea : exb = [] ∨ (∃ ge oe, ea = ⟨ge, oe, none⟩ ∧ Rd w ge oe exb ∧ ge < w.heap.size ∧ Off ge cw bw bf sb own ∧ exb.length ≤ ec ∧ ec ≤ 9223372036854775807 ∧ ge ∉ S ∧ ge ≠ fh ∧ ge ≠ zw ∧ dv.ownBlock ≠ some ge))
    (b1 : rd ≤ 65535) (b2' : fl ≤ 65535) (b3 : me ≤ 65535) (b4 : ti ≤ 65535) (b5 : da ≤ 65535) (b6 : cs ≤ 4294967295) (b7 : pk ≤ 4294967294) (b8 : sz ≤ 4294967294) (b9 : nm.length ≤ 65535) (b10 : exb.length ≤ 65535) (hfl : fl / 8 % 2 = 0) :
    Calls Tryz.prog 52 #[.pointer (some ⟨zw, 0, none⟩), .pointer (some ⟨fh, 0, none⟩)] w (CrP w zw base cw bw bf sb n b2 fh own T dv c xs S nm cm exb nu cr rd fl me ti da cs pk sz ext ea ec m0 m1 mp) := by
  obtain ⟨i0, hi0, hz0⟩ := Option.map_eq_some_iff.1 infoHP
  simp only [Prod.mk.injEq] at hz0
  obtain ⟨hz1, hz2, hz3⟩ := hz0
  obtain ⟨z0, hz4, hz5⟩ := Option.map_eq_some_iff.1 hz1
  have HI0 := Lib.hid (And.intro hi0 (And.intro hz4 (And.intro hz2 (And.intro hz3 hz5))))
  clear hi0 hz1 hz2 hz3 hz4 hz5
  have HP := Lib.hid hp
  have HZ := Lib.hid hz
  have HC := Lib.hid hC
  have HF := Lib.hid hf
  have HD := Lib.hid hdir
  have HEA := Lib.hid hea
  clear hp hz hC hf hdir hea
  go_enter Tryz.func52, Tryz.ntmps52
  go_wp2_with fail
  refine HP.out.mono ?_
  rintro e w1 ⟨rfl, hf1⟩
  have hz1 := HZ.out.fr hf1 (fun hm => (hS zw hm).2.1 rfl)
  have hfh1 := HF.out.fr hf1 (fun hm => (hS fh hm).2.2.1 rfl)
  have c0 := hz1.at_ 0 (.pointer (some ⟨cw, 0, none⟩)) rfl
  have c1 := hz1.at_ 1 dv rfl
  have g15 := hfh1.at_ 15 (.int .u64 (pk : Int)) rfl
  have g16 := hfh1.at_ 16 (.int .u64 (sz : Int)) rfl
  have g13 := hfh1.at_ 13 (.int .u32 p13) rfl
  have g14 := hfh1.at_ 14 (.int .u32 p14) rfl
  have z13 := hfh1.frozen 13
  have z14 := hfh1.frozen 14
  have i3 : min (pk : Int) 4294967295 = (pk : Int) := by omega
  have i4 : min (sz : Int) 4294967295 = (sz : Int) := by omega
  have hC1 := HC.out.fr hf1 (fun hm => (hS cw hm).2.2.2.1.1 rfl) (fun hm => (hS bw hm).2.2.2.1.2.1 rfl) (fun hm => (hS bf hm).2.2.2.1.2.2.1 rfl) (fun hm => (hS sb hm).2.2.2.1.2.2.2.1 rfl) (fun g hg hm => (hS g hm).2.2.2.1.2.2.2.2 hg)
  have k1 := hC1.hc.at_ 1 (.int .i64 (T.length : Int)) rfl
  have n1 : cw ≠ fh := hC1.hc.ne_ hfh1 (by decide)
  have n2 : zw ≠ fh := hz1.ne_ hfh1 (by decide)
  have n3 : cw ≠ zw := hC1.hc.ne_ hz1 (by decide)
  have hW2 := ((hfh1.set_ 13 (.int .u32 (pk : Int))).set_ 14 (.int .u32 (sz : Int)))
  have hF2 : Fr [fh] w1 ((w1.setCell ⟨fh, 13, none⟩ (.int .u32 (pk : Int))).setCell ⟨fh, 14, none⟩ (.int .u32 (sz : Int))) := ((Fr.refl _ _).setCell (.inl (by simp)) _).setCell (.inl (by simp)) _
  have hz3 := (hz1.fr hF2 (by simpa using n2)).alloc (.cells #[.pointer (some ⟨fh, 0, none⟩), .int .u64 (T.length : Int), .bool true] 153)
  have k2 := (hC1.hc.fr hF2 (by simpa using n1)).at_ 1 (.int .i64 (T.length : Int)) rfl
  have q1 := hz3.at_ 1 dv rfl
  have q0 := hz3.at_ 0 (.pointer (some ⟨cw, 0, none⟩)) rfl
  have y1 := hz3.frozen 1
  have HZ3 := Lib.hid hz3
  have HF2 := Lib.hid hF2
  clear hz3 hF2 hW2
  have HC1 := Lib.hid hC1
  have HZ1 := Lib.hid hz1
  have HFH1 := Lib.hid hfh1
  have HF1 := Lib.hid hf1
  clear hC1 hz1 hfh1 hf1
  obtain ⟨tl, htl⟩ : ∃ tl, T.length = tl := ⟨_, rfl⟩
  rw [htl] at k1 k2 q1 q0 y1 HZ3
  have htl0 : tl ≤ 4000000000 := by omega
  have hd1 : w1.ownsRow b2 151 1 dv n xs := rowB_fr HD.out HF1.out (fun s hs => (hS s hs).2.2.2.2)
  have hd2 : ((w1.setCell ⟨fh, 13, none⟩ (.int .u32 (pk : Int))).setCell ⟨fh, 14, none⟩ (.int .u32 (sz : Int))).ownsRow b2 151 1 dv n xs := rowB_fr hd1 HF2.out (fun s hs => by
    simp at hs
    subst hs
    intro he
    rcases hd1.2 with ⟨h7, _⟩ | ⟨g', cap, cur, h7, _, h8, _⟩
    · rw [h7] at he; cases he
    · rw [h7] at he
      have hg' : g' = s := by simpa [Value.ownBlock] using he
      subst hg'
      exact absurd rfl ((show Blk w1 g' 151 cur from h8).ne_ HFH1.out (by decide)))
  have hd3 := rowB_fr hd2 (((Fr.refl [] _).alloc (.cells #[.pointer (some ⟨fh, 0, none⟩), .int .u64 (tl : Int), .bool true] 153)).alloc (.cells #[.pointer (some ⟨w1.heap.size, 0, none⟩)] 151)) (by simp)
  have HD3 := Lib.hid hd3
  have HD1 := Lib.hid hd1
  have hdz : dv.ownBlock ≠ some zw := fun he => by
    rcases hd1.2 with ⟨h7, _⟩ | ⟨g', cap, cur, h7, _, h8, _⟩
    · rw [h7] at he; cases he
    · rw [h7] at he
      have hg' : g' = zw := by simpa [Value.ownBlock] using he
      subst hg'
      exact absurd rfl ((show Blk w1 g' 151 cur from h8).ne_ HZ1.out (by decide))
  have hsz1 : w.heap.size ≤ w1.heap.size := HF1.out.size
  clear hd1 hd2 hd3
  go_wp2_with (at_builtin; refine wpList_append_own _ rfl _ _ 131 rfl b2 151 i0 z0 1 8 Tryz.underlying131 HI0.out.1 HI0.out.2.1 HI0.out.2.2.1 HI0.out.2.2.2.1 HI0.out.2.2.2.2 (by decide) dv n xs rfl HD3.out ⟨w1.heap.size + 1, 0, none⟩ 1 1 [.pointer (some ⟨w1.heap.size, 0, none⟩)] rfl rfl (newP _ _ (by simp [World.setCell])) (by intro u hu; simp at hu; subst hu; rfl) (by unfold maxLen; omega) (by omega) (by simp [World.setCell]; omega) ?_; intro v' w4 hown4 hgrow4 hv4; have HO4 := Lib.hid hown4; have HG4 := Lib.hid hgrow4; obtain ⟨pq, cq, rfl⟩ := rowB_slice hown4; have hzb := rowB_grown (HZ3.out.alloc _) hgrow4 hdz; have p0 := hzb.at_ 0 (.pointer (some ⟨cw, 0, none⟩)) rfl; have x1 := hzb.at_ 1 dv rfl; have x1f := hzb.frozen 1; have HZB := Lib.hid hzb; clear hown4 hgrow4 hv4 hzb)
  have hF5 : Fr (fh :: zw :: dv.ownBlock.toList) w1 (w4.setCell ⟨zw, 1, none⟩ (.slice pq (n + 1) cq)) := by
    refine Fr.setCell ?_ (.inl (by simp)) _
    refine Fr.trans (((HF2.out.mono (S' := fh :: zw :: dv.ownBlock.toList) (by simp)).alloc _).alloc _) (Fr.of_grown (S := dv.ownBlock.toList) HG4.out (fun g hg => .inl (by rw [hg]; simp))) (fun s hs => .inl (by simp at hs ⊢; exact .inr (.inr hs)))
  have HF5 := Lib.hid hF5
  clear hF5
  have of1 := HC1.out.offBlk HFH1.out (by decide) (by decide) (by decide) (by decide)
  have of2 := HC1.out.offBlk HZ1.out (by decide) (by decide) (by decide) (by decide)
  have hC5 : CW (w4.setCell ⟨zw, 1, none⟩ (.slice pq (n + 1) cq)) base cw bw bf sb own T := by
    have ofd : ∀ s, dv.ownBlock = some s → Off s cw bw bf sb own := fun s he => by
      rcases HD1.out.2 with ⟨h7, _⟩ | ⟨g', cap, cur, h7, _, h8, _⟩
      · rw [h7] at he; cases he
      · rw [h7] at he
        have hg' : g' = s := by simpa [Value.ownBlock] using he
        subst hg'
        exact HC1.out.offBlk (show Blk w1 g' 151 cur from h8) (by decide) (by decide) (by decide) (by decide)
    have key : ∀ x, x ∈ cwS cw bw bf sb own → x ∉ fh :: zw :: dv.ownBlock.toList := fun x hx hm => by
      simp only [List.mem_cons, Option.mem_toList] at hm
      rcases hm with rfl | rfl | hm
      · exact of1.not hx
      · exact of2.not hx
      · exact (ofd x hm).not hx
    exact HC1.out.fr HF5.out (key _ (by simp [cwS])) (key _ (by simp [cwS])) (key _ (by simp [cwS])) (key _ (by simp [cwS])) (fun g hg => key g (by simp [cwS, hg]))
  have hH5 : HH (w4.setCell ⟨zw, 1, none⟩ (.slice pq (n + 1) cq)) w1.heap.size fh tl nm cm nu cr rd fl me ti da cs pk sz ext (.slice (some ea) exb.length ec) m0 m1 mp := by
    have hdn : ∀ s, dv.ownBlock = some s → s < w1.heap.size ∧ s ≠ fh := fun s he => by
      rcases HD1.out.2 with ⟨h7, _⟩ | ⟨g', cap, cur, h7, _, h8, _⟩
      · rw [h7] at he; cases he
      · rw [h7] at he
        have hg' : g' = s := by simpa [Value.ownBlock] using he
        subst hg'
        exact ⟨(show Blk w1 g' 151 cur from h8).lt, (show Blk w1 g' 151 cur from h8).ne_ HFH1.out (by decide)⟩
    have hb1 := (Blk.new ((w1.setCell ⟨fh, 13, none⟩ (.int .u32 (pk : Int))).setCell ⟨fh, 14, none⟩ (.int .u32 (sz : Int))) 153 #[.pointer (some ⟨fh, 0, none⟩), .int .u64 (tl : Int), .bool true]).alloc (.cells #[.pointer (some ⟨w1.heap.size, 0, none⟩)] 151)
    have hb2 := (((HFH1.out.set_ 13 (.int .u32 (pk : Int))).set_ 14 (.int .u32 (sz : Int))).alloc (.cells #[.pointer (some ⟨fh, 0, none⟩), .int .u64 (tl : Int), .bool true] 153)).alloc (.cells #[.pointer (some ⟨w1.heap.size, 0, none⟩)] 151)
    have hsz : ((w1.setCell ⟨fh, 13, none⟩ (.int .u32 (pk : Int))).setCell ⟨fh, 14, none⟩ (.int .u32 (sz : Int))).heap.size = w1.heap.size := by simp [World.setCell]
    rw [hsz] at hb1
    have hlz := HZ1.out.lt
    exact ⟨(rowB_grown hb1 HG4.out (fun he => by have := (hdn _ he).1; omega)).far (by show w1.heap.size ≠ zw; omega) _, (rowB_grown hb2 HG4.out (fun he => (hdn _ he).2 rfl)).far (by show fh ≠ zw; exact fun e => n2 e.symm) _⟩
  have hx1 : Off w1.heap.size cw bw bf sb own := HC1.out.fresh (Nat.le_refl _)
  have hea5 : exb = [] ∨ (∃ ge oe, ea = ⟨ge, oe, none⟩ ∧ Rd (w4.setCell ⟨zw, 1, none⟩ (.slice pq (n + 1) cq)) ge oe exb ∧ ge < (w4.setCell ⟨zw, 1, none⟩ (.slice pq (n + 1) cq)).heap.size ∧ Off ge cw bw bf sb own ∧ exb.length ≤ ec ∧ ec ≤ 9223372036854775807) := by
    rcases HEA.out with h | ⟨ge, oe, a1, a2, a3, a4, a5, a6, a7, a8, a9, a10⟩
    · exact .inl h
    · have l1 : ge < w1.heap.size := Nat.lt_of_lt_of_le a3 HF1.out.size
      exact .inr ⟨ge, oe, a1, (a2.fr HF1.out a3 a7).fr HF5.out l1 (by simp only [List.mem_cons, Option.mem_toList, not_or]; exact ⟨a8, a9, a10⟩), Nat.lt_of_lt_of_le l1 HF5.out.size, a4, a5, a6⟩
  have HWH := Lib.hid (writeHd _ base cw bw bf sb own T w1.heap.size fh tl nm cm exb nu cr rd fl me ti da cs pk sz ext ea ec m0 m1 mp hC5 hH5 hx1 of1 hea5 hT b1 b2' b3 b4 b5 b6 b7 b8 b9 b10 hfl)
  refine HWH.out.mono ?_
  rintro e w6 ⟨own6, rfl, hc6, ho6, hf6⟩
  have hH6 := hH5.fr hf6 hx1.not of1.not
  have hz6 : Blk w6 zw 136 (zwC cw (.slice pq (n + 1) cq) last false c) := (HZB.out.set_ 1 (.slice pq (n + 1) cq)).fr hf6 of2.not
  have hrow5 : (w4.setCell ⟨zw, 1, none⟩ (.slice pq (n + 1) cq)).ownsRow b2 151 1 (.slice pq (n + 1) cq) (n + 1) (xs ++ [.pointer (some ⟨w1.heap.size, 0, none⟩)]) := rowB_fr HO4.out ((Fr.refl [zw] w4).setCell (p := ⟨zw, 1, none⟩) (.inl (by simp)) _) (fun s hs => by simp at hs; subst hs; exact rowB_ty HO4.out HZB.out (by decide))
  have hrow6 : w6.ownsRow b2 151 1 (.slice pq (n + 1) cq) (n + 1) (xs ++ [.pointer (some ⟨w1.heap.size, 0, none⟩)]) := rowB_fr hrow5 hf6 (fun s hs => by
    obtain ⟨t, cs, hb, hk⟩ := hC5.typ hs
    exact rowB_ty hrow5 hb (by rcases hk with ⟨k, -⟩ | ⟨k, -⟩ | ⟨k, -⟩ | ⟨k, -⟩ <;> (rw [k]; decide)))
  have hF6 : Fr (S ++ fh :: zw :: (dv.ownBlock.toList ++ cwS cw bw bf sb own)) w w6 := by
    refine ((HF1.out.mono (S' := S ++ fh :: zw :: (dv.ownBlock.toList ++ cwS cw bw bf sb own)) (fun s hs => .inl (List.mem_append_left _ hs))).trans HF5.out (fun s hs => .inl ?_)).trans hf6 (fun s hs => .inl ?_)
    · simp only [List.mem_cons, List.mem_append] at hs ⊢
      rcases hs with hs | hs | hs
      · exact .inr (.inl hs)
      · exact .inr (.inr (.inl hs))
      · exact .inr (.inr (.inr (.inl hs)))
    · simp only [List.mem_cons, List.mem_append] at hs ⊢
      exact .inr (.inr (.inr (.inr (by simpa using hs))))
  have hO6 : OwnN w own own6 := (show OwnN w own own from .inl rfl).trans ho6 (Nat.le_trans hsz1 HF5.out.size)
  have hn6 : w1.heap.size ≠ zw ∧ fh ≠ zw := ⟨by have := HZ1.out.lt; omega, fun e => n2 e.symm⟩
  have HROW := Lib.hid hrow6
  have HF6 := Lib.hid hF6
  have HO6 := Lib.hid hO6
  have HC6 := Lib.hid hc6
  have HH6 := Lib.hid hH6
  have HZ6 := Lib.hid hz6
  have m0 := hH6.f.at_ 0 (.string (bs nm)) rfl
  have y2 := hz6.frozen 2
  have y0 := hz6.at_ 0 (.pointer (some ⟨cw, 0, none⟩)) rfl
  have y3 := hz6.at_ 2 last rfl
  have HSF := Lib.hid (hasSuf w6 (bs nm) (by rw [bs_size]; omega))
  go_wp2_with fail
  refine HSF.out.mono ?_
  rintro e w7 ⟨rfl, mm, hw7⟩
  have hz7 := hz6.drewN mm
  have y2' := hz7.frozen 2
  have y0' := hz7.at_ 0 (.pointer (some ⟨cw, 0, none⟩)) rfl
  have y3' := hz7.at_ 2 last rfl
  rw [hw7]
  clear hw7 w7
  obtain ⟨sl, hsl⟩ : ∃ sl, slash (bs nm) = sl := ⟨_, rfl⟩
  rw [hsl]
  have hz8 := hz6.alloc (.cells (fwC w1.heap.size cw false) 163)
  have y2a := hz8.frozen 2
  have y3a := hz8.at_ 2 last rfl
  have y0a := hz8.at_ 0 (.pointer (some ⟨cw, 0, none⟩)) rfl
  have y2b := (hz8.drewN mm).frozen 2
  have y3b := (hz8.drewN mm).at_ 2 last rfl
  have y0b := (hz8.drewN mm).at_ 0 (.pointer (some ⟨cw, 0, none⟩)) rfl
  have HSL := Lib.hid hsl
  clear hrow6 hrow5 hF6 hO6 hc6 ho6 hf6 hH6 hH5 hC5 hsl
  cases sl with
  | true =>
    go_wp2_with fail
    go_ret2
    have hfz : Fr [zw] w6 ((w6.setCell ⟨zw, 2, none⟩ (.pointer none)).drewN mm) := (((Fr.refl [zw] w6).setCell (p := ⟨zw, 2, none⟩) (.inl (by simp)) _).drewN mm)
    refine ⟨own6, .slice pq (n + 1) cq, w1.heap.size, .pointer none, ?_, HO6.out, (HZ6.out.set_ 2 (.pointer none)).drewN mm, ?_, ?_, hsz1, ?_, .inl ⟨HSL.out, rfl, rfl⟩⟩
    · have hno := HC6.out.offBlk HZ6.out (by decide) (by decide) (by decide) (by decide)
      exact HC6.out.fr hfz (by simp; exact fun e => hno.1 e.symm) (by simp; exact fun e => hno.2.1 e.symm) (by simp; exact fun e => hno.2.2.1 e.symm) (by simp; exact fun e => hno.2.2.2.1 e.symm) (fun g hg => by simp; exact fun e => hno.2.2.2.2 (by rw [hg, e]))
    · exact rowB_fr HROW.out hfz (fun s hs => by simp at hs; subst hs; exact rowB_ty HROW.out HZ6.out (by decide))
    · rw [htl]
      exact HH6.out.fr hfz (by simpa using hn6.1) (by simpa using hn6.2)
    · exact HF6.out.trans hfz (by simp)
  | false =>
    go_wp2_with fail
    go_ret2
    have hfz : Fr [zw] w6 (((w6.alloc (.cells (fwC w1.heap.size cw false) 163)).setCell ⟨zw, 2, none⟩ (.pointer (some ⟨w6.heap.size, 0, none⟩))).drewN mm) := ((((Fr.refl [zw] w6).alloc _).setCell (p := ⟨zw, 2, none⟩) (.inl (by simp)) _).drewN mm)
    refine ⟨own6, .slice pq (n + 1) cq, w1.heap.size, .pointer (some ⟨w6.heap.size, 0, none⟩), ?_, HO6.out, ((HZ6.out.alloc _).set_ 2 (.pointer (some ⟨w6.heap.size, 0, none⟩))).drewN mm, ?_, ?_, hsz1, ?_, .inr ⟨HSL.out, w6.heap.size, ?_, rfl, ?_, rfl⟩⟩
    · have hno := HC6.out.offBlk HZ6.out (by decide) (by decide) (by decide) (by decide)
      exact HC6.out.fr hfz (by simp; exact fun e => hno.1 e.symm) (by simp; exact fun e => hno.2.1 e.symm) (by simp; exact fun e => hno.2.2.1 e.symm) (by simp; exact fun e => hno.2.2.2.1 e.symm) (fun g hg => by simp; exact fun e => hno.2.2.2.2 (by rw [hg, e]))
    · exact rowB_fr HROW.out hfz (fun s hs => by simp at hs; subst hs; exact rowB_ty HROW.out HZ6.out (by decide))
    · rw [htl]
      exact HH6.out.fr hfz (by simpa using hn6.1) (by simpa using hn6.2)
    · exact HF6.out.trans hfz (by simp)
    · exact HF6.out.size
    · have hl := HZ6.out.lt
      exact ((Blk.new w6 163 (fwC w1.heap.size cw false)).far (by show w6.heap.size ≠ zw; omega) _).drewN mm
end Go.Proofs.YtalgnjkdoaaacaaGreatDoor

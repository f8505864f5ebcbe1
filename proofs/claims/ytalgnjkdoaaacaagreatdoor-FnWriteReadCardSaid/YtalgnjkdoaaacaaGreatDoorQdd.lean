/- bufio.Writer.Write of nothing; countWriter.Write. -/
import Derived.Test.YtalgnjkdoaaacaaGreatDoorQda
import Derived.Test.YtalgnjkdoaaacaaGreatDoorQof
import Derived.Test.YtalgnjkdoaaacaaGreatDoorQra
import Derived.Test.YtalgnjkdoaaacaaGreatDoorQqf
set_option linter.unusedVariables false
set_option linter.unusedSimpArgs false
namespace Go.Proofs.YtalgnjkdoaaacaaGreatDoor
open Go Go.RowKit
open Zp
theorem copyNil (d a : Option Addr) (dl dc c : Nat) (W : World) : (Builtin.copy_ #[76, 76] 3 #[.slice d dl dc, .slice a 0 c]).run Tryz.prog W = .ok (.int .i64 0) W := by
  obtain ⟨i, hi, hzz⟩ := Option.map_eq_some_iff.1 infoByte1
  simp only [Prod.mk.injEq] at hzz
  obtain ⟨hz, hsz, hby⟩ := hzz
  simp [Builtin.copy_, run_underlying Tryz.underlying76, Builtin.lenOf, Builtin.firstCells, sizeOf, typeInfo, hi]
  cases a <;> cases d <;> simp [storeCells] <;> rfl
theorem BWn.set2 {w : World} {base bw bf sb : Nat} {own : Option Nat} {T : List UInt8} {n : Nat} (h : BWn w base bw bf sb own T n) : BWn (w.setCell ⟨bw, 2, none⟩ (.int .i64 (n : Int))) base bw bf sb own T n := by
  have hn := h.ne
  obtain ⟨cur, k1, k2⟩ := h.hf
  obtain ⟨T0, P, k3, k4, k5, k6⟩ := h.hT
  have hf : Fr [bw] w (w.setCell ⟨bw, 2, none⟩ (.int .i64 (n : Int))) := (Fr.refl _ _).setCell (.inl (by simp)) _
  exact ⟨h.hb.set_ 2 (.int .i64 (n : Int)), ⟨cur, k1.fr hf (by simp; exact fun e => hn.1 e.symm), k2⟩, ⟨T0, P, k3.fr hf (by simp; exact fun e => hn.2.1 e.symm) (fun g hg => by have := (hn.2.2.2.2.2.2 g hg).2.2.2.2; simpa using this), k4.fr hf k1.lt (by simp; exact fun e => hn.1 e.symm), k5, k6⟩, h.hn, h.ho, ⟨h.lo.1, h.lo.2.1, h.lo.2.2.1, Nat.le_trans h.lo.2.2.2 hf.size⟩⟩
set_option maxRecDepth 100000 in
set_option maxHeartbeats 4000000 in
theorem bwWriteNil (w : World) (base bw bf sb : Nat) (own : Option Nat) (T : List UInt8) (n : Nat) (a : Option Addr) (c : Nat) (h : BWn w base bw bf sb own T n) :
    Calls Tryz.prog 200 #[.pointer (some ⟨bw, 0, none⟩), .slice a 0 c] w (BwP w base bw bf sb own T []) := by
  have hnn := h.hn
  have c0 := h.hb.at_ 0 .nilIface rfl
  have c1 := h.hb.at_ 1 (.slice (some ⟨bf, 0, none⟩) 4096 4096) rfl
  have c2 := h.hb.at_ 2 (.int .i64 (n : Int)) rfl
  have HA := Lib.hid (bwAvail w bw bf sb n h.hb hnn)
  have hcp := fun (d : Option Addr) (dl dc : Nat) (W : World) => copyNil d a dl dc c W
  have H := Lib.hid h
  have z2 := h.hb.frozen 2
  have j2 : (n : Int) ≤ 4096 := by omega
  have j3 : (0 : Int) ≤ (n : Int) := by omega
  have i1 : ¬ ((4096 - n : Nat) : Int) < 0 := by omega
  clear h
  go_enter Tryz.func200, Tryz.ntmps200
  go_wp2_with fail
  go_loopw [1, 4] (fun v1 v4 wr => v1 = .slice a 0 c ∧ v4 = .int .i64 0 ∧ wr = w) (fun _ _ _ => 0)
  case atStart => exact ⟨rfl, rfl, rfl⟩
  case round =>
    obtain ⟨rfl, rfl, rfl⟩ := hrel
    go_wp2_with fail
    refine HA.out.mono ?_
    rintro e wa ⟨rfl, mm, rfl⟩
    have d0 : (wr.drewN mm).cell? ⟨bw, 0, none⟩ = some .nilIface := c0
    have d1 : (wr.drewN mm).cell? ⟨bw, 1, none⟩ = some (.slice (some ⟨bf, 0, none⟩) 4096 4096) := c1
    have d2 : (wr.drewN mm).cell? ⟨bw, 2, none⟩ = some (.int .i64 (n : Int)) := c2
    have y2 : (wr.drewN mm).frozen? ⟨bw, 2, none⟩ = false := z2
    have HB := Lib.hid (show BWn (wr.drewN mm) base bw bf sb own T n from H.out.fr ((Fr.refl [] wr).drewN mm) (by simp) (by simp) (by simp) (by simp))
    have HF := Lib.hid (show Fr (bw :: bf :: sb :: own.toList) wr (wr.drewN mm) from (Fr.refl _ wr).drewN mm)
    have hs : wr.heap.size = (wr.drewN mm).heap.size := rfl
    clear c0 c1 c2 z2 HA
    generalize wr.drewN mm = wc at *
    go_wp2_with fail
    go_still_tail 10, (by kernel_rfl)
    change wpList _ _ _ _ _ wc.drew
    go_wp2_with fail
    all_goals go_ret2
    all_goals exact ⟨own, n, rfl, by rw [List.append_nil]; exact HB.out.set2.drew, .inl rfl, (HF.out.setCell (.inl (by simp)) _).drew⟩
end Go.Proofs.YtalgnjkdoaaacaaGreatDoor

/- countWriter.Write; NewWriter. -/
namespace Go.Proofs.YtalgnjkdoaaacaaGreatDoor
open Go Go.RowKit
open Zp
/-- The text T has gone through the counting writer. -/
structure CW (w : World) (base cw bw bf sb : Nat) (own : Option Nat) (T : List UInt8) : Prop where
  hb : ∃ n, BWn w base bw bf sb own T n
  hc : Blk w cw 130 #[.iface 127 (.pointer (some ⟨bw, 0, none⟩)), .int .i64 (T.length : Int)]
  lc : base ≤ cw
theorem CW.ne {w : World} {base cw bw bf sb : Nat} {own : Option Nat} {T : List UInt8} (h : CW w base cw bw bf sb own T) : cw ≠ bw ∧ cw ≠ bf ∧ cw ≠ sb ∧ cw < w.heap.size ∧ own ≠ some cw := by
  obtain ⟨n, hb⟩ := h.hb
  obtain ⟨cur, h1, h2⟩ := hb.hf
  obtain ⟨T0, P, ⟨p, v, h3, hp, rfl, hown⟩, h4, h5, h6⟩ := hb.hT
  refine ⟨h.hc.ne_ hb.hb (by decide), h.hc.ne_ h1 (by decide), h.hc.ne_ h3 (by decide), h.hc.lt, fun hg => ?_⟩
  rcases hown.2 with ⟨h7, _⟩ | ⟨g', cap, cur', rfl, _, h8, _⟩
  · rw [h7] at hg; cases hg
  · have hg' : g' = cw := by simpa [Value.ownBlock] using hg
    subst hg'
    exact absurd rfl ((show Blk w g' 5 cur' from h8).ne_ h.hc (by decide))
/-- The writer's blocks. -/
abbrev cwS (cw bw bf sb : Nat) (own : Option Nat) : List Nat := cw :: bw :: bf :: sb :: own.toList
theorem CW.fr {w w' : World} {S : List Nat} {base cw bw bf sb : Nat} {own : Option Nat} {T : List UInt8} (h : CW w base cw bw bf sb own T) (hf : Fr S w w') (h0 : cw ∉ S) (h1 : bw ∉ S) (h2 : bf ∉ S) (h3 : sb ∉ S) (h4 : ∀ g, own = some g → g ∉ S) : CW w' base cw bw bf sb own T := by
  obtain ⟨n, hb⟩ := h.hb
  exact ⟨⟨n, hb.fr hf h1 h2 h3 h4⟩, h.hc.fr hf h0, h.lc⟩
theorem CW.nil {w w' : World} {base cw bw bf sb : Nat} {own : Option Nat} {T : List UInt8} (h : CW w base cw bw bf sb own T) (hf : Fr [] w w') : CW w' base cw bw bf sb own T := h.fr hf (by simp) (by simp) (by simp) (by simp) (by simp)
/-- A block that is none of the writer's. -/
def Off (x cw bw bf sb : Nat) (own : Option Nat) : Prop := x ≠ cw ∧ x ≠ bw ∧ x ≠ bf ∧ x ≠ sb ∧ own ≠ some x
theorem CW.fresh {w : World} {base cw bw bf sb : Nat} {own : Option Nat} {T : List UInt8} (h : CW w base cw bw bf sb own T) {x : Nat} (hx : w.heap.size ≤ x) : Off x cw bw bf sb own := by
  have h1 := h.ne
  obtain ⟨n, hb⟩ := h.hb
  have h2 := hb.ne
  exact ⟨by omega, by omega, by omega, by omega, fun he => by have := (h2.2.2.2.2.2.2 x he).2.1; omega⟩
theorem Off.next {w : World} {x cw bw bf sb : Nat} {own own' : Option Nat} (h : Off x cw bw bf sb own) (hx : x < w.heap.size) (ho : OwnN w own own') : Off x cw bw bf sb own' := ⟨h.1, h.2.1, h.2.2.1, h.2.2.2.1, ho.ne hx h.2.2.2.2⟩
theorem Off.not {x cw bw bf sb : Nat} {own : Option Nat} (h : Off x cw bw bf sb own) : x ∉ cwS cw bw bf sb own := by
  obtain ⟨h1, h2, h3, h4, h5⟩ := h
  simp only [cwS, List.mem_cons, not_or]
  refine ⟨h1, h2, h3, h4, fun hm => h5 ?_⟩
  cases own with
  | none => simp at hm
  | some y => simp at hm; rw [hm]
/-- What a write leaves. -/
def WrP (w : World) (base cw bw bf sb : Nat) (own : Option Nat) (T l : List UInt8) (e : Ending) (w' : World) : Prop :=
  ∃ own', e = .returned (.tuple #[.int .i64 (l.length : Int), .nilIface]) ∧ CW w' base cw bw bf sb own' (T ++ l) ∧ OwnN w own own' ∧ Fr (cwS cw bw bf sb own) w w'
theorem bwWriteAny (w : World) (base bw bf sb : Nat) (own : Option Nat) (T l : List UInt8) (n gs o c : Nat) (a : Option Addr) (h : BWn w base bw bf sb own T n) (hT : T.length + l.length ≤ 4000000000)
    (ha : l = [] ∨ (a = some ⟨gs, o, none⟩ ∧ Rd w gs o l ∧ gs < w.heap.size ∧ (gs ≠ bw ∧ gs ≠ bf ∧ gs ≠ sb ∧ own ≠ some gs) ∧ l.length ≤ c ∧ c ≤ 9223372036854775807)) :
    Calls Tryz.prog 200 #[.pointer (some ⟨bw, 0, none⟩), .slice a l.length c] w (BwP w base bw bf sb own T l) := by
  rcases ha with rfl | ⟨rfl, hr, hgl, hgs, hlc, hc⟩
  · exact bwWriteNil w base bw bf sb own T n a c h
  · exact bwWrite w base bw bf sb own T l n gs o c h hr hgl hgs hlc hc hT
set_option maxRecDepth 100000 in
set_option maxHeartbeats 4000000 in
theorem cwWrite (w : World) (base cw bw bf sb : Nat) (own : Option Nat) (T l : List UInt8) (gs o c : Nat) (a : Option Addr) (h : CW w base cw bw bf sb own T) (hT : T.length + l.length ≤ 4000000000) (ha : l = [] ∨ (a = some ⟨gs, o, none⟩ ∧ Rd w gs o l ∧ gs < w.heap.size ∧ Off gs cw bw bf sb own ∧ l.length ≤ c ∧ c ≤ 9223372036854775807)) :
    Calls Tryz.prog 95 #[.pointer (some ⟨cw, 0, none⟩), .slice a l.length c] w (WrP w base cw bw bf sb own T l) := by
  have hne := h.ne
  obtain ⟨n, hb⟩ := h.hb
  have c0 := h.hc.at_ 0 (.iface 127 (.pointer (some ⟨bw, 0, none⟩))) rfl
  have HB := Lib.hid (bwWriteAny w base bw bf sb own T l n gs o c a hb hT (by rcases ha with h | ⟨h1, h2, h3, h4, h5⟩; exact .inl h; exact .inr ⟨h1, h2, h3, h4.2, h5⟩))
  have HC := Lib.hid h
  obtain ⟨L, hL⟩ : ∃ L, l.length = L := ⟨_, rfl⟩
  have HL := Lib.hid hL
  rw [hL] at HB hT ⊢
  clear h hb ha hL
  go_enter Tryz.func95, Tryz.ntmps95
  go_wp2_with fail
  refine HB.out.mono ?_
  rintro e w1 ⟨own', n', rfl, hb1, ho1, hf1⟩
  have hb2 : Blk w1 cw 130 _ := HC.out.hc.fr hf1 (by
    simp only [List.mem_cons, not_or]
    refine ⟨hne.1, hne.2.1, hne.2.2.1, fun hm => hne.2.2.2.2 ?_⟩
    cases own with
    | none => simp at hm
    | some y => simp at hm; rw [hm])
  have d1 := hb2.at_ 1 (.int .i64 (T.length : Int)) rfl
  have z1 := hb2.frozen 1
  have HB1 := Lib.hid hb1
  have HO1 := Lib.hid ho1
  have HF1 := Lib.hid hf1
  have HB2 := Lib.hid hb2
  rw [HL.out]
  clear hb1 ho1 hf1 hb2 c0
  go_wp2_with fail
  go_ret2
  have hnx : own' ≠ some cw := HO1.out.ne hne.2.2.2.1 hne.2.2.2.2
  have hfs : Fr [cw] w1 (w1.setCell ⟨cw, 1, none⟩ (.int .i64 ((T.length : Int) + (L : Int)))) := (Fr.refl _ _).setCell (.inl (by simp)) _
  refine ⟨own', by rw [HL.out]; rfl, ⟨⟨n', HB1.out.fr hfs (by simp; exact fun e => hne.1 e.symm) (by simp; exact fun e => hne.2.1 e.symm) (by simp; exact fun e => hne.2.2.1 e.symm) (fun g hg hm => by simp at hm; rw [hm] at hg; exact hnx hg)⟩, ?_, HC.out.lc⟩, HO1.out, ?_⟩
  · rw [List.length_append, HL.out, Int.natCast_add]
    exact HB2.out.set_ 1 (.int .i64 ((T.length : Int) + (L : Int)))
  · exact (HF1.out.mono (S' := cwS cw bw bf sb own) (fun s hs => .inl (List.mem_cons_of_mem _ hs))).setCell (.inl (by simp)) _
end Go.Proofs.YtalgnjkdoaaacaaGreatDoor

/- writeBuf. -/
namespace Go.Proofs.YtalgnjkdoaaacaaGreatDoor
open Go Go.RowKit
open Zp
set_option maxRecDepth 100000 in
set_option maxHeartbeats 4000000 in
theorem put16 (w : World) (g o n c v : Nat) (t : TypeId) (cur : Array Value) (hb : Blk w g t cur) (hn : 2 ≤ n) (ho : o + 2 ≤ cur.size) (hv : v < 65536) :
    Calls Tryz.prog 106 #[.slice (some ⟨g, o, none⟩) n c, .int .u16 (v : Int)] w fun e w' => e = .returned (.tuple #[]) ∧ w' = (w.setCell ⟨g, o, none⟩ (.int .u8 ((v : Int) % 256))).setCell ⟨g, o + 1, none⟩ (.int .u8 ((v : Int) / 256)) := by
  obtain ⟨x0, h0⟩ : ∃ x, cur[o]? = some x := ⟨cur[o], Array.getElem?_eq_getElem (by omega)⟩
  obtain ⟨x1, h1⟩ : ∃ x, cur[o + 1]? = some x := ⟨cur[o + 1], Array.getElem?_eq_getElem (by omega)⟩
  have c0 := hb.at_ o x0 h0
  have z0 := hb.frozen o
  have hb2 := hb.set_ o (.int .u8 ((v : Int) % 256))
  have c1 := hb2.at_ (o + 1) x1 (by rw [← h1]; simp)
  have z1 := hb2.frozen (o + 1)
  have i1 : (1 : Int) < (n : Int) := by omega
  go_enter Tryz.func106, Tryz.ntmps106
  go_wp2_with fail
  go_end0
  exact ⟨rfl, rfl⟩
theorem Rd.put {w : World} {g : Nat} {t : TypeId} {cur : Array Value} {P : List UInt8} (hb : Blk w g t cur) (hr : Rd w g 0 P) (hP : P.length < cur.size) (b : UInt8) (u : Value) (hu : u = vb b) : Rd (w.setCell ⟨g, P.length, none⟩ u) g 0 (P ++ [b]) := by
  subst hu
  have h2 := hb.set_ P.length (vb b)
  intro i x hx
  rw [Nat.zero_add, h2.cell i]
  rcases Nat.lt_or_ge i P.length with hi | hi
  · rw [List.getElem?_append_left hi] at hx
    have := hr i x hx
    rw [Nat.zero_add, hb.cell i] at this
    rw [← this, Array.getElem?_setIfInBounds_ne (by omega)]
  · rw [List.getElem?_append_right hi] at hx
    have h0 : i - P.length = 0 := by
      rcases Nat.eq_zero_or_pos (i - P.length) with h | h
      · exact h
      · rw [List.getElem?_eq_none (by simp; omega)] at hx; cases hx
    rw [h0] at hx
    simp at hx
    subst hx
    obtain rfl : i = P.length := by omega
    simp [hP]
theorem le2_eq (v : Nat) : le 2 v = [UInt8.ofNat (v % 256), UInt8.ofNat (v / 256 % 256)] := rfl
theorem le4_eq (v : Nat) : le 4 v = le 2 (v % 65536) ++ le 2 (v / 65536) := by
  simp only [le, List.cons_append, List.nil_append, Nat.div_div_eq_div_mul]
  have h1 : v % 65536 % 256 = v % 256 := by omega
  have h2 : v % 65536 / 256 % 256 = v / 256 % 256 := by omega
  rw [h1, h2]
/-- The bytes P stand at the head of a block of N bytes; h: the slice of what is left. -/
def WB (w : World) (g h : Nat) (t : TypeId) (N : Nat) (P : List UInt8) : Prop :=
  ∃ cur a, Blk w g t cur ∧ cur.size = N ∧ Rd w g 0 P ∧ P.length ≤ N ∧ Blk w h 147 #[.slice (some a) (N - P.length) (N - P.length)] ∧ (P.length < N → a = ⟨g, P.length, none⟩) ∧ g ≠ h
theorem put16_at (w : World) (g : Nat) (t : TypeId) (cur : Array Value) (P : List UInt8) (n c v : Nat) (hb : Blk w g t cur) (hr : Rd w g 0 P) (hn : 2 ≤ n) (ho : P.length + 2 ≤ cur.size) (hv : v < 65536) :
    Calls Tryz.prog 106 #[.slice (some ⟨g, P.length, none⟩) n c, .int .u16 (v : Int)] w fun e w' => e = .returned (.tuple #[]) ∧ (∃ cur', Blk w' g t cur' ∧ cur'.size = cur.size) ∧ Rd w' g 0 (P ++ le 2 v) ∧ Fr [g] w w' ∧ w'.heap.size = w.heap.size := by
  refine (put16 w g P.length n c v t cur hb hn ho hv).mono ?_
  rintro e w' ⟨rfl, rfl⟩
  have hu1 : Value.int .u8 ((v : Int) % 256) = vb (UInt8.ofNat (v % 256)) := by simp [vb]
  have hu2 : Value.int .u8 ((v : Int) / 256) = vb (UInt8.ofNat (v / 256 % 256)) := by
    have : v / 256 % 256 = v / 256 := by omega
    simp [vb, this]
  have b1 := hb.set_ P.length (.int .u8 ((v : Int) % 256))
  have r1 := Rd.put hb hr (by omega) (UInt8.ofNat (v % 256)) _ hu1
  have b2 := b1.set_ (P.length + 1) (.int .u8 ((v : Int) / 256))
  have r2 := Rd.put b1 r1 (by simp; omega) (UInt8.ofNat (v / 256 % 256)) _ hu2
  rw [List.length_append, List.length_singleton, List.append_assoc] at r2
  exact ⟨rfl, ⟨_, b2, by simp⟩, r2, ((Fr.refl _ _).setCell (.inl (by simp)) _).setCell (.inl (by simp)) _, by simp [World.setCell]⟩
set_option maxRecDepth 100000 in
set_option maxHeartbeats 4000000 in
theorem put32_at (w : World) (g : Nat) (t : TypeId) (cur : Array Value) (P : List UInt8) (n v : Nat) (hb : Blk w g t cur) (hr : Rd w g 0 P) (hn : 4 ≤ n) (ho : P.length + 4 ≤ cur.size) (hv : v < 4294967296) :
    Calls Tryz.prog 107 #[.slice (some ⟨g, P.length, none⟩) n n, .int .u32 (v : Int)] w fun e w' => e = .returned (.tuple #[]) ∧ (∃ cur', Blk w' g t cur' ∧ cur'.size = cur.size) ∧ Rd w' g 0 (P ++ le 4 v) ∧ Fr [g] w w' ∧ w'.heap.size = w.heap.size := by
  have H1 := Lib.hid (put16_at w g t cur P n n (v % 65536) hb hr (by omega) (by omega) (by omega))
  have i1 : (2 : Int) ≤ (n : Int) := by omega
  have i2 : ¬ n = 2 := by omega
  go_enter Tryz.func107, Tryz.ntmps107
  go_wp2_with fail
  refine H1.out.mono ?_
  rintro e w1 ⟨rfl, ⟨cur1, b1, s1⟩, r1, f1, z1⟩
  have H2 := Lib.hid (put16_at w1 g t cur1 (P ++ le 2 (v % 65536)) (n - 2) (n - 2) (v / 65536) b1 r1 (by omega) (by rw [List.length_append, le_length]; omega) (by omega))
  rw [List.length_append, le_length, show ((v / 65536 : Nat) : Int) = (v : Int) / 65536 by omega] at H2
  go_wp2_with fail
  refine H2.out.mono ?_
  rintro e w2 ⟨rfl, ⟨cur2, b2, s2⟩, r2, f2, z2⟩
  go_wp2_with fail
  go_end0
  exact ⟨rfl, ⟨cur2, b2, by omega⟩, by rw [le4_eq, ← List.append_assoc]; exact r2, f1.trans f2 (by simp), by omega⟩
theorem WB.next {w : World} {g h : Nat} {t : TypeId} {N : Nat} {P' : List UInt8} {cur : Array Value} {u : Value} (hb : Blk w g t cur) (hs : cur.size = N) (hr : Rd w g 0 P') (hP : P'.length ≤ N) (hh : Blk w h 147 #[u]) (hgh : g ≠ h) (a : Addr) (m : Nat) (hm : m = N - P'.length) (ha : P'.length < N → a = ⟨g, P'.length, none⟩) :
    WB (w.setCell ⟨h, 0, none⟩ (.slice (some a) m m)) g h t N P' := by
  subst hm
  exact ⟨cur, a, hb.far hgh _, hs, hr.far hgh _, hP, hh.set_ 0 _, ha, hgh⟩
set_option maxRecDepth 100000 in
set_option maxHeartbeats 4000000 in
theorem wb16 (w : World) (g h : Nat) (t : TypeId) (N : Nat) (P : List UInt8) (v : Nat) (hw : WB w g h t N P) (hP : P.length + 2 ≤ N) (hv : v < 65536) (hN : N ≤ 1000) :
    Calls Tryz.prog 74 #[.pointer (some ⟨h, 0, none⟩), .int .u16 (v : Int)] w fun e w' => e = .returned (.tuple #[]) ∧ WB w' g h t N (P ++ le 2 v) ∧ Fr [g, h] w w' ∧ w'.heap.size = w.heap.size := by
  obtain ⟨cur, a, hb, hs, hr, -, hh, ha, hgh⟩ := hw
  obtain rfl := ha (by omega)
  have c0 := hh.at_ 0 _ rfl
  have H1 := Lib.hid (put16_at w g t cur P (N - P.length) (N - P.length) v hb hr (by omega) (by omega) (by omega))
  have i1 : (2 : Int) ≤ ((N - P.length : Nat) : Int) := by omega
  have HH := Lib.hid hh
  obtain ⟨k, hk⟩ : ∃ k, P.length = k := ⟨_, rfl⟩
  have HK := Lib.hid hk
  obtain ⟨n, hn⟩ : ∃ n, N - k = n := ⟨_, rfl⟩
  have HN := Lib.hid hn
  rw [hk] at H1 c0 i1
  rw [hn] at H1 c0 i1
  clear hh hk hn hb hr ha
  go_enter Tryz.func74, Tryz.ntmps74
  go_wp2_with fail
  refine H1.out.mono ?_
  rintro e w1 ⟨rfl, ⟨cur1, b1, s1⟩, r1, f1, z1⟩
  have hh1 : Blk w1 h 147 _ := HH.out.fr f1 (by simp; exact hgh.symm)
  rw [HK.out, HN.out] at hh1
  have d0 := hh1.at_ 0 _ rfl
  have y0 := hh1.frozen 0
  have HH1 := Lib.hid hh1
  clear hh1 c0
  go_wp2_with fail
  clear d0 y0
  all_goals go_end0
  all_goals have hl : (P ++ le 2 v).length = k + 2 := by rw [List.length_append, le_length, HK.out]
  · refine ⟨rfl, WB.next b1 (by omega) r1 (by have := HN.out; omega) HH1.out hgh _ _ (by have := HN.out; omega) (fun hlt => ?_), (f1.mono (by simp)).setCell (.inl (by simp)) _, by simp [World.setCell]; omega⟩
    have := HN.out
    omega
  · exact ⟨rfl, WB.next b1 (by omega) r1 (by have := HN.out; omega) HH1.out hgh _ _ (by have := HN.out; omega) (fun _ => by rw [hl]), (f1.mono (by simp)).setCell (.inl (by simp)) _, by simp [World.setCell]; omega⟩
set_option maxRecDepth 100000 in
set_option maxHeartbeats 4000000 in
theorem wb32 (w : World) (g h : Nat) (t : TypeId) (N : Nat) (P : List UInt8) (v : Nat) (hw : WB w g h t N P) (hP : P.length + 4 ≤ N) (hv : v < 4294967296) (hN : N ≤ 1000) :
    Calls Tryz.prog 76 #[.pointer (some ⟨h, 0, none⟩), .int .u32 (v : Int)] w fun e w' => e = .returned (.tuple #[]) ∧ WB w' g h t N (P ++ le 4 v) ∧ Fr [g, h] w w' ∧ w'.heap.size = w.heap.size := by
  obtain ⟨cur, a, hb, hs, hr, -, hh, ha, hgh⟩ := hw
  obtain rfl := ha (by omega)
  have c0 := hh.at_ 0 _ rfl
  have H1 := Lib.hid (put32_at w g t cur P (N - P.length) v hb hr (by omega) (by omega) (by omega))
  have i1 : (4 : Int) ≤ ((N - P.length : Nat) : Int) := by omega
  have HH := Lib.hid hh
  obtain ⟨k, hk⟩ : ∃ k, P.length = k := ⟨_, rfl⟩
  have HK := Lib.hid hk
  obtain ⟨n, hn⟩ : ∃ n, N - k = n := ⟨_, rfl⟩
  have HN := Lib.hid hn
  rw [hk] at H1 c0 i1
  rw [hn] at H1 c0 i1
  clear hh hk hn hb hr ha
  go_enter Tryz.func76, Tryz.ntmps76
  go_wp2_with fail
  refine H1.out.mono ?_
  rintro e w1 ⟨rfl, ⟨cur1, b1, s1⟩, r1, f1, z1⟩
  have hh1 : Blk w1 h 147 _ := HH.out.fr f1 (by simp; exact hgh.symm)
  rw [HK.out, HN.out] at hh1
  have d0 := hh1.at_ 0 _ rfl
  have y0 := hh1.frozen 0
  have HH1 := Lib.hid hh1
  clear hh1 c0
  go_wp2_with fail
  clear d0 y0
  all_goals go_end0
  all_goals have hl : (P ++ le 4 v).length = k + 4 := by rw [List.length_append, le_length, HK.out]
  · refine ⟨rfl, WB.next b1 (by omega) r1 (by have := HN.out; omega) HH1.out hgh _ _ (by have := HN.out; omega) (fun hlt => ?_), (f1.mono (by simp)).setCell (.inl (by simp)) _, by simp [World.setCell]; omega⟩
    have := HN.out
    omega
  · exact ⟨rfl, WB.next b1 (by omega) r1 (by have := HN.out; omega) HH1.out hgh _ _ (by have := HN.out; omega) (fun _ => by rw [hl]), (f1.mono (by simp)).setCell (.inl (by simp)) _, by simp [World.setCell]; omega⟩
end Go.Proofs.YtalgnjkdoaaacaaGreatDoor

/- NewWriter. -/
namespace Go.Proofs.YtalgnjkdoaaacaaGreatDoor
open Go Go.RowKit
open Zp
set_option maxRecDepth 100000 in
set_option maxHeartbeats 4000000 in
theorem newBw (w : World) (base sb : Nat) (hsb : Blk w sb 95 #[.pointer none, .slice none 0 0]) (hb : base ≤ sb) :
    Calls Tryz.prog 91 #[.iface 93 (.pointer (some ⟨sb, 0, none⟩)), .int .i64 4096] w fun e w' => ∃ bw bf, e = .returned (.pointer (some ⟨bw, 0, none⟩)) ∧ BWn w' base bw bf sb none [] 0 ∧ Fr [] w w' ∧ w.heap.size ≤ bw := by
  have hta : ∀ w, (Instr.typeAssert (.iface 93 (.pointer (some ⟨sb, 0, none⟩))) 101 127 true).run Tryz.prog w = .ok (.tuple #[.pointer none, .bool false]) w := fun w => by kernel_rfl
  have hmk : ∀ w, (Instr.makeSlice 76 (.int .i64 4096) (.int .i64 4096)).run Tryz.prog w = .ok (.slice (some ⟨w.heap.size, 0, none⟩) 4096 4096) (w.alloc (.cells (zeros 4096) 5)) := fun w => run_makeBytes 4096 4096 (Nat.le_refl _) (by decide) w
  go_enter Tryz.func91, Tryz.ntmps91
  go_wp2_with fail
  have hgb := (Blk.new w 5 (zeros 4096)).alloc (.cells (bwC w.heap.size sb 0) 240)
  have hgw := Blk.new (w.alloc (.cells (zeros 4096) 5)) 240 (bwC w.heap.size sb 0)
  rw [World.size_alloc] at hgw
  have hl := hsb.lt
  go_ret
  refine ⟨w.heap.size + 1, w.heap.size, rfl, ⟨hgw, ⟨_, hgb, zeros_size _⟩, ⟨[], [], ⟨.pointer none, .slice none 0 0, (hsb.alloc _).alloc _, .inl rfl, rfl, rfl, .inl ⟨rfl, rfl⟩⟩, Rd.nil_ _ _ _, rfl, rfl⟩, by omega, by simp, ⟨by omega, by omega, hb, by simp; omega⟩⟩, ((Fr.refl [] w).alloc _).alloc _, by omega⟩
set_option maxRecDepth 100000 in
theorem newBw1 (w : World) (base sb : Nat) (hsb : Blk w sb 95 #[.pointer none, .slice none 0 0]) (hb : base ≤ sb) :
    Calls Tryz.prog 64 #[.iface 93 (.pointer (some ⟨sb, 0, none⟩))] w fun e w' => ∃ bw bf, e = .returned (.pointer (some ⟨bw, 0, none⟩)) ∧ BWn w' base bw bf sb none [] 0 ∧ Fr [] w w' ∧ w.heap.size ≤ bw := by
  go_enter Tryz.func64, Tryz.ntmps64
  go_wp2_with fail
  refine (newBw w base sb hsb hb).mono ?_
  rintro e w1 ⟨q, gb, rfl, h⟩
  go_wp2_with fail
  go_ret
  exact ⟨q, gb, rfl, h⟩
/-- The cells of a zip.Writer. -/
abbrev zwC (cw : Nat) (dir last : Value) (cl : Bool) (c : List UInt8) : Array Value := #[.pointer (some ⟨cw, 0, none⟩), dir, last, .bool cl, .map none, .string ⟨c.toArray⟩, .nilFunc]
set_option maxRecDepth 100000 in
set_option maxHeartbeats 4000000 in
theorem newZw (w : World) (base sb : Nat) (hsb : Blk w sb 95 #[.pointer none, .slice none 0 0]) (hb : base ≤ sb) :
    Calls Tryz.prog 42 #[.iface 93 (.pointer (some ⟨sb, 0, none⟩))] w fun e w' => ∃ zw cw bw bf, e = .returned (.pointer (some ⟨zw, 0, none⟩)) ∧ CW w' base cw bw bf sb none [] ∧ Blk w' zw 136 (zwC cw (.slice none 0 0) (.pointer none) false []) ∧ Fr [] w w' ∧ w.heap.size ≤ zw := by
  have hl := hsb.lt
  go_enter Tryz.func42, Tryz.ntmps42
  go_wp2_with fail
  refine (newBw1 w base sb hsb hb).mono ?_
  rintro e w1 ⟨bw, bf, rfl, hbw, hf, hz⟩
  have HB := Lib.hid hbw
  have HF := Lib.hid hf
  clear hbw hf
  go_wp2_with fail
  have hcw := (Blk.new w1 130 #[.iface 127 (.pointer (some ⟨bw, 0, none⟩)), .int .i64 0]).alloc (.cells (zwC w1.heap.size (.slice none 0 0) (.pointer none) false []) 136)
  have hzw := Blk.new (w1.alloc (.cells #[.iface 127 (.pointer (some ⟨bw, 0, none⟩)), .int .i64 0] 130)) 136 (zwC w1.heap.size (.slice none 0 0) (.pointer none) false [])
  rw [World.size_alloc] at hzw
  have hs := HF.out.size
  go_ret
  exact ⟨w1.heap.size + 1, w1.heap.size, bw, bf, rfl, ⟨⟨0, HB.out.fr (((Fr.refl [] w1).alloc _).alloc _) (by simp) (by simp) (by simp) (by simp)⟩, hcw, by omega⟩, hzw, (HF.out.alloc _).alloc _, by omega⟩
end Go.Proofs.YtalgnjkdoaaacaaGreatDoor

/- writeHeader: the header ahead of a file's content. -/
namespace Go.Proofs.YtalgnjkdoaaacaaGreatDoor
open Go Go.RowKit
open Zp
/-- The cells of a FileHeader. -/
abbrev fhC (nm cm : List UInt8) (nu : Bool) (cr rd fl me ti da cs pk sz ext : Nat) (ex : Value) (m0 m1 : Int) (mp : Option Addr) : Array Value :=
  #[.string (bs nm), .string (bs cm), .bool nu, .int .u16 (cr : Int), .int .u16 (rd : Int), .int .u16 (fl : Int), .int .u16 (me : Int), .int .u64 m0, .int .i64 m1, .pointer mp, .int .u16 (ti : Int), .int .u16 (da : Int), .int .u32 (cs : Int), .int .u32 (pk : Int), .int .u32 (sz : Int), .int .u64 (pk : Int), .int .u64 (sz : Int), ex, .int .u32 (ext : Int)]
/-- A header block of the writer: a file's header, its place, raw. -/
structure HH (w : World) (hh fh off : Nat) (nm cm : List UInt8) (nu : Bool) (cr rd fl me ti da cs pk sz ext : Nat) (ex : Value) (m0 m1 : Int) (mp : Option Addr) : Prop where
  h : Blk w hh 153 #[.pointer (some ⟨fh, 0, none⟩), .int .u64 (off : Int), .bool true]
  f : Blk w fh 78 (fhC nm cm nu cr rd fl me ti da cs pk sz ext ex m0 m1 mp)
theorem HH.fr {w w' : World} {S : List Nat} {hh fh off : Nat} {nm cm : List UInt8} {nu : Bool} {cr rd fl me ti da cs pk sz ext : Nat} {ex : Value} {m0 m1 : Int} {mp : Option Addr} (h : HH w hh fh off nm cm nu cr rd fl me ti da cs pk sz ext ex m0 m1 mp) (hf : Fr S w w') (h1 : hh ∉ S) (h2 : fh ∉ S) : HH w' hh fh off nm cm nu cr rd fl me ti da cs pk sz ext ex m0 m1 mp := ⟨h.h.fr hf h1, h.f.fr hf h2⟩
theorem fr2 {w w1 w2 : World} {g : Nat} (h : Fr [] w w1) (k : Fr [g, g + 1] w1 w2) (hg : w.heap.size ≤ g) : Fr [] w w2 := h.trans k (fun s hs => .inr (by simp at hs; omega))
end Go.Proofs.YtalgnjkdoaaacaaGreatDoor

/- writeBuf, with what stands behind. -/
namespace Go.Proofs.YtalgnjkdoaaacaaGreatDoor
open Go Go.RowKit
open Zp
/-- A row of N bytes: P, then zeros. -/
def rowZ (N : Nat) (P : By) : Array Value := ((P ++ List.replicate (N - P.length) 0).map vb).toArray
theorem rowZ_size {N : Nat} {P : By} (h : P.length ≤ N) : (rowZ N P).size = N := by simp [rowZ]; omega
theorem rowZ_nil (N : Nat) : rowZ N [] = zeros N := by
  have h0 : (rowZ N []).size = N := rowZ_size (by simp)
  apply Array.ext
  · rw [h0, zeros_size]
  · intro i h1 h2
    have h3 := zeros_get N i (by rw [zeros_size] at h2; exact h2)
    rw [Array.getElem?_eq_getElem h2] at h3
    injection h3 with h3
    rw [h3]
    simp [rowZ, vb]
theorem rowZ_put {N : Nat} {P : By} (h : P.length < N) (b : UInt8) (u : Value) (hu : u = vb b) : (rowZ N P).setIfInBounds P.length u = rowZ N (P ++ [b]) := by
  subst hu
  obtain ⟨m, hm⟩ : ∃ m, N - P.length = m + 1 := ⟨N - P.length - 1, by omega⟩
  have h2 : N - (P ++ [b]).length = m := by simp; omega
  apply Array.ext'
  rw [rowZ, rowZ, hm, h2, List.replicate_succ]
  simp only [Array.toList_setIfInBounds, List.map_append, List.map_cons]
  rw [List.set_append_right _ _ (by simp)]
  simp
theorem rowZ_rd {w : World} {g : Nat} {t : TypeId} {N : Nat} {P : By} (hb : Blk w g t (rowZ N P)) : Rd w g 0 P := Rd.of_blk hb fun i b hi => by
  have hl := (List.getElem?_eq_some_iff.1 hi).1
  rw [Nat.zero_add, rowZ, List.getElem?_toArray, List.getElem?_map, List.getElem?_append_left hl, hi]
  rfl
theorem rowZ_skip {N : Nat} {P : By} (m : Nat) (h : P.length + m ≤ N) : rowZ N (P ++ List.replicate m 0) = rowZ N P := by
  unfold rowZ
  rw [List.append_assoc, List.replicate_append_replicate]
  congr 5
  simp
  omega
theorem put16z (w : World) (g : Nat) (t : TypeId) (N : Nat) (P : By) (n c v : Nat) (hb : Blk w g t (rowZ N P)) (hn : 2 ≤ n) (ho : P.length + 2 ≤ N) (hv : v < 65536) :
    Calls Tryz.prog 106 #[.slice (some ⟨g, P.length, none⟩) n c, .int .u16 (v : Int)] w fun e w' => e = .returned (.tuple #[]) ∧ Blk w' g t (rowZ N (P ++ le 2 v)) ∧ Fr [g] w w' ∧ w'.heap.size = w.heap.size := by
  refine (put16 w g P.length n c v t _ hb hn (by rw [rowZ_size (by omega)]; exact ho) hv).mono ?_
  rintro e w' ⟨rfl, rfl⟩
  have hu1 : Value.int .u8 ((v : Int) % 256) = vb (UInt8.ofNat (v % 256)) := by simp [vb]
  have hu2 : Value.int .u8 ((v : Int) / 256) = vb (UInt8.ofNat (v / 256 % 256)) := by
    have : v / 256 % 256 = v / 256 := by omega
    simp [vb, this]
  have b1 := hb.set_ P.length (.int .u8 ((v : Int) % 256))
  rw [rowZ_put (by omega) _ _ hu1] at b1
  have b2 := b1.set_ (P ++ [UInt8.ofNat (v % 256)]).length (.int .u8 ((v : Int) / 256))
  rw [rowZ_put (by simp; omega) _ _ hu2, List.length_append, List.length_singleton, List.append_assoc] at b2
  exact ⟨rfl, b2, ((Fr.refl _ _).setCell (.inl (by simp)) _).setCell (.inl (by simp)) _, by simp [World.setCell]⟩
set_option maxRecDepth 100000 in
set_option maxHeartbeats 4000000 in
theorem put32z (w : World) (g : Nat) (t : TypeId) (N : Nat) (P : By) (n v : Nat) (hb : Blk w g t (rowZ N P)) (hn : 4 ≤ n) (ho : P.length + 4 ≤ N) (hv : v < 4294967296) :
    Calls Tryz.prog 107 #[.slice (some ⟨g, P.length, none⟩) n n, .int .u32 (v : Int)] w fun e w' => e = .returned (.tuple #[]) ∧ Blk w' g t (rowZ N (P ++ le 4 v)) ∧ Fr [g] w w' ∧ w'.heap.size = w.heap.size := by
  have H1 := Lib.hid (put16z w g t N P n n (v % 65536) hb (by omega) (by omega) (by omega))
  have i1 : (2 : Int) ≤ (n : Int) := by omega
  have i2 : ¬ n = 2 := by omega
  go_enter Tryz.func107, Tryz.ntmps107
  go_wp2_with fail
  refine H1.out.mono ?_
  rintro e w1 ⟨rfl, b1, f1, z1⟩
  have H2 := Lib.hid (put16z w1 g t N (P ++ le 2 (v % 65536)) (n - 2) (n - 2) (v / 65536) b1 (by omega) (by rw [List.length_append, le_length]; omega) (by omega))
  rw [List.length_append, le_length, show ((v / 65536 : Nat) : Int) = (v : Int) / 65536 by omega] at H2
  go_wp2_with fail
  refine H2.out.mono ?_
  rintro e w2 ⟨rfl, b2, f2, z2⟩
  go_wp2_with fail
  go_end0
  exact ⟨rfl, by rw [le4_eq, ← List.append_assoc]; exact b2, f1.trans f2 (by simp), by omega⟩
/-- The bytes P stand at the head of a block of N bytes, zeros behind them; h: the slice of what is left. -/
def WZ (w : World) (g h : Nat) (t : TypeId) (N : Nat) (P : By) : Prop :=
  ∃ a, Blk w g t (rowZ N P) ∧ P.length ≤ N ∧ Blk w h 147 #[.slice (some a) (N - P.length) (N - P.length)] ∧ (P.length < N → a = ⟨g, P.length, none⟩) ∧ g ≠ h
theorem WZ.next {w : World} {g h : Nat} {t : TypeId} {N : Nat} {P' : By} {u : Value} (hb : Blk w g t (rowZ N P')) (hP : P'.length ≤ N) (hh : Blk w h 147 #[u]) (hgh : g ≠ h) (a : Addr) (m : Nat) (hm : m = N - P'.length) (ha : P'.length < N → a = ⟨g, P'.length, none⟩) :
    WZ (w.setCell ⟨h, 0, none⟩ (.slice (some a) m m)) g h t N P' := by
  subst hm
  exact ⟨a, hb.far hgh _, hP, hh.set_ 0 _, ha, hgh⟩
set_option maxRecDepth 100000 in
set_option maxHeartbeats 4000000 in
theorem wz16 (w : World) (g h : Nat) (t : TypeId) (N : Nat) (P : By) (v : Nat) (hw : WZ w g h t N P) (hP : P.length + 2 ≤ N) (hv : v < 65536) (hN : N ≤ 1000) :
    Calls Tryz.prog 74 #[.pointer (some ⟨h, 0, none⟩), .int .u16 (v : Int)] w fun e w' => e = .returned (.tuple #[]) ∧ WZ w' g h t N (P ++ le 2 v) ∧ Fr [g, h] w w' ∧ w'.heap.size = w.heap.size := by
  obtain ⟨a, hb, -, hh, ha, hgh⟩ := hw
  obtain rfl := ha (by omega)
  have c0 := hh.at_ 0 _ rfl
  have H1 := Lib.hid (put16z w g t N P (N - P.length) (N - P.length) v hb (by omega) (by omega) (by omega))
  have i1 : (2 : Int) ≤ ((N - P.length : Nat) : Int) := by omega
  have HH := Lib.hid hh
  obtain ⟨k, hk⟩ : ∃ k, P.length = k := ⟨_, rfl⟩
  have HK := Lib.hid hk
  obtain ⟨n, hn⟩ : ∃ n, N - k = n := ⟨_, rfl⟩
  have HN := Lib.hid hn
  rw [hk] at H1 c0 i1
  rw [hn] at H1 c0 i1
  clear hh hk hn hb ha
  go_enter Tryz.func74, Tryz.ntmps74
  go_wp2_with fail
  refine H1.out.mono ?_
  rintro e w1 ⟨rfl, b1, f1, z1⟩
  have hh1 : Blk w1 h 147 _ := HH.out.fr f1 (by simp; exact hgh.symm)
  rw [HK.out, HN.out] at hh1
  have d0 := hh1.at_ 0 _ rfl
  have y0 := hh1.frozen 0
  have HH1 := Lib.hid hh1
  clear hh1 c0
  go_wp2_with fail
  clear d0 y0
  all_goals go_end0
  all_goals have hl : (P ++ le 2 v).length = k + 2 := by rw [List.length_append, le_length, HK.out]
  · refine ⟨rfl, WZ.next b1 (by have := HN.out; omega) HH1.out hgh _ _ (by have := HN.out; omega) (fun hlt => ?_), (f1.mono (by simp)).setCell (.inl (by simp)) _, by simp [World.setCell]; omega⟩
    have := HN.out
    omega
  · exact ⟨rfl, WZ.next b1 (by have := HN.out; omega) HH1.out hgh _ _ (by have := HN.out; omega) (fun _ => by rw [hl]), (f1.mono (by simp)).setCell (.inl (by simp)) _, by simp [World.setCell]; omega⟩
set_option maxRecDepth 100000 in
set_option maxHeartbeats 4000000 in
theorem wz32 (w : World) (g h : Nat) (t : TypeId) (N : Nat) (P : By) (v : Nat) (hw : WZ w g h t N P) (hP : P.length + 4 ≤ N) (hv : v < 4294967296) (hN : N ≤ 1000) :
    Calls Tryz.prog 76 #[.pointer (some ⟨h, 0, none⟩), .int .u32 (v : Int)] w fun e w' => e = .returned (.tuple #[]) ∧ WZ w' g h t N (P ++ le 4 v) ∧ Fr [g, h] w w' ∧ w'.heap.size = w.heap.size := by
  obtain ⟨a, hb, -, hh, ha, hgh⟩ := hw
  obtain rfl := ha (by omega)
  have c0 := hh.at_ 0 _ rfl
  have H1 := Lib.hid (put32z w g t N P (N - P.length) v hb (by omega) (by omega) (by omega))
  have i1 : (4 : Int) ≤ ((N - P.length : Nat) : Int) := by omega
  have HH := Lib.hid hh
  obtain ⟨k, hk⟩ : ∃ k, P.length = k := ⟨_, rfl⟩
  have HK := Lib.hid hk
  obtain ⟨n, hn⟩ : ∃ n, N - k = n := ⟨_, rfl⟩
  have HN := Lib.hid hn
  rw [hk] at H1 c0 i1
  rw [hn] at H1 c0 i1
  clear hh hk hn hb ha
  go_enter Tryz.func76, Tryz.ntmps76
  go_wp2_with fail
  refine H1.out.mono ?_
  rintro e w1 ⟨rfl, b1, f1, z1⟩
  have hh1 : Blk w1 h 147 _ := HH.out.fr f1 (by simp; exact hgh.symm)
  rw [HK.out, HN.out] at hh1
  have d0 := hh1.at_ 0 _ rfl
  have y0 := hh1.frozen 0
  have HH1 := Lib.hid hh1
  clear hh1 c0
  go_wp2_with fail
  clear d0 y0
  all_goals go_end0
  all_goals have hl : (P ++ le 4 v).length = k + 4 := by rw [List.length_append, le_length, HK.out]
  · refine ⟨rfl, WZ.next b1 (by have := HN.out; omega) HH1.out hgh _ _ (by have := HN.out; omega) (fun hlt => ?_), (f1.mono (by simp)).setCell (.inl (by simp)) _, by simp [World.setCell]; omega⟩
    have := HN.out
    omega
  · exact ⟨rfl, WZ.next b1 (by have := HN.out; omega) HH1.out hgh _ _ (by have := HN.out; omega) (fun _ => by rw [hl]), (f1.mono (by simp)).setCell (.inl (by simp)) _, by simp [World.setCell]; omega⟩
/-- Some bytes are passed over: they are zeros. -/
theorem WZ.skip {w : World} {g h : Nat} {t : TypeId} {N : Nat} {P : By} (hw : WZ w g h t N P) (m : Nat) (hm : P.length + m ≤ N) (a : Addr) (n : Nat) (hn : n = N - P.length - m) (ha : P.length + m < N → a = ⟨g, P.length + m, none⟩) :
    WZ (w.setCell ⟨h, 0, none⟩ (.slice (some a) n n)) g h t N (P ++ List.replicate m 0) := by
  obtain ⟨a0, hb, -, hh, -, hgh⟩ := hw
  rw [← rowZ_skip m hm] at hb
  exact WZ.next hb (by simp; exact hm) hh hgh a n (by simp; omega) (by simp; exact ha)
end Go.Proofs.YtalgnjkdoaaacaaGreatDoor

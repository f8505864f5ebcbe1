/- The writers within a file's writer. -/
import Derived.Test.YtalgnjkdoaaacaaGreatDoorQeh
set_option linter.unusedVariables false
set_option linter.unusedSimpArgs false
namespace Go.Proofs.YtalgnjkdoaaacaaGreatDoor
open Go Go.RowKit
open Zp
/-- What a write through the inner counting writer leaves. -/
def CcW (w : World) (base cw bw bf sb : Nat) (own : Option Nat) (T l : By) (cc n : Nat) (e : Ending) (w' : World) : Prop :=
  ∃ own', e = .returned (.tuple #[.int .i64 (l.length : Int), .nilIface]) ∧ CW w' base cw bw bf sb own' (T ++ l) ∧ OwnN w own own' ∧ Fr (cc :: cwS cw bw bf sb own) w w' ∧ Blk w' cc 130 #[.iface 126 (.pointer (some ⟨cw, 0, none⟩)), .int .i64 ((n + l.length : Nat) : Int)]
theorem CW.offC {w : World} {base cw bw bf sb : Nat} {own : Option Nat} {T : By} (hC : CW w base cw bw bf sb own T) {x : Nat} {cs : Array Value} (hb : Blk w x 130 cs) (hne : x ≠ cw) : Off x cw bw bf sb own := by
  have key : x ∉ cwS cw bw bf sb own := fun hm => by
    obtain ⟨t, cs', hb', hk⟩ := hC.typ hm
    rcases hk with ⟨-, k⟩ | ⟨k, -⟩ | ⟨k, -⟩ | ⟨k, -⟩
    · exact hne k
    all_goals exact hb.ne_ hb' (by rw [k]; decide) rfl
  simp only [cwS, List.mem_cons, Option.mem_toList, not_or] at key
  exact ⟨key.1, key.2.1, key.2.2.1, key.2.2.2.1, key.2.2.2.2⟩
set_option maxRecDepth 100000 in
set_option maxHeartbeats 4000000 in
theorem ccWrite (w : World) (base cw bw bf sb : Nat) (own : Option Nat) (T l : By) (cc n gs o c : Nat) (a : Option Addr) (hcc : Blk w cc 130 #[.iface 126 (.pointer (some ⟨cw, 0, none⟩)), .int .i64 (n : Int)]) (hne : cc ≠ cw) (h : CW w base cw bw bf sb own T) (hT : T.length + l.length ≤ 4000000000) (hn : n + l.length ≤ 4000000000)
    (ha : l = [] ∨ (a = some ⟨gs, o, none⟩ ∧ Rd w gs o l ∧ gs < w.heap.size ∧ Off gs cw bw bf sb own ∧ l.length ≤ c ∧ c ≤ 9223372036854775807)) :
    Calls Tryz.prog 95 #[.pointer (some ⟨cc, 0, none⟩), .slice a l.length c] w (CcW w base cw bw bf sb own T l cc n) := by
  have HB := Lib.hid (cwWrite w base cw bw bf sb own T l gs o c a h hT ha)
  have hoc := h.offC hcc hne
  have c0 := hcc.at_ 0 (.iface 126 (.pointer (some ⟨cw, 0, none⟩))) rfl
  have HCC := Lib.hid hcc
  have HOC := Lib.hid hoc
  have HC := Lib.hid h
  obtain ⟨L, hL⟩ : ∃ L, l.length = L := ⟨_, rfl⟩
  have HL := Lib.hid hL
  rw [hL] at HB hT hn ⊢
  clear h hcc hoc ha hL
  go_enter Tryz.func95, Tryz.ntmps95
  go_wp2_with fail
  refine HB.out.mono ?_
  rintro e w1 ⟨own', rfl, hc1, ho1, hf1⟩
  have hb2 := HCC.out.fr hf1 HOC.out.not
  have d1 := hb2.at_ 1 (.int .i64 (n : Int)) rfl
  have z1 := hb2.frozen 1
  have HC1 := Lib.hid hc1
  have HO1 := Lib.hid ho1
  have HF1 := Lib.hid hf1
  have HB2 := Lib.hid hb2
  rw [HL.out]
  clear hc1 ho1 hf1 hb2 c0
  go_wp2_with fail
  go_ret2
  have hfs : Fr [cc] w1 (w1.setCell ⟨cc, 1, none⟩ (.int .i64 ((n : Int) + (L : Int)))) := (Fr.refl _ _).setCell (.inl (by simp)) _
  have hoc1 := HC1.out.offC HB2.out hne
  refine ⟨own', by rw [HL.out]; rfl, HC1.out.fr hfs (by simp; exact fun e => hoc1.1 e.symm) (by simp; exact fun e => hoc1.2.1 e.symm) (by simp; exact fun e => hoc1.2.2.1 e.symm) (by simp; exact fun e => hoc1.2.2.2.1 e.symm) (fun g hg => by simp; exact fun e => hoc1.2.2.2.2 (by rw [hg, e])), HO1.out, ?_, ?_⟩
  · exact (HF1.out.mono (S' := cc :: cwS cw bw bf sb own) (fun s hs => .inl (List.mem_cons_of_mem _ hs))).trans hfs (fun s hs => .inl (by simp at hs; simp [hs]))
  · rw [HL.out, Int.natCast_add]
    exact HB2.out.set_ 1 (.int .i64 ((n : Int) + (L : Int)))
end Go.Proofs.YtalgnjkdoaaacaaGreatDoor

/- The method of a nopCloser that its writer has. -/
namespace Go.Proofs.YtalgnjkdoaaacaaGreatDoor
open Go Go.RowKit
open Zp
theorem ncInfo : (Tryz.prog.info? 271).bind (fun i => (i.methods.find? (·.name == "Write")).map (fun m => (m.path.toList, m.func))) = some ([{ struct := 273, index := 0, deref := true }], none) := by kernel_rfl
theorem cwMethod (k : Nat) (w : World) (cc : Nat) : (method (k + 1) 126 (.pointer (some ⟨cc, 0, none⟩)) "Write").run Tryz.prog w = .ok (95, .pointer (some ⟨cc, 0, none⟩)) w := by kernel_rfl
theorem ncMethod (k : Nat) (w : World) (nc cc : Nat) (h : w.cell? ⟨nc, 0, none⟩ = some (.iface 126 (.pointer (some ⟨cc, 0, none⟩)))) : (method (k + 2) 271 (.pointer (some ⟨nc, 0, none⟩)) "Write").run Tryz.prog w = .ok (95, .pointer (some ⟨cc, 0, none⟩)) w := by
  obtain ⟨i, hi, h1⟩ := Option.bind_eq_some_iff.1 ncInfo
  obtain ⟨m, hm, h2⟩ := Option.map_eq_some_iff.1 h1
  simp only [Prod.mk.injEq] at h2
  obtain ⟨h3, h4⟩ := h2
  have hc := cwMethod k w cc
  unfold method
  have hp : (program).run Tryz.prog w = .ok Tryz.prog w := rfl
  simp only [Sem.run_bind, typeInfo, hp, Result.andThen_ok, hi, Sem.run_pure, hm, h3, h4, follow, run_underlying Tryz.underlying273]
  have hiw : (isAgg 101).run Tryz.prog w = .ok false w := by kernel_rfl
  simp [Place.get, asAddr, fieldPlace, loadVar, hiw, h, hc, Result.andThen]
  rw [show ((⟨nc, 0, none⟩ : Addr).add 0) = ⟨nc, 0, none⟩ from rfl, h]
  exact hc
end Go.Proofs.YtalgnjkdoaaacaaGreatDoor

/- The outer counting writer of a file's writer. -/
namespace Go.Proofs.YtalgnjkdoaaacaaGreatDoor
open Go Go.RowKit
open Zp
/-- What a write through the outer counting writer leaves. -/
def RcW (w : World) (base cw bw bf sb : Nat) (own : Option Nat) (T l : By) (rc nc cc n : Nat) (e : Ending) (w' : World) : Prop :=
  ∃ own', e = .returned (.tuple #[.int .i64 (l.length : Int), .nilIface]) ∧ CW w' base cw bw bf sb own' (T ++ l) ∧ OwnN w own own' ∧ Fr (rc :: cc :: cwS cw bw bf sb own) w w' ∧ Blk w' cc 130 #[.iface 126 (.pointer (some ⟨cw, 0, none⟩)), .int .i64 ((n + l.length : Nat) : Int)] ∧
    Blk w' rc 130 #[.iface 271 (.pointer (some ⟨nc, 0, none⟩)), .int .i64 ((n + l.length : Nat) : Int)]
set_option maxRecDepth 100000 in
set_option maxHeartbeats 4000000 in
theorem rcWrite (w : World) (base cw bw bf sb : Nat) (own : Option Nat) (T l : By) (rc nc cc n gs o c : Nat) (a : Option Addr) (hrc : Blk w rc 130 #[.iface 271 (.pointer (some ⟨nc, 0, none⟩)), .int .i64 (n : Int)]) (hnc : Blk w nc 273 #[.iface 126 (.pointer (some ⟨cc, 0, none⟩))]) (hcc : Blk w cc 130 #[.iface 126 (.pointer (some ⟨cw, 0, none⟩)), .int .i64 (n : Int)]) (hne : cc ≠ cw) (hne2 : rc ≠ cw) (hne3 : rc ≠ cc) (h : CW w base cw bw bf sb own T) (hT : T.length + l.length ≤ 4000000000) (hn : n + l.length ≤ 4000000000)
    (ha : l = [] ∨ (a = some ⟨gs, o, none⟩ ∧ Rd w gs o l ∧ gs < w.heap.size ∧ Off gs cw bw bf sb own ∧ l.length ≤ c ∧ c ≤ 9223372036854775807)) :
    Calls Tryz.prog 95 #[.pointer (some ⟨rc, 0, none⟩), .slice a l.length c] w (RcW w base cw bw bf sb own T l rc nc cc n) := by
  have HB := Lib.hid (ccWrite w base cw bw bf sb own T l cc n gs o c a hcc hne h hT hn ha)
  have hoc := h.offC hrc hne2
  have c0 := hrc.at_ 0 (.iface 271 (.pointer (some ⟨nc, 0, none⟩))) rfl
  have n0 := hnc.at_ 0 (.iface 126 (.pointer (some ⟨cc, 0, none⟩))) rfl
  have hmt := ncMethod 450 w nc cc n0
  have HRC := Lib.hid hrc
  have HOC := Lib.hid hoc
  have HC := Lib.hid h
  obtain ⟨L, hL⟩ : ∃ L, l.length = L := ⟨_, rfl⟩
  have HL := Lib.hid hL
  rw [hL] at HB hT hn ⊢
  clear h hcc hrc hnc hoc ha hL
  go_enter Tryz.func95, Tryz.ntmps95
  go_wp2_with fail
  refine HB.out.mono ?_
  rintro e w1 ⟨own', rfl, hc1, ho1, hf1, hcc1⟩
  have hb2 := HRC.out.fr hf1 (by simp only [List.mem_cons, not_or]; exact ⟨hne3, by have := HOC.out.not; simp only [cwS, List.mem_cons, not_or] at this; exact this⟩)
  have d1 := hb2.at_ 1 (.int .i64 (n : Int)) rfl
  have z1 := hb2.frozen 1
  have HC1 := Lib.hid hc1
  have HO1 := Lib.hid ho1
  have HF1 := Lib.hid hf1
  have HB2 := Lib.hid hb2
  have HCC1 := Lib.hid hcc1
  rw [HL.out]
  clear hc1 ho1 hf1 hb2 hcc1 c0 n0 hmt
  go_wp2_with fail
  go_ret2
  have hfs : Fr [rc] w1 (w1.setCell ⟨rc, 1, none⟩ (.int .i64 ((n : Int) + (L : Int)))) := (Fr.refl _ _).setCell (.inl (by simp)) _
  have hoc1 := HC1.out.offC HB2.out hne2
  refine ⟨own', by first | rfl | (rw [HL.out]; rfl) | (rw [HL.out]), HC1.out.fr hfs (by simp; exact fun e => hoc1.1 e.symm) (by simp; exact fun e => hoc1.2.1 e.symm) (by simp; exact fun e => hoc1.2.2.1 e.symm) (by simp; exact fun e => hoc1.2.2.2.1 e.symm) (fun g hg => by simp; exact fun e => hoc1.2.2.2.2 (by rw [hg, e])), HO1.out, ?_, HCC1.out.fr hfs (by simp; exact fun e => hne3 e.symm), ?_⟩
  · exact (HF1.out.mono (S' := rc :: cc :: cwS cw bw bf sb own) (fun s hs => .inl (List.mem_cons_of_mem _ hs))).trans hfs (fun s hs => .inl (by simp at hs; simp [hs]))
  · rw [HL.out, Int.natCast_add]
    exact HB2.out.set_ 1 (.int .i64 ((n : Int) + (L : Int)))
end Go.Proofs.YtalgnjkdoaaacaaGreatDoor

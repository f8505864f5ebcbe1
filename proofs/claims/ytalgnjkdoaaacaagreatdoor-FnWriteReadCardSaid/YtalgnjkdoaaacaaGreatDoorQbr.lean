/- bufio.Reader.Read. -/
import Derived.Test.YtalgnjkdoaaacaaGreatDoorQrb
import Derived.IntWalk
import Derived.StillTailTactics
import Derived.Deep.Cut
import Derived.Deep.CutRange
import Derived.Deep.DeepCutAuto
set_option linter.unusedVariables false
set_option linter.unusedSimpArgs false
namespace Go.Proofs.YtalgnjkdoaaacaaGreatDoor
open Go Go.RowKit
set_option maxRecDepth 100000 in
set_option maxHeartbeats 4000000 in
theorem bufRead_end (E : Errs) (q gb b r g o n c rdn wn off : Nat) (lb lr : Int) (s : ByteArray) (cur0 : Array Value) (w : World) (hE : Env E w) (hB : BufS w q gb b r s s.size rdn wn off lb lr cur0) (_hn : 0 < n)
    (h4 : 4096 ≤ n) :
    Calls Tryz.prog 218 #[.pointer (some ⟨q, 0, none⟩), .slice (some ⟨g, o, none⟩) n c] w fun e w' =>
      e = .returned (.tuple #[.int .i64 0, errv E.eof]) ∧ BufR w' q gb b r s s.size ∧ Fr [q, gb, b] w w' := by
  have h1 := hB.hoff
  have h2 := hB.hle
  have h3 := hB.hrw
  have hrw : rdn = wn := by omega
  have hof : off = s.size := by omega
  subst hrw
  have hq := hB.hq
  have c0 := hq.at_ 0 (.slice (some ⟨gb, 0, none⟩) 4096 4096) rfl
  have c1 := hq.at_ 1 (secRd b) rfl
  have c2 := hq.at_ 2 (.int .i64 (rdn : Int)) rfl
  have c3 := hq.at_ 3 (.int .i64 (rdn : Int)) rfl
  have c4 := hq.at_ 4 .nilIface rfl
  have f2 := hq.frozen 2
  have f3 := hq.frozen 3
  have f4 := hq.frozen 4
  have H := Lib.hid (fun m v => secRead_end E b v (strRd r) 0 off s.size s.size (w.drewN m) (hE.drewN m) hB.hb (by omega))
  have HB := Lib.hid hB
  have HR := Lib.hid (fun W a => bufReadErr_any q gb b rdn rdn (some a) lb lr W)
  clear hB hq h1 h2 h3 hE hof
  go_enter Tryz.func218, Tryz.ntmps218
  go_wp2_with fail
  go_quiet (fail)
  go_wp2_with fail
  refine (H.out _ _).mono ?_
  rintro e w1 ⟨rfl, m, rfl⟩
  go_wp2_with fail
  refine (HR.out _ E.eof (Blk.drewN (HB.out.hq.set_ 4 _) _)).mono ?_
  rintro e w2 ⟨rfl, rfl⟩
  go_wp2_with fail
  go_ret2
  have hf : Fr [q] w (((w.setCell ⟨q, 4, none⟩ (errv E.eof)).setCell ⟨q, 4, none⟩ .nilIface).drewN (nq + m)) := (((Fr.refl _ w).setCell (.inl (by simp)) _).setCell (.inl (by simp)) _).drewN _
  exact ⟨rfl, ⟨_, _, _, _, _, _, HB.out.adv (k := 0) (by omega) hf (Blk.drewN ((HB.out.hq.set_ 4 _).set_ 4 _) _)⟩, hf.mono (by simp)⟩
set_option maxRecDepth 100000 in
set_option maxHeartbeats 4000000 in
theorem bufRead_end' (E : Errs) (q gb b r g o n c rdn wn off : Nat) (lb lr : Int) (s : ByteArray) (cur0 : Array Value) (w : World) (hE : Env E w) (hB : BufS w q gb b r s s.size rdn wn off lb lr cur0) (_hn : 0 < n)
    (h4 : n < 4096) :
    Calls Tryz.prog 218 #[.pointer (some ⟨q, 0, none⟩), .slice (some ⟨g, o, none⟩) n c] w fun e w' =>
      e = .returned (.tuple #[.int .i64 0, errv E.eof]) ∧ BufR w' q gb b r s s.size ∧ Fr [q, gb, b] w w' := by
  have h1 := hB.hoff
  have h2 := hB.hle
  have h3 := hB.hrw
  have hrw : rdn = wn := by omega
  have hof : off = s.size := by omega
  subst hrw
  have hq := hB.hq
  have c0 := hq.at_ 0 (.slice (some ⟨gb, 0, none⟩) 4096 4096) rfl
  have c1 := hq.at_ 1 (secRd b) rfl
  have c2 := hq.at_ 2 (.int .i64 (rdn : Int)) rfl
  have c3 := hq.at_ 3 (.int .i64 (rdn : Int)) rfl
  have c4 := hq.at_ 4 .nilIface rfl
  have f2 := hq.frozen 2
  have f3 := hq.frozen 3
  have f4 := hq.frozen 4
  have d0 := ((hq.set_ 2 (.int .i64 0)).set_ 3 (.int .i64 0)).at_ 0 (.slice (some ⟨gb, 0, none⟩) 4096 4096) rfl
  have d1 := ((hq.set_ 2 (.int .i64 0)).set_ 3 (.int .i64 0)).at_ 1 (secRd b) rfl
  have d2 := fun v => (((hq.set_ 2 (.int .i64 0)).set_ 3 (.int .i64 0)).set_ 4 v).at_ 0 (.slice (some ⟨gb, 0, none⟩) 4096 4096) rfl
  have d3 := fun v => (((hq.set_ 2 (.int .i64 0)).set_ 3 (.int .i64 0)).set_ 4 v).at_ 1 (secRd b) rfl
  have H := Lib.hid (fun m v => secRead_end E b v (strRd r) 0 off s.size s.size (((w.setCell ⟨q, 2, none⟩ (.int .i64 0)).setCell ⟨q, 3, none⟩ (.int .i64 0)).drewN m) ((hE.fr (S := [q]) (((Fr.refl _ w).setCell (.inl (by simp)) _).setCell (.inl (by simp)) _) (by simpa using hB.h18.1) (by have := hB.hq.lt; have := hB.h18; omega)).drewN m) (Blk.drewN (Blk.far (Blk.far hB.hb hB.ne_b.symm _) hB.ne_b.symm _) _) (by omega))
  have HB := Lib.hid hB
  have HR := Lib.hid (fun W a => bufReadErr_any q gb b 0 0 (some a) lb lr W)
  clear hB hq h1 h2 h3 hE hof
  go_enter Tryz.func218, Tryz.ntmps218
  go_wp2_with fail
  go_quiet (fail)
  go_wp2_with fail
  go_region_held3 (fun w' => w'.cell? ⟨q, 0, none⟩ = some (.slice (some ⟨gb, 0, none⟩) 4096 4096) ∧ w'.cell? ⟨q, 1, none⟩ = some (secRd b)) (go_keep) ((go_at_call 195; refine (H.out _ _).mono ?_; rintro e w1 ⟨rfl, m, rfl⟩))
  go_wp2_with fail
  have hq4 := fun v => ((HB.out.hq.set_ 2 (.int .i64 0)).set_ 3 (.int .i64 0)).set_ 4 v
  refine (HR.out _ E.eof (Blk.drewN (hq4 _) _)).mono ?_
  rintro e w2 ⟨rfl, rfl⟩
  go_wp2_with fail
  go_ret2
  have hf : Fr [q, gb, b] w (((((w.setCell ⟨q, 2, none⟩ (.int .i64 0)).setCell ⟨q, 3, none⟩ (.int .i64 0)).setCell ⟨q, 4, none⟩ (errv E.eof)).setCell ⟨q, 4, none⟩ .nilIface).drewN (nq + 1 + m)) :=
    (((((Fr.refl _ w).setCell (.inl (by simp)) _).setCell (.inl (by simp)) _).setCell (.inl (by simp)) _).setCell (.inl (by simp)) _).drewN _
  have hgb := ((((HB.out.hgb.far (p := ⟨q, 2, none⟩) HB.out.ne_gb.symm (.int .i64 0)).far (p := ⟨q, 3, none⟩) HB.out.ne_gb.symm (.int .i64 0)).far (p := ⟨q, 4, none⟩) HB.out.ne_gb.symm (errv E.eof)).far (p := ⟨q, 4, none⟩) HB.out.ne_gb.symm .nilIface).drewN (nq + 1 + m)
  have hbb := ((((Blk.far HB.out.hb (p := ⟨q, 2, none⟩) HB.out.ne_b.symm (.int .i64 0)).far (p := ⟨q, 3, none⟩) HB.out.ne_b.symm (.int .i64 0)).far (p := ⟨q, 4, none⟩) HB.out.ne_b.symm (errv E.eof)).far (p := ⟨q, 4, none⟩) HB.out.ne_b.symm .nilIface).drewN (nq + 1 + m)
  refine ⟨rfl, ⟨_, _, _, _, _, _, HB.out.fill (k := 0) (by omega) HB.out.hle hf (Blk.drewN ((hq4 _).set_ 4 _) _) (by rw [List.take_zero, spl_nil]; exact hgb) hbb⟩, hf⟩
/-- What a Read leaves that has read k bytes. -/
structure ReadK (q gb b r g o : Nat) (t : TypeId) (s : ByteArray) (pos k : Nat) (cur : Array Value) (w w' : World) : Prop where
  dst : Blk w' g t (spl cur o ((s.data.toList.drop pos).take k))
  buf : BufR w' q gb b r s (pos + k)
  fr : Fr [q, gb, b, g] w w'
/-- What is known ahead of the copy out of the buffer. -/
structure Tail (q gb b r g : Nat) (t : TypeId) (s : ByteArray) (pos : Nat) (cur : Array Value) (w w' : World) : Prop where
  buf : ∃ rdn wn off lb lr cur', rdn < wn ∧ BufS w' q gb b r s pos rdn wn off lb lr cur'
  dst : Blk w' g t cur
  fr : Fr [q, gb, b] w w'
theorem Tail.filled {w : World} {q gb b r g : Nat} {s : ByteArray} {pos rdn off k : Nat} {lb lr : Int} {cur0 cur : Array Value} {t : TypeId} (h : BufS w q gb b r s pos rdn rdn off lb lr cur0) (hg : Blk w g t cur)
    (hne : g ≠ q ∧ g ≠ gb ∧ g ≠ b ∧ g ≠ r) (hk0 : 0 < k) (hk4 : k ≤ 4096) (hks : off + k ≤ s.size) (m : Nat) :
    Tail q gb b r g t s pos cur w (((((((w.setCell ⟨q, 2, none⟩ (.int .i64 0)).setCell ⟨q, 3, none⟩ (.int .i64 0)).setRow gb (spl cur0 0 ((s.data.toList.drop off).take k))).setCell ⟨b, 2, none⟩ (.int .i64 ((off + k : Nat) : Int))).setCell ⟨q, 4, none⟩ .nilIface).setCell ⟨q, 3, none⟩ (.int .i64 (k : Int))).drewN m) := by
  obtain ⟨g1, g2, g3, _⟩ := hne
  have n1 := h.ne_gb
  have n2 := h.ne_b
  have n4 := h.gb_b
  have hf : Fr [q, gb, b] w (((((((w.setCell ⟨q, 2, none⟩ (.int .i64 0)).setCell ⟨q, 3, none⟩ (.int .i64 0)).setRow gb (spl cur0 0 ((s.data.toList.drop off).take k))).setCell ⟨b, 2, none⟩ (.int .i64 ((off + k : Nat) : Int))).setCell ⟨q, 4, none⟩ .nilIface).setCell ⟨q, 3, none⟩ (.int .i64 (k : Int))).drewN m) :=
    (((((((Fr.refl _ w).setCell (.inl (by simp)) _).setCell (.inl (by simp)) _).setRow (.inl (by simp)) _).setCell (.inl (by simp)) _).setCell (.inl (by simp)) _).setCell (.inl (by simp)) _).drewN _
  refine ⟨⟨0, k, off + k, lb, lr, _, hk0, h.fill hk4 hks hf ?_ ?_ ?_⟩, ?_, hf⟩
  · exact Blk.drewN ((((((h.hq.set_ 2 _).set_ 3 _).rowFar n1 _).far (p := ⟨b, 2, none⟩) n2 _).set_ 4 _).set_ 3 _) _
  · exact Blk.drewN ((((((h.hgb.far (p := ⟨q, 2, none⟩) n1.symm _).far (p := ⟨q, 3, none⟩) n1.symm _).row _).far (p := ⟨b, 2, none⟩) n4 _).far (p := ⟨q, 4, none⟩) n1.symm _).far (p := ⟨q, 3, none⟩) n1.symm _) _
  · exact Blk.drewN ((((((Blk.far h.hb (p := ⟨q, 2, none⟩) n2.symm _).far (p := ⟨q, 3, none⟩) n2.symm _).rowFar n4.symm _).set_ 2 _).far (p := ⟨q, 4, none⟩) n2.symm _).far (p := ⟨q, 3, none⟩) n2.symm _) _
  · exact Blk.drewN ((((((hg.far (p := ⟨q, 2, none⟩) g1 _).far (p := ⟨q, 3, none⟩) g1 _).rowFar g2 _).far (p := ⟨b, 2, none⟩) g3 _).far (p := ⟨q, 4, none⟩) g1 _).far (p := ⟨q, 3, none⟩) g1 _) _
theorem ReadK.done {w wc : World} {q gb b r g o : Nat} {s : ByteArray} {pos rd2 wn2 of2 k : Nat} {lb lr l5 : Int} {cur2 cur : Array Value} {t : TypeId} (h : BufS wc q gb b r s pos rd2 wn2 of2 lb lr cur2) (hg : Blk wc g t cur) (hf : Fr [q, gb, b] w wc)
    (hne : g ≠ q ∧ g ≠ gb ∧ g ≠ b ∧ g ≠ r) (hk : k ≤ wn2 - rd2) :
    ReadK q gb b r g o t s pos k cur w (((((wc.setRow g (spl cur o ((s.data.toList.drop pos).take k))).setCell ⟨q, 2, none⟩ (.int .i64 ((rd2 : Int) + (k : Int)))).drew.setCell ⟨q, 5, none⟩ (.int .i64 l5)).setCell ⟨q, 6, none⟩ (.int .i64 (-1))).drew) := by
  obtain ⟨g1, g2, g3, g4⟩ := hne
  have h1 := h.fr (S := [g]) ((Fr.refl [g] wc).setRow (g := g) (.inl (by simp)) (spl cur o ((s.data.toList.drop pos).take k))) (by simpa using g1.symm) (by simpa using g2.symm) (by simpa using g3.symm) (by simpa using g4.symm)
  refine ⟨?_, ⟨_, _, _, _, _, _, h1.adv (k := k) (lb' := l5) (lr' := -1) hk ?_ ?_⟩, ?_⟩
  · exact Blk.drew ((((hg.row _).far (p := ⟨q, 2, none⟩) g1 _).drew.far (p := ⟨q, 5, none⟩) g1 _).far (p := ⟨q, 6, none⟩) g1 _)
  · exact (((((Fr.refl [q] _).setCell (.inl (by simp)) _).drew).setCell (.inl (by simp)) _).setCell (.inl (by simp)) _).drew
  · exact Blk.drew (((h1.hq.set_ 2 _).drew.set_ 5 _).set_ 6 _)
  · have h0 : Fr [q, gb, b, g] w wc := hf.mono (by simp)
    exact ((((((h0.setRow (.inl (by simp)) _).setCell (.inl (by simp)) _).drew).setCell (.inl (by simp)) _).setCell (.inl (by simp)) _)).drew
set_option maxRecDepth 100000 in
set_option maxHeartbeats 4000000 in
theorem bufRead_part (q gb b r g o n c rdn wn off pos : Nat) (t : TypeId) (lb lr : Int) (s : ByteArray) (cur0 cur : Array Value) (w : World) (hB : BufS w q gb b r s pos rdn wn off lb lr cur0) (hn : 0 < n)
    (hg : Blk w g t cur) (hfit : o + n ≤ cur.size) (hne : g ≠ q ∧ g ≠ gb ∧ g ≠ b ∧ g ≠ r) (h4 : n < 4096 ∨ rdn < wn) (hp : pos < s.size) (hs : s.size ≤ 4000000000) :
    Calls Tryz.prog 218 #[.pointer (some ⟨q, 0, none⟩), .slice (some ⟨g, o, none⟩) n c] w fun e w' =>
      ∃ k, (0 < k ∧ k ≤ n ∧ pos + k ≤ s.size) ∧ e = .returned (.tuple #[.int .i64 (k : Int), .nilIface]) ∧ ReadK q gb b r g o t s pos k cur w w' := by
  have hq := hB.hq
  have c0 := hq.at_ 0 (.slice (some ⟨gb, 0, none⟩) 4096 4096) rfl
  have c1 := hq.at_ 1 (secRd b) rfl
  have c2 := hq.at_ 2 (.int .i64 (rdn : Int)) rfl
  have c3 := hq.at_ 3 (.int .i64 (wn : Int)) rfl
  have c4 := hq.at_ 4 .nilIface rfl
  have f2 := hq.frozen 2
  have f3 := hq.frozen 3
  have f4 := hq.frozen 4
  obtain ⟨k, hk⟩ : ∃ k, k = min 4096 (s.size - off) := ⟨_, rfl⟩
  have hoff := hB.hoff
  have hle := hB.hle
  have hrw := hB.hrw
  have hg1 := hne.1
  have hg2 := hne.2.1
  have hg3 := hne.2.2.1
  have hg4 := hne.2.2.2
  have n1 := hB.ne_gb
  have n2 := hB.ne_b
  have n3 := hB.ne_r
  have n4 := hB.gb_b
  have n5 := hB.gb_r
  have H := Lib.hid (fun (m : Nat) (h : off < s.size) => secRead_data b r gb 0 4096 4096 0 off s.size s.size k s cur0 5 (((w.setCell ⟨q, 2, none⟩ (.int .i64 0)).setCell ⟨q, 3, none⟩ (.int .i64 0)).drewN m)
    (Blk.drewN (Blk.far (Blk.far hB.hb n2.symm _) n2.symm _) _) (Blk.at_ (Blk.drewN (Blk.far (Blk.far hB.hr n3.symm _) n3.symm _) _) 0 _ rfl) (Blk.drewN (Blk.far (Blk.far hB.hgb n1.symm _) n1.symm _) _)
    (by decide) (Nat.le_refl _) (by rw [hB.hsize]; decide) h (Nat.le_refl _) hs n4.symm hk)
  have d0 := ((hq.set_ 2 (.int .i64 0)).set_ 3 (.int .i64 0)).at_ 0 (.slice (some ⟨gb, 0, none⟩) 4096 4096) rfl
  have d1 := ((hq.set_ 2 (.int .i64 0)).set_ 3 (.int .i64 0)).at_ 1 (secRd b) rfl
  have hqX := fun X V => (((hq.set_ 2 (.int .i64 0)).set_ 3 (.int .i64 0)).rowFar n1 X).far (p := ⟨b, 2, none⟩) n2 V
  have e0 := fun X V => (hqX X V).at_ 0 (.slice (some ⟨gb, 0, none⟩) 4096 4096) rfl
  have e1 := fun X V => (hqX X V).at_ 1 (secRd b) rfl
  have e3 := fun X V u => ((hqX X V).set_ 4 u).at_ 3 (.int .i64 0) rfl
  have e4 := fun X V => (hqX X V).at_ 4 .nilIface rfl
  have g0 := fun X V u => ((hqX X V).set_ 4 u).at_ 0 (.slice (some ⟨gb, 0, none⟩) 4096 4096) rfl
  have g1 := fun X V u => ((hqX X V).set_ 4 u).at_ 1 (secRd b) rfl
  have z3 := fun X V u => ((hqX X V).set_ 4 u).frozen 3
  have z4 := fun X V => (hqX X V).frozen 4
  have hk0 : off < s.size → 0 < k := by omega
  have hk4 : k ≤ 4096 := by omega
  have hks : off < s.size → off + k ≤ s.size := by omega
  have HB := Lib.hid hB
  have HG := Lib.hid hg
  have HK := Lib.hid hk
  have HX := Lib.hid hqX
  clear hB hq hg hk hqX
  go_enter Tryz.func218, Tryz.ntmps218
  go_wp2_with fail
  go_quiet (fail)
  go_upto_if 23 with fail
  go_cut [4, 5] (fun _ _ wx => Tail q gb b r g t s pos cur w wx)
  case first =>
    by_cases h : rdn = wn
    · subst h
      have ho : off < s.size := by omega
      have h4' : n < 4096 := by omega
      clear h4
      have hk1 := hk0 ho
      clear hk0
      go_wp2_with fail
      go_region_held3 (fun w' => w'.cell? ⟨q, 0, none⟩ = some (.slice (some ⟨gb, 0, none⟩) 4096 4096) ∧ w'.cell? ⟨q, 1, none⟩ = some (secRd b)) (go_keep) ((go_at_call 195; refine (H.out _ ho).mono ?_; rintro e w1 ⟨rfl, m, rfl⟩))
      go_wp2_with fail
      go_meet
      exact Tail.filled HB.out HG.out hne hk1 hk4 (hks ho) _
    · go_wp2_with fail
      go_meet
      exact ⟨⟨_, _, _, _, _, _, by omega, HB.out.fr (S := []) ((Fr.refl [] w).drewN nq) (by simp) (by simp) (by simp) (by simp)⟩, HG.out.drewN _, (Fr.refl _ w).drewN _⟩
  case rest =>
    clear c0 c1 c2 c3 c4 f2 f3 f4 e0 e1 e3 e4 g0 g1 z3 z4 d0 d1
    clear HB HG HX H hk0 hk4 hks HK hle hrw
    obtain ⟨⟨rd2, wn2, of2, lb2, lr2, cur2, hlt, hB⟩, hg, hf⟩ := hcut
    have hq := hB.hq
    have hw4 := hB.hw4
    have hoff := hB.hoff
    have hle := hB.hle
    have c0 := hq.at_ 0 (.slice (some ⟨gb, 0, none⟩) 4096 4096) rfl
    have c2 := hq.at_ 2 (.int .i64 (rd2 : Int)) rfl
    have c3 := hq.at_ 3 (.int .i64 (wn2 : Int)) rfl
    have c5 := hq.at_ 5 (.int .i64 lb2) rfl
    have c6 := hq.at_ 6 (.int .i64 lr2) rfl
    have i1 : (rd2 : Int) ≤ (wn2 : Int) := by omega
    have i2 : (wn2 : Int) ≤ 4096 := by omega
    obtain ⟨k, hk⟩ : ∃ k, k = min n (wn2 - rd2) := ⟨_, rfl⟩
    have hl : ((s.data.toList.drop pos).take k).length = k := by rw [List.length_take, List.length_drop, ← Lib.size_eq]; omega
    have hrd : Rd wc gb rd2 ((s.data.toList.drop pos).take k) := by
      have h3 := hB.hrd
      rw [show (s.data.toList.drop pos).take k = ((s.data.toList.drop pos).take (wn2 - rd2)).take k by rw [List.take_take]; congr 1; omega]
      rw [← List.take_append_drop k ((s.data.toList.drop pos).take (wn2 - rd2))] at h3
      exact h3.left
    have hcp : (Builtin.copy_ #[76, 76] 3 #[.slice (some ⟨g, o, none⟩) n c, .slice (some ⟨gb, rd2, none⟩) (wn2 - rd2) (4096 - rd2)]).run Tryz.prog wc.drew = .ok (.int .i64 (k : Int)) ((wc.setRow g (spl cur o ((s.data.toList.drop pos).take k))).drew) := by
      have := copyRow g o n c gb rd2 (wn2 - rd2) (4096 - rd2) ((s.data.toList.drop pos).take k) cur t wc.drew hg.drew hrd.drew (by rw [hl, hk, Nat.min_comm]) (by rw [hl]; omega)
      rw [hl] at this
      exact this
    have kq := fun X => hq.rowFar (g' := g) hg1.symm X
    have r0 := fun X => (kq X).at_ 0 (.slice (some ⟨gb, 0, none⟩) 4096 4096) rfl
    have r2 := fun X => (kq X).at_ 2 (.int .i64 (rd2 : Int)) rfl
    have r3 := fun X => (kq X).at_ 3 (.int .i64 (wn2 : Int)) rfl
    obtain ⟨bv, hbv⟩ : ∃ bv, ((s.data.toList.drop pos).take k)[k - 1]? = some bv := ⟨_, List.getElem?_eq_getElem (by rw [hl]; omega)⟩
    have hbc : wc.cell? ⟨gb, rd2 + k - 1, none⟩ = some (.int .u8 (bv.toNat : Int)) := by
      have := hrd (k - 1) bv hbv
      rwa [show rd2 + (k - 1) = rd2 + k - 1 by omega] at this
    have kg : ∀ X i, (wc.setRow g X).cell? ⟨gb, i, none⟩ = wc.cell? ⟨gb, i, none⟩ := fun X i => cell_setRow_other wc g X ⟨gb, i, none⟩ hg2.symm
    have z2 := fun X => (kq X).frozen 2
    have ks := fun X v => (kq X).set_ 2 v
    have t0 := fun X v => (ks X v).at_ 0 (.slice (some ⟨gb, 0, none⟩) 4096 4096) rfl
    have t2 := fun X v => (ks X v).at_ 2 v rfl
    have t5 := fun X v => (ks X v).at_ 5 (.int .i64 lb2) rfl
    have t6 := fun X v u => ((ks X v).set_ 5 u).at_ 6 (.int .i64 lr2) rfl
    have t7 := fun X v u => ((ks X v).set_ 5 u).at_ 0 (.slice (some ⟨gb, 0, none⟩) 4096 4096) rfl
    have t8 := fun X v u => ((ks X v).set_ 5 u).at_ 2 v rfl
    have y5 := fun X v => (ks X v).frozen 5
    have y6 := fun X v u => ((ks X v).set_ 5 u).frozen 6
    have tg : ∀ X v, ((wc.setRow g X).setCell ⟨q, 2, none⟩ v).cell? ⟨gb, rd2 + k - 1, none⟩ = some (.int .u8 (bv.toNat : Int)) := fun X v => (World.cell?_setCell_other _ _ ⟨gb, rd2 + k - 1, none⟩ _ (fun e => n1 (congrArg Addr.block e))).trans ((kg X _).trans hbc)
    have tg5 : ∀ X v u, (((wc.setRow g X).setCell ⟨q, 2, none⟩ v).setCell ⟨q, 5, none⟩ u).cell? ⟨gb, rd2 + k - 1, none⟩ = some (.int .u8 (bv.toNat : Int)) := fun X v u => (World.cell?_setCell_other _ _ ⟨gb, rd2 + k - 1, none⟩ _ (fun e => n1 (congrArg Addr.block e))).trans (tg X v)
    have HL := Lib.hid hl
    have HB := Lib.hid hB
    have HG := Lib.hid hg
    have HK := Lib.hid hk
    have KS := Lib.hid ks
    clear hbv ks
    have hk1 : 0 < k := by omega
    have hk2 : k ≤ n := by omega
    have hk3 : k ≤ wn2 - rd2 := by omega
    clear hl hB hg hk hoff hrd kq
    go_wp2_with fail
    go_still_tail 14, (by kernel_rfl)
    change wpList _ _ _ _ _ wc.drew
    go_wp2_with fail
    have F0 : ((wc.setRow g (spl cur o ((s.data.toList.drop pos).take k))).setCell ⟨q, 2, none⟩ (.int .i64 ((rd2 : Int) + (k : Int)))).drew.cell? ⟨q, 0, none⟩ = some (.slice (some ⟨gb, 0, none⟩) 4096 4096) := t0 _ _
    have F2 : ((wc.setRow g (spl cur o ((s.data.toList.drop pos).take k))).setCell ⟨q, 2, none⟩ (.int .i64 ((rd2 : Int) + (k : Int)))).drew.cell? ⟨q, 2, none⟩ = some (.int .i64 ((rd2 : Int) + (k : Int))) := t2 _ _
    have F5 : ((wc.setRow g (spl cur o ((s.data.toList.drop pos).take k))).setCell ⟨q, 2, none⟩ (.int .i64 ((rd2 : Int) + (k : Int)))).drew.cell? ⟨q, 5, none⟩ = some (.int .i64 lb2) := t5 _ _
    have FG : ((wc.setRow g (spl cur o ((s.data.toList.drop pos).take k))).setCell ⟨q, 2, none⟩ (.int .i64 ((rd2 : Int) + (k : Int)))).drew.cell? ⟨gb, rd2 + k - 1, none⟩ = some (.int .u8 (bv.toNat : Int)) := tg _ _
    have FZ : ((wc.setRow g (spl cur o ((s.data.toList.drop pos).take k))).setCell ⟨q, 2, none⟩ (.int .i64 ((rd2 : Int) + (k : Int)))).drew.frozen? ⟨q, 5, none⟩ = false := y5 _ _
    have F6 : ∀ u, (((wc.setRow g (spl cur o ((s.data.toList.drop pos).take k))).setCell ⟨q, 2, none⟩ (.int .i64 ((rd2 : Int) + (k : Int)))).drew.setCell ⟨q, 5, none⟩ u).cell? ⟨q, 6, none⟩ = some (.int .i64 lr2) := t6 _ _
    have FY : ∀ u, (((wc.setRow g (spl cur o ((s.data.toList.drop pos).take k))).setCell ⟨q, 2, none⟩ (.int .i64 ((rd2 : Int) + (k : Int)))).drew.setCell ⟨q, 5, none⟩ u).frozen? ⟨q, 6, none⟩ = false := y6 _ _
    clear t0 t2 t5 tg y5 t6 y6 t7 t8 tg5 r0 r2 r3 kg z2 hcp c0 c2 c3 c5 c6
    generalize hw3 : ((wc.setRow g (spl cur o ((s.data.toList.drop pos).take k))).setCell ⟨q, 2, none⟩ (.int .i64 ((rd2 : Int) + (k : Int)))).drew = w3 at *
    have HW3 := Lib.hid hw3
    clear hw3
    have j1 : (0 : Int) ≤ (rd2 : Int) + (k : Int) - 1 := by omega
    have j2 : (rd2 : Int) + (k : Int) - 1 < 4096 := by omega
    have j4 : ((rd2 : Int) + (k : Int) - 1).toNat = rd2 + k - 1 := by omega
    have j3 : IntKind.i64.wrap ((rd2 : Int) + (k : Int) - 1) = (rd2 : Int) + (k : Int) - 1 := IntWalk.i64_in _ (by omega)
    have j5 : (1 : Int) ≤ (rd2 : Int) + (k : Int) := by omega
    have j8 : (rd2 : Int) + (k : Int) < 4097 := by omega
    go_still_tail 15, (by kernel_rfl)
    change wpList _ _ _ _ _ w3.drew
    go_wp2_with fail
    go_ret2
    refine ⟨k, ⟨hk1, hk2, ?_⟩, rfl, ?_⟩
    · have := HB.out.hoff
      have := HB.out.hle
      omega
    · have := HW3.out
      subst this
      exact ReadK.done HB.out HG.out hf hne hk3
theorem ReadK.direct {w : World} {q gb b r g o : Nat} {s : ByteArray} {rdn off k m' : Nat} {lb lr l5 : Int} {cur2 cur : Array Value} {t : TypeId} (h : BufS w q gb b r s off rdn rdn off lb lr cur2) (hg : Blk w g t cur)
    (hne : g ≠ q ∧ g ≠ gb ∧ g ≠ b ∧ g ≠ r) (hks : off + k ≤ s.size) :
    ReadK q gb b r g o t s off k cur w (((((((w.setRow g (spl cur o ((s.data.toList.drop off).take k))).setCell ⟨b, 2, none⟩ (.int .i64 ((off + k : Nat) : Int))).setCell ⟨q, 4, none⟩ .nilIface).setCell ⟨q, 5, none⟩ (.int .i64 l5)).setCell ⟨q, 6, none⟩ (.int .i64 (-1))).setCell ⟨q, 4, none⟩ .nilIface).drewN m') := by
  obtain ⟨g1, g2, g3, g4⟩ := hne
  have n1 := h.ne_gb
  have n2 := h.ne_b
  have n4 := h.gb_b
  have n5 := h.b_r
  have n6 := h.ne_r
  have hf : Fr [q, b, g] w (((((((w.setRow g (spl cur o ((s.data.toList.drop off).take k))).setCell ⟨b, 2, none⟩ (.int .i64 ((off + k : Nat) : Int))).setCell ⟨q, 4, none⟩ .nilIface).setCell ⟨q, 5, none⟩ (.int .i64 l5)).setCell ⟨q, 6, none⟩ (.int .i64 (-1))).setCell ⟨q, 4, none⟩ .nilIface).drewN m') :=
    (((((((Fr.refl _ w).setRow (.inl (by simp)) _).setCell (.inl (by simp)) _).setCell (.inl (by simp)) _).setCell (.inl (by simp)) _).setCell (.inl (by simp)) _).setCell (.inl (by simp)) _).drewN _
  refine ⟨?_, ⟨rdn, rdn, off + k, l5, -1, cur2, ⟨?_, ?_, ?_, ?_, h.hsize, h.hones, Nat.le_refl _, h.hw4, by omega, hks, ?_, h.h18⟩⟩, hf.mono (by simp)⟩
  · exact Blk.drewN ((((((hg.row _).far (p := ⟨b, 2, none⟩) g3 _).far (p := ⟨q, 4, none⟩) g1 _).far (p := ⟨q, 5, none⟩) g1 _).far (p := ⟨q, 6, none⟩) g1 _).far (p := ⟨q, 4, none⟩) g1 _) _
  · exact Blk.drewN ((((((h.hq.rowFar g1.symm _).far (p := ⟨b, 2, none⟩) n2 _).set_ 4 _).set_ 5 _).set_ 6 _).set_ 4 _) _
  · exact h.hgb.fr hf (by simp; omega)
  · exact Blk.drewN ((((((Blk.rowFar h.hb g3.symm _).set_ 2 _).far (p := ⟨q, 4, none⟩) n2.symm _).far (p := ⟨q, 5, none⟩) n2.symm _).far (p := ⟨q, 6, none⟩) n2.symm _).far (p := ⟨q, 4, none⟩) n2.symm _) _
  · exact Blk.fr h.hr hf (by simp; omega)
  · rw [Nat.sub_self, List.take_zero]; exact Rd.nil_ _ _ _
set_option maxRecDepth 100000 in
set_option maxHeartbeats 4000000 in
theorem bufRead_direct (q gb b r g o n c rdn off : Nat) (t : TypeId) (lb lr : Int) (s : ByteArray) (cur0 cur : Array Value) (w : World) (hB : BufS w q gb b r s off rdn rdn off lb lr cur0)
    (hg : Blk w g t cur) (hfit : o + n ≤ cur.size) (hnc : n ≤ c) (hne : g ≠ q ∧ g ≠ gb ∧ g ≠ b ∧ g ≠ r) (h4 : 4096 ≤ n) (hp : off < s.size) (hs : s.size ≤ 4000000000) :
    Calls Tryz.prog 218 #[.pointer (some ⟨q, 0, none⟩), .slice (some ⟨g, o, none⟩) n c] w fun e w' =>
      ∃ k, (0 < k ∧ k ≤ n ∧ off + k ≤ s.size) ∧ e = .returned (.tuple #[.int .i64 (k : Int), .nilIface]) ∧ ReadK q gb b r g o t s off k cur w w' := by
  have hq := hB.hq
  have c0 := hq.at_ 0 (.slice (some ⟨gb, 0, none⟩) 4096 4096) rfl
  have c1 := hq.at_ 1 (secRd b) rfl
  have c2 := hq.at_ 2 (.int .i64 (rdn : Int)) rfl
  have c3 := hq.at_ 3 (.int .i64 (rdn : Int)) rfl
  have c4 := hq.at_ 4 .nilIface rfl
  obtain ⟨k, hk⟩ : ∃ k, k = min n (s.size - off) := ⟨_, rfl⟩
  have hk1 : 0 < k := by omega
  have hk2 : k ≤ n := by omega
  have hk3 : off + k ≤ s.size := by omega
  have hg1 := hne.1
  have hg3 := hne.2.2.1
  have n2 := hB.ne_b
  have hl : ((s.data.toList.drop off).take k).length = k := by rw [List.length_take, List.length_drop, ← Lib.size_eq]; omega
  have H := Lib.hid (fun (m : Nat) => secRead_data b r g o n c 0 off s.size s.size k s cur t (w.drewN m) (Blk.drewN hB.hb _) (Blk.at_ (Blk.drewN hB.hr _) 0 _ rfl) (hg.drewN m)
    (by omega) hnc hfit hp (Nat.le_refl _) hs hg3.symm hk)
  obtain ⟨bv, hbv⟩ : ∃ bv, ((s.data.toList.drop off).take k)[k - 1]? = some bv := ⟨_, List.getElem?_eq_getElem (by rw [hl]; omega)⟩
  have hqX := fun X V => (hq.rowFar hg1.symm X).far (p := ⟨b, 2, none⟩) n2 V
  have e4 := fun X V => (hqX X V).at_ 4 .nilIface rfl
  have z4 := fun X V => (hqX X V).frozen 4
  have hgX : ∀ V u, Blk (((w.setRow g (spl cur o ((s.data.toList.drop off).take k))).setCell ⟨b, 2, none⟩ V).setCell ⟨q, 4, none⟩ u) g t (spl cur o ((s.data.toList.drop off).take k)) := fun V u => ((hg.row _).far (p := ⟨b, 2, none⟩) hg3 V).far (p := ⟨q, 4, none⟩) hg1 u
  have eg : ∀ V u, (((w.setRow g (spl cur o ((s.data.toList.drop off).take k))).setCell ⟨b, 2, none⟩ V).setCell ⟨q, 4, none⟩ u).cell? ⟨g, o + (k - 1), none⟩ = some (.int .u8 (bv.toNat : Int)) := fun V u => (hgX V u).at_ _ _ (spl_in (by rw [hl]; omega) hbv)
  have e5 := fun X V u => ((hqX X V).set_ 4 u).at_ 5 (.int .i64 lb) rfl
  have z5 := fun X V u => ((hqX X V).set_ 4 u).frozen 5
  have e6 := fun X V u v => (((hqX X V).set_ 4 u).set_ 5 v).at_ 6 (.int .i64 lr) rfl
  have z6 := fun X V u v => (((hqX X V).set_ 4 u).set_ 5 v).frozen 6
  have HR := Lib.hid (fun W lb lr => bufReadErr_any q gb b rdn rdn none lb lr W)
  have HB := Lib.hid hB
  have HG := Lib.hid hg
  have HX := Lib.hid hqX
  have j1 : (0 : Int) ≤ (k : Int) - 1 := by omega
  have j2 : (k : Int) - 1 < (n : Int) := by omega
  have j4 : ((k : Int) - 1).toNat = k - 1 := by omega
  have j3 : IntKind.i64.wrap ((k : Int) - 1) = (k : Int) - 1 := IntWalk.i64_in _ (by omega)
  clear hB hq hg hk hqX hgX hl hbv
  go_enter Tryz.func218, Tryz.ntmps218
  go_wp2_with fail
  go_quiet (fail)
  go_wp2_with fail
  refine (H.out _).mono ?_
  rintro e w1 ⟨rfl, m, rfl⟩
  go_wp2_with fail
  refine (HR.out _ _ _ (Blk.drewN (((((HX.out _ _).set_ 4 _).set_ 5 _).set_ 6 _)) _)).mono ?_
  rintro e w2 ⟨rfl, rfl⟩
  go_wp2_with fail
  go_ret2
  refine ⟨k, ⟨hk1, hk2, hk3⟩, rfl, ReadK.direct HB.out HG.out hne hk3⟩
/-- Read: k bytes, one at least. -/
theorem bufRead_data (q gb b r g o n c pos : Nat) (t : TypeId) (s : ByteArray) (cur : Array Value) (w : World) (hB : BufR w q gb b r s pos)
    (hg : Blk w g t cur) (hn : 0 < n) (hfit : o + n ≤ cur.size) (hnc : n ≤ c) (hne : g ≠ q ∧ g ≠ gb ∧ g ≠ b ∧ g ≠ r) (hp : pos < s.size) (hs : s.size ≤ 4000000000) :
    Calls Tryz.prog 218 #[.pointer (some ⟨q, 0, none⟩), .slice (some ⟨g, o, none⟩) n c] w fun e w' =>
      ∃ k, (0 < k ∧ k ≤ n ∧ pos + k ≤ s.size) ∧ e = .returned (.tuple #[.int .i64 (k : Int), .nilIface]) ∧ ReadK q gb b r g o t s pos k cur w w' := by
  obtain ⟨rdn, wn, off, lb, lr, cur0, hB⟩ := hB
  have h1 := hB.hrw
  have h2 := hB.hoff
  by_cases h : n < 4096 ∨ rdn < wn
  · exact bufRead_part q gb b r g o n c rdn wn off pos t lb lr s cur0 cur w hB hn hg hfit hne h hp hs
  · obtain rfl : rdn = wn := by omega
    obtain rfl : pos = off := by omega
    exact bufRead_direct q gb b r g o n c rdn pos t lb lr s cur0 cur w hB hg hfit hnc hne (by omega) hp hs
/-- Read at the end. -/
theorem bufRead_eof (E : Errs) (q gb b r g o n c : Nat) (s : ByteArray) (w : World) (hE : Env E w) (hB : BufR w q gb b r s s.size) (hn : 0 < n) :
    Calls Tryz.prog 218 #[.pointer (some ⟨q, 0, none⟩), .slice (some ⟨g, o, none⟩) n c] w fun e w' =>
      e = .returned (.tuple #[.int .i64 0, errv E.eof]) ∧ BufR w' q gb b r s s.size ∧ Fr [q, gb, b] w w' := by
  obtain ⟨rdn, wn, off, lb, lr, cur0, hB⟩ := hB
  by_cases h : n < 4096
  · exact bufRead_end' E q gb b r g o n c rdn wn off lb lr s cur0 w hE hB hn h
  · exact bufRead_end E q gb b r g o n c rdn wn off lb lr s cur0 w hE hB hn (by omega)
end Go.Proofs.YtalgnjkdoaaacaaGreatDoor

/- io.ReadAtLeast, io.ReadFull over a bufio.Reader. -/
namespace Go.Proofs.YtalgnjkdoaaacaaGreatDoor
open Go Go.RowKit
theorem take_take_drop (l : List UInt8) (pos j k : Nat) : (l.drop pos).take j ++ (l.drop (pos + j)).take k = (l.drop pos).take (j + k) := by
  rw [List.take_add, List.drop_drop]
def RAL (E : Errs) (q gb b r g o : Nat) (t : TypeId) (s : ByteArray) (pos N : Nat) (cur : Array Value) (w : World) (v6 v7 : Value) (wr : World) : Prop :=
  ∃ j : Nat, j ≤ N ∧ pos + j ≤ s.size ∧ v6 = .int .i64 (j : Int) ∧ (v7 = .nilIface ∨ (v7 = errv E.eof ∧ pos + j = s.size ∧ j < N)) ∧ Blk wr g t (spl cur o ((s.data.toList.drop pos).take j)) ∧ BufR wr q gb b r s (pos + j) ∧ Fr [q, gb, b, g] w wr
/-- What ReadFull comes to. -/
inductive RdF (E : Errs) (q gb b r g o : Nat) (t : TypeId) (s : ByteArray) (pos N : Nat) (cur : Array Value) (w : World) : Ending → World → Prop
  | all (w' : World) (h : pos + N ≤ s.size) (hb : Blk w' g t (spl cur o ((s.data.toList.drop pos).take N))) (hr : BufR w' q gb b r s (pos + N)) (hf : Fr [q, gb, b, g] w w') :
      RdF E q gb b r g o t s pos N cur w (.returned (.tuple #[.int .i64 (N : Int), .nilIface])) w'
  | part (w' : World) (j : Nat) (h : s.size < pos + N) (hp : pos < s.size) (hr : BufR w' q gb b r s s.size) (hf : Fr [q, gb, b, g] w w') :
      RdF E q gb b r g o t s pos N cur w (.returned (.tuple #[.int .i64 (j : Int), errv E.unx])) w'
  | end_ (w' : World) (h : 0 < N) (hp : pos = s.size) (hr : BufR w' q gb b r s s.size) (hf : Fr [q, gb, b, g] w w') :
      RdF E q gb b r g o t s pos N cur w (.returned (.tuple #[.int .i64 0, errv E.eof])) w'
set_option maxRecDepth 100000 in
set_option maxHeartbeats 4000000 in
theorem readAtLeast_buf (E : Errs) (q gb b r g o c pos N : Nat) (t : TypeId) (s : ByteArray) (cur : Array Value) (w : World) (hE : Env E w) (hB : BufR w q gb b r s pos)
    (hg : Blk w g t cur) (hfit : o + N ≤ cur.size) (hN : N ≤ 4000000) (hnc : N ≤ c) (hne : g ≠ q ∧ g ≠ gb ∧ g ≠ b ∧ g ≠ r) (hg18 : 14 ≤ g) (hpos : pos ≤ s.size) (hs : s.size ≤ 4000000000) :
    Calls Tryz.prog 144 #[.iface 189 (.pointer (some ⟨q, 0, none⟩)), .slice (some ⟨g, o, none⟩) N c, .int .i64 (N : Int)] w fun e w' => RdF E q gb b r g o t s pos N cur w e w' := by
  have he := fun w => eql_same E.eof w
  have hna : ∀ W, (nilAhead 452 189 (.pointer (some ⟨q, 0, none⟩)) "Read").run Tryz.prog W = .ok (some false) W := fun W => by kernel_rfl
  have hS : ∀ s ∈ [q, gb, b, g], 14 ≤ s := by have := hB.h18; simp; omega
  have hW := hB.h18.2
  have H0 := Lib.hid hB
  have HG := Lib.hid hg
  have HE := Lib.hid hE
  clear hB hg hE
  go_enter Tryz.func144, Tryz.ntmps144
  go_wp2_with fail
  go_loopw [6, 7, 8] (fun v6 v7 _ wr => RAL E q gb b r g o t s pos N cur w v6 v7 wr) (fun v6 v7 _ _ => 2 * (N - (intOf v6).toNat) + (match v7 with | .nilIface => 1 | _ => 0))
  case atStart => exact ⟨0, Nat.zero_le _, hpos, rfl, .inl rfl, by rw [List.take_zero, spl_nil]; exact HG.out, H0.out, Fr.refl _ _⟩
  case round =>
    obtain ⟨j, hj, hjs, rfl, hv, hb, hr, hf⟩ := hrel
    have HB := Lib.hid hb
    have HR := Lib.hid hr
    have HF := Lib.hid hf
    clear hb hr hf
    rcases hv with rfl | ⟨rfl, h1, h2⟩
    · by_cases hlt : j < N
      · have i1 : (j : Int) ≤ (N : Int) := by omega
        have i2 : (j : Int) ≤ (c : Int) := by omega
        have i3 : ¬ c = j := by omega
        have hrlt := HR.out
        by_cases hps : pos + j < s.size
        · have H := Lib.hid (fun m => bufRead_data q gb b r g (o + j) (N - j) (c - j) (pos + j) t s (spl cur o ((s.data.toList.drop pos).take j)) (wr.drewN m) (HR.out.fr (S := []) ((Fr.refl [] wr).drewN m) (by simp) (by simp) (by simp) (by simp)) (HB.out.drewN m) (by omega)
            (by rw [spl_size (by rw [List.length_take]; omega)]; omega) (by omega) hne hps hs)
          go_wp2_with fail
          go_region_held3 (fun _ => True) (trivial) ((go_at_call 218; refine (H.out _).mono ?_; rintro e w1 ⟨k, hk, rfl, hw⟩))
          go_wp2_with fail
          have hl : ((s.data.toList.drop pos).take j).length = j := by rw [List.length_take, List.length_drop, ← Lib.size_eq]; omega
          refine ⟨⟨j + k, by omega, by omega, rfl, .inl rfl, ?_, ?_, ?_⟩, by simp [intOf]; omega⟩
          · rw [← take_take_drop, ← spl_spl (by rw [hl]) (by rw [take_take_drop, List.length_take]; omega)]
            exact hw.dst
          · rw [← Nat.add_assoc]; exact hw.buf
          · exact (HF.out.drewN _).trans hw.fr (fun _ h => .inl h)
        · have hps' : pos + j = s.size := by omega
          have H := Lib.hid (fun m => bufRead_eof E q gb b r g (o + j) (N - j) (c - j) s (wr.drewN m) ((HE.out.fr HF.out hS hW).drewN m) ((hps' ▸ HR.out : BufR wr q gb b r s s.size).fr (S := []) ((Fr.refl [] wr).drewN m) (by simp) (by simp) (by simp) (by simp)) (by omega))
          have HP := Lib.hid hps'
          clear hps'
          go_wp2_with fail
          go_region_held3 (fun _ => True) (trivial) ((go_at_call 218; refine (H.out _).mono ?_; rintro e w1 ⟨rfl, hr1, hf1⟩))
          go_wp2_with fail
          refine ⟨⟨j, hj, hjs, rfl, .inr ⟨rfl, HP.out, hlt⟩, HB.out.fr ((Fr.refl _ wr).drewN _ |>.trans hf1 (fun _ h => .inl h)) (by simp; omega), (by rw [HP.out]; exact hr1), (HF.out.drewN _).trans hf1 (fun _ h => .inl (by simp at h ⊢; omega))⟩, by simp [intOf]⟩
      · go_wp2_with fail
        go_ret2
        obtain rfl : j = N := by omega
        exact RdF.all wr hjs HB.out HR.out HF.out
    · have hEr := HE.out.fr HF.out hS hW
      have x1 := hEr.eof
      have x2 := hEr.unx
      have HS := Lib.hid h1
      clear h1 hEr
      by_cases h0 : j = 0
      · subst h0
        go_wp2_with fail
        go_ret2
        exact RdF.end_ wr (by omega) (by have := HS.out; omega) (by have := HS.out; rw [← this]; exact HR.out) HF.out
      · go_wp2_with fail
        go_ret2
        exact RdF.part wr j (by have := HS.out; omega) (by have := HS.out; omega) (by have := HS.out; rw [← this]; exact HR.out) HF.out
set_option maxRecDepth 100000 in
theorem readFull_buf (E : Errs) (q gb b r g o c pos N : Nat) (t : TypeId) (s : ByteArray) (cur : Array Value) (w : World) (hE : Env E w) (hB : BufR w q gb b r s pos)
    (hg : Blk w g t cur) (hfit : o + N ≤ cur.size) (hN : N ≤ 4000000) (hnc : N ≤ c) (hne : g ≠ q ∧ g ≠ gb ∧ g ≠ b ∧ g ≠ r) (hg18 : 14 ≤ g) (hpos : pos ≤ s.size) (hs : s.size ≤ 4000000000) :
    Calls Tryz.prog 115 #[.iface 189 (.pointer (some ⟨q, 0, none⟩)), .slice (some ⟨g, o, none⟩) N c] w fun e w' => RdF E q gb b r g o t s pos N cur w e w' := by
  have H := Lib.hid (readAtLeast_buf E q gb b r g o c pos N t s cur w hE hB hg hfit hN hnc hne hg18 hpos hs)
  clear hE hB hg
  go_enter Tryz.func115, Tryz.ntmps115
  go_wp2_with fail
  refine H.out.mono ?_
  rintro e w1 h
  cases h <;> (go_wp2_with fail; go_ret2)
  · exact RdF.all _ ‹_› ‹_› ‹_› ‹_›
  · exact RdF.part _ _ ‹_› ‹_› ‹_› ‹_›
  · exact RdF.end_ _ ‹_› ‹_› ‹_› ‹_›
end Go.Proofs.YtalgnjkdoaaacaaGreatDoor

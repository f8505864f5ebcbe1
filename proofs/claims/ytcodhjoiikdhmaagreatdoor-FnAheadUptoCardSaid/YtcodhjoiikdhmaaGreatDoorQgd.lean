/- readDirectoryHeader: the last part (the time of modification). -/
import Derived.Test.YtcodhjoiikdhmaaGreatDoorQg
import Derived.Deep.RegionHeld3
set_option linter.unusedVariables false
set_option linter.unusedSimpArgs false
namespace Go.Proofs.YtcodhjoiikdhmaaGreatDoor
open Go Go.RowKit
open Zp
abbrev fileT : Nat := 90
/-- The cells of a file's block. -/
abbrev hdrC (a3 a4 a5 a6 a10 a11 a12 a13 a14 a15 a16 a18 a21 : Int) (nm cm : ByteArray) (nu : Bool) (ex : Value) (m0 m1 : Int) (mp : Option Addr) (z r : Nat) : Array Value :=
  #[.string nm, .string cm, .bool nu, .int .u16 a3, .int .u16 a4, .int .u16 a5, .int .u16 a6, .int .u64 m0, .int .i64 m1, .pointer mp, .int .u16 a10, .int .u16 a11, .int .u32 a12, .int .u32 a13, .int .u32 a14, .int .u64 a15, .int .u64 a16, ex, .int .u32 a18, .pointer (some ⟨z, 0, none⟩), strRd r, .int .i64 a21]
/-- A file's cells as a function of its time of modification. -/
structure HC (C : Int → Int → Option Addr → Array Value) (a10 a11 : Int) : Prop where
  g7 : ∀ x y p, (C x y p)[7]? = some (.int .u64 x)
  g8 : ∀ x y p, (C x y p)[8]? = some (.int .i64 y)
  g9 : ∀ x y p, (C x y p)[9]? = some (.pointer p)
  g10 : ∀ x y p, (C x y p)[10]? = some (.int .u16 a10)
  g11 : ∀ x y p, (C x y p)[11]? = some (.int .u16 a11)
  set : ∀ m0 m1 mp x y p, (((C m0 m1 mp).setIfInBounds 7 (.int .u64 x)).setIfInBounds 8 (.int .i64 y)).setIfInBounds 9 (.pointer p) = C x y p
/-- The file's block with some time; nothing else has turned. -/
def TF (w : World) (f : Nat) (C : Int → Int → Option Addr → Array Value) (w' : World) : Prop := (∃ m0 m1 mp, Blk w' f fileT (C m0 m1 mp)) ∧ Fr [f] w w'
theorem TF.fr {w w1 w2 : World} {f : Nat} {C : Int → Int → Option Addr → Array Value} (h : TF w f C w1) (h2 : Fr [] w1 w2) : TF w f C w2 := by
  obtain ⟨⟨m0, m1, mp, hb⟩, hf⟩ := h
  exact ⟨⟨m0, m1, mp, hb.fr h2 (by simp)⟩, hf.trans h2 (by simp)⟩
theorem TF.put {w w1 : World} {f : Nat} {C : Int → Int → Option Addr → Array Value} {a10 a11 : Int} (hC : HC C a10 a11) (h : TF w f C w1) (x y : Int) (p : Option Addr) :
    TF w f C (((w1.setCell ⟨f, 7, none⟩ (.int .u64 x)).setCell ⟨f, 8, none⟩ (.int .i64 y)).setCell ⟨f, 9, none⟩ (.pointer p)) := by
  obtain ⟨⟨m0, m1, mp, hb⟩, hf⟩ := h
  exact ⟨⟨x, y, p, by rw [← hC.set m0 m1 mp x y p]; exact ((hb.set_ 7 _).set_ 8 _).set_ 9 _⟩, ((hf.setCell (.inl (by simp)) _).setCell (.inl (by simp)) _).setCell (.inl (by simp)) _⟩
theorem TF.facts {w w1 : World} {f : Nat} {C : Int → Int → Option Addr → Array Value} {a10 a11 : Int} (hC : HC C a10 a11) (h : TF w f C w1) :
    ∃ m0 m1 mp, w1.cell? ⟨f, 7, none⟩ = some (.int .u64 m0) ∧ w1.cell? ⟨f, 8, none⟩ = some (.int .i64 m1) ∧ w1.cell? ⟨f, 9, none⟩ = some (.pointer mp) ∧ w1.cell? ⟨f, 10, none⟩ = some (.int .u16 a10) ∧ w1.cell? ⟨f, 11, none⟩ = some (.int .u16 a11) ∧
      w1.frozen? ⟨f, 7, none⟩ = false ∧ w1.frozen? ⟨f, 8, none⟩ = false ∧ w1.frozen? ⟨f, 9, none⟩ = false := by
  obtain ⟨⟨m0, m1, mp, hb⟩, hf⟩ := h
  exact ⟨m0, m1, mp, hb.at_ 7 _ (hC.g7 _ _ _), hb.at_ 8 _ (hC.g8 _ _ _), hb.at_ 9 _ (hC.g9 _ _ _), hb.at_ 10 _ (hC.g10 _ _ _), hb.at_ 11 _ (hC.g11 _ _ _), hb.frozen 7, hb.frozen 8, hb.frozen 9⟩
theorem keepD {w w1 w2 : World} {f : Nat} {x y : Value} (hf : f < w.heap.size) (h : w1.cell? ⟨f, 10, none⟩ = some x ∧ w1.cell? ⟨f, 11, none⟩ = some y ∧ Fr [] w w1) (h2 : Fr [] w1 w2) :
    w2.cell? ⟨f, 10, none⟩ = some x ∧ w2.cell? ⟨f, 11, none⟩ = some y ∧ Fr [] w w2 := by
  have := h.2.2.size
  exact ⟨(h2.cell (p := ⟨f, 10, none⟩) (by show f < _; omega) (by simp)).trans h.1, (h2.cell (p := ⟨f, 11, none⟩) (by show f < _; omega) (by simp)).trans h.2.1, h.2.2.trans h2 (by simp)⟩
theorem keepS {w w1 : World} {f : Nat} {x y : Value} (hf : f < w.heap.size) (h : w1.cell? ⟨f, 10, none⟩ = some x ∧ w1.cell? ⟨f, 11, none⟩ = some y ∧ Fr [] w w1) (v0 v1 v2 : Value) :
    (((w1.setCell ⟨w.heap.size, 0, none⟩ v0).setCell ⟨w.heap.size, 1, none⟩ v1).setCell ⟨w.heap.size, 2, none⟩ v2).cell? ⟨f, 10, none⟩ = some x ∧ (((w1.setCell ⟨w.heap.size, 0, none⟩ v0).setCell ⟨w.heap.size, 1, none⟩ v1).setCell ⟨w.heap.size, 2, none⟩ v2).cell? ⟨f, 11, none⟩ = some y ∧
      Fr [] w (((w1.setCell ⟨w.heap.size, 0, none⟩ v0).setCell ⟨w.heap.size, 1, none⟩ v1).setCell ⟨w.heap.size, 2, none⟩ v2) := by
  have h3 := newT (v0 := v0) (v1 := v1) (v2 := v2) h.2.2
  refine ⟨?_, ?_, h3⟩
  · rw [World.cell?_setCell_far _ _ _ _ (by simp; omega), World.cell?_setCell_far _ _ _ _ (by simp; omega), World.cell?_setCell_far _ _ _ _ (by simp; omega)]; exact h.1
  · rw [World.cell?_setCell_far _ _ _ _ (by simp; omega), World.cell?_setCell_far _ _ _ _ (by simp; omega), World.cell?_setCell_far _ _ _ _ (by simp; omega)]; exact h.2.1
set_option maxRecDepth 100000 in
theorem rdh93 (a : Act) (w : World) (hs : a.tmps.size = 404) (hd : a.defers = []) (Q : Exit → Act → World → Prop) (hQ : ∀ a', a'.defers = [] → a'.tmps.getD 4 undef = .nilIface → Q .ret a' w) :
    (rdhFrom 93).wp Tryz.prog Q a w := by
  have HQ := Lib.hid hQ
  rw [frame404 hs hd]
  clear hQ hs hd
  conv => arg 2; whnf
  go_wp2_with fail
  exact HQ.out _ rfl rfl
/-- Two times are known; the file's block has some time. -/
def S92 (w : World) (f tm t2 : Nat) (C : Int → Int → Option Addr → Array Value) (x y x2 y2 : Int) (p p2 : Option Addr) (w1 : World) : Prop :=
  w1.cell? ⟨tm, 0, none⟩ = some (.int .u64 x) ∧ w1.cell? ⟨tm, 1, none⟩ = some (.int .i64 y) ∧ w1.cell? ⟨tm, 2, none⟩ = some (.pointer p) ∧ w1.cell? ⟨t2, 0, none⟩ = some (.int .u64 x2) ∧ w1.cell? ⟨t2, 1, none⟩ = some (.int .i64 y2) ∧ w1.cell? ⟨t2, 2, none⟩ = some (.pointer p2) ∧ TF w f C w1
theorem S92.fr {w : World} {f tm t2 : Nat} {C : Int → Int → Option Addr → Array Value} {x y x2 y2 : Int} {p p2 : Option Addr} {w1 w2 : World} (l1 : tm < w.heap.size) (l2 : t2 < w.heap.size)
    (h : S92 w f tm t2 C x y x2 y2 p p2 w1) (h2 : Fr [] w1 w2) : S92 w f tm t2 C x y x2 y2 p p2 w2 := by
  obtain ⟨c0, c1, c2, e0, e1, e2, h3⟩ := h
  have hz := h3.2.size
  have hk : ∀ j i v, j < w.heap.size → w1.cell? ⟨j, i, none⟩ = some v → w2.cell? ⟨j, i, none⟩ = some v := fun j i v hj h => (h2.cell (p := ⟨j, i, none⟩) (by show j < _; omega) (by simp)).trans h
  exact ⟨hk _ _ _ l1 c0, hk _ _ _ l1 c1, hk _ _ _ l1 c2, hk _ _ _ l2 e0, hk _ _ _ l2 e1, hk _ _ _ l2 e2, h3.fr h2⟩
theorem S92.put {w : World} {f tm t2 : Nat} {C : Int → Int → Option Addr → Array Value} {a10 a11 x y x2 y2 : Int} {p p2 : Option Addr} {w1 : World} (hC : HC C a10 a11) (n1 : tm ≠ f) (n2 : t2 ≠ f)
    (h : S92 w f tm t2 C x y x2 y2 p p2 w1) (x3 y3 : Int) (p3 : Option Addr) :
    S92 w f tm t2 C x y x2 y2 p p2 (((w1.setCell ⟨f, 7, none⟩ (.int .u64 x3)).setCell ⟨f, 8, none⟩ (.int .i64 y3)).setCell ⟨f, 9, none⟩ (.pointer p3)) := by
  obtain ⟨c0, c1, c2, e0, e1, e2, h3⟩ := h
  have hk : ∀ j i v, j ≠ f → w1.cell? ⟨j, i, none⟩ = some v → (((w1.setCell ⟨f, 7, none⟩ (.int .u64 x3)).setCell ⟨f, 8, none⟩ (.int .i64 y3)).setCell ⟨f, 9, none⟩ (.pointer p3)).cell? ⟨j, i, none⟩ = some v := fun j i v hj h => by
    rw [World.cell?_setCell_far _ _ _ _ (by simp; omega), World.cell?_setCell_far _ _ _ _ (by simp; omega), World.cell?_setCell_far _ _ _ _ (by simp; omega)]; exact h
  exact ⟨hk _ _ _ n1 c0, hk _ _ _ n1 c1, hk _ _ _ n1 c2, hk _ _ _ n2 e0, hk _ _ _ n2 e1, hk _ _ _ n2 e2, h3.put hC x3 y3 p3⟩
set_option maxRecDepth 100000 in
set_option maxHeartbeats 4000000 in
theorem rdh92 (a : Act) (w0 w : World) (f tm t2 : Nat) (C : Int → Int → Option Addr → Array Value) (a10 a11 : Int) (hC : HC C a10 a11)
    (x y x2 y2 : Int) (p p2 : Option Addr) (hs : a.tmps.size = 404) (hd : a.defers = []) (h0 : slotOf a 0 = .pointer (some ⟨f, 0, none⟩)) (h20 : slotOf a 20 = .pointer (some ⟨tm, 0, none⟩)) (h34 : slotOf a 34 = .pointer (some ⟨t2, 0, none⟩))
    (l1 : tm < w0.heap.size) (l2 : t2 < w0.heap.size) (n1 : tm ≠ f) (n2 : t2 ≠ f) (hS : S92 w0 f tm t2 C x y x2 y2 p p2 w) (Q : Exit → Act → World → Prop)
    (hQ : ∀ a' w', a'.tmps.size = 404 → a'.defers = [] → TF w0 f C w' → Q .normal a' w') :
    (rdhFrom 92).wp Tryz.prog Q a w := by
  have HQ := Lib.hid hQ
  have HS := Lib.hid hS
  have HH := Lib.hid hC
  rw [frame404 hs hd, h0, h20, h34]
  clear hQ hS hC h0 h20 h34 hs hd
  conv => arg 2; whnf
  have kk := HS.out.fr l1 l2 ((Fr.refl [] w).drew)
  go_region_held3 (fun w' => w'.cell? ⟨tm, 0, none⟩ = some (.int .u64 x) ∧ w'.cell? ⟨tm, 1, none⟩ = some (.int .i64 y) ∧ w'.cell? ⟨tm, 2, none⟩ = some (.pointer p) ∧ w'.cell? ⟨t2, 0, none⟩ = some (.int .u64 x2) ∧ w'.cell? ⟨t2, 1, none⟩ = some (.int .i64 y2) ∧ w'.cell? ⟨t2, 2, none⟩ = some (.pointer p2) ∧ TF w0 f C w')
    ((first | exact kk | exact S92.put HH.out n1 n2 kk _ _ _ | assumption))
    ((first
      | (go_at_call 88; refine (tSub _ _ _ _ _ _ _).mono ?_; rintro e w2 ⟨z1, rfl, hf⟩; have kk := kk.fr l1 l2 hf)
      | (go_at_call 87; refine (ttimeZone _ _).mono ?_; rintro e w2 ⟨lc, rfl, hl1, hl2, hl3, hf⟩; have kk := kk.fr l1 l2 hf)
      | (go_at_call 86; refine (tIn _ _ _ _ _ hl3 hl2).mono ?_; rintro e w4 ⟨a1, b1, p1, rfl, hf⟩; have kk := kk.fr l1 l2 hf; obtain ⟨m0, m1, mp, c7, c8, c9, -, -, f7, f8, f9⟩ := kk.2.2.2.2.2.2.facts HH.out)))
  all_goals exact HQ.out _ _ rfl rfl (S92.put HH.out n1 n2 kk a1 b1 p1).2.2.2.2.2.2
theorem TF.base {w0 w w1 : World} {f : Nat} {C : Int → Int → Option Addr → Array Value} (h : TF w f C w1) (h0 : Fr [f] w0 w) : TF w0 f C w1 := ⟨h.1, h0.trans h.2 (by simp)⟩
set_option maxRecDepth 100000 in
set_option maxHeartbeats 4000000 in
theorem rdh_tail2 (a : Act) (w0 w : World) (f tm t2 : Nat) (C : Int → Int → Option Addr → Array Value) (a10 a11 : Int) (hC : HC C a10 a11) (m0 m1 : Int) (mp : Option Addr)
    (x y x2 y2 : Int) (p p2 : Option Addr) (hs : a.tmps.size = 404) (hd : a.defers = []) (h0 : slotOf a 0 = .pointer (some ⟨f, 0, none⟩)) (h20 : slotOf a 20 = .pointer (some ⟨tm, 0, none⟩)) (h34 : slotOf a 34 = .pointer (some ⟨t2, 0, none⟩))
    (hf : Blk w f fileT (C m0 m1 mp)) (ht : Blk w tm 85 (tcells x y p)) (ht2 : Blk w t2 85 (tcells x2 y2 p2)) (hfr : Fr [f] w0 w) (Q : Exit → Act → World → Prop)
    (hQ : ∀ a' w', a'.defers = [] → a'.tmps.getD 4 undef = .nilIface → TF w0 f C w' → Q .ret a' w') :
    (rdhFrom 88).wp Tryz.prog Q a w := by
  have HQ := Lib.hid hQ
  have hT : TF w f C w := ⟨⟨_, _, _, hf⟩, Fr.refl _ _⟩
  obtain ⟨-, -, -, -, -, -, -, -, f7, f8, f9⟩ := hT.facts hC
  have c7 := hf.at_ 7 (.int .u64 m0) (hC.g7 _ _ _)
  have c8 := hf.at_ 8 (.int .i64 m1) (hC.g8 _ _ _)
  have c9 := hf.at_ 9 (.pointer mp) (hC.g9 _ _ _)
  obtain ⟨e0, e1, e2, -, -, -⟩ := timeFacts ht2
  have hne : tm ≠ f := ht.ne_ hf (by decide)
  have hne2 : t2 ≠ f := ht2.ne_ hf (by decide)
  have l1 := ht.lt
  have l2 := ht2.lt
  obtain ⟨d0, d1, d2, -, -, -⟩ := timeFacts ht
  have kk : S92 w f tm t2 C x y x2 y2 p p2 w := ⟨d0, d1, d2, e0, e1, e2, hT⟩
  have KK := Lib.hid (kk.put hC hne hne2 x2 y2 p2)
  have HL := hf.lt
  have HH := Lib.hid hC
  have HR := Lib.hid hfr
  clear d0 d1 d2 kk
  obtain ⟨d0, d1, d2, -, -, -⟩ := timeFacts (((ht.far (p := ⟨f, 7, none⟩) hne (.int .u64 x2)).far (p := ⟨f, 8, none⟩) hne (.int .i64 y2)).far (p := ⟨f, 9, none⟩) hne (.pointer p2))
  rw [frame404 hs hd, h0, h20, h34]
  clear hQ hf ht ht2 h0 h20 h34 hs hd hT hC hfr
  conv => arg 2; whnf
  go_wp2_with fail
  refine (tIsZero _ _ _ _).mono ?_
  rintro e w2 ⟨b, rfl, hf2⟩
  have KK2 := Lib.hid (KK.out.fr l1 l2 hf2)
  clear c7 c8 c9 f7 f8 f9 d0 d1 d2 e0 e1 e2
  obtain ⟨d0, d1, d2, -, -, -, hT2⟩ := KK2.out
  obtain ⟨n0, n1, np, c7, c8, c9, c10, c11, f7, f8, f9⟩ := hT2.facts HH.out
  clear hT2 hf2
  cases b
  · go_wp2_with fail
    refine (tToUTC _ _ _ _).mono ?_
    rintro e w3 ⟨u1, v1, q1, rfl, hf3⟩
    have KK3 := Lib.hid (KK2.out.fr l1 l2 hf3)
    have KK4 := Lib.hid (KK3.out.put HH.out hne hne2 u1 v1 q1)
    clear c7 c8 c9 c10 c11 f7 f8 f9 d0 d1 d2 n0 n1 np
    obtain ⟨n0, n1, np, c7, c8, c9, -, -, f7, f8, f9⟩ := KK3.out.2.2.2.2.2.2.facts HH.out
    obtain ⟨-, -, -, -, -, -, c10, c11, -, -, -⟩ := KK4.out.2.2.2.2.2.2.facts HH.out
    clear hf3
    by_cases h10 : a10 = 0
    · by_cases h11 : a11 = 0
      · have t10 : (a10 != 0) = false := by simp [h10]
        have t11 : (a11 != 0) = false := by simp [h11]
        clear h10 h11
        go_wp2_with fail
        exact HQ.out _ _ rfl rfl (KK4.out.2.2.2.2.2.2.base HR.out)
      · have t10 : (a10 != 0) = false := by simp [h10]
        have t11 : (a11 != 0) = true := by simp [h11]
        clear h10 h11
        go_wp2_with fail
        rename_i K hK
        refine rdh92 _ w _ f tm t2 C a10 a11 HH.out x y x2 y2 p p2 rfl rfl rfl rfl rfl l1 l2 hne hne2 KK4.out _ ?_
        intro a' w' hs' hd' ht'
        refine hK _ _ (rdh93 a' w' hs' hd' _ ?_)
        intro a2 hd2 h4
        exact HQ.out _ _ hd2 h4 (ht'.base HR.out)
    · have t10 : (a10 != 0) = true := by simp [h10]
      clear h10
      go_wp2_with fail
      rename_i K hK
      refine rdh92 _ w _ f tm t2 C a10 a11 HH.out x y x2 y2 p p2 rfl rfl rfl rfl rfl l1 l2 hne hne2 KK4.out _ ?_
      intro a' w' hs' hd' ht'
      refine hK _ _ (rdh93 a' w' hs' hd' _ ?_)
      intro a2 hd2 h4
      exact HQ.out _ _ hd2 h4 (ht'.base HR.out)
  · go_wp2_with fail
    exact HQ.out _ _ rfl rfl (KK2.out.2.2.2.2.2.2.base HR.out)
set_option maxRecDepth 100000 in
set_option maxHeartbeats 4000000 in
theorem rdh_tail (a : Act) (w0 w : World) (f tm : Nat) (C : Int → Int → Option Addr → Array Value) (a10 a11 : Int) (hC : HC C a10 a11) (m0 m1 : Int) (mp : Option Addr)
    (x y : Int) (p : Option Addr) (hs : a.tmps.size = 404) (hd : a.defers = []) (h0 : slotOf a 0 = .pointer (some ⟨f, 0, none⟩)) (h20 : slotOf a 20 = .pointer (some ⟨tm, 0, none⟩))
    (hf : Blk w f fileT (C m0 m1 mp)) (ht : Blk w tm 85 (tcells x y p)) (hfr : Fr [f] w0 w) (Q : Exit → Act → World → Prop)
    (hQ : ∀ a' w', a'.defers = [] → a'.tmps.getD 4 undef = .nilIface → TF w0 f C w' → Q .ret a' w') :
    (rdhFrom 87).wp Tryz.prog Q a w := by
  have HQ := Lib.hid hQ
  have c10 := hf.at_ 10 _ (hC.g10 _ _ _)
  have c11 := hf.at_ 11 _ (hC.g11 _ _ _)
  have HF := Lib.hid hf
  have HL := hf.lt
  have HT := Lib.hid ht
  have HH := Lib.hid hC
  have HR := Lib.hid hfr
  have HTL := ht.lt
  rw [frame404 hs hd, h0, h20]
  clear hQ hf ht h0 h20 hs hd hC hfr
  conv => arg 2; whnf
  go_wp2_with fail
  rename_i K hK
  go_region_held3 (fun w' => w'.cell? ⟨f, 10, none⟩ = some (.int .u16 a10) ∧ w'.cell? ⟨f, 11, none⟩ = some (.int .u16 a11) ∧ Fr [] w w')
    ((first | exact kk | exact ⟨c10, c11, (Fr.refl _ _).drew⟩ | exact keepD HL ⟨c10, c11, Fr.refl _ _⟩ (((Fr.refl _ _).alloc _).drew) | exact keepD HL kk ((Fr.refl _ _).alloc _) | exact keepS HL kk _ _ _ | assumption))
    ((first | (go_at_call 83; refine (tMsDos _ _ _).mono ?_; rintro e w2 ⟨a1, b1, p1, rfl, hf⟩; have kk := keepD HL (by assumption) hf; try (obtain ⟨d0, d1, d2, g0, g1, g2⟩ := timeFacts (Blk.fr (Blk.drew (Blk.new w 85 t0cells)) hf (by simp))))))
  all_goals first
    | (have hB := Blk.fr (Blk.drew (Blk.new w 85 t0cells)) hf (by simp)
       refine hK _ _ (rdh_tail2 _ w0 _ f tm w.heap.size C a10 a11 HH.out m0 m1 mp x y a1 b1 p p1 rfl rfl rfl rfl rfl ?_ ?_ ?_ ?_ Q HQ.out)
       · exact HF.out.fr (newT kk.2.2) (by simp)
       · exact HT.out.fr (newT kk.2.2) (by simp)
       · exact ((hB.set_ 0 _).set_ 1 _).set_ 2 _
       · exact HR.out.trans (newT kk.2.2) (by simp))
    | (refine hK _ _ (rdh_tail2 _ w0 _ f tm w2.heap.size C a10 a11 HH.out m0 m1 mp x y a1 b1 p p1 rfl rfl rfl rfl rfl ?_ ?_ ?_ ?_ Q HQ.out)
       · exact HF.out.fr (kk.2.2.alloc _) (by simp)
       · exact HT.out.fr (kk.2.2.alloc _) (by simp)
       · exact Blk.new w2 _ _
       · exact HR.out.trans (kk.2.2.alloc _) (by simp))
end Go.Proofs.YtcodhjoiikdhmaaGreatDoor

/- The frame as a variable: what a slot holds; the rest of a body from a region on. -/
import Derived.Test.YtalgnjkdoaaacaaGreatDoorQs
import Derived.Deep.RegionHeld3
set_option linter.unusedVariables false
set_option linter.unusedSimpArgs false
namespace Go.Proofs.YtalgnjkdoaaacaaGreatDoor
open Go Go.RowKit
/-- What slot k of a frame holds. -/
def slotOf (a : Act) (k : Nat) : Value := a.tmps.getD k undef
theorem frame_of {a : Act} {n : Nat} (hs : a.tmps.size = n) (hd : a.defers = []) : a = ⟨((List.range n).map (slotOf a)).toArray, []⟩ := by
  obtain ⟨t, d⟩ := a
  simp only at hs hd
  subst hd hs
  congr 1
  apply Array.ext
  · simp
  · intro i h1 h2
    simp [slotOf, h1]
/-- The rest of a body from region n on. -/
def sufAt (n : Nat) : Code → Option Code
  | .seq (.region i o d) b => if i = n then some (.seq (.region i o d) b) else sufAt n b
  | .seq a b => match sufAt n a with
    | some c => some c
    | none => sufAt n b
  | .region i o d => if i = n then some (.region i o d) else none
  | .scope c => sufAt n c
  | .block _ c => sufAt n c
  | .loop c => sufAt n c
  | .cond _ a b => match sufAt n a with
    | some c => some c
    | none => sufAt n b
  | _ => none
/-- The region that a piece of code begins with. -/
def firstReg : Code → Option Nat
  | .seq a _ => firstReg a
  | .region i _ _ => some i
  | .block _ c => firstReg c
  | _ => none
/-- The body of the loop in whose body region n stands first. -/
def loopAt (n : Nat) : Code → Option Code
  | .loop c => if firstReg c = some n then some c else loopAt n c
  | .seq a b => match loopAt n a with
    | some c => some c
    | none => loopAt n b
  | .scope c => loopAt n c
  | .block _ c => loopAt n c
  | .cond _ a b => match loopAt n a with
    | some c => some c
    | none => loopAt n b
  | _ => none
noncomputable def rdhFrom (n : Nat) : Code := ((Tryz.f87.body.bind (sufAt n))).getD .skip
noncomputable def rdhLoop (n : Nat) : Code := ((Tryz.f87.body.bind (loopAt n))).getD .skip
set_option maxRecDepth 100000 in
theorem frame404 {a : Act} (hs : a.tmps.size = 404) (hd : a.defers = []) : a = ⟨#[slotOf a 0, slotOf a 1, slotOf a 2, slotOf a 3, slotOf a 4, slotOf a 5, slotOf a 6, slotOf a 7, slotOf a 8, slotOf a 9, slotOf a 10, slotOf a 11, slotOf a 12, slotOf a 13, slotOf a 14, slotOf a 15, slotOf a 16, slotOf a 17, slotOf a 18, slotOf a 19, slotOf a 20, slotOf a 21, slotOf a 22, slotOf a 23, slotOf a 24, slotOf a 25, slotOf a 26, slotOf a 27, slotOf a 28, slotOf a 29, slotOf a 30, slotOf a 31, slotOf a 32, slotOf a 33, slotOf a 34, slotOf a 35, slotOf a 36, slotOf a 37, slotOf a 38, slotOf a 39, slotOf a 40, slotOf a 41, slotOf a 42, slotOf a 43, slotOf a 44, slotOf a 45, slotOf a 46, slotOf a 47, slotOf a 48, slotOf a 49, slotOf a 50, slotOf a 51, slotOf a 52, slotOf a 53, slotOf a 54, slotOf a 55, slotOf a 56, slotOf a 57, slotOf a 58, slotOf a 59, slotOf a 60, slotOf a 61, slotOf a 62, slotOf a 63, slotOf a 64, slotOf a 65, slotOf a 66, slotOf a 67, slotOf a 68, slotOf a 69, slotOf a 70, slotOf a 71, slotOf a 72, slotOf a 73, slotOf a 74, slotOf a 75, slotOf a 76, slotOf a 77, slotOf a 78, slotOf a 79, slotOf a 80, slotOf a 81, slotOf a 82, slotOf a 83, slotOf a 84, slotOf a 85, slotOf a 86, slotOf a 87, slotOf a 88, slotOf a 89, slotOf a 90, slotOf a 91, slotOf a 92, slotOf a 93, slotOf a 94, slotOf a 95, slotOf a 96, slotOf a 97, slotOf a 98, slotOf a 99, slotOf a 100, slotOf a 101, slotOf a 102, slotOf a 103, slotOf a 104, slotOf a 105, slotOf a 106, slotOf a 107, slotOf a 108, slotOf a 109, slotOf a 110, slotOf a 111, slotOf a 112, slotOf a 113, slotOf a 114, slotOf a 115, slotOf a 116, slotOf a 117, slotOf a 118, slotOf a 119, slotOf a 120, slotOf a 121, slotOf a 122, slotOf a 123, slotOf a 124, slotOf a 125, slotOf a 126, slotOf a 127, slotOf a 128, slotOf a 129, slotOf a 130, slotOf a 131, slotOf a 132, slotOf a 133, slotOf a 134, slotOf a 135, slotOf a 136, slotOf a 137, slotOf a 138, slotOf a 139, slotOf a 140, slotOf a 141, slotOf a 142, slotOf a 143, slotOf a 144, slotOf a 145, slotOf a 146, slotOf a 147, slotOf a 148, slotOf a 149, slotOf a 150, slotOf a 151, slotOf a 152, slotOf a 153, slotOf a 154, slotOf a 155, slotOf a 156, slotOf a 157, slotOf a 158, slotOf a 159, slotOf a 160, slotOf a 161, slotOf a 162, slotOf a 163, slotOf a 164, slotOf a 165, slotOf a 166, slotOf a 167, slotOf a 168, slotOf a 169, slotOf a 170, slotOf a 171, slotOf a 172, slotOf a 173, slotOf a 174, slotOf a 175, slotOf a 176, slotOf a 177, slotOf a 178, slotOf a 179, slotOf a 180, slotOf a 181, slotOf a 182, slotOf a 183, slotOf a 184, slotOf a 185, slotOf a 186, slotOf a 187, slotOf a 188, slotOf a 189, slotOf a 190, slotOf a 191, slotOf a 192, slotOf a 193, slotOf a 194, slotOf a 195, slotOf a 196, slotOf a 197, slotOf a 198, slotOf a 199, slotOf a 200, slotOf a 201, slotOf a 202, slotOf a 203, slotOf a 204, slotOf a 205, slotOf a 206, slotOf a 207, slotOf a 208, slotOf a 209, slotOf a 210, slotOf a 211, slotOf a 212, slotOf a 213, slotOf a 214, slotOf a 215, slotOf a 216, slotOf a 217, slotOf a 218, slotOf a 219, slotOf a 220, slotOf a 221, slotOf a 222, slotOf a 223, slotOf a 224, slotOf a 225, slotOf a 226, slotOf a 227, slotOf a 228, slotOf a 229, slotOf a 230, slotOf a 231, slotOf a 232, slotOf a 233, slotOf a 234, slotOf a 235, slotOf a 236, slotOf a 237, slotOf a 238, slotOf a 239, slotOf a 240, slotOf a 241, slotOf a 242, slotOf a 243, slotOf a 244, slotOf a 245, slotOf a 246, slotOf a 247, slotOf a 248, slotOf a 249, slotOf a 250, slotOf a 251, slotOf a 252, slotOf a 253, slotOf a 254, slotOf a 255, slotOf a 256, slotOf a 257, slotOf a 258, slotOf a 259, slotOf a 260, slotOf a 261, slotOf a 262, slotOf a 263, slotOf a 264, slotOf a 265, slotOf a 266, slotOf a 267, slotOf a 268, slotOf a 269, slotOf a 270, slotOf a 271, slotOf a 272, slotOf a 273, slotOf a 274, slotOf a 275, slotOf a 276, slotOf a 277, slotOf a 278, slotOf a 279, slotOf a 280, slotOf a 281, slotOf a 282, slotOf a 283, slotOf a 284, slotOf a 285, slotOf a 286, slotOf a 287, slotOf a 288, slotOf a 289, slotOf a 290, slotOf a 291, slotOf a 292, slotOf a 293, slotOf a 294, slotOf a 295, slotOf a 296, slotOf a 297, slotOf a 298, slotOf a 299, slotOf a 300, slotOf a 301, slotOf a 302, slotOf a 303, slotOf a 304, slotOf a 305, slotOf a 306, slotOf a 307, slotOf a 308, slotOf a 309, slotOf a 310, slotOf a 311, slotOf a 312, slotOf a 313, slotOf a 314, slotOf a 315, slotOf a 316, slotOf a 317, slotOf a 318, slotOf a 319, slotOf a 320, slotOf a 321, slotOf a 322, slotOf a 323, slotOf a 324, slotOf a 325, slotOf a 326, slotOf a 327, slotOf a 328, slotOf a 329, slotOf a 330, slotOf a 331, slotOf a 332, slotOf a 333, slotOf a 334, slotOf a 335, slotOf a 336, slotOf a 337, slotOf a 338, slotOf a 339, slotOf a 340, slotOf a 341, slotOf a 342, slotOf a 343, slotOf a 344, slotOf a 345, slotOf a 346, slotOf a 347, slotOf a 348, slotOf a 349, slotOf a 350, slotOf a 351, slotOf a 352, slotOf a 353, slotOf a 354, slotOf a 355, slotOf a 356, slotOf a 357, slotOf a 358, slotOf a 359, slotOf a 360, slotOf a 361, slotOf a 362, slotOf a 363, slotOf a 364, slotOf a 365, slotOf a 366, slotOf a 367, slotOf a 368, slotOf a 369, slotOf a 370, slotOf a 371, slotOf a 372, slotOf a 373, slotOf a 374, slotOf a 375, slotOf a 376, slotOf a 377, slotOf a 378, slotOf a 379, slotOf a 380, slotOf a 381, slotOf a 382, slotOf a 383, slotOf a 384, slotOf a 385, slotOf a 386, slotOf a 387, slotOf a 388, slotOf a 389, slotOf a 390, slotOf a 391, slotOf a 392, slotOf a 393, slotOf a 394, slotOf a 395, slotOf a 396, slotOf a 397, slotOf a 398, slotOf a 399, slotOf a 400, slotOf a 401, slotOf a 402, slotOf a 403], []⟩ := frame_of hs hd
end Go.Proofs.YtalgnjkdoaaacaaGreatDoor

/- readDirectoryHeader: the last part (the time of modification). -/
namespace Go.Proofs.YtalgnjkdoaaacaaGreatDoor
open Go Go.RowKit
open Zp
abbrev fileT : Nat := 80
/-- The cells of a file's block. -/
abbrev hdrC (a3 a4 a5 a6 a10 a11 a12 a13 a14 a15 a16 a18 a21 : Int) (nm cm : ByteArray) (nu : Bool) (ex : Value) (m0 m1 : Int) (mp : Option Addr) (z r : Nat) : Array Value :=
  #[.string nm, .string cm, .bool nu, .int .u16 a3, .int .u16 a4, .int .u16 a5, .int .u16 a6, .int .u64 m0, .int .i64 m1, .pointer mp, .int .u16 a10, .int .u16 a11, .int .u32 a12, .int .u32 a13, .int .u32 a14, .int .u64 a15, .int .u64 a16, ex, .int .u32 a18, .pointer (some ⟨z, 0, none⟩), strRd r, .int .i64 a21]
/-- A file's cells as a function of its time of modification. -/
structure HC (C : Int → Int → Option Addr → Array Value) (a10 a11 : Int) : Prop where
  g7 : ∀ x y p, (C x y p)[7]? = some (.int .u64 x)
  g8 : ∀ x y p, (C x y p)[8]? = some (.int .i64 y)
  g9 : ∀ x y p, (C x y p)[9]? = some (.pointer p)
  g10 : ∀ x y p, (C x y p)[10]? = some (.int .u16 a10)
  g11 : ∀ x y p, (C x y p)[11]? = some (.int .u16 a11)
  set : ∀ m0 m1 mp x y p, (((C m0 m1 mp).setIfInBounds 7 (.int .u64 x)).setIfInBounds 8 (.int .i64 y)).setIfInBounds 9 (.pointer p) = C x y p
/-- The file's block with some time; nothing else has turned. -/
def TF (w : World) (f : Nat) (C : Int → Int → Option Addr → Array Value) (w' : World) : Prop := (∃ m0 m1 mp, Blk w' f fileT (C m0 m1 mp)) ∧ Fr [f] w w'
theorem TF.fr {w w1 w2 : World} {f : Nat} {C : Int → Int → Option Addr → Array Value} (h : TF w f C w1) (h2 : Fr [] w1 w2) : TF w f C w2 := by
  obtain ⟨⟨m0, m1, mp, hb⟩, hf⟩ := h
  exact ⟨⟨m0, m1, mp, hb.fr h2 (by simp)⟩, hf.trans h2 (by simp)⟩
theorem TF.put {w w1 : World} {f : Nat} {C : Int → Int → Option Addr → Array Value} {a10 a11 : Int} (hC : HC C a10 a11) (h : TF w f C w1) (x y : Int) (p : Option Addr) :
    TF w f C (((w1.setCell ⟨f, 7, none⟩ (.int .u64 x)).setCell ⟨f, 8, none⟩ (.int .i64 y)).setCell ⟨f, 9, none⟩ (.pointer p)) := by
  obtain ⟨⟨m0, m1, mp, hb⟩, hf⟩ := h
  exact ⟨⟨x, y, p, by rw [← hC.set m0 m1 mp x y p]; exact ((hb.set_ 7 _).set_ 8 _).set_ 9 _⟩, ((hf.setCell (.inl (by simp)) _).setCell (.inl (by simp)) _).setCell (.inl (by simp)) _⟩
theorem TF.facts {w w1 : World} {f : Nat} {C : Int → Int → Option Addr → Array Value} {a10 a11 : Int} (hC : HC C a10 a11) (h : TF w f C w1) :
    ∃ m0 m1 mp, w1.cell? ⟨f, 7, none⟩ = some (.int .u64 m0) ∧ w1.cell? ⟨f, 8, none⟩ = some (.int .i64 m1) ∧ w1.cell? ⟨f, 9, none⟩ = some (.pointer mp) ∧ w1.cell? ⟨f, 10, none⟩ = some (.int .u16 a10) ∧ w1.cell? ⟨f, 11, none⟩ = some (.int .u16 a11) ∧
      w1.frozen? ⟨f, 7, none⟩ = false ∧ w1.frozen? ⟨f, 8, none⟩ = false ∧ w1.frozen? ⟨f, 9, none⟩ = false := by
  obtain ⟨⟨m0, m1, mp, hb⟩, hf⟩ := h
  exact ⟨m0, m1, mp, hb.at_ 7 _ (hC.g7 _ _ _), hb.at_ 8 _ (hC.g8 _ _ _), hb.at_ 9 _ (hC.g9 _ _ _), hb.at_ 10 _ (hC.g10 _ _ _), hb.at_ 11 _ (hC.g11 _ _ _), hb.frozen 7, hb.frozen 8, hb.frozen 9⟩
theorem keepD {w w1 w2 : World} {f : Nat} {x y : Value} (hf : f < w.heap.size) (h : w1.cell? ⟨f, 10, none⟩ = some x ∧ w1.cell? ⟨f, 11, none⟩ = some y ∧ Fr [] w w1) (h2 : Fr [] w1 w2) :
    w2.cell? ⟨f, 10, none⟩ = some x ∧ w2.cell? ⟨f, 11, none⟩ = some y ∧ Fr [] w w2 := by
  have := h.2.2.size
  exact ⟨(h2.cell (p := ⟨f, 10, none⟩) (by show f < _; omega) (by simp)).trans h.1, (h2.cell (p := ⟨f, 11, none⟩) (by show f < _; omega) (by simp)).trans h.2.1, h.2.2.trans h2 (by simp)⟩
theorem keepS {w w1 : World} {f : Nat} {x y : Value} (hf : f < w.heap.size) (h : w1.cell? ⟨f, 10, none⟩ = some x ∧ w1.cell? ⟨f, 11, none⟩ = some y ∧ Fr [] w w1) (v0 v1 v2 : Value) :
    (((w1.setCell ⟨w.heap.size, 0, none⟩ v0).setCell ⟨w.heap.size, 1, none⟩ v1).setCell ⟨w.heap.size, 2, none⟩ v2).cell? ⟨f, 10, none⟩ = some x ∧ (((w1.setCell ⟨w.heap.size, 0, none⟩ v0).setCell ⟨w.heap.size, 1, none⟩ v1).setCell ⟨w.heap.size, 2, none⟩ v2).cell? ⟨f, 11, none⟩ = some y ∧
      Fr [] w (((w1.setCell ⟨w.heap.size, 0, none⟩ v0).setCell ⟨w.heap.size, 1, none⟩ v1).setCell ⟨w.heap.size, 2, none⟩ v2) := by
  have h3 := newT (v0 := v0) (v1 := v1) (v2 := v2) h.2.2
  refine ⟨?_, ?_, h3⟩
  · rw [World.cell?_setCell_far _ _ _ _ (by simp; omega), World.cell?_setCell_far _ _ _ _ (by simp; omega), World.cell?_setCell_far _ _ _ _ (by simp; omega)]; exact h.1
  · rw [World.cell?_setCell_far _ _ _ _ (by simp; omega), World.cell?_setCell_far _ _ _ _ (by simp; omega), World.cell?_setCell_far _ _ _ _ (by simp; omega)]; exact h.2.1
set_option maxRecDepth 100000 in
theorem rdh93 (a : Act) (w : World) (hs : a.tmps.size = 404) (hd : a.defers = []) (Q : Exit → Act → World → Prop) (hQ : ∀ a', a'.defers = [] → a'.tmps.getD 4 undef = .nilIface → Q .ret a' w) :
    (rdhFrom 93).wp Tryz.prog Q a w := by
  have HQ := Lib.hid hQ
  rw [frame404 hs hd]
  clear hQ hs hd
  conv => arg 2; whnf
  go_wp2_with fail
  exact HQ.out _ rfl rfl
/-- Two times are known; the file's block has some time. -/
def S92 (w : World) (f tm t2 : Nat) (C : Int → Int → Option Addr → Array Value) (x y x2 y2 : Int) (p p2 : Option Addr) (w1 : World) : Prop :=
  w1.cell? ⟨tm, 0, none⟩ = some (.int .u64 x) ∧ w1.cell? ⟨tm, 1, none⟩ = some (.int .i64 y) ∧ w1.cell? ⟨tm, 2, none⟩ = some (.pointer p) ∧ w1.cell? ⟨t2, 0, none⟩ = some (.int .u64 x2) ∧ w1.cell? ⟨t2, 1, none⟩ = some (.int .i64 y2) ∧ w1.cell? ⟨t2, 2, none⟩ = some (.pointer p2) ∧ TF w f C w1
theorem S92.fr {w : World} {f tm t2 : Nat} {C : Int → Int → Option Addr → Array Value} {x y x2 y2 : Int} {p p2 : Option Addr} {w1 w2 : World} (l1 : tm < w.heap.size) (l2 : t2 < w.heap.size)
    (h : S92 w f tm t2 C x y x2 y2 p p2 w1) (h2 : Fr [] w1 w2) : S92 w f tm t2 C x y x2 y2 p p2 w2 := by
  obtain ⟨c0, c1, c2, e0, e1, e2, h3⟩ := h
  have hz := h3.2.size
  have hk : ∀ j i v, j < w.heap.size → w1.cell? ⟨j, i, none⟩ = some v → w2.cell? ⟨j, i, none⟩ = some v := fun j i v hj h => (h2.cell (p := ⟨j, i, none⟩) (by show j < _; omega) (by simp)).trans h
  exact ⟨hk _ _ _ l1 c0, hk _ _ _ l1 c1, hk _ _ _ l1 c2, hk _ _ _ l2 e0, hk _ _ _ l2 e1, hk _ _ _ l2 e2, h3.fr h2⟩
theorem S92.put {w : World} {f tm t2 : Nat} {C : Int → Int → Option Addr → Array Value} {a10 a11 x y x2 y2 : Int} {p p2 : Option Addr} {w1 : World} (hC : HC C a10 a11) (n1 : tm ≠ f) (n2 : t2 ≠ f)
    (h : S92 w f tm t2 C x y x2 y2 p p2 w1) (x3 y3 : Int) (p3 : Option Addr) :
    S92 w f tm t2 C x y x2 y2 p p2 (((w1.setCell ⟨f, 7, none⟩ (.int .u64 x3)).setCell ⟨f, 8, none⟩ (.int .i64 y3)).setCell ⟨f, 9, none⟩ (.pointer p3)) := by
  obtain ⟨c0, c1, c2, e0, e1, e2, h3⟩ := h
  have hk : ∀ j i v, j ≠ f → w1.cell? ⟨j, i, none⟩ = some v → (((w1.setCell ⟨f, 7, none⟩ (.int .u64 x3)).setCell ⟨f, 8, none⟩ (.int .i64 y3)).setCell ⟨f, 9, none⟩ (.pointer p3)).cell? ⟨j, i, none⟩ = some v := fun j i v hj h => by
    rw [World.cell?_setCell_far _ _ _ _ (by simp; omega), World.cell?_setCell_far _ _ _ _ (by simp; omega), World.cell?_setCell_far _ _ _ _ (by simp; omega)]; exact h
  exact ⟨hk _ _ _ n1 c0, hk _ _ _ n1 c1, hk _ _ _ n1 c2, hk _ _ _ n2 e0, hk _ _ _ n2 e1, hk _ _ _ n2 e2, h3.put hC x3 y3 p3⟩
set_option maxRecDepth 100000 in
set_option maxHeartbeats 4000000 in
theorem rdh92 (a : Act) (w0 w : World) (f tm t2 : Nat) (C : Int → Int → Option Addr → Array Value) (a10 a11 : Int) (hC : HC C a10 a11)
    (x y x2 y2 : Int) (p p2 : Option Addr) (hs : a.tmps.size = 404) (hd : a.defers = []) (h0 : slotOf a 0 = .pointer (some ⟨f, 0, none⟩)) (h20 : slotOf a 20 = .pointer (some ⟨tm, 0, none⟩)) (h34 : slotOf a 34 = .pointer (some ⟨t2, 0, none⟩))
    (l1 : tm < w0.heap.size) (l2 : t2 < w0.heap.size) (n1 : tm ≠ f) (n2 : t2 ≠ f) (hS : S92 w0 f tm t2 C x y x2 y2 p p2 w) (Q : Exit → Act → World → Prop)
    (hQ : ∀ a' w', a'.tmps.size = 404 → a'.defers = [] → TF w0 f C w' → Q .normal a' w') :
    (rdhFrom 92).wp Tryz.prog Q a w := by
  have HQ := Lib.hid hQ
  have HS := Lib.hid hS
  have HH := Lib.hid hC
  rw [frame404 hs hd, h0, h20, h34]
  clear hQ hS hC h0 h20 h34 hs hd
  conv => arg 2; whnf
  have kk := HS.out.fr l1 l2 ((Fr.refl [] w).drew)
  go_region_held3 (fun w' => w'.cell? ⟨tm, 0, none⟩ = some (.int .u64 x) ∧ w'.cell? ⟨tm, 1, none⟩ = some (.int .i64 y) ∧ w'.cell? ⟨tm, 2, none⟩ = some (.pointer p) ∧ w'.cell? ⟨t2, 0, none⟩ = some (.int .u64 x2) ∧ w'.cell? ⟨t2, 1, none⟩ = some (.int .i64 y2) ∧ w'.cell? ⟨t2, 2, none⟩ = some (.pointer p2) ∧ TF w0 f C w')
    ((first | exact kk | exact S92.put HH.out n1 n2 kk _ _ _ | assumption))
    ((first
      | (go_at_call 126; refine (tSub _ _ _ _ _ _ _).mono ?_; rintro e w2 ⟨z1, rfl, hf⟩; have kk := kk.fr l1 l2 hf)
      | (go_at_call 125; refine (ttimeZone _ _).mono ?_; rintro e w2 ⟨lc, rfl, hl1, hl2, hl3, hf⟩; have kk := kk.fr l1 l2 hf)
      | (go_at_call 124; refine (tIn _ _ _ _ _ hl3 hl2).mono ?_; rintro e w4 ⟨a1, b1, p1, rfl, hf⟩; have kk := kk.fr l1 l2 hf; obtain ⟨m0, m1, mp, c7, c8, c9, -, -, f7, f8, f9⟩ := kk.2.2.2.2.2.2.facts HH.out)))
  all_goals exact HQ.out _ _ rfl rfl (S92.put HH.out n1 n2 kk a1 b1 p1).2.2.2.2.2.2
theorem TF.base {w0 w w1 : World} {f : Nat} {C : Int → Int → Option Addr → Array Value} (h : TF w f C w1) (h0 : Fr [f] w0 w) : TF w0 f C w1 := ⟨h.1, h0.trans h.2 (by simp)⟩
set_option maxRecDepth 100000 in
set_option maxHeartbeats 4000000 in
theorem rdh_tail2 (a : Act) (w0 w : World) (f tm t2 : Nat) (C : Int → Int → Option Addr → Array Value) (a10 a11 : Int) (hC : HC C a10 a11) (m0 m1 : Int) (mp : Option Addr)
    (x y x2 y2 : Int) (p p2 : Option Addr) (hs : a.tmps.size = 404) (hd : a.defers = []) (h0 : slotOf a 0 = .pointer (some ⟨f, 0, none⟩)) (h20 : slotOf a 20 = .pointer (some ⟨tm, 0, none⟩)) (h34 : slotOf a 34 = .pointer (some ⟨t2, 0, none⟩))
    (hf : Blk w f fileT (C m0 m1 mp)) (ht : Blk w tm 74 (tcells x y p)) (ht2 : Blk w t2 74 (tcells x2 y2 p2)) (hfr : Fr [f] w0 w) (Q : Exit → Act → World → Prop)
    (hQ : ∀ a' w', a'.defers = [] → a'.tmps.getD 4 undef = .nilIface → TF w0 f C w' → Q .ret a' w') :
    (rdhFrom 88).wp Tryz.prog Q a w := by
  have HQ := Lib.hid hQ
  have hT : TF w f C w := ⟨⟨_, _, _, hf⟩, Fr.refl _ _⟩
  obtain ⟨-, -, -, -, -, -, -, -, f7, f8, f9⟩ := hT.facts hC
  have c7 := hf.at_ 7 (.int .u64 m0) (hC.g7 _ _ _)
  have c8 := hf.at_ 8 (.int .i64 m1) (hC.g8 _ _ _)
  have c9 := hf.at_ 9 (.pointer mp) (hC.g9 _ _ _)
  obtain ⟨e0, e1, e2, -, -, -⟩ := timeFacts ht2
  have hne : tm ≠ f := ht.ne_ hf (by decide)
  have hne2 : t2 ≠ f := ht2.ne_ hf (by decide)
  have l1 := ht.lt
  have l2 := ht2.lt
  obtain ⟨d0, d1, d2, -, -, -⟩ := timeFacts ht
  have kk : S92 w f tm t2 C x y x2 y2 p p2 w := ⟨d0, d1, d2, e0, e1, e2, hT⟩
  have KK := Lib.hid (kk.put hC hne hne2 x2 y2 p2)
  have HL := hf.lt
  have HH := Lib.hid hC
  have HR := Lib.hid hfr
  clear d0 d1 d2 kk
  obtain ⟨d0, d1, d2, -, -, -⟩ := timeFacts (((ht.far (p := ⟨f, 7, none⟩) hne (.int .u64 x2)).far (p := ⟨f, 8, none⟩) hne (.int .i64 y2)).far (p := ⟨f, 9, none⟩) hne (.pointer p2))
  rw [frame404 hs hd, h0, h20, h34]
  clear hQ hf ht ht2 h0 h20 h34 hs hd hT hC hfr
  conv => arg 2; whnf
  go_wp2_with fail
  refine (tIsZero _ _ _ _).mono ?_
  rintro e w2 ⟨b, rfl, hf2⟩
  have KK2 := Lib.hid (KK.out.fr l1 l2 hf2)
  clear c7 c8 c9 f7 f8 f9 d0 d1 d2 e0 e1 e2
  obtain ⟨d0, d1, d2, -, -, -, hT2⟩ := KK2.out
  obtain ⟨n0, n1, np, c7, c8, c9, c10, c11, f7, f8, f9⟩ := hT2.facts HH.out
  clear hT2 hf2
  cases b
  · go_wp2_with fail
    refine (tToUTC _ _ _ _).mono ?_
    rintro e w3 ⟨u1, v1, q1, rfl, hf3⟩
    have KK3 := Lib.hid (KK2.out.fr l1 l2 hf3)
    have KK4 := Lib.hid (KK3.out.put HH.out hne hne2 u1 v1 q1)
    clear c7 c8 c9 c10 c11 f7 f8 f9 d0 d1 d2 n0 n1 np
    obtain ⟨n0, n1, np, c7, c8, c9, -, -, f7, f8, f9⟩ := KK3.out.2.2.2.2.2.2.facts HH.out
    obtain ⟨-, -, -, -, -, -, c10, c11, -, -, -⟩ := KK4.out.2.2.2.2.2.2.facts HH.out
    clear hf3
    by_cases h10 : a10 = 0
    · by_cases h11 : a11 = 0
      · have t10 : (a10 != 0) = false := by simp [h10]
        have t11 : (a11 != 0) = false := by simp [h11]
        clear h10 h11
        go_wp2_with fail
        exact HQ.out _ _ rfl rfl (KK4.out.2.2.2.2.2.2.base HR.out)
      · have t10 : (a10 != 0) = false := by simp [h10]
        have t11 : (a11 != 0) = true := by simp [h11]
        clear h10 h11
        go_wp2_with fail
        rename_i K hK
        refine rdh92 _ w _ f tm t2 C a10 a11 HH.out x y x2 y2 p p2 rfl rfl rfl rfl rfl l1 l2 hne hne2 KK4.out _ ?_
        intro a' w' hs' hd' ht'
        refine hK _ _ (rdh93 a' w' hs' hd' _ ?_)
        intro a2 hd2 h4
        exact HQ.out _ _ hd2 h4 (ht'.base HR.out)
    · have t10 : (a10 != 0) = true := by simp [h10]
      clear h10
      go_wp2_with fail
      rename_i K hK
      refine rdh92 _ w _ f tm t2 C a10 a11 HH.out x y x2 y2 p p2 rfl rfl rfl rfl rfl l1 l2 hne hne2 KK4.out _ ?_
      intro a' w' hs' hd' ht'
      refine hK _ _ (rdh93 a' w' hs' hd' _ ?_)
      intro a2 hd2 h4
      exact HQ.out _ _ hd2 h4 (ht'.base HR.out)
  · go_wp2_with fail
    exact HQ.out _ _ rfl rfl (KK2.out.2.2.2.2.2.2.base HR.out)
set_option maxRecDepth 100000 in
set_option maxHeartbeats 4000000 in
theorem rdh_tail (a : Act) (w0 w : World) (f tm : Nat) (C : Int → Int → Option Addr → Array Value) (a10 a11 : Int) (hC : HC C a10 a11) (m0 m1 : Int) (mp : Option Addr)
    (x y : Int) (p : Option Addr) (hs : a.tmps.size = 404) (hd : a.defers = []) (h0 : slotOf a 0 = .pointer (some ⟨f, 0, none⟩)) (h20 : slotOf a 20 = .pointer (some ⟨tm, 0, none⟩))
    (hf : Blk w f fileT (C m0 m1 mp)) (ht : Blk w tm 74 (tcells x y p)) (hfr : Fr [f] w0 w) (Q : Exit → Act → World → Prop)
    (hQ : ∀ a' w', a'.defers = [] → a'.tmps.getD 4 undef = .nilIface → TF w0 f C w' → Q .ret a' w') :
    (rdhFrom 87).wp Tryz.prog Q a w := by
  have HQ := Lib.hid hQ
  have c10 := hf.at_ 10 _ (hC.g10 _ _ _)
  have c11 := hf.at_ 11 _ (hC.g11 _ _ _)
  have HF := Lib.hid hf
  have HL := hf.lt
  have HT := Lib.hid ht
  have HH := Lib.hid hC
  have HR := Lib.hid hfr
  have HTL := ht.lt
  rw [frame404 hs hd, h0, h20]
  clear hQ hf ht h0 h20 hs hd hC hfr
  conv => arg 2; whnf
  go_wp2_with fail
  rename_i K hK
  go_region_held3 (fun w' => w'.cell? ⟨f, 10, none⟩ = some (.int .u16 a10) ∧ w'.cell? ⟨f, 11, none⟩ = some (.int .u16 a11) ∧ Fr [] w w')
    ((first | exact kk | exact ⟨c10, c11, (Fr.refl _ _).drew⟩ | exact keepD HL ⟨c10, c11, Fr.refl _ _⟩ (((Fr.refl _ _).alloc _).drew) | exact keepD HL kk ((Fr.refl _ _).alloc _) | exact keepS HL kk _ _ _ | assumption))
    ((first | (go_at_call 122; refine (tMsDos _ _ _).mono ?_; rintro e w2 ⟨a1, b1, p1, rfl, hf⟩; have kk := keepD HL (by assumption) hf; try (obtain ⟨d0, d1, d2, g0, g1, g2⟩ := timeFacts (Blk.fr (Blk.drew (Blk.new w 74 t0cells)) hf (by simp))))))
  all_goals first
    | (have hB := Blk.fr (Blk.drew (Blk.new w 74 t0cells)) hf (by simp)
       refine hK _ _ (rdh_tail2 _ w0 _ f tm w.heap.size C a10 a11 HH.out m0 m1 mp x y a1 b1 p p1 rfl rfl rfl rfl rfl ?_ ?_ ?_ ?_ Q HQ.out)
       · exact HF.out.fr (newT kk.2.2) (by simp)
       · exact HT.out.fr (newT kk.2.2) (by simp)
       · exact ((hB.set_ 0 _).set_ 1 _).set_ 2 _
       · exact HR.out.trans (newT kk.2.2) (by simp))
    | (refine hK _ _ (rdh_tail2 _ w0 _ f tm w2.heap.size C a10 a11 HH.out m0 m1 mp x y a1 b1 p p1 rfl rfl rfl rfl rfl ?_ ?_ ?_ ?_ Q HQ.out)
       · exact HF.out.fr (kk.2.2.alloc _) (by simp)
       · exact HT.out.fr (kk.2.2.alloc _) (by simp)
       · exact Blk.new w2 _ _
       · exact HR.out.trans (kk.2.2.alloc _) (by simp))
end Go.Proofs.YtalgnjkdoaaacaaGreatDoor

/- readDirectoryHeader: one extra field (the switch on its tag). -/
namespace Go.Proofs.YtalgnjkdoaaacaaGreatDoor
open Go Go.RowKit
open Zp
/-- What the loop over the extra fields asks of a frame. -/
structure FrA (f tm e : Nat) (a : Act) : Prop where
  size : a.tmps.size = 404
  defers : a.defers = []
  s0 : slotOf a 0 = .pointer (some ⟨f, 0, none⟩)
  s20 : slotOf a 20 = .pointer (some ⟨tm, 0, none⟩)
  s21 : slotOf a 21 = .pointer (some ⟨e, 0, none⟩)
/-- A file's cells that the loop reads. -/
structure HX (C : Int → Int → Option Addr → Array Value) (a13 a14 a21 : Int) : Prop where
  g13 : ∀ x y p, (C x y p)[13]? = some (.int .u32 a13)
  g14 : ∀ x y p, (C x y p)[14]? = some (.int .u32 a14)
  g21 : ∀ x y p, (C x y p)[21]? = some (.int .i64 a21)
  n13 : a13 ≠ 4294967295
  n14 : a14 ≠ 4294967295
  n21 : a21 ≠ 4294967295
/-- Some time lies in block tm; nothing but it and the listed blocks has turned. -/
def TM (S : List Nat) (w : World) (tm : Nat) (w' : World) : Prop := (∃ x y p, Blk w' tm 74 (tcells x y p)) ∧ Fr S w w'
set_option maxRecDepth 100000 in
set_option maxHeartbeats 4000000 in
theorem sw_other (a : Act) (w : World) (f tm e e2 tag : Nat) (hA : FrA f tm e a) (h24 : slotOf a 24 = .pointer (some ⟨e2, 0, none⟩)) (h243 : slotOf a 243 = .int .u16 (tag : Int))
    (ht : ∃ x y p, Blk w tm 74 (tcells x y p)) (Q : Exit → Act → World → Prop) (hQ : ∀ x a' w', (x = .normal ∨ x = .exit 2) → FrA f tm e a' → TM [tm, e2] w tm w' → Q x a' w')
    (h1 : tag ≠ 1) (h2 : tag ≠ 10) (h3 : tag ≠ 13) (h4 : tag ≠ 22613) (h5 : tag ≠ 21589) : (rdhFrom 48).wp Tryz.prog Q a w := by
  have HQ := Lib.hid hQ
  have HT := Lib.hid ht
  have b1 : ((tag : Int) == 1) = false := by simp; omega
  have b2 : ((tag : Int) == 10) = false := by simp; omega
  have b3 : ((tag : Int) == 13) = false := by simp; omega
  have b4 : ((tag : Int) == 22613) = false := by simp; omega
  have b5 : ((tag : Int) == 21589) = false := by simp; omega
  rw [frame404 hA.size hA.defers, hA.s0, hA.s20, hA.s21, h24, h243]
  clear hQ hA h24 h243 ht h1 h2 h3 h4 h5
  conv => arg 2; whnf
  go_wp2_with fail
  exact HQ.out _ _ _ (.inl rfl) ⟨rfl, rfl, rfl, rfl, rfl⟩ ⟨HT.out, Fr.refl _ _⟩
set_option maxRecDepth 100000 in
set_option maxHeartbeats 4000000 in
theorem sw_zip64 (a : Act) (w : World) (f tm e e2 : Nat) (C : Int → Int → Option Addr → Array Value) (a13 a14 a21 : Int) (hX : HX C a13 a14 a21) (m0 m1 : Int) (mp : Option Addr) (hf : Blk w f fileT (C m0 m1 mp))
    (hA : FrA f tm e a) (h24 : slotOf a 24 = .pointer (some ⟨e2, 0, none⟩)) (h243 : slotOf a 243 = .int .u16 1)
    (ht : ∃ x y p, Blk w tm 74 (tcells x y p)) (Q : Exit → Act → World → Prop) (hQ : ∀ x a' w', (x = .normal ∨ x = .exit 2) → FrA f tm e a' → TM [tm, e2] w tm w' → Q x a' w') :
    (rdhFrom 48).wp Tryz.prog Q a w := by
  have HQ := Lib.hid hQ
  have HT := Lib.hid ht
  have c13 := hf.at_ 13 _ (hX.g13 _ _ _)
  have c14 := hf.at_ 14 _ (hX.g14 _ _ _)
  have c21 := hf.at_ 21 _ (hX.g21 _ _ _)
  have b13 : (a13 == 4294967295) = false := by simpa using hX.n13
  have b14 : (a14 == 4294967295) = false := by simpa using hX.n14
  have b21 : (a21 == 4294967295) = false := by simpa using hX.n21
  rw [frame404 hA.size hA.defers, hA.s0, hA.s20, hA.s21, h24, h243]
  clear hQ hA h24 h243 ht hX hf
  conv => arg 2; whnf
  go_wp2_with fail
  exact HQ.out _ _ _ (.inl rfl) ⟨rfl, rfl, rfl, rfl, rfl⟩ ⟨HT.out, Fr.refl _ _⟩
/-- A time is stored into block tm. -/
theorem TM.put {S : List Nat} {w w1 : World} {tm : Nat} {u v : Int} {q : Option Addr} (h : Blk w1 tm 74 (tcells u v q)) (hf : Fr S w w1) (hm : tm ∈ S) (x y : Int) (p : Option Addr) :
    TM S w tm (((w1.setCell ⟨tm, 0, none⟩ (.int .u64 x)).setCell ⟨tm, 1, none⟩ (.int .i64 y)).setCell ⟨tm, 2, none⟩ (.pointer p)) :=
  ⟨⟨x, y, p, ((h.set_ 0 _).set_ 1 _).set_ 2 _⟩, ((hf.setCell (.inl hm) _).setCell (.inl hm) _).setCell (.inl hm) _⟩
set_option maxRecDepth 100000 in
set_option maxHeartbeats 4000000 in
theorem sw_unix (a : Act) (w : World) (f tm e e2 tag db o n c : Nat) (l : List UInt8) (hA : FrA f tm e a) (h24 : slotOf a 24 = .pointer (some ⟨e2, 0, none⟩)) (h243 : slotOf a 243 = .int .u16 (tag : Int))
    (hr : RB w ⟨e2, 0, none⟩ db o n c l) (hne : e2 ≠ tm) (u v : Int) (q : Option Addr)
    (ht : Blk w tm 74 (tcells u v q)) (Q : Exit → Act → World → Prop) (hQ : ∀ x a' w', (x = .normal ∨ x = .exit 2) → FrA f tm e a' → TM [tm, e2] w tm w' → Q x a' w')
    (h3 : tag = 13 ∨ tag = 22613) : (rdhFrom 48).wp Tryz.prog Q a w := by
  have HQ := Lib.hid hQ
  have HT := Lib.hid ht
  have HR := Lib.hid hr
  have HL := Lib.hid hr.len
  have b1 : ((tag : Int) == 1) = false := by simp; omega
  have b2 : ((tag : Int) == 10) = false := by simp; omega
  have b3 : (((tag : Int) == 13) = true) ∨ (((tag : Int) == 13) = false ∧ ((tag : Int) == 22613) = true) := by rcases h3 with h | h <;> simp [h]
  obtain ⟨ad, ce, -⟩ := hr.cell
  rw [frame404 hA.size hA.defers, hA.s0, hA.s20, hA.s21, h24, h243]
  clear hQ hA h24 h243 ht h3 hr
  conv => arg 2; whnf
  by_cases hn : n < 8
  · rcases b3 with b3 | ⟨b3, b4⟩
    all_goals
      go_wp2_with fail
      exact HQ.out _ _ _ (.inr rfl) ⟨rfl, rfl, rfl, rfl, rfl⟩ ⟨⟨_, _, _, HT.out⟩, Fr.refl _ _⟩
  · rcases b3 with b3 | ⟨b3, b4⟩
    all_goals
      go_wp2_with fail
      refine (rb32d _ _ _ _ _ _ _ HR.out (by have := HL.out; omega)).mono ?_
      rintro e w2 ⟨rfl, hn2⟩
      have H2 := Lib.hid hn2
      clear hn2
      go_wp2_with fail
      refine (rb32d _ _ _ _ _ _ _ H2.out.nx (by have := HL.out; rw [List.length_drop]; omega)).mono ?_
      rintro e w3 ⟨rfl, hn3⟩
      have H3 := Lib.hid hn3
      clear hn3
      go_wp2_with fail
      refine (tUnix _ _ _).mono ?_
      rintro e w4 ⟨x, y, p, rfl, hf4⟩
      have hF := Lib.hid (((H2.out.fr.trans H3.out.fr (by simp)).trans hf4 (by simp)).mono (S' := [tm, e2]) (by simp))
      have hB := Lib.hid (((HT.out.fr H2.out.fr (by simpa using hne.symm)).fr H3.out.fr (by simpa using hne.symm)).fr hf4 (by simp))
      obtain ⟨c0, c1, c2, f0, f1, f2⟩ := timeFacts hB.out
      clear hf4
      go_wp2_with fail
      exact HQ.out _ _ _ (.inl rfl) ⟨rfl, rfl, rfl, rfl, rfl⟩ (TM.put hB.out hF.out (by simp) _ _ _)
set_option maxRecDepth 100000 in
set_option maxHeartbeats 4000000 in
theorem sw_ext (a : Act) (w : World) (f tm e e2 db o n c : Nat) (l : List UInt8) (hA : FrA f tm e a) (h24 : slotOf a 24 = .pointer (some ⟨e2, 0, none⟩)) (h243 : slotOf a 243 = .int .u16 21589)
    (hr : RB w ⟨e2, 0, none⟩ db o n c l) (hne : e2 ≠ tm) (u v : Int) (q : Option Addr)
    (ht : Blk w tm 74 (tcells u v q)) (Q : Exit → Act → World → Prop) (hQ : ∀ x a' w', (x = .normal ∨ x = .exit 2) → FrA f tm e a' → TM [tm, e2] w tm w' → Q x a' w') :
    (rdhFrom 48).wp Tryz.prog Q a w := by
  have HQ := Lib.hid hQ
  have HT := Lib.hid ht
  have HL := Lib.hid hr.len
  obtain ⟨ad, ce, -⟩ := hr.cell
  rw [frame404 hA.size hA.defers, hA.s0, hA.s20, hA.s21, h24, h243]
  by_cases hn : n < 5
  · clear hQ hA h24 h243 ht hr
    conv => arg 2; whnf
    go_wp2_with fail
    exact HQ.out _ _ _ (.inr rfl) ⟨rfl, rfl, rfl, rfl, rfl⟩ ⟨⟨_, _, _, HT.out⟩, Fr.refl _ _⟩
  · obtain ⟨b0, l', hl⟩ : ∃ b0 l', l = b0 :: l' := by
      cases l with
      | nil => have := hr.len; simp at this; omega
      | cons b l => exact ⟨_, _, rfl⟩
    subst hl
    have HR := Lib.hid hr
    clear hQ hA h24 h243 ht hr
    conv => arg 2; whnf
    go_wp2_with fail
    refine (rb8 _ _ _ _ _ b0 l' _ HR.out).mono ?_
    rintro e w2 ⟨rfl, hn2⟩
    have H2 := Lib.hid hn2
    clear hn2
    obtain ⟨bv, hbv⟩ : ∃ bv, (bits BinOp.and IntKind.u8 (b0.toNat : Int) 1 == 0) = bv := ⟨_, rfl⟩
    have hF := Lib.hid (H2.out.fr.mono (S' := [tm, e2]) (by simp))
    have hB := Lib.hid (HT.out.fr H2.out.fr (by simpa using hne.symm))
    cases bv
    · go_wp2_with fail
      refine (rb32d _ _ _ _ _ _ _ H2.out.nx (by have := HL.out; simp at this; omega)).mono ?_
      rintro e w3 ⟨rfl, hn3⟩
      have H3 := Lib.hid hn3
      clear hn3
      go_wp2_with fail
      refine (tUnix _ _ _).mono ?_
      rintro e w4 ⟨x, y, p, rfl, hf4⟩
      have hF2 := Lib.hid ((hF.out.trans H3.out.fr (by simp)).trans hf4 (by simp))
      have hB2 := Lib.hid ((hB.out.fr H3.out.fr (by simpa using hne.symm)).fr hf4 (by simp))
      obtain ⟨c0, c1, c2, f0, f1, f2⟩ := timeFacts hB2.out
      clear hf4
      go_wp2_with fail
      exact HQ.out _ _ _ (.inl rfl) ⟨rfl, rfl, rfl, rfl, rfl⟩ (TM.put hB2.out hF2.out (by simp) _ _ _)
    · go_wp2_with fail
      exact HQ.out _ _ _ (.inr rfl) ⟨rfl, rfl, rfl, rfl, rfl⟩ ⟨⟨_, _, _, hB.out⟩, hF.out⟩
end Go.Proofs.YtalgnjkdoaaacaaGreatDoor

/- The frame as a variable: what a slot holds; the rest of a body from a region on. -/
import Derived.Test.YtcodhjoiikdhmaaGreatDoorQh
set_option linter.unusedVariables false
set_option linter.unusedSimpArgs false
namespace Go.Proofs.YtcodhjoiikdhmaaGreatDoor
open Go Go.RowKit
/-- What slot k of a frame holds. -/
def slotOf (a : Act) (k : Nat) : Value := a.tmps.getD k undef
theorem frame_of {a : Act} {n : Nat} (hs : a.tmps.size = n) (hd : a.defers = []) : a = ⟨((List.range n).map (slotOf a)).toArray, []⟩ := by
  obtain ⟨t, d⟩ := a
  simp only at hs hd
  subst hd hs
  congr 1
  apply Array.ext
  · simp
  · intro i h1 h2
    simp [slotOf, h1]
/-- The rest of a body from region n on. -/
def sufAt (n : Nat) : Code → Option Code
  | .seq (.region i o d) b => if i = n then some (.seq (.region i o d) b) else sufAt n b
  | .seq a b => match sufAt n a with
    | some c => some c
    | none => sufAt n b
  | .region i o d => if i = n then some (.region i o d) else none
  | .scope c => sufAt n c
  | .block _ c => sufAt n c
  | .loop c => sufAt n c
  | .cond _ a b => match sufAt n a with
    | some c => some c
    | none => sufAt n b
  | _ => none
/-- The region that a piece of code begins with. -/
def firstReg : Code → Option Nat
  | .seq a _ => firstReg a
  | .region i _ _ => some i
  | .block _ c => firstReg c
  | _ => none
/-- The body of the loop in whose body region n stands first. -/
def loopAt (n : Nat) : Code → Option Code
  | .loop c => if firstReg c = some n then some c else loopAt n c
  | .seq a b => match loopAt n a with
    | some c => some c
    | none => loopAt n b
  | .scope c => loopAt n c
  | .block _ c => loopAt n c
  | .cond _ a b => match loopAt n a with
    | some c => some c
    | none => loopAt n b
  | _ => none
noncomputable def rdhFrom (n : Nat) : Code := ((Tryz.f65.body.bind (sufAt n))).getD .skip
noncomputable def rdhLoop (n : Nat) : Code := ((Tryz.f65.body.bind (loopAt n))).getD .skip
set_option maxRecDepth 100000 in
theorem frame404 {a : Act} (hs : a.tmps.size = 404) (hd : a.defers = []) : a = ⟨#[slotOf a 0, slotOf a 1, slotOf a 2, slotOf a 3, slotOf a 4, slotOf a 5, slotOf a 6, slotOf a 7, slotOf a 8, slotOf a 9, slotOf a 10, slotOf a 11, slotOf a 12, slotOf a 13, slotOf a 14, slotOf a 15, slotOf a 16, slotOf a 17, slotOf a 18, slotOf a 19, slotOf a 20, slotOf a 21, slotOf a 22, slotOf a 23, slotOf a 24, slotOf a 25, slotOf a 26, slotOf a 27, slotOf a 28, slotOf a 29, slotOf a 30, slotOf a 31, slotOf a 32, slotOf a 33, slotOf a 34, slotOf a 35, slotOf a 36, slotOf a 37, slotOf a 38, slotOf a 39, slotOf a 40, slotOf a 41, slotOf a 42, slotOf a 43, slotOf a 44, slotOf a 45, slotOf a 46, slotOf a 47, slotOf a 48, slotOf a 49, slotOf a 50, slotOf a 51, slotOf a 52, slotOf a 53, slotOf a 54, slotOf a 55, slotOf a 56, slotOf a 57, slotOf a 58, slotOf a 59, slotOf a 60, slotOf a 61, slotOf a 62, slotOf a 63, slotOf a 64, slotOf a 65, slotOf a 66, slotOf a 67, slotOf a 68, slotOf a 69, slotOf a 70, slotOf a 71, slotOf a 72, slotOf a 73, slotOf a 74, slotOf a 75, slotOf a 76, slotOf a 77, slotOf a 78, slotOf a 79, slotOf a 80, slotOf a 81, slotOf a 82, slotOf a 83, slotOf a 84, slotOf a 85, slotOf a 86, slotOf a 87, slotOf a 88, slotOf a 89, slotOf a 90, slotOf a 91, slotOf a 92, slotOf a 93, slotOf a 94, slotOf a 95, slotOf a 96, slotOf a 97, slotOf a 98, slotOf a 99, slotOf a 100, slotOf a 101, slotOf a 102, slotOf a 103, slotOf a 104, slotOf a 105, slotOf a 106, slotOf a 107, slotOf a 108, slotOf a 109, slotOf a 110, slotOf a 111, slotOf a 112, slotOf a 113, slotOf a 114, slotOf a 115, slotOf a 116, slotOf a 117, slotOf a 118, slotOf a 119, slotOf a 120, slotOf a 121, slotOf a 122, slotOf a 123, slotOf a 124, slotOf a 125, slotOf a 126, slotOf a 127, slotOf a 128, slotOf a 129, slotOf a 130, slotOf a 131, slotOf a 132, slotOf a 133, slotOf a 134, slotOf a 135, slotOf a 136, slotOf a 137, slotOf a 138, slotOf a 139, slotOf a 140, slotOf a 141, slotOf a 142, slotOf a 143, slotOf a 144, slotOf a 145, slotOf a 146, slotOf a 147, slotOf a 148, slotOf a 149, slotOf a 150, slotOf a 151, slotOf a 152, slotOf a 153, slotOf a 154, slotOf a 155, slotOf a 156, slotOf a 157, slotOf a 158, slotOf a 159, slotOf a 160, slotOf a 161, slotOf a 162, slotOf a 163, slotOf a 164, slotOf a 165, slotOf a 166, slotOf a 167, slotOf a 168, slotOf a 169, slotOf a 170, slotOf a 171, slotOf a 172, slotOf a 173, slotOf a 174, slotOf a 175, slotOf a 176, slotOf a 177, slotOf a 178, slotOf a 179, slotOf a 180, slotOf a 181, slotOf a 182, slotOf a 183, slotOf a 184, slotOf a 185, slotOf a 186, slotOf a 187, slotOf a 188, slotOf a 189, slotOf a 190, slotOf a 191, slotOf a 192, slotOf a 193, slotOf a 194, slotOf a 195, slotOf a 196, slotOf a 197, slotOf a 198, slotOf a 199, slotOf a 200, slotOf a 201, slotOf a 202, slotOf a 203, slotOf a 204, slotOf a 205, slotOf a 206, slotOf a 207, slotOf a 208, slotOf a 209, slotOf a 210, slotOf a 211, slotOf a 212, slotOf a 213, slotOf a 214, slotOf a 215, slotOf a 216, slotOf a 217, slotOf a 218, slotOf a 219, slotOf a 220, slotOf a 221, slotOf a 222, slotOf a 223, slotOf a 224, slotOf a 225, slotOf a 226, slotOf a 227, slotOf a 228, slotOf a 229, slotOf a 230, slotOf a 231, slotOf a 232, slotOf a 233, slotOf a 234, slotOf a 235, slotOf a 236, slotOf a 237, slotOf a 238, slotOf a 239, slotOf a 240, slotOf a 241, slotOf a 242, slotOf a 243, slotOf a 244, slotOf a 245, slotOf a 246, slotOf a 247, slotOf a 248, slotOf a 249, slotOf a 250, slotOf a 251, slotOf a 252, slotOf a 253, slotOf a 254, slotOf a 255, slotOf a 256, slotOf a 257, slotOf a 258, slotOf a 259, slotOf a 260, slotOf a 261, slotOf a 262, slotOf a 263, slotOf a 264, slotOf a 265, slotOf a 266, slotOf a 267, slotOf a 268, slotOf a 269, slotOf a 270, slotOf a 271, slotOf a 272, slotOf a 273, slotOf a 274, slotOf a 275, slotOf a 276, slotOf a 277, slotOf a 278, slotOf a 279, slotOf a 280, slotOf a 281, slotOf a 282, slotOf a 283, slotOf a 284, slotOf a 285, slotOf a 286, slotOf a 287, slotOf a 288, slotOf a 289, slotOf a 290, slotOf a 291, slotOf a 292, slotOf a 293, slotOf a 294, slotOf a 295, slotOf a 296, slotOf a 297, slotOf a 298, slotOf a 299, slotOf a 300, slotOf a 301, slotOf a 302, slotOf a 303, slotOf a 304, slotOf a 305, slotOf a 306, slotOf a 307, slotOf a 308, slotOf a 309, slotOf a 310, slotOf a 311, slotOf a 312, slotOf a 313, slotOf a 314, slotOf a 315, slotOf a 316, slotOf a 317, slotOf a 318, slotOf a 319, slotOf a 320, slotOf a 321, slotOf a 322, slotOf a 323, slotOf a 324, slotOf a 325, slotOf a 326, slotOf a 327, slotOf a 328, slotOf a 329, slotOf a 330, slotOf a 331, slotOf a 332, slotOf a 333, slotOf a 334, slotOf a 335, slotOf a 336, slotOf a 337, slotOf a 338, slotOf a 339, slotOf a 340, slotOf a 341, slotOf a 342, slotOf a 343, slotOf a 344, slotOf a 345, slotOf a 346, slotOf a 347, slotOf a 348, slotOf a 349, slotOf a 350, slotOf a 351, slotOf a 352, slotOf a 353, slotOf a 354, slotOf a 355, slotOf a 356, slotOf a 357, slotOf a 358, slotOf a 359, slotOf a 360, slotOf a 361, slotOf a 362, slotOf a 363, slotOf a 364, slotOf a 365, slotOf a 366, slotOf a 367, slotOf a 368, slotOf a 369, slotOf a 370, slotOf a 371, slotOf a 372, slotOf a 373, slotOf a 374, slotOf a 375, slotOf a 376, slotOf a 377, slotOf a 378, slotOf a 379, slotOf a 380, slotOf a 381, slotOf a 382, slotOf a 383, slotOf a 384, slotOf a 385, slotOf a 386, slotOf a 387, slotOf a 388, slotOf a 389, slotOf a 390, slotOf a 391, slotOf a 392, slotOf a 393, slotOf a 394, slotOf a 395, slotOf a 396, slotOf a 397, slotOf a 398, slotOf a 399, slotOf a 400, slotOf a 401, slotOf a 402, slotOf a 403], []⟩ := frame_of hs hd
end Go.Proofs.YtcodhjoiikdhmaaGreatDoor

/- Writer.Close: its frame; one header of the directory. -/
import Derived.Test.YtalgnjkdoaaacaaGreatDoorQdj
import Derived.Test.YtalgnjkdoaaacaaGreatDoorQdd
import Derived.Test.YtalgnjkdoaaacaaGreatDoorQka
set_option linter.unusedVariables false
set_option linter.unusedSimpArgs false
namespace Go.Proofs.YtalgnjkdoaaacaaGreatDoor
open Go Go.RowKit
open Zp
/-- What stands from region n on, to the end of the sequence whose statement begins with it. -/
def sufHead (n : Nat) : Code → Option Code
  | .seq a b => if firstReg a = some n then some (.seq a b) else match sufHead n a with
    | some c => some c
    | none => sufHead n b
  | .region i o d => if i = n then some (.region i o d) else none
  | .scope c => sufHead n c
  | .block _ c => sufHead n c
  | .loop c => sufHead n c
  | .cond _ a b => match sufHead n a with
    | some c => some c
    | none => sufHead n b
  | _ => none
/-- A normal end alone. -/
def NQ (R : Act → World → Prop) (e : Exit) (a : Act) (w : World) : Prop := match e with
  | .normal => R a w
  | _ => False
theorem wp_nq {P : Program} {s : Code} {R : Act → World → Prop} {Q : Exit → Act → World → Prop} {a : Act} {w : World} (h : s.wp P (NQ R) a w) (hQ : ∀ a' w', R a' w' → Q .normal a' w') : s.wp P Q a w := by
  refine wp_mono h ?_
  intro e a' w' hq
  cases e with
  | normal => exact hQ _ _ hq
  | _ => exact False.elim hq
noncomputable def cloFrom (n : Nat) : Code := ((Tryz.f67.body.bind (sufHead n))).getD .skip
noncomputable def cloLoop (n : Nat) : Code := ((Tryz.f67.body.bind (loopAt n))).getD .skip
set_option maxRecDepth 100000 in
theorem frame520 {a : Act} (hs : a.tmps.size = 520) (hd : a.defers = []) : a = ⟨#[slotOf a 0, slotOf a 1, slotOf a 2, slotOf a 3, slotOf a 4, slotOf a 5, slotOf a 6, slotOf a 7, slotOf a 8, slotOf a 9, slotOf a 10, slotOf a 11, slotOf a 12, slotOf a 13, slotOf a 14, slotOf a 15, slotOf a 16, slotOf a 17, slotOf a 18, slotOf a 19, slotOf a 20, slotOf a 21, slotOf a 22, slotOf a 23, slotOf a 24, slotOf a 25, slotOf a 26, slotOf a 27, slotOf a 28, slotOf a 29, slotOf a 30, slotOf a 31, slotOf a 32, slotOf a 33, slotOf a 34, slotOf a 35, slotOf a 36, slotOf a 37, slotOf a 38, slotOf a 39, slotOf a 40, slotOf a 41, slotOf a 42, slotOf a 43, slotOf a 44, slotOf a 45, slotOf a 46, slotOf a 47, slotOf a 48, slotOf a 49, slotOf a 50, slotOf a 51, slotOf a 52, slotOf a 53, slotOf a 54, slotOf a 55, slotOf a 56, slotOf a 57, slotOf a 58, slotOf a 59, slotOf a 60, slotOf a 61, slotOf a 62, slotOf a 63, slotOf a 64, slotOf a 65, slotOf a 66, slotOf a 67, slotOf a 68, slotOf a 69, slotOf a 70, slotOf a 71, slotOf a 72, slotOf a 73, slotOf a 74, slotOf a 75, slotOf a 76, slotOf a 77, slotOf a 78, slotOf a 79, slotOf a 80, slotOf a 81, slotOf a 82, slotOf a 83, slotOf a 84, slotOf a 85, slotOf a 86, slotOf a 87, slotOf a 88, slotOf a 89, slotOf a 90, slotOf a 91, slotOf a 92, slotOf a 93, slotOf a 94, slotOf a 95, slotOf a 96, slotOf a 97, slotOf a 98, slotOf a 99, slotOf a 100, slotOf a 101, slotOf a 102, slotOf a 103, slotOf a 104, slotOf a 105, slotOf a 106, slotOf a 107, slotOf a 108, slotOf a 109, slotOf a 110, slotOf a 111, slotOf a 112, slotOf a 113, slotOf a 114, slotOf a 115, slotOf a 116, slotOf a 117, slotOf a 118, slotOf a 119, slotOf a 120, slotOf a 121, slotOf a 122, slotOf a 123, slotOf a 124, slotOf a 125, slotOf a 126, slotOf a 127, slotOf a 128, slotOf a 129, slotOf a 130, slotOf a 131, slotOf a 132, slotOf a 133, slotOf a 134, slotOf a 135, slotOf a 136, slotOf a 137, slotOf a 138, slotOf a 139, slotOf a 140, slotOf a 141, slotOf a 142, slotOf a 143, slotOf a 144, slotOf a 145, slotOf a 146, slotOf a 147, slotOf a 148, slotOf a 149, slotOf a 150, slotOf a 151, slotOf a 152, slotOf a 153, slotOf a 154, slotOf a 155, slotOf a 156, slotOf a 157, slotOf a 158, slotOf a 159, slotOf a 160, slotOf a 161, slotOf a 162, slotOf a 163, slotOf a 164, slotOf a 165, slotOf a 166, slotOf a 167, slotOf a 168, slotOf a 169, slotOf a 170, slotOf a 171, slotOf a 172, slotOf a 173, slotOf a 174, slotOf a 175, slotOf a 176, slotOf a 177, slotOf a 178, slotOf a 179, slotOf a 180, slotOf a 181, slotOf a 182, slotOf a 183, slotOf a 184, slotOf a 185, slotOf a 186, slotOf a 187, slotOf a 188, slotOf a 189, slotOf a 190, slotOf a 191, slotOf a 192, slotOf a 193, slotOf a 194, slotOf a 195, slotOf a 196, slotOf a 197, slotOf a 198, slotOf a 199, slotOf a 200, slotOf a 201, slotOf a 202, slotOf a 203, slotOf a 204, slotOf a 205, slotOf a 206, slotOf a 207, slotOf a 208, slotOf a 209, slotOf a 210, slotOf a 211, slotOf a 212, slotOf a 213, slotOf a 214, slotOf a 215, slotOf a 216, slotOf a 217, slotOf a 218, slotOf a 219, slotOf a 220, slotOf a 221, slotOf a 222, slotOf a 223, slotOf a 224, slotOf a 225, slotOf a 226, slotOf a 227, slotOf a 228, slotOf a 229, slotOf a 230, slotOf a 231, slotOf a 232, slotOf a 233, slotOf a 234, slotOf a 235, slotOf a 236, slotOf a 237, slotOf a 238, slotOf a 239, slotOf a 240, slotOf a 241, slotOf a 242, slotOf a 243, slotOf a 244, slotOf a 245, slotOf a 246, slotOf a 247, slotOf a 248, slotOf a 249, slotOf a 250, slotOf a 251, slotOf a 252, slotOf a 253, slotOf a 254, slotOf a 255, slotOf a 256, slotOf a 257, slotOf a 258, slotOf a 259, slotOf a 260, slotOf a 261, slotOf a 262, slotOf a 263, slotOf a 264, slotOf a 265, slotOf a 266, slotOf a 267, slotOf a 268, slotOf a 269, slotOf a 270, slotOf a 271, slotOf a 272, slotOf a 273, slotOf a 274, slotOf a 275, slotOf a 276, slotOf a 277, slotOf a 278, slotOf a 279, slotOf a 280, slotOf a 281, slotOf a 282, slotOf a 283, slotOf a 284, slotOf a 285, slotOf a 286, slotOf a 287, slotOf a 288, slotOf a 289, slotOf a 290, slotOf a 291, slotOf a 292, slotOf a 293, slotOf a 294, slotOf a 295, slotOf a 296, slotOf a 297, slotOf a 298, slotOf a 299, slotOf a 300, slotOf a 301, slotOf a 302, slotOf a 303, slotOf a 304, slotOf a 305, slotOf a 306, slotOf a 307, slotOf a 308, slotOf a 309, slotOf a 310, slotOf a 311, slotOf a 312, slotOf a 313, slotOf a 314, slotOf a 315, slotOf a 316, slotOf a 317, slotOf a 318, slotOf a 319, slotOf a 320, slotOf a 321, slotOf a 322, slotOf a 323, slotOf a 324, slotOf a 325, slotOf a 326, slotOf a 327, slotOf a 328, slotOf a 329, slotOf a 330, slotOf a 331, slotOf a 332, slotOf a 333, slotOf a 334, slotOf a 335, slotOf a 336, slotOf a 337, slotOf a 338, slotOf a 339, slotOf a 340, slotOf a 341, slotOf a 342, slotOf a 343, slotOf a 344, slotOf a 345, slotOf a 346, slotOf a 347, slotOf a 348, slotOf a 349, slotOf a 350, slotOf a 351, slotOf a 352, slotOf a 353, slotOf a 354, slotOf a 355, slotOf a 356, slotOf a 357, slotOf a 358, slotOf a 359, slotOf a 360, slotOf a 361, slotOf a 362, slotOf a 363, slotOf a 364, slotOf a 365, slotOf a 366, slotOf a 367, slotOf a 368, slotOf a 369, slotOf a 370, slotOf a 371, slotOf a 372, slotOf a 373, slotOf a 374, slotOf a 375, slotOf a 376, slotOf a 377, slotOf a 378, slotOf a 379, slotOf a 380, slotOf a 381, slotOf a 382, slotOf a 383, slotOf a 384, slotOf a 385, slotOf a 386, slotOf a 387, slotOf a 388, slotOf a 389, slotOf a 390, slotOf a 391, slotOf a 392, slotOf a 393, slotOf a 394, slotOf a 395, slotOf a 396, slotOf a 397, slotOf a 398, slotOf a 399, slotOf a 400, slotOf a 401, slotOf a 402, slotOf a 403, slotOf a 404, slotOf a 405, slotOf a 406, slotOf a 407, slotOf a 408, slotOf a 409, slotOf a 410, slotOf a 411, slotOf a 412, slotOf a 413, slotOf a 414, slotOf a 415, slotOf a 416, slotOf a 417, slotOf a 418, slotOf a 419, slotOf a 420, slotOf a 421, slotOf a 422, slotOf a 423, slotOf a 424, slotOf a 425, slotOf a 426, slotOf a 427, slotOf a 428, slotOf a 429, slotOf a 430, slotOf a 431, slotOf a 432, slotOf a 433, slotOf a 434, slotOf a 435, slotOf a 436, slotOf a 437, slotOf a 438, slotOf a 439, slotOf a 440, slotOf a 441, slotOf a 442, slotOf a 443, slotOf a 444, slotOf a 445, slotOf a 446, slotOf a 447, slotOf a 448, slotOf a 449, slotOf a 450, slotOf a 451, slotOf a 452, slotOf a 453, slotOf a 454, slotOf a 455, slotOf a 456, slotOf a 457, slotOf a 458, slotOf a 459, slotOf a 460, slotOf a 461, slotOf a 462, slotOf a 463, slotOf a 464, slotOf a 465, slotOf a 466, slotOf a 467, slotOf a 468, slotOf a 469, slotOf a 470, slotOf a 471, slotOf a 472, slotOf a 473, slotOf a 474, slotOf a 475, slotOf a 476, slotOf a 477, slotOf a 478, slotOf a 479, slotOf a 480, slotOf a 481, slotOf a 482, slotOf a 483, slotOf a 484, slotOf a 485, slotOf a 486, slotOf a 487, slotOf a 488, slotOf a 489, slotOf a 490, slotOf a 491, slotOf a 492, slotOf a 493, slotOf a 494, slotOf a 495, slotOf a 496, slotOf a 497, slotOf a 498, slotOf a 499, slotOf a 500, slotOf a 501, slotOf a 502, slotOf a 503, slotOf a 504, slotOf a 505, slotOf a 506, slotOf a 507, slotOf a 508, slotOf a 509, slotOf a 510, slotOf a 511, slotOf a 512, slotOf a 513, slotOf a 514, slotOf a 515, slotOf a 516, slotOf a 517, slotOf a 518, slotOf a 519], []⟩ := frame_of hs hd
/-- What Close's frame holds while the directory is written. -/
structure FrC (zw : Nat) (dv : Value) (start n k : Nat) (a : Act) : Prop where
  size : a.tmps.size = 520
  defers : a.defers = []
  s0 : slotOf a 0 = .pointer (some ⟨zw, 0, none⟩)
  s2 : slotOf a 2 = .nilIface
  s4 : slotOf a 4 = .int .i64 (start : Int)
  s5 : slotOf a 5 = .bool false
  s82 : slotOf a 82 = dv
  s83 : slotOf a 83 = .int .i64 (n : Int)
  s84 : slotOf a 84 = .int .i64 (k : Int)
/-- A header's two blocks. -/
structure HDX (w : World) (x : WR) (rw nu : Bool) (m0 m1 : Int) (mp ea : Option Addr) (ec : Nat) : Prop where
  h : Blk w x.hh 153 #[.pointer (some ⟨x.fh, 0, none⟩), .int .u64 (x.off : Int), .bool rw]
  f : Blk w x.fh 78 (fhC x.nm x.cm nu x.cr x.rd x.fl x.me x.ti x.da x.cs x.pk x.sz x.ext (.slice ea x.exb.length ec) m0 m1 mp)
theorem HDX.fr {w w' : World} {S : List Nat} {x : WR} {rw nu : Bool} {m0 m1 : Int} {mp ea : Option Addr} {ec : Nat} (h : HDX w x rw nu m0 m1 mp ea ec) (hf : Fr S w w') (h1 : x.hh ∉ S) (h2 : x.fh ∉ S) : HDX w' x rw nu m0 m1 mp ea ec := ⟨h.h.fr hf h1, h.f.fr hf h2⟩
theorem exX {w w13 : World} {base cw bw bf sb : Nat} {own own2 : Option Nat} {T T0 exb : By} {ea : Option Addr} {ec : Nat} (hE : ExA w bf own ea ec exb) (h0 : CW w base cw bw bf sb own T0)
    (hC : CW w13 base cw bw bf sb own2 T) (hF : Fr (cwS cw bw bf sb own) w w13) (hO : OwnN w own own2) (hT : T.length + exb.length ≤ 4000000000) : ∀ W, Fr [] w13 W → Calls Tryz.prog 95 #[.pointer (some ⟨cw, 0, none⟩), .slice ea exb.length ec] W (WrP W base cw bw bf sb own2 T exb) := by
  intro W hW
  have h13 := hE.fr h0 hF hO (FarR.cw _ _ _ _ _ _)
  have h14 : ExA W bf own2 ea ec exb := h13.fr hC hW (.inl rfl) (FarR.nil _ _ _ _ _ _)
  rcases h14 with rfl | ⟨ge, oe, h1, h2, ⟨cs, q, h3⟩, h4, h5, h6, h7⟩
  · exact cwWrite W base cw bw bf sb own2 T [] 0 0 ec _ (hC.nil hW) hT (.inl rfl)
  · have hoff : Off ge cw bw bf sb own2 := by
      have key : ∀ s, s ∈ cwS cw bw bf sb own2 → s ≠ ge := fun s hs he => by
        subst he
        obtain ⟨t, cs', hb, hk⟩ := (hC.nil hW).typ hs
        have ht : t = 5 := by
          unfold Blk at hb; rw [h3] at hb; injection hb with hb; injection hb with _ hb _; exact hb.symm
        rcases hk with ⟨k, -⟩ | ⟨k, -⟩ | ⟨k, -⟩ | ⟨-, k | k⟩
        · rw [ht] at k; exact absurd k (by decide)
        · rw [ht] at k; exact absurd k (by decide)
        · rw [ht] at k; exact absurd k (by decide)
        · exact h4 k
        · exact h5 k
      exact ⟨fun e => key cw (by simp [cwS]) e.symm, fun e => key bw (by simp [cwS]) e.symm, h4, fun e => key sb (by simp [cwS]) e.symm, h5⟩
    exact cwWrite W base cw bw bf sb own2 T exb ge oe ec _ (hC.nil hW) hT (.inr ⟨h1, h2, heap_lt h3, hoff, h6, h7⟩)
/-- What a part of the writing leaves. -/
def WrQ (w : World) (base cw bw bf sb : Nat) (own : Option Nat) (T : By) (w' : World) : Prop :=
  ∃ own', CW w' base cw bw bf sb own' T ∧ OwnN w own own' ∧ Fr (cwS cw bw bf sb own) w w'
set_option maxRecDepth 100000 in
set_option maxHeartbeats 16000000 in
theorem clo59 (a : Act) (w : World) (zw base cw bw bf sb start n k : Nat) (dv dv0 last : Value) (cl : Bool) (c : By) (own : Option Nat) (T : By) (x : WR) (rw nu : Bool) (m0 m1 : Int) (mp ea : Option Addr) (ec : Nat)
    (hA : FrC zw dv start n k a) (h7 : slotOf a 7 = .pointer (some ⟨x.hh, 0, none⟩)) (hk9 : k < 1000)
    (hz : Blk w zw 136 (zwC cw dv0 last cl c)) (hC : CW w base cw bw bf sb own T) (hX : HDX w x rw nu m0 m1 mp ea ec) (hE : ExA w bf own ea ec x.exb) (b13 : x.cm.length ≤ 60000) (b14 : x.exb.length ≤ 60000) (hT : T.length + 200000 ≤ 4000000000) (Q : Exit → Act → World → Prop)
    (hQ : ∀ a' w', FrC zw dv start n k a' → WrQ w base cw bw bf sb own (T ++ x.exb ++ x.cm) w' → Q .normal a' w') :
    (cloFrom 59).wp Tryz.prog Q a w := by
  refine wp_nq (R := fun a' w' => FrC zw dv start n k a' ∧ WrQ w base cw bw bf sb own (T ++ x.exb ++ x.cm) w') ?_ (fun a' w' h => hQ a' w' h.1 h.2)
  clear hQ
  have HHH := Lib.hid hX
  have HC := Lib.hid hC
  have HZ := Lib.hid hz
  have HO1 := Lib.hid (hC.offBlk hX.h (by decide) (by decide) (by decide) (by decide))
  have HO2 := Lib.hid (hC.offBlk hX.f (by decide) (by decide) (by decide) (by decide))
  have HO3 := Lib.hid (hC.offBlk hz (by decide) (by decide) (by decide) (by decide))
  have hcs := bs_size x.cm
  have hcv : ∀ W : World, (convert 9 76 (.string (bs x.cm))).run Tryz.prog W = .ok (.slice (some ⟨W.heap.size, 0, none⟩) (bs x.cm).size (grownCap W (bs x.cm).size 0 5)) (W.drew.alloc (.cells (bytesRow (bs x.cm) (grownCap W (bs x.cm).size 0 5)) 5 ((bytesRow (bs x.cm) (grownCap W (bs x.cm).size 0 5)).size, (bytesRow (bs x.cm) (grownCap W (bs x.cm).size 0 5)).size + 1))) := fun W => run_bytes_of_string W _ _ 5 (bs x.cm) Tryz.underlying9 Tryz.underlying76 (by kernel_rfl)
  have c0 := hX.h.at_ 0 (.pointer (some ⟨x.fh, 0, none⟩)) rfl
  have f0 := hX.f.at_ 17 (.slice ea x.exb.length ec) rfl
  have z0 := hz.at_ 0 (.pointer (some ⟨cw, 0, none⟩)) rfl
  have HWX := Lib.hid (fun W (hW : Fr [] w W) => exX hE hC hC (Fr.refl _ _) (.inl rfl) (by omega) W hW)
  obtain ⟨L, hL⟩ : ∃ L, x.exb.length = L := ⟨_, rfl⟩
  have HLX := Lib.hid hL
  rw [hL] at HWX f0
  rw [frame520 hA.size hA.defers, hA.s0, hA.s2, hA.s4, hA.s5, hA.s82, hA.s83, hA.s84, h7]
  clear hX hC hz hE hA h7 hL
  conv => arg 2; whnf
  go_wp2_with fail
  go_region_held3 (fun w' => w'.cell? ⟨zw, 0, none⟩ = some (.pointer (some ⟨cw, 0, none⟩)) ∧ w'.cell? ⟨x.hh, 0, none⟩ = some (.pointer (some ⟨x.fh, 0, none⟩)) ∧ w'.cell? ⟨x.fh, 17, none⟩ = some (.slice ea L ec))
    ((first | exact ⟨z0, c0, f0⟩ | exact KS.out | assumption))
    ((first | (go_at_call 95; (with_reducible refine (HWX.out _ ((Fr.refl [] w).drew)).mono ?_); rintro e w14 ⟨own3, rfl, hc3, ho3, hf3⟩; have hn14 : Fr (cwS cw bw bf sb own) w w14 := fr0 ((Fr.refl [] w).drew) hf3; have hk3 := HHH.out.fr hn14 HO1.out.not HO2.out.not; have KS := Lib.hid (And.intro ((HZ.out.fr hn14 HO3.out.not).at_ 0 (.pointer (some ⟨cw, 0, none⟩)) rfl) (And.intro (hk3.h.at_ 0 (.pointer (some ⟨x.fh, 0, none⟩)) rfl) (hk3.f.at_ 17 (.slice ea x.exb.length ec) rfl))); rw [HLX.out] at KS)))
  have HF14 := Lib.hid hn14
  have HO14 := Lib.hid (show OwnN w own own3 from ho3)
  have HC14 := Lib.hid hc3
  clear hc3 ho3 hf3 KS c0 f0 z0
  have hk4 := hk3
  have c0 := hk4.h.at_ 0 (.pointer (some ⟨x.fh, 0, none⟩)) rfl
  have f0 := hk4.f.at_ 1 (.string (bs x.cm)) rfl
  have hz4 := HZ.out.fr hn14 HO3.out.not
  have z0 := hz4.at_ 0 (.pointer (some ⟨cw, 0, none⟩)) rfl
  have hkl := And.intro hk4.h.lt (And.intro hk4.f.lt hz4.lt)
  have KS := Lib.hid (fun (W : World) (hf : Fr [] w14 W) => And.intro ((hf.cell (p := ⟨zw, 0, none⟩) hkl.2.2 (by simp)).trans z0) (And.intro ((hf.cell (p := ⟨x.hh, 0, none⟩) hkl.1 (by simp)).trans c0) ((hf.cell (p := ⟨x.fh, 1, none⟩) hkl.2.1 (by simp)).trans f0)))
  clear hk3 hk4 hn14 hz4
  go_wp2_with fail
  go_region_law
    ((first | (go_simp; go_at_call 95; (with_reducible refine Calls.mono (cwStr w14 _ base cw bw bf sb own3 (T ++ x.exb) x.cm _ HC14.out (by first | exact ((Fr.refl [] w14).alloc _).drew.drew | exact ((Fr.refl [] w14).alloc _).drew) (by first | exact (rdStr w14 _ _ _ _ (by rw [← hcs]; exact grownCap_ge _ _ _ _)).drew.drew | exact (rdStr w14 _ _ _ _ (by rw [← hcs]; exact grownCap_ge _ _ _ _)).drew) (by simp) (by rw [List.length_append]; omega) (by rw [← hcs]; exact grownCap_ge _ _ _ _) (by exact grownCap_le_maxLen _ _ _ _ (by unfold maxLen; omega))) ?_); rintro e w15 ⟨own4, rfl, hc4, ho4, hf4⟩; have hn15 := wr_next HF14.out HO14.out (by first | exact ((Fr.refl [] w14).alloc _).drew.drew | exact ((Fr.refl [] w14).alloc _).drew) hf4 ho4; clear hf4 ho4 hcv KS)))
  all_goals go_wp2_with fail
  all_goals exact ⟨⟨rfl, rfl, rfl, rfl, rfl, rfl, rfl, rfl, rfl⟩, ⟨own4, hc4, hn15.2, hn15.1⟩⟩
end Go.Proofs.YtalgnjkdoaaacaaGreatDoor

/- Writer.Close: one header of the directory. -/
namespace Go.Proofs.YtalgnjkdoaaacaaGreatDoor
open Go Go.RowKit
open Zp
set_option maxRecDepth 100000 in
set_option maxHeartbeats 16000000 in
theorem clo35 (a : Act) (w : World) (zw base cw bw bf sb start n k : Nat) (dv dv0 last : Value) (cl : Bool) (c : By) (own : Option Nat) (T : By) (x : WR) (rw nu : Bool) (m0 m1 : Int) (mp ea : Option Addr) (ec : Nat)
    (hA : FrC zw dv start n k a) (h7 : slotOf a 7 = .pointer (some ⟨x.hh, 0, none⟩)) (h8 : slotOf a 8 = .int .u16 (x.rd : Int)) (hk9 : k < 1000)
    (hz : Blk w zw 136 (zwC cw dv0 last cl c)) (hC : CW w base cw bw bf sb own T) (hX : HDX w x rw nu m0 m1 mp ea ec) (hE : ExA w bf own ea ec x.exb) (hok : x.Ok) (hT : T.length + 400000 ≤ 4000000000) (Q : Exit → Act → World → Prop)
    (hQ : ∀ a' w', FrC zw dv start n k a' → WrQ w base cw bw bf sb own (T ++ cenL x) w' → Q .normal a' w') :
    (cloFrom 35).wp Tryz.prog Q a w := by
  refine wp_nq (R := fun a' w' => FrC zw dv start n k a' ∧ WrQ w base cw bw bf sb own (T ++ cenL x) w') ?_ (fun a' w' h => hQ a' w' h.1 h.2)
  clear hQ
  obtain ⟨b1, b2, b3, b4, b5, b6, b7, b8, b9, b10, b11, b12, b13, b14⟩ := hok
  have HHH := Lib.hid hX
  have HC := Lib.hid hC
  have HZ := Lib.hid hz
  have HEA := Lib.hid hE
  have HO1 := Lib.hid (hC.offBlk hX.h (by decide) (by decide) (by decide) (by decide))
  have HO2 := Lib.hid (hC.offBlk hX.f (by decide) (by decide) (by decide) (by decide))
  have HO3 := Lib.hid (hC.offBlk hz (by decide) (by decide) (by decide) (by decide))
  have hns := bs_size x.nm
  have hcs := bs_size x.cm
  have i3 : min (x.pk : Int) 4294967295 = (x.pk : Int) := by omega
  have i4 : min (x.sz : Int) 4294967295 = (x.sz : Int) := by omega
  have i5 : min (x.off : Int) 4294967295 = (x.off : Int) := by omega
  have i6 : (x.nm.length : Int) % 65536 = (x.nm.length : Int) := by omega
  have hal : ∀ (ρ : Operand → Value) (W : World), (execOp ρ { dst := some 13, op := .alloc 203, type := 0, pos := "writer.go:133", after := #[], guard := none }).run Tryz.prog W = .ok (.value (.pointer (some ⟨W.heap.size, 0, none⟩))) (W.alloc (.cells (zeros 46) 203)) := fun ρ W => by kernel_rfl
  rw [frame520 hA.size hA.defers, hA.s0, hA.s2, hA.s4, hA.s5, hA.s82, hA.s83, hA.s84, h7, h8]
  clear hX hC hz hE hA h7 h8
  conv => arg 2; whnf
  apply wp_seq_k; intro K hK
  refine wp_region_list ?_
  change wpList _ _ _ [_] _ _
  refine Go.Great.wpList_runTo rfl (some 13) rfl _ _ (hal _ _) ?_
  clear hal
  go_wp2_with fail

  have HF0 := Lib.hid (show Fr [] w ((w.alloc (.cells (zeros 46) 203)).alloc (.cells #[.slice (some ⟨w.heap.size, 0, none⟩) 46 46] 147)) from ((Fr.refl [] w).alloc _).alloc _)
  have hh0 : Blk ((w.alloc (.cells (zeros 46) 203)).alloc (.cells #[.slice (some ⟨w.heap.size, 0, none⟩) 46 46] 147)) (w.heap.size + 1) 147 #[.slice (some ⟨w.heap.size, 0, none⟩) 46 46] := by have := Blk.new (w.alloc (.cells (zeros 46) 203)) 147 #[.slice (some ⟨w.heap.size, 0, none⟩) 46 46]; rw [World.size_alloc] at this; exact this
  have HB0 := Lib.hid (show WZ ((w.alloc (.cells (zeros 46) 203)).alloc (.cells #[.slice (some ⟨w.heap.size, 0, none⟩) 46 46] 147)) w.heap.size (w.heap.size + 1) 203 46 [] from ⟨⟨w.heap.size, 0, none⟩, by rw [rowZ_nil]; exact (Blk.new w _ _).alloc _, by simp, hh0, fun _ => rfl, by omega⟩)
  clear hh0
  refine (wz32 _ w.heap.size (w.heap.size + 1) 203 46 _ (33639248) HB0.out (by simp [le_length]) (by omega) (by decide)).mono ?_
  rintro e w1 ⟨rfl, hwb, hf, -⟩
  have HB1 := Lib.hid hwb
  have HF1 := Lib.hid (fr2 HF0.out hf (Nat.le_refl _))
  clear hwb hf HB0 HF0
  have hk := HHH.out.fr HF1.out (by simp) (by simp)
  have c0 := hk.h.at_ 0 (.pointer (some ⟨x.fh, 0, none⟩)) rfl
  have f0 := hk.f.at_ 3 (.int .u16 (x.cr : Int)) rfl
  clear hk
  go_wp2_with fail
  clear f0 c0
  refine (wz16 _ w.heap.size (w.heap.size + 1) 203 46 _ (x.cr) HB1.out (by simp [le_length]) (by omega) (by decide)).mono ?_
  rintro e w2 ⟨rfl, hwb, hf, -⟩
  have HB2 := Lib.hid hwb
  have HF2 := Lib.hid (fr2 HF1.out hf (Nat.le_refl _))
  clear hwb hf HB1 HF1
  go_wp2_with fail
  refine (wz16 _ w.heap.size (w.heap.size + 1) 203 46 _ (x.rd) HB2.out (by simp [le_length]) (by omega) (by decide)).mono ?_
  rintro e w3 ⟨rfl, hwb, hf, -⟩
  have HB3 := Lib.hid hwb
  have HF3 := Lib.hid (fr2 HF2.out hf (Nat.le_refl _))
  clear hwb hf HB2 HF2
  have hk := HHH.out.fr HF3.out (by simp) (by simp)
  have c0 := hk.h.at_ 0 (.pointer (some ⟨x.fh, 0, none⟩)) rfl
  have f0 := hk.f.at_ 5 (.int .u16 (x.fl : Int)) rfl
  clear hk
  go_wp2_with fail
  clear f0 c0
  refine (wz16 _ w.heap.size (w.heap.size + 1) 203 46 _ (x.fl) HB3.out (by simp [le_length]) (by omega) (by decide)).mono ?_
  rintro e w4 ⟨rfl, hwb, hf, -⟩
  have HB4 := Lib.hid hwb
  have HF4 := Lib.hid (fr2 HF3.out hf (Nat.le_refl _))
  clear hwb hf HB3 HF3
  have hk := HHH.out.fr HF4.out (by simp) (by simp)
  have c0 := hk.h.at_ 0 (.pointer (some ⟨x.fh, 0, none⟩)) rfl
  have f0 := hk.f.at_ 6 (.int .u16 (x.me : Int)) rfl
  clear hk
  go_wp2_with fail
  clear f0 c0
  refine (wz16 _ w.heap.size (w.heap.size + 1) 203 46 _ (x.me) HB4.out (by simp [le_length]) (by omega) (by decide)).mono ?_
  rintro e w5 ⟨rfl, hwb, hf, -⟩
  have HB5 := Lib.hid hwb
  have HF5 := Lib.hid (fr2 HF4.out hf (Nat.le_refl _))
  clear hwb hf HB4 HF4
  have hk := HHH.out.fr HF5.out (by simp) (by simp)
  have c0 := hk.h.at_ 0 (.pointer (some ⟨x.fh, 0, none⟩)) rfl
  have f0 := hk.f.at_ 10 (.int .u16 (x.ti : Int)) rfl
  clear hk
  go_wp2_with fail
  clear f0 c0
  refine (wz16 _ w.heap.size (w.heap.size + 1) 203 46 _ (x.ti) HB5.out (by simp [le_length]) (by omega) (by decide)).mono ?_
  rintro e w6 ⟨rfl, hwb, hf, -⟩
  have HB6 := Lib.hid hwb
  have HF6 := Lib.hid (fr2 HF5.out hf (Nat.le_refl _))
  clear hwb hf HB5 HF5
  have hk := HHH.out.fr HF6.out (by simp) (by simp)
  have c0 := hk.h.at_ 0 (.pointer (some ⟨x.fh, 0, none⟩)) rfl
  have f0 := hk.f.at_ 11 (.int .u16 (x.da : Int)) rfl
  clear hk
  go_wp2_with fail
  clear f0 c0
  refine (wz16 _ w.heap.size (w.heap.size + 1) 203 46 _ (x.da) HB6.out (by simp [le_length]) (by omega) (by decide)).mono ?_
  rintro e w7 ⟨rfl, hwb, hf, -⟩
  have HB7 := Lib.hid hwb
  have HF7 := Lib.hid (fr2 HF6.out hf (Nat.le_refl _))
  clear hwb hf HB6 HF6
  have hk := HHH.out.fr HF7.out (by simp) (by simp)
  have c0 := hk.h.at_ 0 (.pointer (some ⟨x.fh, 0, none⟩)) rfl
  have f0 := hk.f.at_ 12 (.int .u32 (x.cs : Int)) rfl
  clear hk
  go_wp2_with fail
  clear f0 c0
  refine (wz32 _ w.heap.size (w.heap.size + 1) 203 46 _ (x.cs) HB7.out (by simp [le_length]) (by omega) (by decide)).mono ?_
  rintro e w8 ⟨rfl, hwb, hf, -⟩
  have HB8 := Lib.hid hwb
  have HF8 := Lib.hid (fr2 HF7.out hf (Nat.le_refl _))
  clear hwb hf HB7 HF7
  have hk := HHH.out.fr HF8.out (by simp) (by simp)
  have c0 := hk.h.at_ 0 (.pointer (some ⟨x.fh, 0, none⟩)) rfl
  have f0 := hk.f.at_ 15 (.int .u64 (x.pk : Int)) rfl
  clear hk
  go_wp2_with fail
  clear f0 c0
  refine (wz32 _ w.heap.size (w.heap.size + 1) 203 46 _ (x.pk) HB8.out (by simp [le_length]) (by omega) (by decide)).mono ?_
  rintro e w9 ⟨rfl, hwb, hf, -⟩
  have HB9 := Lib.hid hwb
  have HF9 := Lib.hid (fr2 HF8.out hf (Nat.le_refl _))
  clear hwb hf HB8 HF8
  have hk := HHH.out.fr HF9.out (by simp) (by simp)
  have c0 := hk.h.at_ 0 (.pointer (some ⟨x.fh, 0, none⟩)) rfl
  have f0 := hk.f.at_ 16 (.int .u64 (x.sz : Int)) rfl
  clear hk
  go_wp2_with fail
  clear f0 c0
  refine (wz32 _ w.heap.size (w.heap.size + 1) 203 46 _ (x.sz) HB9.out (by simp [le_length]) (by omega) (by decide)).mono ?_
  rintro e w10 ⟨rfl, hwb, hf, -⟩
  have HB10 := Lib.hid hwb
  have HF10 := Lib.hid (fr2 HF9.out hf (Nat.le_refl _))
  clear hwb hf HB9 HF9
  have hk := HHH.out.fr HF10.out (by simp) (by simp)
  have c0 := hk.h.at_ 0 (.pointer (some ⟨x.fh, 0, none⟩)) rfl
  have f0 := hk.f.at_ 0 (.string (bs x.nm)) rfl
  clear hk
  go_wp2_with fail
  clear f0 c0
  refine (wz16 _ w.heap.size (w.heap.size + 1) 203 46 _ (x.nm.length) HB10.out (by simp [le_length]) (by omega) (by decide)).mono ?_
  rintro e w11 ⟨rfl, hwb, hf, -⟩
  have HB11 := Lib.hid hwb
  have HF11 := Lib.hid (fr2 HF10.out hf (Nat.le_refl _))
  clear hwb hf HB10 HF10
  have hk := HHH.out.fr HF11.out (by simp) (by simp)
  have c0 := hk.h.at_ 0 (.pointer (some ⟨x.fh, 0, none⟩)) rfl
  have f0 := hk.f.at_ 17 (.slice ea x.exb.length ec) rfl
  clear hk
  go_wp2_with fail
  clear f0 c0
  refine (wz16 _ w.heap.size (w.heap.size + 1) 203 46 _ (x.exb.length) HB11.out (by simp [le_length]) (by omega) (by decide)).mono ?_
  rintro e w12 ⟨rfl, hwb, hf, -⟩
  have HB12 := Lib.hid hwb
  have HF12 := Lib.hid (fr2 HF11.out hf (Nat.le_refl _))
  clear hwb hf HB11 HF11
  have hk := HHH.out.fr HF12.out (by simp) (by simp)
  have c0 := hk.h.at_ 0 (.pointer (some ⟨x.fh, 0, none⟩)) rfl
  have f0 := hk.f.at_ 1 (.string (bs x.cm)) rfl
  clear hk
  go_wp2_with fail
  clear f0 c0
  refine (wz16 _ w.heap.size (w.heap.size + 1) 203 46 _ (x.cm.length) HB12.out (by simp [le_length]) (by omega) (by decide)).mono ?_
  rintro e w13 ⟨rfl, hwb, hf, -⟩
  have HB13 := Lib.hid hwb
  have HF13 := Lib.hid (fr2 HF12.out hf (Nat.le_refl _))
  clear hwb hf HB12 HF12
  obtain ⟨ad, hb, hP, hh, had, hgh⟩ := HB13.out
  have hPl : ([] ++ le 4 33639248 ++ le 2 (x.cr) ++ le 2 (x.rd) ++ le 2 (x.fl) ++ le 2 (x.me) ++ le 2 (x.ti) ++ le 2 (x.da) ++ le 4 (x.cs) ++ le 4 (x.pk) ++ le 4 (x.sz) ++ le 2 (x.nm.length) ++ le 2 (x.exb.length) ++ le 2 (x.cm.length) : By).length = 34 := by simp [le_length]
  rw [hPl] at hh had
  obtain rfl := had (by omega)
  have d0 := hh.at_ 0 _ rfl
  have y0 := hh.frozen 0
  have hbs := WZ.skip HB13.out 4 (by rw [hPl]; omega) ⟨w.heap.size, 38, none⟩ 8 (by rw [hPl]) (by rw [hPl]; exact fun _ => rfl)
  have HF13s := Lib.hid ((HF13.out).setCell (p := ⟨w.heap.size + 1, 0, none⟩) (.inr (by show w.heap.size ≤ w.heap.size + 1; omega)) (.slice (some ⟨w.heap.size, 38, none⟩) 8 8))
  have HB13s := Lib.hid hbs
  clear hbs hb hP hh had hgh hPl HB13
  have hk := HHH.out.fr HF13s.out (by simp) (by simp)
  have c0 := hk.h.at_ 0 (.pointer (some ⟨x.fh, 0, none⟩)) rfl
  have f0 := hk.f.at_ 18 (.int .u32 (x.ext : Int)) rfl
  have hk2 := HHH.out.fr HF13.out (by simp) (by simp)
  have c0' := hk2.h.at_ 0 (.pointer (some ⟨x.fh, 0, none⟩)) rfl
  have f0' := hk2.f.at_ 18 (.int .u32 (x.ext : Int)) rfl
  clear hk hk2
  go_wp2_with fail
  clear c0 f0 c0' f0' d0 y0
  replace HB13 := HB13s
  replace HF13 := HF13s
  refine (wz32 _ w.heap.size (w.heap.size + 1) 203 46 _ (x.ext) HB13.out (by simp [le_length]) (by omega) (by decide)).mono ?_
  rintro e w14 ⟨rfl, hwb, hf, -⟩
  have HB14 := Lib.hid hwb
  have HF14 := Lib.hid (fr2 HF13.out hf (Nat.le_refl _))
  clear hwb hf HB13 HF13
  have hk := HHH.out.fr HF14.out (by simp) (by simp)
  have f0 := hk.h.at_ 1 (.int .u64 (x.off : Int)) rfl
  clear hk
  go_wp2_with fail
  clear f0
  refine (wz32 _ w.heap.size (w.heap.size + 1) 203 46 _ (x.off) HB14.out (by simp [le_length]) (by omega) (by decide)).mono ?_
  rintro e w15 ⟨rfl, hwb, hf, -⟩
  have HB15 := Lib.hid hwb
  have HF15 := Lib.hid (fr2 HF14.out hf (Nat.le_refl _))
  clear hwb hf HB14 HF14
  obtain ⟨X, hX⟩ : ∃ X, (([] ++ le 4 33639248 ++ le 2 (x.cr) ++ le 2 (x.rd) ++ le 2 (x.fl) ++ le 2 (x.me) ++ le 2 (x.ti) ++ le 2 (x.da) ++ le 4 (x.cs) ++ le 4 (x.pk) ++ le 4 (x.sz) ++ le 2 (x.nm.length) ++ le 2 (x.exb.length) ++ le 2 (x.cm.length) ++ List.replicate 4 0 ++ le 4 (x.ext) ++ le 4 (x.off) : By)) = X := ⟨_, rfl⟩
  have hXl : X.length = 46 := by rw [← hX]; simp [le_length]
  have hXX : cenL x = X ++ x.nm ++ x.exb ++ x.cm := by rw [← hX, cenL, show sigC = le 4 33639248 from by decide, show List.replicate 4 (0 : UInt8) = le 2 0 ++ le 2 0 from by decide]; simp [List.append_assoc]
  have HXX := Lib.hid hXX
  rw [hX] at HB15
  clear hX hXX
  have HXL := Lib.hid hXl
  obtain ⟨aa, kb, -, -, -, -⟩ := HB15.out
  have kr2 := rowZ_rd kb
  have HW := Lib.hid (fun (w' : World) (hf : Fr [] w15 w') => cwWrite w' base cw bw bf sb own T X w.heap.size 0 46 (some ⟨w.heap.size, 0, none⟩) (HC.out.nil (HF15.out.trans hf (by simp))) (by omega) (.inr ⟨rfl, kr2.fr hf kb.lt (by simp), Nat.lt_of_lt_of_le kb.lt hf.size, HC.out.fresh (Nat.le_refl _), by omega, by decide⟩))
  rw [hXl] at HW
  have z0 := (HZ.out.fr HF15.out (by simp)).at_ 0 (.pointer (some ⟨cw, 0, none⟩)) rfl
  clear kb hXl kr2
  go_wp2_with fail
  go_region_held3 (fun w' => w'.cell? ⟨zw, 0, none⟩ = some (.pointer (some ⟨cw, 0, none⟩)))
    ((first | exact z0 | exact KS.out | assumption))
    ((first | (go_at_call 95; (with_reducible refine (HW.out _ ((Fr.refl [] w15).drew)).mono ?_); rintro e w16 ⟨own1, rfl, hc1, ho1, hf1⟩; have hn16 : Fr (cwS cw bw bf sb own) w w16 := fr0 HF15.out.drew hf1; have KS := Lib.hid ((HZ.out.fr hn16 HO3.out.not).at_ 0 (.pointer (some ⟨cw, 0, none⟩)) rfl))))
  have HF16 := Lib.hid hn16
  have HO16 := Lib.hid (show OwnN w own own1 from (show OwnN w own own from .inl rfl).trans ho1 (HF15.out.drew).size)
  have HC16 := Lib.hid hc1
  clear hc1 ho1 hf1 HB15 HF15 HW KS z0
  have hk4 := HHH.out.fr hn16 HO1.out.not HO2.out.not
  have c0 := hk4.h.at_ 0 (.pointer (some ⟨x.fh, 0, none⟩)) rfl
  have f0 := hk4.f.at_ 0 (.string (bs x.nm)) rfl
  have hz4 := HZ.out.fr hn16 HO3.out.not
  have z0 := hz4.at_ 0 (.pointer (some ⟨cw, 0, none⟩)) rfl
  have hkl := And.intro hk4.h.lt (And.intro hk4.f.lt hz4.lt)
  have KS := Lib.hid (fun (W : World) (hf : Fr [] w16 W) => And.intro ((hf.cell (p := ⟨zw, 0, none⟩) hkl.2.2 (by simp)).trans z0) (And.intro ((hf.cell (p := ⟨x.hh, 0, none⟩) hkl.1 (by simp)).trans c0) ((hf.cell (p := ⟨x.fh, 0, none⟩) hkl.2.1 (by simp)).trans f0)))
  have hcv : ∀ W : World, (convert 9 76 (.string (bs x.nm))).run Tryz.prog W = .ok (.slice (some ⟨W.heap.size, 0, none⟩) (bs x.nm).size (grownCap W (bs x.nm).size 0 5)) (W.drew.alloc (.cells (bytesRow (bs x.nm) (grownCap W (bs x.nm).size 0 5)) 5 ((bytesRow (bs x.nm) (grownCap W (bs x.nm).size 0 5)).size, (bytesRow (bs x.nm) (grownCap W (bs x.nm).size 0 5)).size + 1))) := fun W => run_bytes_of_string W _ _ 5 (bs x.nm) Tryz.underlying9 Tryz.underlying76 (by kernel_rfl)
  clear hk4 hz4
  go_wp2_with fail
  go_region_law
    ((first | (go_simp; go_at_call 95; (with_reducible refine Calls.mono (cwStr w16 _ base cw bw bf sb own1 (T ++ X) x.nm _ HC16.out (by first | exact ((Fr.refl [] w16).alloc _).drew.drew | exact ((Fr.refl [] w16).alloc _).drew) (by first | exact (rdStr w16 _ _ _ _ (by rw [← hns]; exact grownCap_ge _ _ _ _)).drew.drew | exact (rdStr w16 _ _ _ _ (by rw [← hns]; exact grownCap_ge _ _ _ _)).drew) (by simp) (by rw [List.length_append, HXL.out]; omega) (by rw [← hns]; exact grownCap_ge _ _ _ _) (by exact grownCap_le_maxLen _ _ _ _ (by unfold maxLen; omega))) ?_); rintro e w17 ⟨own2, rfl, hc2, ho2, hf2⟩; have hn17 := wr_next HF16.out HO16.out (by first | exact ((Fr.refl [] w16).alloc _).drew.drew | exact ((Fr.refl [] w16).alloc _).drew) hf2 ho2; clear hf2 ho2 hcv KS)))
  all_goals go_upto_if 341 with fail
  all_goals rename_i K hK
  all_goals have HK := Lib.hid hK
  all_goals clear hK
  all_goals go_wp2_with fail
  all_goals (
    have hX17 := HHH.out.fr hn17.1 HO1.out.not HO2.out.not
    refine HK.out _ _ (clo59 _ w17 zw base cw bw bf sb start n k dv dv0 last cl c own2 (T ++ X ++ x.nm) x rw nu m0 m1 mp ea ec ⟨rfl, rfl, rfl, rfl, rfl, rfl, rfl, rfl, rfl⟩ rfl hk9 (HZ.out.fr hn17.1 HO3.out.not) hc2 hX17 (HEA.out.fr HC.out hn17.1 hn17.2 (FarR.cw _ _ _ _ _ _)) b13 b14 (by rw [List.length_append, List.length_append, HXL.out]; omega) _ ?_)
    rintro a' w' hA' ⟨own5, hc5, ho5, hf5⟩
    have hn18 := wr_next hn17.1 hn17.2 (Fr.refl [] w17) hf5 ho5
    refine ⟨hA', own5, ?_, hn18.2, hn18.1⟩
    rw [HXX.out]
    simpa [List.append_assoc] using hc5)
end Go.Proofs.YtalgnjkdoaaacaaGreatDoor

/- An archive's bytes: where its headers, its end and its contents stand. -/
import Derived.Test.YtalgnjkdoaaacaaGreatDoorQnd
import Derived.Test.YtalgnjkdoaaacaaGreatDoorQoi
import Derived.Test.YtalgnjkdoaaacaaGreatDoorQkf
import Derived.Test.YtalgnjkdoaaacaaGreatDoorQp
import Derived.Test.YtalgnjkdoaaacaaGreatDoorQap
set_option linter.unusedVariables false
set_option linter.unusedSimpArgs false
namespace Go.Proofs.YtalgnjkdoaaacaaGreatDoor
open Go Go.RowKit
open Zp
namespace Zp
theorem drop_at {s A X : By} {p : Nat} (hs : s = A ++ X) (hA : A.length = p) (i : Nat) : s.drop (p + i) = X.drop i := by
  subst hs; subst hA
  rw [← List.drop_drop, List.drop_left]
theorem drop_at0 {s A X : By} {p : Nat} (hs : s = A ++ X) (hA : A.length = p) : s.drop p = X := by
  have := drop_at hs hA 0
  simpa using this
theorem fieldsB_length (h : Hd) : (fieldsB h).length = 20 := by simp [fieldsB]
theorem localB_length (h : Hd) : (localB h).length = 30 + h.name.length + h.extra.length := by simp [localB, fieldsB_length, sigL]; omega
theorem centralB_length (h : Hd) (pos : Nat) : (centralB h pos).length = 46 + h.name.length + h.extra.length + h.comment.length := by simp [centralB, fieldsB_length, sigC]; omega
theorem endB_length (m a b : Nat) (c : By) : (endB m a b c).length = 22 + c.length := by simp [endB, sigE]; omega
section
variable (h : Hd) (pos : Nat) (Z : By)
theorem cb0 : ((centralB h pos ++ Z).drop 0).take 4 = sigC := by kernel_rfl
theorem cb4 : ((centralB h pos ++ Z).drop 4).take 2 = le 2 h.creator.toNat := by kernel_rfl
theorem cb6 : ((centralB h pos ++ Z).drop 6).take 2 = le 2 h.reader.toNat := by kernel_rfl
theorem cb8 : ((centralB h pos ++ Z).drop 8).take 2 = le 2 h.flags.toNat := by kernel_rfl
theorem cb10 : ((centralB h pos ++ Z).drop 10).take 2 = le 2 h.method.toNat := by kernel_rfl
theorem cb12 : ((centralB h pos ++ Z).drop 12).take 2 = le 2 h.time.toNat := by kernel_rfl
theorem cb14 : ((centralB h pos ++ Z).drop 14).take 2 = le 2 h.date.toNat := by kernel_rfl
theorem cb16 : ((centralB h pos ++ Z).drop 16).take 4 = le 4 h.crc.toNat := by kernel_rfl
theorem cb20 : ((centralB h pos ++ Z).drop 20).take 4 = le 4 h.packed.toNat := by kernel_rfl
theorem cb24 : ((centralB h pos ++ Z).drop 24).take 4 = le 4 h.size.toNat := by kernel_rfl
theorem cb28 : ((centralB h pos ++ Z).drop 28).take 2 = le 2 h.name.length := by kernel_rfl
theorem cb30 : ((centralB h pos ++ Z).drop 30).take 2 = le 2 h.extra.length := by kernel_rfl
theorem cb32 : ((centralB h pos ++ Z).drop 32).take 2 = le 2 h.comment.length := by kernel_rfl
theorem cb38 : ((centralB h pos ++ Z).drop 38).take 4 = le 4 h.ext.toNat := by kernel_rfl
theorem cb42 : ((centralB h pos ++ Z).drop 42).take 4 = le 4 pos := by kernel_rfl
theorem cb46 : (centralB h pos ++ Z).drop 46 = h.name ++ h.extra ++ h.comment ++ Z := by kernel_rfl
theorem lb0 : ((localB h ++ Z).drop 0).take 4 = sigL := by kernel_rfl
theorem lb26 : ((localB h ++ Z).drop 26).take 2 = le 2 h.name.length := by kernel_rfl
theorem lb28 : ((localB h ++ Z).drop 28).take 2 = le 2 h.extra.length := by kernel_rfl
end
section
variable (m a b : Nat) (c Z : By)
theorem eb0 : ((endB m a b c ++ Z).drop 0).take 4 = sigE := by kernel_rfl
theorem eb4 : ((endB m a b c ++ Z).drop 4).take 2 = le 2 0 := by kernel_rfl
theorem eb6 : ((endB m a b c ++ Z).drop 6).take 2 = le 2 0 := by kernel_rfl
theorem eb8 : ((endB m a b c ++ Z).drop 8).take 2 = le 2 m := by kernel_rfl
theorem eb10 : ((endB m a b c ++ Z).drop 10).take 2 = le 2 m := by kernel_rfl
theorem eb12 : ((endB m a b c ++ Z).drop 12).take 4 = le 4 a := by kernel_rfl
theorem eb16 : ((endB m a b c ++ Z).drop 16).take 4 = le 4 b := by kernel_rfl
theorem eb20 : ((endB m a b c ++ Z).drop 20).take 2 = le 2 c.length := by kernel_rfl
theorem eb22 : (endB m a b c ++ Z).drop 22 = c ++ Z := by kernel_rfl
end
/-- The header h stands whole at p. -/
structure CentralAt (s : By) (p : Nat) (h : Hd) (pos : Nat) : Prop where
  raw : RawOk s p
  nx : nextP s p = p + (centralB h pos).length
  f4 : num ((s.drop (p + 4)).take 2) = h.creator.toNat
  f6 : num ((s.drop (p + 6)).take 2) = h.reader.toNat
  f8 : num ((s.drop (p + 8)).take 2) = h.flags.toNat
  f10 : num ((s.drop (p + 10)).take 2) = h.method.toNat
  f12 : num ((s.drop (p + 12)).take 2) = h.time.toNat
  f14 : num ((s.drop (p + 14)).take 2) = h.date.toNat
  f16 : num ((s.drop (p + 16)).take 4) = h.crc.toNat
  f20 : num ((s.drop (p + 20)).take 4) = h.packed.toNat
  f24 : num ((s.drop (p + 24)).take 4) = h.size.toNat
  f28 : num ((s.drop (p + 28)).take 2) = h.name.length
  f30 : num ((s.drop (p + 30)).take 2) = h.extra.length
  f32 : num ((s.drop (p + 32)).take 2) = h.comment.length
  f38 : num ((s.drop (p + 38)).take 4) = h.ext.toNat
  f42 : num ((s.drop (p + 42)).take 4) = pos
  nm : (s.drop (p + 46)).take h.name.length = h.name
  ex : (s.drop (p + 46 + h.name.length)).take h.extra.length = h.extra
  cm : (s.drop (p + 46 + h.name.length + h.extra.length)).take h.comment.length = h.comment
theorem num2 {n : Nat} (h : n < 65536) : num (le 2 n) = n := num_le_of (k := 2) (by simpa using h)
theorem num4 {n : Nat} (h : n < 4294967296) : num (le 4 n) = n := num_le_of (k := 4) (by simpa using h)
theorem in16 {n : Int} (h : In16 n) : n.toNat < 65536 := by obtain ⟨h1, h2⟩ := h; omega
theorem central_at {s A Z : By} {p pos : Nat} {h : Hd} (hs : s = A ++ (centralB h pos ++ Z)) (hA : A.length = p) (hd : HdOk h) (hp : pos < 4294967295) : CentralAt s p h pos := by
  obtain ⟨h1, h2, h3, h4, h5, h6, ⟨h7, h8⟩, ⟨h9, h10⟩, ⟨h11, h12⟩, ⟨h13, h14⟩, h15, h16, h17⟩ := hd
  have D := drop_at hs hA
  have f28 : num ((s.drop (p + 28)).take 2) = h.name.length := by rw [D, cb28, num2 (by omega)]
  have f30 : num ((s.drop (p + 30)).take 2) = h.extra.length := by rw [D, cb30, num2 (by omega)]
  have f32 : num ((s.drop (p + 32)).take 2) = h.comment.length := by rw [D, cb32, num2 (by omega)]
  have f20 : num ((s.drop (p + 20)).take 4) = h.packed.toNat := by rw [D, cb20, num4 (by omega)]
  have f24 : num ((s.drop (p + 24)).take 4) = h.size.toNat := by rw [D, cb24, num4 (by omega)]
  have f42 : num ((s.drop (p + 42)).take 4) = pos := by rw [D, cb42, num4 (by omega)]
  have D46 := D 46
  rw [cb46] at D46
  have hl : s.length = p + (46 + h.name.length + h.extra.length + h.comment.length) + Z.length := by
    rw [hs, List.length_append, List.length_append, centralB_length]; omega
  refine ⟨⟨by omega, ?_, by rw [f28, f30, f32]; omega, by rw [f20]; omega, by rw [f24]; omega, by rw [f42]; omega⟩, by rw [nextP, f28, f30, f32, centralB_length]; omega, by rw [D, cb4, num2 (in16 h1)], by rw [D, cb6, num2 (in16 h2)], by rw [D, cb8, num2 (in16 h3)], by rw [D, cb10, num2 (in16 h4)], by rw [D, cb12, num2 (in16 h5)], by rw [D, cb14, num2 (in16 h6)], by rw [D, cb16, num4 (by omega)], f20, f24, f28, f30, f32, by rw [D, cb38, num4 (by omega)], f42, ?_, ?_, ?_⟩
  · have := D 0
    rw [Nat.add_zero] at this
    rw [this, cb0]
    rfl
  · rw [D46]; simp
  · rw [← List.drop_drop, D46]; simp
  · rw [← List.drop_drop, ← List.drop_drop, D46]; simp
/-- The places of the headers. -/
def places : Nat → Nat → List Ent → List Nat
  | _, _, [] => []
  | p, pos, e :: l => p :: places (p + (centralB e.h pos).length) (pos + (localB e.h ++ e.data).length) l
theorem places_length (l : List Ent) : ∀ p pos, (places p pos l).length = l.length := by
  induction l with
  | nil => intro p pos; rfl
  | cons e l ih => intro p pos; simp [places, ih]
theorem filesB_append (l m : List Ent) : filesB (l ++ m) = filesB l ++ filesB m := by
  induction l with
  | nil => rfl
  | cons e l ih => simp [filesB, ih]
theorem dirB_append (l m : List Ent) : ∀ pos, dirB pos (l ++ m) = dirB pos l ++ dirB (pos + (filesB l).length) m := by
  induction l with
  | nil => intro pos; rfl
  | cons e l ih =>
    intro pos
    simp only [List.cons_append, dirB, ih, List.append_assoc, filesB, List.length_append]
    rw [show pos + ((localB e.h).length + e.data.length) + (filesB l).length = pos + ((localB e.h).length + (e.data.length + (filesB l).length)) by omega]
theorem places_at (l m : List Ent) (e : Ent) : ∀ p pos, (places p pos (l ++ e :: m))[l.length]? = some (p + (dirB pos l).length) := by
  induction l with
  | nil => intro p pos; simp [places, dirB]
  | cons a l ih =>
    intro p pos
    simp only [List.cons_append, places, List.length_cons, List.getElem?_cons_succ, ih, dirB, List.length_append, Option.some.injEq]
    omega
theorem chain_at (l : List Ent) : ∀ (s A Z : By) (p pos : Nat), s = A ++ (dirB pos l ++ Z) → A.length = p → (∀ e ∈ l, HdOk e.h) → pos + (filesB l).length < 4294967295 → Chain s p (places p pos l) (p + (dirB pos l).length) := by
  induction l with
  | nil => intro s A Z p pos hs hA hl hp; exact .nil _
  | cons e l ih =>
    intro s A Z p pos hs hA hl hp
    have hf : (filesB (e :: l)).length = (localB e.h ++ e.data).length + (filesB l).length := by simp [filesB]; omega
    have h1 : s = A ++ (centralB e.h pos ++ (dirB (pos + (localB e.h ++ e.data).length) l ++ Z)) := by rw [hs]; simp [dirB]
    have hc := central_at h1 hA (hl e (by simp)) (by omega)
    have hn : p + (dirB pos (e :: l)).length = p + (centralB e.h pos).length + (dirB (pos + (localB e.h ++ e.data).length) l).length := by simp only [dirB, List.length_append]; omega
    rw [hn]
    refine .cons hc.raw ?_
    rw [hc.nx]
    exact ih s (A ++ centralB e.h pos) Z _ _ (by rw [h1]; simp) (by rw [List.length_append, hA]) (fun x hx => hl x (by simp [hx])) (by omega)
theorem end_at {s A Z c : By} {q m a b : Nat} (hs : s = A ++ (endB m a b c ++ Z)) (hA : A.length = q) : EndAt s q := by
  have hl : s.length = q + (22 + c.length) + Z.length := by rw [hs, List.length_append, List.length_append, endB_length]; omega
  refine ⟨by omega, .inr ?_⟩
  have := drop_at hs hA 0
  rw [Nat.add_zero] at this
  rw [this, eb0]
  decide
theorem okEnd_at {s A Z c : By} {q m a b : Nat} (hs : s = A ++ (endB m a b c ++ Z)) (hA : A.length = q) (he : ends s = 1) (hc : c.length ≤ 65535) (hZ : Z.length ≤ 1000) : OkEnd s q := by
  have hl : s.length = q + (22 + c.length) + Z.length := by rw [hs, List.length_append, List.length_append, endB_length]; omega
  have D := drop_at hs hA
  have ho : occ s q := by
    have := D 0
    rw [Nat.add_zero] at this
    rw [occ, this]
    exact eb0 m a b c Z
  refine ⟨ho, fun k hk => occ_unique he hk ho, ?_, by omega⟩
  rw [D, eb20, num2 (by omega)]
  omega
theorem noEnd_of {s : By} (h : ends s = 0) : NoEnd s := fun k hk => absurd hk (occ_of_ends0 h k)
/-- The local header and the bytes behind it. -/
theorem local_at {s A Z D : By} {p : Nat} {h : Hd} (hs : s = A ++ (localB h ++ (D ++ Z))) (hA : A.length = p) (h1 : h.name.length ≤ 60000) (h2 : h.extra.length ≤ 60000) :
    p + 30 ≤ s.length ∧ num ((s.drop p).take 4) = 67324752 ∧ bodyAt s p = p + (localB h).length ∧ p + (localB h).length + D.length ≤ s.length ∧ (s.drop (bodyAt s p)).take D.length = D := by
  have hd := drop_at hs hA
  have hl : s.length = p + (30 + h.name.length + h.extra.length) + D.length + Z.length := by
    rw [hs, List.length_append, List.length_append, List.length_append, localB_length]; omega
  have hb : bodyAt s p = p + (localB h).length := by
    rw [bodyAt, hd, hd, lb26, lb28, num2 (by omega), num2 (by omega), localB_length]
  refine ⟨by omega, ?_, hb, by rw [localB_length]; omega, ?_⟩
  · have := hd 0
    rw [Nat.add_zero] at this
    rw [this, lb0]
    decide
  · rw [hb, hd, List.drop_left, List.take_left]
end Zp
end Go.Proofs.YtalgnjkdoaaacaaGreatDoor

/- NewReader over an archive. -/
namespace Go.Proofs.YtalgnjkdoaaacaaGreatDoor
open Go Go.RowKit
open Zp
theorem nr_gen (E : Errs) (B0 : Nat) (w : World) (r : Nat) (s : ByteArray) (A c Z : By) (many D F : Nat) (PS : List Nat) (qe B : Nat) (hE : Env E w) (hU : UT w) (hEB : EB E B0 w) (hrr : B0 ≤ r) (hr : StrR w r s) (hs : s.size ≤ 4000000000)
    (hA : s.data.toList = A ++ (endB many D F c ++ Z)) (hAl : A.length = B + D + F) (hbz : B = 0 ∨ EndAt s.data.toList F) (he : ends s.data.toList = 1) (hc : c.length ≤ 65535) (hZ : Z.length ≤ 1000) (hm : many ≤ 65534)
    (hch : Chain s.data.toList (B + F) PS qe) (hend : EndAt s.data.toList qe) (hlen : PS.length ≤ 65535) :
    Calls Tryz.prog 32 #[strRd r, .int .i64 (s.size : Int)] w (NRp E w r s ⟨c.toArray⟩ 0 0 (many : Int) (c.length : Int) many D F PS B) := by
  have hl : s.size = A.length + (22 + c.length) + Z.length := by
    rw [Lib.size_eq, hA, List.length_append, List.length_append, endB_length]; omega
  have hok := okEnd_at hA rfl he hc hZ
  have D0 := drop_at0 hA rfl
  have e12 : num (((endB many D F c ++ Z).drop 12).take 4) = D := by rw [eb12, num4 (by omega)]
  have e16 : num (((endB many D F c ++ Z).drop 16).take 4) = F := by rw [eb16, num4 (by omega)]
  have e10 : num (((endB many D F c ++ Z).drop 10).take 2) = many := by rw [eb10, num2 (by omega)]
  have e8 : num (((endB many D F c ++ Z).drop 8).take 2) = many := by rw [eb8, num2 (by omega)]
  have e20 : num (((endB many D F c ++ Z).drop 20).take 2) = c.length := by rw [eb20, num2 (by omega)]
  have e4 : num (((endB many D F c ++ Z).drop 4).take 2) = 0 := by rw [eb4, num2 (by omega)]
  have e6 : num (((endB many D F c ++ Z).drop 6).take 2) = 0 := by rw [eb6, num2 (by omega)]
  have e22 : ((endB many D F c ++ Z).drop 22).take c.length = c := by rw [eb22]; simp
  refine nr_ok E B0 w r s ⟨c.toArray⟩ 0 0 many c.length many D F PS qe B (by omega) ?_ hE hU hEB hrr hr hs (by omega) hch hend hlen (by omega)
  intro w1 hE1 hEB1 hr1
  refine (rde_base E w1 r A.length B s _ hE1 hr1 (Nat.le_trans hEB1.b18 hEB1.le) hs hok D0 (by rw [e10]; omega) (by rw [e12]; omega) (by rw [e16]; omega) (by rw [e12, e16]; omega) (by rw [e16]; exact hbz)).mono ?_
  rintro e w2 ⟨d, rfl, h1, h2, h3⟩
  rw [e4, e6, e8, e10, e12, e16, e20, e22] at h2
  exact ⟨d, rfl, h1, h2, h3⟩
end Go.Proofs.YtalgnjkdoaaacaaGreatDoor

/- The archive of entries whose fields are any numbers; what is stored; what an archive's file reads as. -/
namespace Go.Proofs.YtalgnjkdoaaacaaGreatDoor
open Go Go.RowKit
namespace Zp
/-- An archive's bytes around its k-th file. -/
structure AtK (s : By) (l : List Ent) (c : By) (e : Ent) (p P B : Nat) : Prop where
  cen : CentralAt s p e.h P
  loc : P + B + 30 ≤ s.length ∧ num ((s.drop (P + B)).take 4) = 67324752 ∧ bodyAt s (P + B) = P + B + (localB e.h).length ∧ P + B + (localB e.h).length + e.data.length ≤ s.length ∧ (s.drop (bodyAt s (P + B))).take e.data.length = e.data
theorem arch_k {l l1 l2 : List Ent} {e : Ent} {s c X Z : By} (hl : l = l1 ++ e :: l2) (hs : s = X ++ (filesB l ++ (dirB 0 l ++ Z))) (hok : ∀ e ∈ l, HdOk e.h) (hf : (filesB l).length < 4000000000) :
    (places (X.length + (filesB l).length) 0 l)[l1.length]? = some (X.length + (filesB l).length + (dirB 0 l1).length) ∧ AtK s l c e (X.length + (filesB l).length + (dirB 0 l1).length) (filesB l1).length X.length := by
  have hd : HdOk e.h := hok e (by rw [hl]; simp)
  have hle : (filesB l1).length ≤ (filesB l).length := by rw [hl, filesB_append, List.length_append]; omega
  refine ⟨by rw [hl]; exact places_at l1 l2 e _ _, ?_, ?_⟩
  · refine central_at (A := X ++ filesB l ++ dirB 0 l1) (Z := dirB ((filesB l1).length + (localB e.h ++ e.data).length) l2 ++ Z) ?_ (by simp; omega) hd (by omega)
    rw [hs]
    have : dirB 0 l = dirB 0 l1 ++ (centralB e.h (filesB l1).length ++ dirB ((filesB l1).length + (localB e.h ++ e.data).length) l2) := by
      rw [hl, dirB_append, Nat.zero_add]; rfl
    rw [this]
    simp
  · refine local_at (A := X ++ filesB l1) (Z := filesB l2 ++ (dirB 0 l ++ Z)) ?_ (by rw [List.length_append]; omega) hd.2.2.2.2.2.2.2.2.2.2.1 hd.2.2.2.2.2.2.2.2.2.2.2.2
    rw [hs]
    have : filesB l = filesB l1 ++ (localB e.h ++ e.data ++ filesB l2) := by rw [hl, filesB_append]; rfl
    rw [this]
    simp
end Zp
end Go.Proofs.YtalgnjkdoaaacaaGreatDoor

/- impl.file. -/
namespace Go.Proofs.YtalgnjkdoaaacaaGreatDoor
open Go Go.RowKit
open Zp
/-- What all calls stand on. -/
structure WE (E : Errs) (B0 : Nat) (w : World) : Prop where
  env : Env E w
  ut : UT w
  eb : EB E B0 w
theorem WE.h18 {E : Errs} {B0 : Nat} {w : World} (h : WE E B0 w) : 14 ≤ w.heap.size := Nat.le_trans h.eb.b18 h.eb.le
theorem WE.fr {E : Errs} {B0 : Nat} {w w' : World} {S : List Nat} (h : WE E B0 w) (hf : Fr S w w') (hS : ∀ s ∈ S, B0 ≤ s) : WE E B0 w' :=
  ⟨h.env.fr hf (fun s hs => Nat.le_trans h.eb.b18 (hS s hs)) h.h18, h.ut.fr hf (fun s hs => Nat.le_trans h.eb.b18 (hS s hs)) h.h18, h.eb.fr hf hS⟩
/-- A text whose end has been found. -/
structure ArcT (s : ByteArray) (c : By) (many D F : Nat) (PS : List Nat) (B : Nat) : Prop where
  ex : ∃ (A Z : By) (qe : Nat), s.data.toList = A ++ (endB many D F c ++ Z) ∧ A.length = B + D + F ∧ Z.length ≤ 1000 ∧ Chain s.data.toList (B + F) PS qe ∧ EndAt s.data.toList qe
  size : s.size ≤ 4000000000
  ends : ends s.data.toList = 1
  com : c.length ≤ 65535
  many : many ≤ 65534
  len : PS.length ≤ 65535
  base : B = 0 ∨ EndAt s.data.toList F
theorem nr_t (E : Errs) (B0 : Nat) (w : World) (r : Nat) (s : ByteArray) (c : By) (many D F : Nat) (PS : List Nat) (B : Nat) (hW : WE E B0 w) (h : ArcT s c many D F PS B) (hrr : B0 ≤ r) (hr : StrR w r s) :
    Calls Tryz.prog 32 #[strRd r, .int .i64 (s.size : Int)] w (NRp E w r s ⟨c.toArray⟩ 0 0 (many : Int) (c.length : Int) many D F PS B) := by
  obtain ⟨A, Z, qe, h1, h2, h3, h4, h5⟩ := h.ex
  exact nr_gen E B0 w r s A c Z many D F PS qe B hW.env hW.ut hW.eb hrr hr h.size h1 h2 h.base h.ends h.com h3 h.many h4 h5 h.len
set_option maxRecDepth 100000 in
theorem newStr (w : World) (s : ByteArray) : Calls Tryz.prog 33 #[.string s] w fun e w' => e = .returned (.pointer (some ⟨w.heap.size, 0, none⟩)) ∧ StrR w' w.heap.size s ∧ Fr [] w w' := by
  go_enter Tryz.func33, Tryz.ntmps33
  go_wp2_with fail
  go_ret
  exact ⟨rfl, Blk.new _ _ _, (Fr.refl _ _).alloc _⟩
theorem own_cell {w : World} {base : Nat} {e : TypeId} {v u : Value} {n k : Nat} {xs : List Value} (h : w.ownsRow base e 1 v n xs) (hk : xs[k]? = some u) :
    ∃ g cap, v = .slice (some ⟨g, 0, none⟩) n cap ∧ base ≤ g ∧ w.cell? ⟨g, k, none⟩ = some u ∧ n ≤ cap ∧ cap ≤ maxLen := by
  have hlt : k < xs.length := (List.getElem?_eq_some_iff.1 hk).1
  rcases h.2 with ⟨_, h0⟩ | ⟨g, cap, cur, rfl, h1, h2, h3, h4, h5, h6⟩
  · have := h.1
    omega
  · refine ⟨g, cap, rfl, h1, ?_, h3, h4⟩
    have := h.cells (g := g) rfl k u hk
    rwa [Addr.add_lit, Nat.zero_add] at this
set_option maxRecDepth 100000 in
set_option maxHeartbeats 4000000 in
theorem file_ok (E : Errs) (B0 : Nat) (w : World) (s : ByteArray) (c : By) (many D F : Nat) (PS : List Nat) (k p B : Nat) (hW : WE E B0 w) (h : ArcT s c many D F PS B) (hm : PS.length = many) (hk : PS[k]? = some p) :
    Calls Tryz.prog 36 #[.string s, .int .i64 (k : Int)] w fun e w' => ∃ f z r U, e = .returned (.tuple #[.pointer (some ⟨f, 0, none⟩), .int .i64 0]) ∧ FileAt s.data.toList U z r f p B w' ∧ StrR w' r s ∧ (∃ v cm, Blk w' z 66 (rdC r v cm B)) ∧ w.heap.size ≤ r ∧ w.heap.size ≤ z ∧ w.heap.size ≤ U ∧ Fr [] w w' := by
  have hs := h.size
  have hk1 : k < many := by rw [← hm]; exact (List.getElem?_eq_some_iff.1 hk).1
  have hm4 := h.many
  have HW := Lib.hid hW
  have HH := Lib.hid h
  have HK := Lib.hid hk
  have HM := Lib.hid hm
  clear hW h hk hm
  go_enter Tryz.func36, Tryz.ntmps36
  go_wp2_with fail
  refine (newStr w s).mono ?_
  rintro e w1 ⟨rfl, hr1, hf1⟩
  have HN := Lib.hid (nr_t E B0 w1 w.heap.size s c many D F PS B (HW.out.fr hf1 (by simp)) HH.out HW.out.eb.le hr1)
  have HR1 := Lib.hid hr1
  have HF1 := Lib.hid hf1
  clear hr1 hf1
  go_wp2_with fail
  refine HN.out.mono ?_
  rintro e w2 ⟨xe, U, d, q, gb, b, fs, pos', hxe, rfl, hI⟩
  rw [if_pos HM.out]
  obtain ⟨v, hrd, hown⟩ := hI.rd
  have hlr := HR1.out.lt
  have hlen := hI.len
  have hlen2 := HM.out
  have hkf : k < fs.length := by omega
  have hfk : fs[k]? = some fs[k] := List.getElem?_eq_getElem _
  have hfile := hI.files k _ p hfk HK.out
  obtain ⟨g, cap, rfl, hge, hcell, hnc, hcm⟩ := own_cell hown (k := k) (u := .pointer (some ⟨fs[k], 0, none⟩)) (by rw [fptrs, List.getElem?_map, hfk]; rfl)
  have c1 := hrd.at_ 1 _ rfl
  have hnew := hI.new
  rw [World.size_alloc] at hnew
  have HRD := Lib.hid hrd
  have HFI := Lib.hid hfile
  have HF2 := Lib.hid ((HF1.out.alloc (.cells rd0 66)).trans hI.fr (by have := HF1.out.size; simp; omega))
  have HR2 := Lib.hid (Blk.fr (Blk.alloc HR1.out (.cells rd0 66)) hI.fr (by simp; omega))
  have hzz := HF1.out.size
  have hki : (k : Int) < (fs.length : Int) := by omega
  have hki0 : ¬ ((fs.length : Int) ≤ (k : Int)) := by omega
  generalize fs[k] = f at *
  clear hI hrd hown hfile hfk HN HR1
  go_wp2_with fail
  go_ret2
  exact ⟨f, w1.heap.size, w.heap.size, U, rfl, HFI.out, HR2.out, ⟨_, _, HRD.out⟩, Nat.le_refl _, hzz, by omega, HF2.out⟩
end Go.Proofs.YtalgnjkdoaaacaaGreatDoor

/- impl.Content. -/
namespace Go.Proofs.YtalgnjkdoaaacaaGreatDoor
open Go Go.RowKit
open Zp
theorem fc_of {s : ByteArray} {U z r f p P B : Nat} {w : World} {h : Hd} {v : Value} {cm : ByteArray} (hF : FileAt s.data.toList U z r f p B w) (hc : CentralAt s.data.toList p h P) (hz : Blk w z 66 (rdC r v cm B)) :
    FC w f z r (P + B) ⟨h.name.toArray⟩ h.flags.toNat h.method.toNat h.packed.toNat h.size.toNat h.crc.toNat := by
  obtain ⟨v1, q1, v2, q2, ad, db, m0, m1, mp, _, _, hb, _⟩ := hF
  have c0 := hb.at_ 0 _ rfl
  have c5 := hb.at_ 5 _ rfl
  have c6 := hb.at_ 6 _ rfl
  have c12 := hb.at_ 12 _ rfl
  have c15 := hb.at_ 15 _ rfl
  have c16 := hb.at_ 16 _ rfl
  have c19 := hb.at_ 19 _ rfl
  have c20 := hb.at_ 20 _ rfl
  have c21 := hb.at_ 21 _ rfl
  rw [hc.f28, hc.nm] at c0
  rw [hc.f8] at c5
  rw [hc.f10] at c6
  rw [hc.f16] at c12
  rw [hc.f20] at c15
  rw [hc.f24] at c16
  rw [hc.f42, ← Int.natCast_add] at c21
  exact ⟨c0, c5, c6, c12, c15, c16, c19, c20, c21, hz.at_ 3 _ rfl, hb.lt, hz.lt⟩
def endN (pk sz cd crc : Nat) : Int := if pk ≠ sz then 4 else if crc ≠ 0 ∧ cd ≠ crc then 3 else 0
theorem faultN_end {E : Errs} {B0 : Nat} {w : World} (h : EB E B0 w) (pk sz cd crc : Nat) : faultN E (endErr E pk sz cd crc) = endN pk sz cd crc := by
  obtain ⟨h1, h2, h3, h4, h5, h6, h7, h8, h9, h10, h11, h12, h13, h14⟩ := h.ne
  unfold faultN endErr endN
  by_cases a : pk ≠ sz
  · simp [a, h1, h7, h8, h12]
  · by_cases b : crc ≠ 0 ∧ cd ≠ crc
    · rw [if_neg a, if_pos b, if_neg a, if_pos b]
      simp [h5, h6, h13]
    · rw [if_neg a, if_neg b, if_neg a, if_neg b]
      simp
/-- The k-th file of an archive. -/
structure FileK (s : ByteArray) (k : Nat) (e : Ent) : Prop where
  ex : ∃ (c : By) (D F : Nat) (PS : List Nat) (l : List Ent) (p P B : Nat), ArcT s c PS.length D F PS B ∧ PS[k]? = some p ∧ AtK s.data.toList l c e p P B
  ok : HdOk e.h
set_option maxRecDepth 100000 in
set_option maxHeartbeats 4000000 in
theorem content_file (E : Errs) (B0 : Nat) (w : World) (s : ByteArray) (k : Nat) (e : Ent) (hW : WE E B0 w) (h : FileK s k e) (hns : slash ⟨e.h.name.toArray⟩ = false) (hm0 : e.h.method = 0) (hfl : e.h.flags / 8 % 2 = 0) (hpk : e.h.packed = e.data.length) (hsz : e.h.packed ≤ e.h.size) :
    Calls Tryz.prog 27 #[.string s, .int .i64 (k : Int)] w fun x w' => x = .returned (.tuple #[.string ⟨e.data.toArray⟩, .int .i64 (endN e.data.length e.h.size.toNat (crcOf 0 e.data) e.h.crc.toNat)]) ∧ Fr [] w w' := by
  obtain ⟨⟨c, D, F, PS, l, p, P, B, ha, hk, hcen, hl1, hl2, hl3, hl4, hl5⟩, hok⟩ := h
  obtain ⟨o1, o2, o3, o4, o5, o6, ⟨o7, o8⟩, ⟨o9, o10⟩, ⟨o11, o12⟩, o13, o14, o15, o16⟩ := hok
  have hs := ha.size
  have hsl : s.data.toList.length = s.size := (Lib.size_eq s).symm
  have h18 := hW.h18
  have HF := Lib.hid (file_ok E B0 w s c PS.length D F PS k p B hW ha rfl hk)
  have HW := Lib.hid hW
  have HC := Lib.hid hcen
  have HL1 := Lib.hid hl1
  have HL2 := Lib.hid hl2
  have HL3 := Lib.hid hl3
  have HL4 := Lib.hid hl4
  have HL5 := Lib.hid hl5
  clear hW ha hk hcen hl1 hl2 hl3 hl4 hl5
  go_enter Tryz.func27, Tryz.ntmps27
  go_wp2_with fail
  refine HF.out.mono ?_
  rintro x w1 ⟨f, z, r, U, rfl, hfa, hr, ⟨v, cm, hz⟩, g1, g2, g3, hf1⟩
  have hFC := fc_of hfa HC.out hz
  have hW1 := HW.out.fr hf1 (by simp)
  have HO := Lib.hid (open_file E w1 f z r (P + B) _ _ _ _ _ _ s hW1.env hW1.h18 hFC hr hs (by have := HL1.out; omega) HL2.out (by show e.h.name.toArray.size ≤ _; simp; omega) hns (by have := o4.2; omega) (.inr (by omega)) (by have := o3.2; omega) (by have := HL4.out; have := HL3.out; omega))
  have HFC := Lib.hid hFC
  have HW1 := Lib.hid hW1
  have HR := Lib.hid hr
  have HF1 := Lib.hid hf1
  clear hfa hz hFC hW1 hr hf1
  go_wp2_with fail
  refine HO.out.mono ?_
  rintro x w2 hO
  rw [OpenP, if_pos (show e.h.method.toNat = 0 by omega)] at hO
  obtain ⟨k', h', b', rfl, y1, y2, y3, y4, y5, y6, b1, b2, b3, hf2⟩ := hO
  have lf := HFC.out.lf
  have lr := HR.out.lt
  have hz1 := HF1.out.size
  have hz0 := HW.out.eb.le
  have hW2 := HW1.out.fr hf2 (by simp)
  have HA := Lib.hid (all_file E B0 w2 k' h' b' r f (bodyAt s.data.toList (P + B)) e.h.packed.toNat s e.h.size.toNat e.h.crc.toNat hW2.env hW2.eb ⟨by omega, by omega, by omega⟩
    ⟨b1, b2, b3, Blk.fr HR.out hf2 (by simp), (HFC.out.fr hf2 (by simp) (by simp)).c12, (HFC.out.fr hf2 (by simp) (by simp)).c16, Nat.lt_of_lt_of_le lf hf2.size⟩
    ⟨y4, y5, by omega, by omega, y6, by omega, by omega, by omega, by omega⟩ hs (by have := HL4.out; have := HL3.out; omega) (by omega) (by omega) (by omega) e.data (by rw [show e.h.packed.toNat = e.data.length by omega]; exact HL5.out))
  have HF2 := Lib.hid hf2
  have HN := Lib.hid (faultN_end hW2.eb e.h.packed.toNat e.h.size.toNat (crcOf 0 e.data) e.h.crc.toNat)
  clear b1 b2 b3 hf2 hW2
  go_wp2_with fail
  refine HA.out.mono ?_
  rintro x w3 ⟨rfl, hf3⟩
  rw [HN.out, show e.h.packed.toNat = e.data.length by omega]
  have HF3 := Lib.hid hf3
  clear hf3
  go_wp2_with fail
  go_ret2
  exact ⟨rfl, ((HF1.out.trans HF2.out (by simp)).trans HF3.out (by simp; omega))⟩
set_option maxRecDepth 100000 in
set_option maxHeartbeats 4000000 in
theorem content_alg (E : Errs) (B0 : Nat) (w : World) (s : ByteArray) (k : Nat) (e : Ent) (hW : WE E B0 w) (h : FileK s k e) (hns : slash ⟨e.h.name.toArray⟩ = false) (hm0 : e.h.method ≠ 0) (hpk : e.h.packed = e.data.length) :
    Calls Tryz.prog 27 #[.string s, .int .i64 (k : Int)] w fun x w' => x = .returned (.tuple #[.string ⟨#[]⟩, .int .i64 2]) ∧ Fr [] w w' := by
  obtain ⟨⟨c, D, F, PS, l, p, P, B, ha, hk, hcen, hl1, hl2, hl3, hl4, hl5⟩, hok⟩ := h
  obtain ⟨o1, o2, o3, o4, o5, o6, ⟨o7, o8⟩, ⟨o9, o10⟩, ⟨o11, o12⟩, o13, o14, o15, o16⟩ := hok
  have o40 := o4.1
  have hs := ha.size
  have hsl : s.data.toList.length = s.size := (Lib.size_eq s).symm
  have h18 := hW.h18
  have HF := Lib.hid (file_ok E B0 w s c PS.length D F PS k p B hW ha rfl hk)
  have HW := Lib.hid hW
  have HC := Lib.hid hcen
  have HL1 := Lib.hid hl1
  have HL2 := Lib.hid hl2
  have HL3 := Lib.hid hl3
  have HL4 := Lib.hid hl4
  clear hW ha hk hcen hl1 hl2 hl3 hl4 hl5
  go_enter Tryz.func27, Tryz.ntmps27
  go_wp2_with fail
  refine HF.out.mono ?_
  rintro x w1 ⟨f, z, r, U, rfl, hfa, hr, ⟨v, cm, hz⟩, g1, g2, g3, hf1⟩
  have hFC := fc_of hfa HC.out hz
  have hW1 := HW.out.fr hf1 (by simp)
  have HO := Lib.hid (open_file E w1 f z r (P + B) _ _ _ _ _ _ s hW1.env hW1.h18 hFC hr hs (by have := HL1.out; omega) HL2.out (by show e.h.name.toArray.size ≤ _; simp; omega) hns (by have := o4.2; omega) (.inl (by omega)) (by have := o3.2; omega) (by have := HL4.out; have := HL3.out; omega))
  have HW1 := Lib.hid hW1
  have HF1 := Lib.hid hf1
  clear hfa hz hFC hW1 hr hf1
  go_wp2_with fail
  refine HO.out.mono ?_
  rintro x w2 hO
  rw [OpenP, if_neg (show ¬ e.h.method.toNat = 0 by omega)] at hO
  obtain ⟨rfl, hf2⟩ := hO
  have hW2 := HW1.out.fr hf2 (by simp)
  have HA := Lib.hid (faultOf_alg E B0 w2 hW2.env hW2.eb)
  have HF2 := Lib.hid hf2
  clear hf2 hW2
  go_wp2_with fail
  refine HA.out.mono ?_
  rintro x w3 ⟨rfl, rfl⟩
  go_wp2_with fail
  go_ret2
  exact ⟨rfl, HF1.out.trans HF2.out (by simp)⟩
set_option maxRecDepth 100000 in
set_option maxHeartbeats 4000000 in
theorem content_dir (E : Errs) (B0 : Nat) (w : World) (s : ByteArray) (k : Nat) (e : Ent) (hW : WE E B0 w) (h : FileK s k e) (hns : slash ⟨e.h.name.toArray⟩ = true) (n : Int) (hn : n = if e.h.size = 0 then 0 else 1) :
    Calls Tryz.prog 27 #[.string s, .int .i64 (k : Int)] w fun x w' => x = .returned (.tuple #[.string ⟨#[]⟩, .int .i64 n]) ∧ Fr [] w w' := by
  have HNN := Lib.hid hn
  clear hn
  obtain ⟨⟨c, D, F, PS, l, p, P, B, ha, hk, hcen, hl1, hl2, hl3, hl4, hl5⟩, hok⟩ := h
  obtain ⟨o1, o2, o3, o4, o5, o6, ⟨o7, o8⟩, ⟨o9, o10⟩, ⟨o11, o12⟩, o13, o14, o15, o16⟩ := hok
  have hs := ha.size
  have hsl : s.data.toList.length = s.size := (Lib.size_eq s).symm
  have h18 := hW.h18
  have HF := Lib.hid (file_ok E B0 w s c PS.length D F PS k p B hW ha rfl hk)
  have HW := Lib.hid hW
  have HC := Lib.hid hcen
  have HL1 := Lib.hid hl1
  have HL2 := Lib.hid hl2
  clear hW ha hk hcen hl1 hl2 hl3 hl4 hl5
  go_enter Tryz.func27, Tryz.ntmps27
  go_wp2_with fail
  refine HF.out.mono ?_
  rintro x w1 ⟨f, z, r, U, rfl, hfa, hr, ⟨v, cm, hz⟩, g1, g2, g3, hf1⟩
  have hFC := fc_of hfa HC.out hz
  have hW1 := HW.out.fr hf1 (by simp)
  have HO := Lib.hid (open_dir E w1 f z r (P + B) _ _ _ _ _ _ s hW1.env hW1.h18 hFC hr hs (by have := HL1.out; omega) HL2.out (by show e.h.name.toArray.size ≤ _; simp; omega) hns (by omega))
  have HW1 := Lib.hid hW1
  have HF1 := Lib.hid hf1
  clear hfa hz hFC hW1 hr hf1
  go_wp2_with fail
  refine HO.out.mono ?_
  rintro x w2 ⟨d, rfl, y1, b1, hf2⟩
  have hW2 := HW1.out.fr hf2 (by simp)
  have HA := Lib.hid (all_dir E B0 w2 d (e.h.size.toNat = 0) hW2.env hW2.eb b1)
  have HF2 := Lib.hid hf2
  clear hf2 hW2 b1
  go_wp2_with fail
  refine HA.out.mono ?_
  rintro x w3 ⟨rfl, hf3⟩
  have hq : (if e.h.size.toNat = 0 then (0 : Int) else 1) = n := by
    rw [HNN.out]
    by_cases q : e.h.size = 0
    · rw [if_pos q, if_pos (by omega)]
    · rw [if_neg q, if_neg (by omega)]
  rw [hq]
  have HF3 := Lib.hid hf3
  clear hf3 hq
  go_wp2_with fail
  go_ret2
  exact ⟨rfl, ((HF1.out.trans HF2.out (by simp)).trans HF3.out (by simp))⟩
end Go.Proofs.YtalgnjkdoaaacaaGreatDoor

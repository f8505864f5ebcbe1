/- spec.Number, spec.At. -/
import Derived.Test.YtalgnjkdoaaacaaGreatDoorQqf
set_option linter.unusedVariables false
set_option linter.unusedSimpArgs false
namespace Go.Proofs.YtalgnjkdoaaacaaGreatDoor
open Go Go.RowKit
open Zp
theorem num_cons (b : UInt8) (l : By) : num (b :: l) = b.toNat + 256 * num l := by rfl
theorem num_drop {l : By} {k : Nat} (h : k < l.length) : num (l.drop k) = l[k].toNat + 256 * num (l.drop (k + 1)) := by
  rw [List.drop_eq_getElem_cons h, num_cons]
set_option maxRecDepth 100000 in
set_option maxHeartbeats 4000000 in
theorem numberC (l : By) (w : World) (hl : l.length ≤ 6) : Calls Tryz.prog 47 #[.string (bs l)] w fun e w' => e = .returned (.int .i64 (num l : Int)) ∧ w' = w := by
  have hns := bs_size l
  obtain ⟨n, hn⟩ : ∃ n, l.length = n := ⟨_, rfl⟩
  rw [hn] at hns
  go_enter Tryz.func47, Tryz.ntmps47
  go_wp2_with fail
  go_loopw [3, 4] (fun v3 v4 wr => ∃ k : Nat, k ≤ n ∧ v4 = .int .i64 ((k : Int) - 1) ∧ v3 = .int .i64 (num (l.drop k) : Int) ∧ wr = w) (fun _ v4 _ => (intOf v4 + 1).toNat)
  case atStart => exact ⟨n, Nat.le_refl _, rfl, by rw [List.drop_of_length_le (by omega)]; rfl, rfl⟩
  case round =>
    obtain ⟨k, hk, rfl, rfl, hw⟩ := hrel
    rw [hw]
    clear hw wr
    by_cases hlt : 0 < k
    · obtain ⟨j, rfl⟩ : ∃ j, k = j + 1 := ⟨k - 1, by omega⟩
      have hjl : j < l.length := by omega
      have hnd := num_drop hjl
      have hb := num_lt (l.drop (j + 1))
      have hb2 : 256 ^ (l.drop (j + 1)).length ≤ 256 ^ 6 := Nat.pow_le_pow_right (by omega) (by rw [List.length_drop]; omega)
      have hb3 : (256 : Nat) ^ 6 = 281474976710656 := by decide
      obtain ⟨m, hm⟩ : ∃ m, num (l.drop (j + 1)) = m := ⟨_, rfl⟩
      obtain ⟨x, hx⟩ : ∃ x : UInt8, l[j] = x := ⟨_, rfl⟩
      have hm9 : m ≤ 281474976710656 := by omega
      have hx9 : x.toNat ≤ 255 := by have := x.toNat_lt; omega
      rw [hm, hx] at hnd
      rw [hm]
      have hji : ((j + 1 : Nat) : Int) - 1 = (j : Int) := by omega
      rw [hji]
      have i0 : (0 : Int) ≤ (j : Int) := by omega
      have i1 : (j : Int) < (n : Int) := by omega
      have hix : (bs l).data[j]? = some x := by show l.toArray[j]? = some x; rw [List.getElem?_toArray, List.getElem?_eq_getElem hjl, hx]
      have HND := Lib.hid hnd
      clear hnd hb hb2 hb3 hm hx
      go_wp2_with fail
      have hbj : ∀ h, (bs l)[j]'h = x := fun h => by
        have := hix
        rw [Array.getElem?_eq_getElem (by simpa using hjl)] at this
        exact Option.some.inj this
      refine ⟨⟨j, by omega, rfl, ?_, trivial⟩, by simp [intOf]⟩
      rw [hbj, show wrap64 ((x.toNat : Nat) : Int) = ((x.toNat : Nat) : Int) from IntWalk.wrap64_in _ (by omega), show wrap64 ((m : Int) * 256 + ((x.toNat : Nat) : Int)) = (m : Int) * 256 + ((x.toNat : Nat) : Int) from IntWalk.wrap64_in _ (by omega), HND.out]
      congr 1
      omega
    · obtain rfl : k = 0 := by omega
      have i0 : ¬ (0 : Int) ≤ ((0 : Nat) : Int) - 1 := by omega
      go_wp2_with fail
      go_ret
      exact ⟨rfl, rfl⟩
set_option maxRecDepth 100000 in
set_option maxHeartbeats 4000000 in
theorem atC (s part : By) (k : Nat) (w : World) (hs : s.length ≤ 4000000000) (hp : part.length ≤ 100000) (hp0 : 0 < part.length ∨ k ≤ s.length) (hk : k ≤ 5000000000) : Calls Tryz.prog 46 #[.string (bs s), .int .i64 (k : Int), .string (bs part)] w fun e w' => e = .returned (.bool (decide ((s.drop k).take part.length = part))) ∧ w' = w := by
  have hns := bs_size s
  have hnp := bs_size part
  obtain ⟨n, hn⟩ : ∃ n, s.length = n := ⟨_, rfl⟩
  obtain ⟨m, hm⟩ : ∃ m, part.length = m := ⟨_, rfl⟩
  rw [hn] at hns hs
  rw [hm] at hnp hp
  by_cases hfit : k + m ≤ n
  · have i1 : (k : Int) + (m : Int) ≤ (n : Int) := by omega
    go_enter Tryz.func46, Tryz.ntmps46
    go_wp2_with fail
    go_ret
    refine ⟨?_, rfl⟩
    have he : ((bs s).extract k (k + m)).toList = (s.drop k).take m := by
      rw [ByteArray.toList_eq, ByteArray.data_extract, Array.toList_extract]
      simp [List.extract]
    show Ending.returned (.bool (((bs s).extract k (k + m)).toList == part)) = _
    rw [he, hm]
    congr 2
    by_cases hd : (s.drop k).take m = part
    · rw [decide_eq_true hd]; simpa using hd
    · rw [decide_eq_false hd]; simpa using hd
  · have i1 : ¬ (k : Int) + (m : Int) ≤ (n : Int) := by omega
    have hd : ¬ (s.drop k).take part.length = part := fun h => by
      have := congrArg List.length h
      rw [List.length_take, List.length_drop] at this
      omega
    rw [decide_eq_false hd]
    go_enter Tryz.func46, Tryz.ntmps46
    go_wp2_with fail
    go_ret
    exact ⟨rfl, rfl⟩
/-- At, at a place ahead of the text. -/
theorem bs_extract (l : By) (a b : Nat) : (bs l).extract a b = bs ((l.drop a).take (b - a)) := by
  apply ByteArray.ext
  apply Array.ext'
  rw [ByteArray.data_extract, Array.toList_extract]
end Go.Proofs.YtalgnjkdoaaacaaGreatDoor

/- Archives whose local headers tell other numbers than the directory, with something behind the contents. -/
namespace Go.Proofs.YtalgnjkdoaaacaaGreatDoor
open Go Go.RowKit
open Zp
namespace Zp
/-- A file as it was written: its header in the directory, its local header, its content, and what stands behind it. -/
structure GEnt where
  h : Hd
  lh : Hd
  data : By
  tail : By
def gone (e : GEnt) : By := localB e.lh ++ (e.data ++ e.tail)
def gfiles : List GEnt → By
  | [] => []
  | e :: l => gone e ++ gfiles l
def gdir (pos : Nat) : List GEnt → By
  | [] => []
  | e :: l => centralB e.h pos ++ gdir (pos + (gone e).length) l
def garch (l : List GEnt) (c : By) : By := gfiles l ++ gdir 0 l ++ endB l.length (gdir 0 l).length (gfiles l).length c
structure GOk (e : GEnt) : Prop where
  ok : HdOk e.h
  nm : e.lh.name = e.h.name
  ex : e.lh.extra = e.h.extra
  me : e.lh.method = e.h.method
  pk : e.h.packed = e.data.length
  dl : e.data.length ≤ 1048576
  tl : e.tail.length ≤ 16
theorem GOk.len {e : GEnt} (h : GOk e) : (localB e.lh).length = (localB e.h).length := by rw [localB_length, localB_length, h.nm, h.ex]
theorem gone_length {e : GEnt} (h : GOk e) : (gone e).length = 30 + e.h.name.length + e.h.extra.length + e.data.length + e.tail.length := by
  rw [gone, List.length_append, List.length_append, h.len, localB_length]; omega
theorem gfiles_append (l m : List GEnt) : gfiles (l ++ m) = gfiles l ++ gfiles m := by
  induction l with
  | nil => rfl
  | cons e l ih => simp [gfiles, ih]
theorem gdir_append (l m : List GEnt) : ∀ pos, gdir pos (l ++ m) = gdir pos l ++ gdir (pos + (gfiles l).length) m := by
  induction l with
  | nil => intro pos; rfl
  | cons e l ih =>
    intro pos
    simp only [List.cons_append, gdir, ih, List.append_assoc, gfiles, List.length_append]
    rw [show pos + (gone e).length + (gfiles l).length = pos + ((gone e).length + (gfiles l).length) by omega]
theorem gsize {l : List GEnt} (h : ∀ e ∈ l, GOk e) : (gfiles l).length ≤ l.length * 1168622 ∧ ∀ pos, (gdir pos l).length ≤ l.length * 180046 := by
  induction l with
  | nil => exact ⟨Nat.zero_le _, fun _ => Nat.zero_le _⟩
  | cons e l ih =>
    obtain ⟨h1, h2⟩ := ih fun x hx => h x (by simp [hx])
    have he := h e (by simp)
    have hg := gone_length he
    have := he.dl; have := he.tl
    obtain ⟨-, -, -, -, -, -, -, -, -, -, h3, h4, h5⟩ := he.ok
    refine ⟨?_, fun pos => ?_⟩
    · rw [gfiles, List.length_append, List.length_cons, Nat.succ_mul]; omega
    · have := h2 (pos + (gone e).length)
      rw [gdir, List.length_append, List.length_cons, centralB_length, Nat.succ_mul]; omega
def gplaces : Nat → Nat → List GEnt → List Nat
  | _, _, [] => []
  | p, pos, e :: l => p :: gplaces (p + (centralB e.h pos).length) (pos + (gone e).length) l
theorem gplaces_length (l : List GEnt) : ∀ p pos, (gplaces p pos l).length = l.length := by
  induction l with
  | nil => intro p pos; rfl
  | cons e l ih => intro p pos; simp [gplaces, ih]
theorem gplaces_at (l m : List GEnt) (e : GEnt) : ∀ p pos, (gplaces p pos (l ++ e :: m))[l.length]? = some (p + (gdir pos l).length) := by
  induction l with
  | nil => intro p pos; simp [gplaces, gdir]
  | cons a l ih =>
    intro p pos
    simp only [List.cons_append, gplaces, List.length_cons, List.getElem?_cons_succ, ih, gdir, List.length_append, Option.some.injEq]
    omega
theorem gchain_at (l : List GEnt) : ∀ (s A Z : By) (p pos : Nat), s = A ++ (gdir pos l ++ Z) → A.length = p → (∀ e ∈ l, HdOk e.h) → pos + (gfiles l).length < 4294967295 → Chain s p (gplaces p pos l) (p + (gdir pos l).length) := by
  induction l with
  | nil => intro s A Z p pos hs hA hl hp; exact .nil _
  | cons e l ih =>
    intro s A Z p pos hs hA hl hp
    have hf : (gfiles (e :: l)).length = (gone e).length + (gfiles l).length := by simp [gfiles]
    have h1 : s = A ++ (centralB e.h pos ++ (gdir (pos + (gone e).length) l ++ Z)) := by rw [hs]; simp [gdir]
    have hc := central_at h1 hA (hl e (by simp)) (by omega)
    have hn : p + (gdir pos (e :: l)).length = p + (centralB e.h pos).length + (gdir (pos + (gone e).length) l).length := by simp only [gdir, List.length_append]; omega
    rw [hn]
    refine .cons hc.raw ?_
    rw [hc.nx]
    exact ih s (A ++ centralB e.h pos) Z _ _ (by rw [h1]; simp) (by rw [List.length_append, hA]) (fun x hx => hl x (by simp [hx])) (by omega)
section
variable (h : Hd) (Z : By)
theorem lb8 : ((localB h ++ Z).drop 8).take 2 = le 2 h.method.toNat := by kernel_rfl
theorem lb30 : (localB h ++ Z).drop 30 = h.name ++ h.extra ++ Z := by kernel_rfl
end
/-- A file's local header, its content and what stands behind it, at P. -/
structure LocAt (s : By) (P : Nat) (e : GEnt) : Prop where
  f0 : (s.drop P).take 4 = sigL
  f8 : num ((s.drop (P + 8)).take 2) = e.h.method.toNat
  f26 : num ((s.drop (P + 26)).take 2) = e.h.name.length
  f28 : num ((s.drop (P + 28)).take 2) = e.h.extra.length
  nm : (s.drop (P + 30)).take e.h.name.length = e.h.name
  fits : P + 30 + e.h.name.length + e.h.extra.length + e.data.length + e.tail.length ≤ s.length
  dat : (s.drop (P + 30 + e.h.name.length + e.h.extra.length)).take e.data.length = e.data
  tail : (s.drop (P + 30 + e.h.name.length + e.h.extra.length + e.data.length)).take e.tail.length = e.tail
theorem loc_at {s A Z : By} {P : Nat} {e : GEnt} (hs : s = A ++ (gone e ++ Z)) (hA : A.length = P) (h : GOk e) : LocAt s P e := by
  obtain ⟨-, -, -, ⟨m1, m2⟩, -, -, -, -, -, -, h3, -, h5⟩ := h.ok
  have hs' : s = A ++ (localB e.lh ++ (e.data ++ e.tail ++ Z)) := by rw [hs, gone]; simp
  have D := drop_at hs' hA
  have hl : s.length = P + (30 + e.h.name.length + e.h.extra.length + e.data.length + e.tail.length) + Z.length := by rw [hs, List.length_append, List.length_append, gone_length h]; omega
  have D30 := D 30
  rw [lb30, h.nm, h.ex] at D30
  refine ⟨?_, by rw [D, lb8, h.me, num2 (by omega)], by rw [D, lb26, h.nm, num2 (by omega)], by rw [D, lb28, h.ex, num2 (by omega)], by rw [D30]; simp, by omega, ?_, ?_⟩
  · have := D 0
    rw [Nat.add_zero] at this
    rw [this, lb0]
  · rw [← List.drop_drop, ← List.drop_drop, D30]; simp
  · rw [← List.drop_drop, ← List.drop_drop, ← List.drop_drop, D30]; simp
/-- An archive's k-th file. -/
theorem gat {l : List GEnt} {Z : By} {k : Nat} {e : GEnt} (hall : ∀ e ∈ l, GOk e) (h1000 : l.length ≤ 1000) (hk : l[k]? = some e) :
    (gplaces (gfiles l).length 0 l)[k]? = some ((gfiles l).length + (gdir 0 (l.take k)).length) ∧ CentralAt (gfiles l ++ (gdir 0 l ++ Z)) ((gfiles l).length + (gdir 0 (l.take k)).length) e.h (gfiles (l.take k)).length ∧
      LocAt (gfiles l ++ (gdir 0 l ++ Z)) (gfiles (l.take k)).length e ∧ ((gfiles l ++ (gdir 0 l ++ Z)).drop ((gfiles l).length + (gdir 0 (l.take k)).length)).take 4 = sigC := by
  have hkl : k < l.length := (List.getElem?_eq_some_iff.1 hk).1
  have hel : l[k] = e := (List.getElem?_eq_some_iff.1 hk).2
  have he : GOk e := hall e (by rw [← hel]; exact List.getElem_mem hkl)
  have hl : l = l.take k ++ e :: l.drop (k + 1) := by
    rw [← hel, ← List.drop_eq_getElem_cons hkl, List.take_append_drop]
  have hlen : (l.take k).length = k := by rw [List.length_take]; omega
  have hgs := gsize hall
  have hle : (gfiles (l.take k)).length ≤ (gfiles l).length := by
    have := congrArg List.length (congrArg gfiles hl)
    rw [gfiles_append, List.length_append] at this; omega
  have hmul : l.length * 1168622 ≤ 1000 * 1168622 := Nat.mul_le_mul_right _ h1000
  have hgd : gdir 0 l = gdir 0 (l.take k) ++ (centralB e.h (gfiles (l.take k)).length ++ gdir ((gfiles (l.take k)).length + (gone e).length) (l.drop (k + 1))) := by
    have := congrArg (gdir 0) hl
    rw [gdir_append, Nat.zero_add] at this
    exact this
  have hgf : gfiles l = gfiles (l.take k) ++ (gone e ++ gfiles (l.drop (k + 1))) := by
    have := congrArg gfiles hl
    rw [gfiles_append] at this
    exact this
  have hs1 : gfiles l ++ (gdir 0 l ++ Z) = (gfiles l ++ gdir 0 (l.take k)) ++ (centralB e.h (gfiles (l.take k)).length ++ (gdir ((gfiles (l.take k)).length + (gone e).length) (l.drop (k + 1)) ++ Z)) := by
    have : gfiles l ++ (gdir 0 l ++ Z) = gfiles l ++ ((gdir 0 (l.take k) ++ (centralB e.h (gfiles (l.take k)).length ++ gdir ((gfiles (l.take k)).length + (gone e).length) (l.drop (k + 1)))) ++ Z) := by rw [← hgd]
    rw [this]; simp only [List.append_assoc]
  have hs2 : gfiles l ++ (gdir 0 l ++ Z) = gfiles (l.take k) ++ (gone e ++ (gfiles (l.drop (k + 1)) ++ (gdir 0 l ++ Z))) := by
    have : gfiles l ++ (gdir 0 l ++ Z) = (gfiles (l.take k) ++ (gone e ++ gfiles (l.drop (k + 1)))) ++ (gdir 0 l ++ Z) := by rw [← hgf]
    rw [this]; simp only [List.append_assoc]
  refine ⟨?_, central_at hs1 (by rw [List.length_append]) he.ok (by omega), loc_at hs2 rfl he, ?_⟩
  · have := gplaces_at (l.take k) (l.drop (k + 1)) e (gfiles l).length 0
    rw [hlen, ← hl] at this
    exact this
  · have := drop_at hs1 (by rw [List.length_append]) 0
    rw [Nat.add_zero] at this
    rw [this, cb0]
theorem garch_eq (l : List GEnt) (c : By) : garch l c = gfiles l ++ (gdir 0 l ++ endB l.length (gdir 0 l).length (gfiles l).length c) := by simp [garch]
theorem garch_size {l : List GEnt} {c : By} (hall : ∀ e ∈ l, GOk e) (h1000 : l.length ≤ 1000) (hc : c.length ≤ 65535) : (garch l c).length = (gfiles l).length + (gdir 0 l).length + (22 + c.length) ∧ (garch l c).length ≤ 1400000000 := by
  have hgs := gsize hall
  have h0 := hgs.2 0
  have hmul : l.length * 1168622 ≤ 1000 * 1168622 := Nat.mul_le_mul_right _ h1000
  have hmul2 : l.length * 180046 ≤ 1000 * 180046 := Nat.mul_le_mul_right _ h1000
  have : (garch l c).length = (gfiles l).length + (gdir 0 l).length + (22 + c.length) := by rw [garch, List.length_append, List.length_append, endB_length]
  exact ⟨this, by omega⟩
end Zp
theorem garcT {l : List GEnt} {c : By} (hall : ∀ e ∈ l, GOk e) (h1000 : l.length ≤ 1000) (hc : c.length ≤ 65535) (he : ends (garch l c) = 1) :
    ArcT (bs (garch l c)) c (gplaces (gfiles l).length 0 l).length (gdir 0 l).length (gfiles l).length (gplaces (gfiles l).length 0 l) 0 := by
  obtain ⟨hsz, hs4⟩ := garch_size hall h1000 hc
  have hpl := gplaces_length l (gfiles l).length 0
  rw [hpl]
  refine ⟨⟨gfiles l ++ gdir 0 l, [], (gfiles l).length + (gdir 0 l).length, ?_, ?_, by simp, ?_, ?_⟩, ?_, ?_, hc, ?_, ?_, ?_⟩
  · rw [bs_list, List.append_nil]; rfl
  · rw [List.length_append]; omega
  · rw [bs_list, Nat.zero_add]
    exact gchain_at l _ (gfiles l) (endB l.length (gdir 0 l).length (gfiles l).length c) _ 0 (garch_eq l c) rfl (fun e he => (hall e he).ok) (by omega)
  · rw [bs_list]
    exact end_at (A := gfiles l ++ gdir 0 l) (Z := []) (by rw [List.append_nil]; rfl) (by rw [List.length_append])
  · rw [bs_size]; omega
  · rw [bs_list]; exact he
  · omega
  · omega
  · exact .inl rfl
theorem gatK {l : List GEnt} {c : By} {k : Nat} {e : GEnt} (hall : ∀ e ∈ l, GOk e) (h1000 : l.length ≤ 1000) (hk : l[k]? = some e) :
    AtK (bs (garch l c)).data.toList ([] : List Ent) c ⟨e.h, e.data⟩ ((gfiles l).length + (gdir 0 (l.take k)).length) (gfiles (l.take k)).length 0 := by
  obtain ⟨h1, h2, h3, h4⟩ := gat (Z := endB l.length (gdir 0 l).length (gfiles l).length c) hall h1000 hk
  rw [bs_list, garch_eq]
  have hfit := h3.fits
  have hb : bodyAt (gfiles l ++ (gdir 0 l ++ endB l.length (gdir 0 l).length (gfiles l).length c)) (gfiles (l.take k)).length = (gfiles (l.take k)).length + (localB e.h).length := by
    rw [bodyAt, h3.f26, h3.f28, localB_length]
  refine ⟨h2, ?_⟩
  simp only [Nat.add_zero]
  rw [hb]
  refine ⟨by omega, by rw [h3.f0]; decide, rfl, by rw [localB_length]; show _ + e.data.length ≤ _; omega, ?_⟩
  have := h3.dat
  rw [localB_length, show (gfiles (l.take k)).length + (30 + e.h.name.length + e.h.extra.length) = (gfiles (l.take k)).length + 30 + e.h.name.length + e.h.extra.length by omega]
  exact this
theorem gfileK {l : List GEnt} {c : By} {k : Nat} {e : GEnt} (hall : ∀ e ∈ l, GOk e) (h1000 : l.length ≤ 1000) (hc : c.length ≤ 65535) (he : ends (garch l c) = 1) (hk : l[k]? = some e) : FileK (bs (garch l c)) k ⟨e.h, e.data⟩ := by
  refine ⟨⟨c, _, _, _, [], _, _, 0, garcT hall h1000 hc he, (gat (Z := []) hall h1000 hk).1, gatK hall h1000 hk⟩, ?_⟩
  obtain ⟨hkl, hel⟩ := List.getElem?_eq_some_iff.1 hk
  exact (hall e (by rw [← hel]; exact List.getElem_mem hkl)).ok
end Go.Proofs.YtalgnjkdoaaacaaGreatDoor

/- spec.central, spec.begin, spec.local, spec.content: the reference's reading of headers. -/
namespace Go.Proofs.YtalgnjkdoaaacaaGreatDoor
open Go Go.RowKit
open Zp
/-- A record as the reference finds it. -/
abbrev recV (h : Hd) (pos : Int) (d : By) : Value := .agg #[.string (bs h.name), .string (bs h.comment), .string (bs h.extra), .bool false, .int .i64 h.creator, .int .i64 h.reader, .int .i64 h.flags, .int .i64 h.method, .int .i64 h.time, .int .i64 h.date, .int .i64 h.crc, .int .i64 h.packed, .int .i64 h.size, .int .i64 h.ext, .int .i64 pos, .string (bs d)]
theorem numX (s : By) (a b : Nat) (w : World) (h : b ≤ a + 6) : Calls Tryz.prog 47 #[.string ((bs s).extract a b)] w fun e w' => e = .returned (.int .i64 (num ((s.drop a).take (b - a)) : Int)) ∧ w' = w := by
  rw [bs_extract]
  exact numberC _ w (by rw [List.length_take]; omega)
set_option maxRecDepth 100000 in
set_option maxHeartbeats 4000000 in
theorem cenF (s : By) (p a b gs gp : Nat) (w : World) (h1 : w.cell? ⟨gs, 0, none⟩ = some (.string (bs s))) (h2 : w.cell? ⟨gp, 0, none⟩ = some (.int .i64 (p : Int))) (hab : a ≤ b) (hb : b ≤ a + 6) (hl : p + b ≤ s.length) (hs : s.length ≤ 4000000000) :
    Calls Tryz.prog 80 #[.int .i64 (a : Int), .int .i64 (b : Int), .pointer (some ⟨gs, 0, none⟩), .pointer (some ⟨gp, 0, none⟩)] w fun e w' => e = .returned (.int .i64 (num ((s.drop (p + a)).take (b - a)) : Int)) ∧ w' = w := by
  have hns := bs_size s
  have HN := Lib.hid (numX s (p + a) (p + b) w (by omega))
  rw [show p + b - (p + a) = b - a by omega] at HN
  obtain ⟨n, hn⟩ : ∃ n, s.length = n := ⟨_, rfl⟩
  rw [hn] at hns hl hs
  go_enter Tryz.func80, Tryz.ntmps80
  go_wp2_with fail
  refine HN.out.mono ?_
  rintro e w1 ⟨rfl, hw⟩
  rw [hw]
  clear hw w1
  go_wp2_with fail
  go_ret
  exact ⟨rfl, rfl⟩
/-- The same, over any length of the field. -/
theorem cenF' (s : By) (p gs gp a b n : Nat) (v : Nat) (w : World) (h1 : w.cell? ⟨gs, 0, none⟩ = some (.string (bs s))) (h2 : w.cell? ⟨gp, 0, none⟩ = some (.int .i64 (p : Int))) (hl : p + 46 ≤ s.length) (hs : s.length ≤ 4000000000) (hv : num ((s.drop (p + a)).take n) = v) (hb : b = a + n) (hn : n ≤ 6) (ha : a + n ≤ 46) :
    Calls Tryz.prog 80 #[.int .i64 (a : Int), .int .i64 (b : Int), .pointer (some ⟨gs, 0, none⟩), .pointer (some ⟨gp, 0, none⟩)] w fun e w' => e = .returned (.int .i64 (v : Int)) ∧ w' = w := by
  have := cenF s p a b gs gp w h1 h2 (by omega) (by omega) (by omega) hs
  rw [show b - a = n by omega, hv] at this
  exact this
end Go.Proofs.YtalgnjkdoaaacaaGreatDoor

/- spec.begin, spec.local, spec.content. -/
namespace Go.Proofs.YtalgnjkdoaaacaaGreatDoor
open Go Go.RowKit
open Zp
/-- A record's cells. -/
abbrev recD (h : Hd) (P : Nat) (d : By) : Array Value := #[.string (bs h.name), .string (bs h.comment), .string (bs h.extra), .bool false, .int .i64 h.creator, .int .i64 h.reader, .int .i64 h.flags, .int .i64 h.method, .int .i64 h.time, .int .i64 h.date, .int .i64 h.crc, .int .i64 h.packed, .int .i64 h.size, .int .i64 h.ext, .int .i64 (P : Int), .string (bs d)]
theorem mkDr {h : Hd} {P : Nat} {d : By} {g : Nat} {w0 w : World} (hb : Blk w g 50 (recD h P d)) (hf : Fr [] w0 w) : w.cell? ⟨g, 0, none⟩ = some (.string (bs h.name)) ∧ w.cell? ⟨g, 1, none⟩ = some (.string (bs h.comment)) ∧ w.cell? ⟨g, 2, none⟩ = some (.string (bs h.extra)) ∧ w.cell? ⟨g, 3, none⟩ = some (.bool false) ∧ w.cell? ⟨g, 4, none⟩ = some (.int .i64 h.creator) ∧ w.cell? ⟨g, 5, none⟩ = some (.int .i64 h.reader) ∧ w.cell? ⟨g, 6, none⟩ = some (.int .i64 h.flags) ∧ w.cell? ⟨g, 7, none⟩ = some (.int .i64 h.method) ∧ w.cell? ⟨g, 8, none⟩ = some (.int .i64 h.time) ∧ w.cell? ⟨g, 9, none⟩ = some (.int .i64 h.date) ∧ w.cell? ⟨g, 10, none⟩ = some (.int .i64 h.crc) ∧ w.cell? ⟨g, 11, none⟩ = some (.int .i64 h.packed) ∧ w.cell? ⟨g, 12, none⟩ = some (.int .i64 h.size) ∧ w.cell? ⟨g, 13, none⟩ = some (.int .i64 h.ext) ∧ w.cell? ⟨g, 14, none⟩ = some (.int .i64 (P : Int)) ∧ w.cell? ⟨g, 15, none⟩ = some (.string (bs d)) ∧ Blk w g 50 (recD h P d) ∧ Fr [] w0 w :=
  ⟨hb.at_ 0 _ rfl, hb.at_ 1 _ rfl, hb.at_ 2 _ rfl, hb.at_ 3 _ rfl, hb.at_ 4 _ rfl, hb.at_ 5 _ rfl, hb.at_ 6 _ rfl, hb.at_ 7 _ rfl, hb.at_ 8 _ rfl, hb.at_ 9 _ rfl, hb.at_ 10 _ rfl, hb.at_ 11 _ rfl, hb.at_ 12 _ rfl, hb.at_ 13 _ rfl, hb.at_ 14 _ rfl, hb.at_ 15 _ rfl, hb, hf⟩
theorem keepDr {h : Hd} {P : Nat} {d : By} {g : Nat} {w0 w w' : World} (hs : w.cell? ⟨g, 0, none⟩ = some (.string (bs h.name)) ∧ w.cell? ⟨g, 1, none⟩ = some (.string (bs h.comment)) ∧ w.cell? ⟨g, 2, none⟩ = some (.string (bs h.extra)) ∧ w.cell? ⟨g, 3, none⟩ = some (.bool false) ∧ w.cell? ⟨g, 4, none⟩ = some (.int .i64 h.creator) ∧ w.cell? ⟨g, 5, none⟩ = some (.int .i64 h.reader) ∧ w.cell? ⟨g, 6, none⟩ = some (.int .i64 h.flags) ∧ w.cell? ⟨g, 7, none⟩ = some (.int .i64 h.method) ∧ w.cell? ⟨g, 8, none⟩ = some (.int .i64 h.time) ∧ w.cell? ⟨g, 9, none⟩ = some (.int .i64 h.date) ∧ w.cell? ⟨g, 10, none⟩ = some (.int .i64 h.crc) ∧ w.cell? ⟨g, 11, none⟩ = some (.int .i64 h.packed) ∧ w.cell? ⟨g, 12, none⟩ = some (.int .i64 h.size) ∧ w.cell? ⟨g, 13, none⟩ = some (.int .i64 h.ext) ∧ w.cell? ⟨g, 14, none⟩ = some (.int .i64 (P : Int)) ∧ w.cell? ⟨g, 15, none⟩ = some (.string (bs d)) ∧ Blk w g 50 (recD h P d) ∧ Fr [] w0 w) (hf : Fr [] w w') : w'.cell? ⟨g, 0, none⟩ = some (.string (bs h.name)) ∧ w'.cell? ⟨g, 1, none⟩ = some (.string (bs h.comment)) ∧ w'.cell? ⟨g, 2, none⟩ = some (.string (bs h.extra)) ∧ w'.cell? ⟨g, 3, none⟩ = some (.bool false) ∧ w'.cell? ⟨g, 4, none⟩ = some (.int .i64 h.creator) ∧ w'.cell? ⟨g, 5, none⟩ = some (.int .i64 h.reader) ∧ w'.cell? ⟨g, 6, none⟩ = some (.int .i64 h.flags) ∧ w'.cell? ⟨g, 7, none⟩ = some (.int .i64 h.method) ∧ w'.cell? ⟨g, 8, none⟩ = some (.int .i64 h.time) ∧ w'.cell? ⟨g, 9, none⟩ = some (.int .i64 h.date) ∧ w'.cell? ⟨g, 10, none⟩ = some (.int .i64 h.crc) ∧ w'.cell? ⟨g, 11, none⟩ = some (.int .i64 h.packed) ∧ w'.cell? ⟨g, 12, none⟩ = some (.int .i64 h.size) ∧ w'.cell? ⟨g, 13, none⟩ = some (.int .i64 h.ext) ∧ w'.cell? ⟨g, 14, none⟩ = some (.int .i64 (P : Int)) ∧ w'.cell? ⟨g, 15, none⟩ = some (.string (bs d)) ∧ Blk w' g 50 (recD h P d) ∧ Fr [] w0 w' := by
  obtain ⟨_, _, _, _, _, _, _, _, _, _, _, _, _, _, _, _, hb, hk⟩ := hs
  exact mkDr (hb.fr hf (by simp)) (hk.trans hf (by simp))
theorem frDr {h : Hd} {P : Nat} {d : By} {g : Nat} {w0 w : World} (hs : w.cell? ⟨g, 0, none⟩ = some (.string (bs h.name)) ∧ w.cell? ⟨g, 1, none⟩ = some (.string (bs h.comment)) ∧ w.cell? ⟨g, 2, none⟩ = some (.string (bs h.extra)) ∧ w.cell? ⟨g, 3, none⟩ = some (.bool false) ∧ w.cell? ⟨g, 4, none⟩ = some (.int .i64 h.creator) ∧ w.cell? ⟨g, 5, none⟩ = some (.int .i64 h.reader) ∧ w.cell? ⟨g, 6, none⟩ = some (.int .i64 h.flags) ∧ w.cell? ⟨g, 7, none⟩ = some (.int .i64 h.method) ∧ w.cell? ⟨g, 8, none⟩ = some (.int .i64 h.time) ∧ w.cell? ⟨g, 9, none⟩ = some (.int .i64 h.date) ∧ w.cell? ⟨g, 10, none⟩ = some (.int .i64 h.crc) ∧ w.cell? ⟨g, 11, none⟩ = some (.int .i64 h.packed) ∧ w.cell? ⟨g, 12, none⟩ = some (.int .i64 h.size) ∧ w.cell? ⟨g, 13, none⟩ = some (.int .i64 h.ext) ∧ w.cell? ⟨g, 14, none⟩ = some (.int .i64 (P : Int)) ∧ w.cell? ⟨g, 15, none⟩ = some (.string (bs d)) ∧ Blk w g 50 (recD h P d) ∧ Fr [] w0 w) : Fr [] w0 w := by
  obtain ⟨_, _, _, _, _, _, _, _, _, _, _, _, _, _, _, _, hb, hk⟩ := hs
  exact hk
set_option maxRecDepth 100000 in
set_option maxHeartbeats 4000000 in
theorem beginS (s : By) (P : Nat) (g : GEnt) (d : By) (w : World) (hl : LocAt s P g) (hs : s.length ≤ 4000000000) :
    Calls Tryz.prog 81 #[.string (bs s), recV g.h (P : Int) d] w fun e w' => e = .returned (.int .i64 ((P + 30 + g.h.name.length + g.h.extra.length : Nat) : Int)) ∧ Fr [] w w' := by
  have hns := bs_size s
  have hfit := hl.fits
  have HN26 := Lib.hid (fun w' => numX s (P + 26) (P + 28) w' (by omega))
  have HN28 := Lib.hid (fun w' => numX s (P + 28) (P + 30) w' (by omega))
  rw [show P + 28 - (P + 26) = 2 by omega, hl.f26] at HN26
  rw [show P + 30 - (P + 28) = 2 by omega, hl.f28] at HN28
  clear hl
  obtain ⟨h, hh⟩ : ∃ h, g.h = h := ⟨_, rfl⟩
  rw [hh] at HN26 HN28 hfit ⊢
  clear hh
  obtain ⟨nl, hnl⟩ : ∃ x, h.name.length = x := ⟨_, rfl⟩
  obtain ⟨xl, hxl⟩ : ∃ x, h.extra.length = x := ⟨_, rfl⟩
  rw [hnl] at HN26 hfit ⊢
  rw [hxl] at HN28 hfit ⊢
  obtain ⟨n, hn⟩ : ∃ n, s.length = n := ⟨_, rfl⟩
  rw [hn] at hns hfit hs
  obtain ⟨a26, h26⟩ : ∃ x, P + 26 = x := ⟨_, rfl⟩
  obtain ⟨a28, h28⟩ : ∃ x, P + 28 = x := ⟨_, rfl⟩
  obtain ⟨a30, h30⟩ : ∃ x, P + 30 = x := ⟨_, rfl⟩
  obtain ⟨b1, hb1⟩ : ∃ x, a30 + nl = x := ⟨_, rfl⟩
  obtain ⟨b2, hb2⟩ : ∃ x, b1 + xl = x := ⟨_, rfl⟩
  rw [h26, h28] at HN26
  rw [h28, h30] at HN28
  rw [h30, hb1, hb2]
  have w26 : IntKind.i64.wrap ((P : Int) + 26) = (a26 : Int) := by rw [IntWalk.i64_in _ (by omega)]; omega
  have w28 : IntKind.i64.wrap ((P : Int) + 28) = (a28 : Int) := by rw [IntWalk.i64_in _ (by omega)]; omega
  have w30 : IntKind.i64.wrap ((P : Int) + 30) = (a30 : Int) := by rw [IntWalk.i64_in _ (by omega)]; omega
  have y1 : IntKind.i64.wrap ((a30 : Int) + (nl : Int)) = (b1 : Int) := by rw [IntWalk.i64_in _ (by omega)]; omega
  have y2 : IntKind.i64.wrap ((b1 : Int) + (xl : Int)) = (b2 : Int) := by rw [IntWalk.i64_in _ (by omega)]; omega
  have q0 : (0 : Int) ≤ (a26 : Int) := by omega
  have q1 : (a26 : Int) ≤ (a28 : Int) := by omega
  have q2 : (a28 : Int) ≤ (n : Int) := by omega
  have q3 : (0 : Int) ≤ (a28 : Int) := by omega
  have q4 : (a28 : Int) ≤ (a30 : Int) := by omega
  have q5 : (a30 : Int) ≤ (n : Int) := by omega
  have r1 : a26 ≤ a28 := by omega
  have r2 : a28 ≤ n := by omega
  have r3 : a28 ≤ a30 := by omega
  have r4 : a30 ≤ n := by omega
  clear hnl hxl hn h26 h28 h30 hb1 hb2 hfit hs
  go_enter Tryz.func81, Tryz.ntmps81
  go_wp2_with fail
  have k0 := mkDr (h := h) (P := P) (d := d) (Blk.new w 50 (recD h P d)) ((Fr.refl [] w).alloc (.cells (recD h P d) 50))
  obtain ⟨w1, hw1⟩ : ∃ w1, w.alloc (.cells (recD h P d) 50) = w1 := ⟨_, rfl⟩
  rw [hw1] at k0 ⊢
  clear hw1
  obtain ⟨gb, hgb⟩ : ∃ g, w.heap.size = g := ⟨_, rfl⟩
  rw [hgb] at k0 ⊢
  clear hgb
  have HF := Lib.hid (frDr k0)
  have c14 := k0.2.2.2.2.2.2.2.2.2.2.2.2.2.2.1
  clear k0
  go_region_held3 (fun w' => w'.cell? ⟨gb, 14, none⟩ = some (.int .i64 (P : Int)))
    ((first | exact c14 | assumption))
    ((first
      | (go_at_call 47; (with_reducible first | refine (HN26.out _).mono ?_ | refine (HN28.out _).mono ?_); rintro e w2 ⟨rfl, rfl⟩)))
  go_wp2_with fail
  go_ret
  exact ⟨rfl, HF.out.drew⟩
end Go.Proofs.YtalgnjkdoaaacaaGreatDoor

/- laws.zzFits1; spec.Directories. -/
import Derived.Test.YtcodhjoiikdhmaaGreatDoorQrj
set_option linter.unusedVariables false
set_option linter.unusedSimpArgs false
namespace Go.Proofs.YtcodhjoiikdhmaaGreatDoor
open Go Go.RowKit
open Zp
/-- Texts of a length that memory has. -/
structure EntM (e : Ent) : Prop where
  nm : e.h.name.length ≤ 9223372036854775807
  cm : e.h.comment.length ≤ 9223372036854775807
  ex : e.h.extra.length ≤ 9223372036854775807
  data : e.data.length ≤ 9223372036854775807
def FitH (h : Hd) : Prop := h.name.length ≤ 2147483647 ∧ h.comment.length ≤ 2147483647 ∧ h.extra.length ≤ 2147483647
def FitE (e : Ent) : Prop := FitH e.h ∧ e.data.length ≤ 2147483647
def FitL (l : List Ent) : Prop := l.length ≤ 2147483647 ∧ ∀ e ∈ l, FitE e
set_option maxRecDepth 100000 in
set_option maxHeartbeats 4000000 in
theorem fits3C (h : Hd) (h1 : h.name.length ≤ 9223372036854775807) (h2 : h.comment.length ≤ 9223372036854775807) (h3 : h.extra.length ≤ 9223372036854775807) (w : World) :
    Calls Tryz.prog 46 #[.agg #[.string (bs h.name), .string (bs h.comment), .string (bs h.extra), .bool h.non, .int .i64 h.creator, .int .i64 h.reader, .int .i64 h.flags, .int .i64 h.method, .int .i64 h.time, .int .i64 h.date, .int .i64 h.crc, .int .i64 h.packed, .int .i64 h.size, .int .i64 h.ext]] w (BoolP (FitH h) w) := by
  go_enter Tryz.func46, Tryz.ntmps46
  go_wp2_with fail
  all_goals go_ret
  all_goals refine ⟨_, rfl, ?_, (Fr.refl _ _).alloc _⟩
  all_goals simp only [FitH, Bool.false_eq_true]
  all_goals constructor
  all_goals intro hh
  all_goals first | exact hh.elim | rfl | trivial | omega | (refine ⟨?_, ?_, ?_⟩ <;> omega) | (exfalso; omega) | trace_state
set_option maxRecDepth 100000 in
set_option maxHeartbeats 4000000 in
theorem fits2C (e : Ent) (hm : EntM e) (w : World) :
    Calls Tryz.prog 32 #[.agg #[.string (bs e.h.name), .string (bs e.h.comment), .string (bs e.h.extra), .bool e.h.non, .int .i64 e.h.creator, .int .i64 e.h.reader, .int .i64 e.h.flags, .int .i64 e.h.method, .int .i64 e.h.time, .int .i64 e.h.date, .int .i64 e.h.crc, .int .i64 e.h.packed, .int .i64 e.h.size, .int .i64 e.h.ext, .string (bs e.data)]] w (BoolP (FitE e) w) := by
  have hd := hm.data
  have HB := Lib.hid (fun w1 => fits3C e.h hm.nm hm.cm hm.ex w1)
  clear hm
  go_enter Tryz.func32, Tryz.ntmps32
  go_wp2_with fail
  refine (HB.out _).mono ?_
  rintro x w1 ⟨b, rfl, hb, hf⟩
  have d14 : w1.cell? ⟨w.heap.size, 14, none⟩ = some (.string (bs e.data)) := (Blk.fr (Blk.new w 28 (entL e).toArray) hf (by simp)).at_ 14 _ rfl
  have HF := Lib.hid (((Fr.refl [] w).alloc (.cells (entL e).toArray 28)).trans hf (by simp))
  have HB2 := Lib.hid hb
  clear hf hb
  cases b with
  | true =>
    by_cases hd2 : e.data.length ≤ 2147483647
    · have i1 : ¬ 2147483647 < (e.data.length : Int) := by omega
      go_wp2_with fail
      go_ret
      exact ⟨true, rfl, ⟨fun _ => ⟨HB2.out.1 (by first | rfl | trivial), hd2⟩, fun _ => rfl⟩, HF.out⟩
    · have i1 : 2147483647 < (e.data.length : Int) := by omega
      go_wp2_with fail
      go_ret
      exact ⟨false, rfl, ⟨fun h => (by cases h), fun h => absurd h.2 hd2⟩, HF.out⟩
  | false =>
    go_wp2_with fail
    go_ret
    exact ⟨false, rfl, ⟨fun h => (by cases h), fun h => HB2.out.2 h.1⟩, HF.out⟩
end Go.Proofs.YtcodhjoiikdhmaaGreatDoor

/- laws.zzFits1. -/
namespace Go.Proofs.YtcodhjoiikdhmaaGreatDoor
open Go Go.RowKit
open Zp
set_option maxRecDepth 100000 in
set_option maxHeartbeats 8000000 in
theorem fits1C (l : List Ent) (hI : ∀ e ∈ l, EntM e) (v : Value) (w : World) (hv : SV w v l) :
    Calls Tryz.prog 15 #[v] w (BoolP (FitL l) w) := by
  obtain ⟨p, cap, rfl, hlc, hcm, hp⟩ := hv
  have HP := Lib.hid hp
  have HI := Lib.hid hI
  clear hp hI
  obtain ⟨n, hn⟩ : ∃ n, l.length = n := ⟨_, rfl⟩
  rw [hn] at hlc ⊢
  have hn47 : n ≤ 9223372036854775807 := by unfold maxLen at hcm; omega
  by_cases hbig : n ≤ 2147483647
  · have i1 : ¬ 2147483647 < (n : Int) := by omega
    go_enter Tryz.func15, Tryz.ntmps15
    go_wp2_with fail
    go_loopw [10] (fun v9 wr => ∃ (k : Nat), k ≤ n ∧ v9 = .int .i64 (k : Int) ∧ (∀ e ∈ l.take k, FitE e) ∧ Fr [] w wr) (fun v9 _ => n - (intOf v9).toNat)
    case atStart => exact ⟨0, by omega, rfl, by simp, Fr.refl _ _⟩
    case round =>
     obtain ⟨k, hk, rfl, hall, hf⟩ := hrel
     by_cases hlt : k < n
     · have HALL := Lib.hid hall
       clear hall
       have hkl : k < l.length := by omega
       obtain ⟨g, o, rfl, hg, hle⟩ := HP.out (fun h => by rw [h] at hkl; simp at hkl)
       obtain ⟨e, he⟩ : ∃ e, l[k] = e := ⟨_, rfl⟩
       have hem : e ∈ l := by rw [← he]; exact List.getElem_mem hkl
       have hei := HI.out e hem
       have hrg := (hle.fr hf hg (by simp)) k e (by rw [← he]; exact List.getElem?_eq_getElem hkl)
       obtain ⟨c0, c1, c2, c3, c4, c5, c6, c7, c8, c9, c10, c11, c12, c13, c14⟩ := cellsE hrg
       have HEI := Lib.hid hei
       have HF := Lib.hid hf
       clear hf hei hle hrg
       have HB := Lib.hid (fits2C e HEI.out)
       go_wp2_with fail
       clear c0 c1 c2 c3 c4 c5 c6 c7 c8 c9 c10 c11 c12 c13 c14
       refine (HB.out _).mono ?_
       rintro e2 w2 ⟨b, rfl, hb, hf2⟩
       have HF2 := Lib.hid (HF.out.trans (((Fr.refl [] wr).alloc _).trans hf2 (by simp)) (by simp))
       have HB2 := Lib.hid hb
       clear hf2 hb
       cases b with
       | true =>
         go_wp2_with fail
         exact ⟨⟨k + 1, by omega, by rw [Int.natCast_add]; rfl, take_all HALL.out hkl (by rw [he]; exact HB2.out.1 (by first | rfl | trivial)), HF2.out⟩, by simp [intOf]; omega⟩
       | false =>
         go_wp2_with fail
         go_ret
         exact ⟨false, rfl, ⟨fun h => (by cases h), fun h => HB2.out.2 (h.2 e hem)⟩, HF2.out⟩
     · obtain rfl : k = n := by omega
       rw [List.take_of_length_le (by omega)] at hall
       have HF := Lib.hid hf
       have HALL := Lib.hid hall
       clear hf hall
       go_wp2_with fail
       go_ret
       exact ⟨true, rfl, ⟨fun _ => ⟨by omega, HALL.out⟩, fun _ => rfl⟩, HF.out⟩
  · have i1 : 2147483647 < (n : Int) := by omega
    go_enter Tryz.func15, Tryz.ntmps15
    go_wp2_with fail
    go_ret
    exact ⟨false, rfl, ⟨fun h => (by cases h), fun h => absurd h.1 (by omega)⟩, Fr.refl _ _⟩
end Go.Proofs.YtcodhjoiikdhmaaGreatDoor

/- spec.Directories. -/
namespace Go.Proofs.YtcodhjoiikdhmaaGreatDoor
open Go Go.RowKit
open Zp
/-- A name that ends with a slash. -/
def slashL (l : By) : Prop := l.getLast? = some 47
def DirOk (l : List Ent) : Prop := ∀ e ∈ l, ¬ (slashL e.h.name ∧ e.data ≠ [])
theorem u47 {b : UInt8} (h : ((b.toNat : Nat) : Int) = 47) : b = 47 := by
  apply UInt8.toNat_inj.1
  show b.toNat = 47
  omega
set_option maxRecDepth 100000 in
set_option maxHeartbeats 8000000 in
theorem dirsC (l : List Ent) (hI : ∀ e ∈ l, EntI e) (v : Value) (w : World) (hv : SV w v l) :
    Calls Tryz.prog 18 #[v] w (BoolP (DirOk l) w) := by
  obtain ⟨p, cap, rfl, hlc, hcm, hp⟩ := hv
  have HP := Lib.hid hp
  have HI := Lib.hid hI
  clear hp hI
  obtain ⟨n, hn⟩ : ∃ n, l.length = n := ⟨_, rfl⟩
  rw [hn] at hlc ⊢
  have hn47 : n ≤ 9223372036854775807 := by unfold maxLen at hcm; omega
  go_enter Tryz.func18, Tryz.ntmps18
  go_wp2_with fail
  go_loopw [8] (fun v9 wr => ∃ (k : Nat), k ≤ n ∧ v9 = .int .i64 (k : Int) ∧ (∀ e ∈ l.take k, ¬ (slashL e.h.name ∧ e.data ≠ [])) ∧ Fr [] w wr) (fun v9 _ => n - (intOf v9).toNat)
  case atStart => exact ⟨0, by omega, rfl, by simp, Fr.refl _ _⟩
  case round =>
    obtain ⟨k, hk, rfl, hall, hf⟩ := hrel
    by_cases hlt : k < n
    · have HALL := Lib.hid hall
      clear hall
      have hkl : k < l.length := by omega
      obtain ⟨g, o, rfl, hg, hle⟩ := HP.out (fun h => by rw [h] at hkl; simp at hkl)
      obtain ⟨e, he⟩ : ∃ e, l[k] = e := ⟨_, rfl⟩
      have hem : e ∈ l := by rw [← he]; exact List.getElem_mem hkl
      have hei := HI.out e hem
      have hrg := (hle.fr hf hg (by simp)) k e (by rw [← he]; exact List.getElem?_eq_getElem hkl)
      obtain ⟨c0, c1, c2, c3, c4, c5, c6, c7, c8, c9, c10, c11, c12, c13, c14⟩ := cellsE hrg
      have HEI := Lib.hid hei
      have HF := Lib.hid hf
      clear hf hei hle hrg
      have hnm := HEI.out.hd.nm
      have HF2 := Lib.hid (HF.out.alloc (.cells (entL e).toArray 28))
      rcases List.eq_nil_or_concat e.h.name with hnil | ⟨m, b, hmb⟩
      · have hl0 : e.h.name.length = 0 := by rw [hnil]; rfl
        have HN := Lib.hid hnil
        clear hnil
        go_wp2_with fail
        exact ⟨⟨k + 1, by omega, by rw [Int.natCast_add]; rfl, take_all HALL.out hkl (by rw [he]; intro h; have := h.1; rw [slashL, HN.out] at this; cases this), HF2.out⟩, by simp [intOf]; omega⟩
      · rw [List.concat_eq_append] at hmb
        have hl1 : e.h.name.length = m.length + 1 := by rw [hmb]; simp
        have HMB := Lib.hid hmb
        have i1 : (0 : Int) < (e.h.name.length : Int) := by omega
        clear hmb
        have hlt2 : e.h.name.length - 1 < (bs e.h.name).size := by show _ < e.h.name.toArray.size; simp; omega
        have hsl : slashL e.h.name ↔ b = 47 := by rw [slashL, HMB.out]; simp
        have hget : ∀ (h : m.length < (bs e.h.name).size), (bs e.h.name)[m.length] = b := by
          intro h
          show e.h.name.toArray[m.length] = b
          simp [HMB.out]
        have HGET := Lib.hid (And.intro hsl hget)
        clear hsl hget
        go_wp2_with fail
        all_goals obtain ⟨hsl, hget⟩ := HGET.out
        · rename_i x1 x2 x3
          go_ret
          refine ⟨false, rfl, ⟨fun h => (by cases h), fun h => ?_⟩, HF2.out⟩
          rw [hget] at x2
          exact absurd ⟨hsl.2 (u47 x2), fun h0 => by rw [h0] at x3; cases x3⟩ (h e hem)
        · rename_i x1 x2 x3
          exact ⟨⟨k + 1, by omega, by rw [Int.natCast_add]; rfl, take_all HALL.out hkl (by rw [he]; intro h; exact h.2 (by simpa using x3)), HF2.out⟩, by simp [intOf]; omega⟩
        · rename_i x1 x2
          rw [hget] at x2
          exact ⟨⟨k + 1, by omega, by rw [Int.natCast_add]; rfl, take_all HALL.out hkl (by rw [he]; intro h; exact x2 (by rw [hsl.1 h.1]; rfl)), HF2.out⟩, by simp [intOf]; omega⟩
    · obtain rfl : k = n := by omega
      rw [List.take_of_length_le (by omega)] at hall
      have HF := Lib.hid hf
      have HALL := Lib.hid hall
      clear hf hall
      go_wp2_with fail
      go_ret
      exact ⟨true, rfl, ⟨fun _ => HALL.out, fun _ => rfl⟩, HF.out⟩
end Go.Proofs.YtcodhjoiikdhmaaGreatDoor

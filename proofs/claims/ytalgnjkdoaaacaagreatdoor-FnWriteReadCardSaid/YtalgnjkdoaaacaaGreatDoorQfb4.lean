/- spec.local. -/
import Derived.Test.YtalgnjkdoaaacaaGreatDoorQec
set_option linter.unusedVariables false
set_option linter.unusedSimpArgs false
namespace Go.Proofs.YtalgnjkdoaaacaaGreatDoor
open Go Go.RowKit
open Zp
set_option maxRecDepth 100000 in
set_option maxHeartbeats 16000000 in
theorem localS (s : By) (P : Nat) (g : GEnt) (d : By) (w : World) (hl : LocAt s P g) (hs : s.length ≤ 4000000000) (hok : HdOk g.h) (hpk : g.h.packed = g.data.length) :
    Calls Tryz.prog 49 #[.string (bs s), recV g.h (P : Int) d] w fun e w' => e = .returned (.bool true) ∧ Fr [] w w' := by
  have hns := bs_size s
  have hfit := hl.fits
  have hnm := hok.2.2.2.2.2.2.2.2.2.2.1
  have HBG := Lib.hid (fun w' => beginS s P g d w' hl hs)
  have HN8 := Lib.hid (fun w' => numX s (P + 8) (P + 10) w' (by omega))
  have HN26 := Lib.hid (fun w' => numX s (P + 26) (P + 28) w' (by omega))
  rw [show P + 10 - (P + 8) = 2 by omega, hl.f8, Int.toNat_of_nonneg hok.2.2.2.1.1] at HN8
  rw [show P + 28 - (P + 26) = 2 by omega, hl.f26] at HN26
  have HA0 := Lib.hid (fun w' => atC s sigL P w' hs (by decide) (.inl (by decide)) (by omega))
  rw [show (s.drop P).take sigL.length = sigL from hl.f0, show decide (sigL = sigL) = true from decide_eq_true rfl, show bs sigL = ⟨#[80, 75, 3, 4]⟩ from rfl] at HA0
  have HA30 := Lib.hid (fun w' => atC s g.h.name (P + 30) w' hs (by omega) (.inr (by omega)) (by omega))
  rw [hl.nm, show decide (g.h.name = g.h.name) = true from decide_eq_true rfl] at HA30
  have hnsz := bs_size g.h.name
  clear hl hok
  obtain ⟨h, hh⟩ : ∃ h, g.h = h := ⟨_, rfl⟩
  rw [hh] at HBG HN8 HN26 HA30 hfit hpk hnsz hnm ⊢
  clear hh
  obtain ⟨nl, hnl⟩ : ∃ x, h.name.length = x := ⟨_, rfl⟩
  obtain ⟨xl, hxl⟩ : ∃ x, h.extra.length = x := ⟨_, rfl⟩
  rw [hnl] at HBG HN26 hfit hnsz hnm
  rw [hxl] at HBG hfit
  obtain ⟨n, hn⟩ : ∃ n, s.length = n := ⟨_, rfl⟩
  rw [hn] at hns hfit hs
  obtain ⟨a8, h8⟩ : ∃ x, P + 8 = x := ⟨_, rfl⟩
  obtain ⟨a10, h10⟩ : ∃ x, P + 10 = x := ⟨_, rfl⟩
  obtain ⟨a26, h26⟩ : ∃ x, P + 26 = x := ⟨_, rfl⟩
  obtain ⟨a28, h28⟩ : ∃ x, P + 28 = x := ⟨_, rfl⟩
  obtain ⟨a30, h30⟩ : ∃ x, P + 30 = x := ⟨_, rfl⟩
  obtain ⟨b2, hb2⟩ : ∃ x, a30 + nl + xl = x := ⟨_, rfl⟩
  rw [h8, h10] at HN8
  rw [h26, h28] at HN26
  rw [h30] at HA30
  rw [h30, hb2] at HBG
  have w8 : IntKind.i64.wrap ((P : Int) + 8) = (a8 : Int) := by rw [IntWalk.i64_in _ (by omega)]; omega
  have w10 : IntKind.i64.wrap ((P : Int) + 10) = (a10 : Int) := by rw [IntWalk.i64_in _ (by omega)]; omega
  have w26 : IntKind.i64.wrap ((P : Int) + 26) = (a26 : Int) := by rw [IntWalk.i64_in _ (by omega)]; omega
  have w28 : IntKind.i64.wrap ((P : Int) + 28) = (a28 : Int) := by rw [IntWalk.i64_in _ (by omega)]; omega
  have w30 : IntKind.i64.wrap ((P : Int) + 30) = (a30 : Int) := by rw [IntWalk.i64_in _ (by omega)]; omega
  obtain ⟨b3, hb3⟩ : ∃ x, b2 + g.data.length = x := ⟨_, rfl⟩
  have y3 : IntKind.i64.wrap ((b2 : Int) + h.packed) = (b3 : Int) := by rw [hpk, IntWalk.i64_in _ (by omega)]; omega
  have q0 : (0 : Int) ≤ (a26 : Int) := by omega
  have q1 : (a26 : Int) ≤ (a28 : Int) := by omega
  have q2 : (a28 : Int) ≤ (n : Int) := by omega
  have q3 : (0 : Int) ≤ (a8 : Int) := by omega
  have q4 : (a8 : Int) ≤ (a10 : Int) := by omega
  have q5 : (a10 : Int) ≤ (n : Int) := by omega
  have q6 : (b3 : Int) ≤ (n : Int) := by omega
  have q7 : (P : Int) + 30 ≤ (n : Int) := by omega
  have q8 : b3 ≤ n := by omega
  have r1 : a26 ≤ a28 := by omega
  have r2 : a28 ≤ n := by omega
  have r3 : a8 ≤ a10 := by omega
  have r4 : a10 ≤ n := by omega
  have hP : (P : Int) ≤ 4000000000 := by omega
  have k30 : (a30 : Int) ≤ (n : Int) := by omega
  clear hnl hxl hn h8 h10 h26 h28 h30 hb2 hb3 hfit hs hpk hnm
  go_enter Tryz.func49, Tryz.ntmps49
  go_wp2_with fail
  refine (HA0.out _).mono ?_
  rintro e w1 ⟨rfl, hw1⟩
  rw [hw1]
  clear hw1 w1
  have k0 := mkDr (h := h) (P := P) (d := d) (Blk.new w 50 (recD h P d)) ((Fr.refl [] w).alloc (.cells (recD h P d) 50))
  obtain ⟨w1, hw1⟩ : ∃ w1, w.alloc (.cells (recD h P d) 50) = w1 := ⟨_, rfl⟩
  rw [hw1] at k0 ⊢
  clear hw1
  obtain ⟨gb, hgb⟩ : ∃ g, w.heap.size = g := ⟨_, rfl⟩
  rw [hgb] at k0 ⊢
  clear hgb
  have k1 := keepDr k0 ((Fr.refl [] _).drew)
  go_upto_region 3 with fail
  go_region_held3 (fun w' => w'.cell? ⟨gb, 0, none⟩ = some (.string (bs h.name)) ∧ w'.cell? ⟨gb, 1, none⟩ = some (.string (bs h.comment)) ∧ w'.cell? ⟨gb, 2, none⟩ = some (.string (bs h.extra)) ∧ w'.cell? ⟨gb, 3, none⟩ = some (.bool false) ∧ w'.cell? ⟨gb, 4, none⟩ = some (.int .i64 h.creator) ∧ w'.cell? ⟨gb, 5, none⟩ = some (.int .i64 h.reader) ∧ w'.cell? ⟨gb, 6, none⟩ = some (.int .i64 h.flags) ∧ w'.cell? ⟨gb, 7, none⟩ = some (.int .i64 h.method) ∧ w'.cell? ⟨gb, 8, none⟩ = some (.int .i64 h.time) ∧ w'.cell? ⟨gb, 9, none⟩ = some (.int .i64 h.date) ∧ w'.cell? ⟨gb, 10, none⟩ = some (.int .i64 h.crc) ∧ w'.cell? ⟨gb, 11, none⟩ = some (.int .i64 h.packed) ∧ w'.cell? ⟨gb, 12, none⟩ = some (.int .i64 h.size) ∧ w'.cell? ⟨gb, 13, none⟩ = some (.int .i64 h.ext) ∧ w'.cell? ⟨gb, 14, none⟩ = some (.int .i64 (P : Int)) ∧ w'.cell? ⟨gb, 15, none⟩ = some (.string (bs d)) ∧ Blk w' gb 50 (recD h P d) ∧ Fr [] w w')
    ((first | exact kk | exact k1 | assumption))
    ((first
      | (go_at_call 47; (with_reducible first | refine (HN8.out _).mono ?_ | refine (HN26.out _).mono ?_); rintro e w2 ⟨rfl, rfl⟩)
      | (go_at_call 46; (with_reducible refine (HA30.out _).mono ?_); rintro e w2 ⟨rfl, rfl⟩)
      | (go_at_call 81; (with_reducible refine (HBG.out _).mono ?_); rintro e w2 ⟨rfl, hf⟩; have kk := keepDr (by assumption) hf)))
  have HFK := Lib.hid (frDr (by first | exact kk | assumption))
  clear k0 k1
  go_wp2_with fail
  go_ret
  exact ⟨rfl, HFK.out⟩
end Go.Proofs.YtalgnjkdoaaacaaGreatDoor

/- spec.content. -/
namespace Go.Proofs.YtalgnjkdoaaacaaGreatDoor
open Go Go.RowKit
open Zp
set_option maxRecDepth 100000 in
set_option maxHeartbeats 16000000 in
theorem contentS (s : By) (P : Nat) (g : GEnt) (d : By) (w : World) (hl : LocAt s P g) (hs : s.length ≤ 4000000000) (hpk : g.h.packed = g.data.length) :
    Calls Tryz.prog 50 #[.string (bs s), recV g.h (P : Int) d] w fun e w' => e = .returned (.string (bs g.data)) ∧ Fr [] w w' := by
  have hns := bs_size s
  have hfit := hl.fits
  have HBG := Lib.hid (fun w' => beginS s P g d w' hl hs)
  have HX := Lib.hid (show (bs s).extract (P + 30 + g.h.name.length + g.h.extra.length) (P + 30 + g.h.name.length + g.h.extra.length + g.data.length) = bs g.data from by rw [bs_extract, Nat.add_sub_cancel_left, hl.dat])
  clear hl
  obtain ⟨h, hh⟩ : ∃ h, g.h = h := ⟨_, rfl⟩
  rw [hh] at HBG hfit hpk HX ⊢
  clear hh
  obtain ⟨n, hn⟩ : ∃ n, s.length = n := ⟨_, rfl⟩
  rw [hn] at hns hfit hs
  obtain ⟨b2, hb2⟩ : ∃ x, P + 30 + h.name.length + h.extra.length = x := ⟨_, rfl⟩
  rw [hb2] at HBG HX hfit
  obtain ⟨b3, hb3⟩ : ∃ x, b2 + g.data.length = x := ⟨_, rfl⟩
  rw [hb3] at HX hfit
  have y3 : IntKind.i64.wrap ((b2 : Int) + h.packed) = (b3 : Int) := by rw [hpk, IntWalk.i64_in _ (by omega)]; omega
  have q0 : (0 : Int) ≤ (b2 : Int) := by omega
  have q1 : (b2 : Int) ≤ (b3 : Int) := by omega
  have q2 : (b3 : Int) ≤ (n : Int) := by omega
  have r1 : b2 ≤ b3 := by omega
  have r2 : b3 ≤ n := by omega
  clear hn hb2 hb3 hfit hs hpk
  go_enter Tryz.func50, Tryz.ntmps50
  go_wp2_with fail
  have k0 := mkDr (h := h) (P := P) (d := d) (Blk.new w 50 (recD h P d)) ((Fr.refl [] w).alloc (.cells (recD h P d) 50))
  obtain ⟨w1, hw1⟩ : ∃ w1, w.alloc (.cells (recD h P d) 50) = w1 := ⟨_, rfl⟩
  rw [hw1] at k0 ⊢
  clear hw1
  obtain ⟨gb, hgb⟩ : ∃ g, w.heap.size = g := ⟨_, rfl⟩
  rw [hgb] at k0 ⊢
  clear hgb
  have k1 := keepDr k0 ((Fr.refl [] _).drew)
  go_region_held3 (fun w' => w'.cell? ⟨gb, 0, none⟩ = some (.string (bs h.name)) ∧ w'.cell? ⟨gb, 1, none⟩ = some (.string (bs h.comment)) ∧ w'.cell? ⟨gb, 2, none⟩ = some (.string (bs h.extra)) ∧ w'.cell? ⟨gb, 3, none⟩ = some (.bool false) ∧ w'.cell? ⟨gb, 4, none⟩ = some (.int .i64 h.creator) ∧ w'.cell? ⟨gb, 5, none⟩ = some (.int .i64 h.reader) ∧ w'.cell? ⟨gb, 6, none⟩ = some (.int .i64 h.flags) ∧ w'.cell? ⟨gb, 7, none⟩ = some (.int .i64 h.method) ∧ w'.cell? ⟨gb, 8, none⟩ = some (.int .i64 h.time) ∧ w'.cell? ⟨gb, 9, none⟩ = some (.int .i64 h.date) ∧ w'.cell? ⟨gb, 10, none⟩ = some (.int .i64 h.crc) ∧ w'.cell? ⟨gb, 11, none⟩ = some (.int .i64 h.packed) ∧ w'.cell? ⟨gb, 12, none⟩ = some (.int .i64 h.size) ∧ w'.cell? ⟨gb, 13, none⟩ = some (.int .i64 h.ext) ∧ w'.cell? ⟨gb, 14, none⟩ = some (.int .i64 (P : Int)) ∧ w'.cell? ⟨gb, 15, none⟩ = some (.string (bs d)) ∧ Blk w' gb 50 (recD h P d) ∧ Fr [] w w')
    ((first | exact kk | exact k1 | assumption))
    ((first
      | (go_at_call 81; (with_reducible refine (HBG.out _).mono ?_); rintro e w2 ⟨rfl, hf⟩; have kk := keepDr (by assumption) hf)))
  have HFK := Lib.hid (frDr (by first | exact kk | assumption))
  clear k0 k1
  go_wp2_with fail
  go_ret
  exact ⟨by rw [← HX.out]; rfl, HFK.out⟩
end Go.Proofs.YtalgnjkdoaaacaaGreatDoor

/- Rows of records, as the reference finds them. -/
namespace Go.Proofs.YtalgnjkdoaaacaaGreatDoor
open Go Go.RowKit
open Zp
/-- A record's cells. -/
def recL (g : GEnt) (pos : Nat) : List Value := [.string (bs g.h.name), .string (bs g.h.comment), .string (bs g.h.extra), .bool false, .int .i64 g.h.creator, .int .i64 g.h.reader, .int .i64 g.h.flags, .int .i64 g.h.method, .int .i64 g.h.time, .int .i64 g.h.date, .int .i64 g.h.crc, .int .i64 g.h.packed, .int .i64 g.h.size, .int .i64 g.h.ext, .int .i64 (pos : Int), .string (bs g.data)]
def recsL (pos : Nat) : List GEnt → List Value
  | [] => []
  | g :: l => recL g pos ++ recsL (pos + (gone g).length) l
theorem recsL_append (l m : List GEnt) : ∀ pos, recsL pos (l ++ m) = recsL pos l ++ recsL (pos + (gfiles l).length) m := by
  induction l with
  | nil => intro pos; rfl
  | cons e l ih =>
    intro pos
    simp only [List.cons_append, recsL, ih, List.append_assoc, gfiles, List.length_append]
    rw [show pos + (gone e).length + (gfiles l).length = pos + ((gone e).length + (gfiles l).length) by omega]
theorem recsL_take {l : List GEnt} {k : Nat} {g : GEnt} (h : l[k]? = some g) : recsL 0 (l.take (k + 1)) = recsL 0 (l.take k) ++ recL g (gfiles (l.take k)).length := by
  rw [List.take_add_one, h, Option.toList_some, recsL_append, Nat.zero_add]
  simp [recsL]
theorem recsL_length (l : List GEnt) : ∀ pos, (recsL pos l).length = l.length * 16 := by
  induction l with
  | nil => intro pos; rfl
  | cons e l ih => intro pos; rw [recsL, List.length_append, ih, List.length_cons]; show 16 + _ = _; omega
theorem recsL_get : ∀ (l : List GEnt) (pos i j : Nat) (g : GEnt), l[i]? = some g → j < 16 → (recsL pos l)[i * 16 + j]? = (recL g (pos + (gfiles (l.take i)).length))[j]?
  | [], _, i, j, g, h, _ => by simp at h
  | a :: l, pos, 0, j, g, h, hj => by
    simp at h
    subst h
    rw [recsL, Nat.zero_mul, Nat.zero_add, List.getElem?_append_left (by show j < 16; exact hj)]
    rfl
  | a :: l, pos, i + 1, j, g, h, hj => by
    have := recsL_get l (pos + (gone a).length) i j g (by simpa using h) hj
    rw [recsL, List.getElem?_append_right (by show 16 ≤ _; omega), show (i + 1) * 16 + j - (recL a pos).length = i * 16 + j by show _ - 16 = _; omega, this]
    rw [List.take_succ_cons, gfiles, List.length_append, Nat.add_assoc]
/-- A slice of records. -/
def RecRow (w : World) (base : Nat) (v : Value) (l : List GEnt) : Prop := w.ownsRow base 50 16 v l.length (recsL 0 l)
theorem RecRow.len {w : World} {base : Nat} {v : Value} {l : List GEnt} (h : RecRow w base v l) : ∃ p cap, v = .slice p l.length cap := by
  rcases h.2 with ⟨h1, h2⟩ | ⟨g, cap, cur, h1, h2, h3, h4, h5, h6, h7⟩
  · exact ⟨none, 0, by rw [h1, h2]⟩
  · exact ⟨_, cap, h1⟩
theorem RecRow.row {w : World} {base : Nat} {v : Value} {l : List GEnt} (h : RecRow w base v l) (hl : l ≠ []) : ∃ g cap, v = .slice (some ⟨g, 0, none⟩) l.length cap ∧ g < w.heap.size := by
  rcases h.2 with ⟨h1, h2⟩ | ⟨g, cap, cur, h1, h2, h3, h4, h5, h6, h7⟩
  · exact absurd (List.eq_nil_of_length_eq_zero h2) hl
  · exact ⟨g, cap, h1, Blk.lt (t := 50) (cs := cur) h3⟩
theorem RecRow.range {w : World} {base gg cap n : Nat} {l : List GEnt} (h : RecRow w base (.slice (some ⟨gg, 0, none⟩) n cap) l) {k : Nat} {g : GEnt} (hk : l[k]? = some g) : w.rangeAt gg (k * 16) (recL g (gfiles (l.take k)).length) := by
  intro j u hj
  have hj16 : j < 16 := (List.getElem?_eq_some_iff.1 hj).1
  have := h.cells (g := gg) rfl (k * 16 + j) u (by rw [recsL_get l 0 k j g hk hj16, Nat.zero_add]; exact hj)
  rw [Addr.add_lit, Nat.zero_add] at this
  exact this
theorem cellsRec {w : World} {gg a pos : Nat} {g : GEnt} (hb : w.rangeAt gg a (recL g pos)) : w.cell? ⟨gg, a, none⟩ = some (.string (bs g.h.name)) ∧ w.cell? ⟨gg, a + 1, none⟩ = some (.string (bs g.h.comment)) ∧ w.cell? ⟨gg, a + 2, none⟩ = some (.string (bs g.h.extra)) ∧ w.cell? ⟨gg, a + 3, none⟩ = some (.bool false) ∧ w.cell? ⟨gg, a + 4, none⟩ = some (.int .i64 g.h.creator) ∧ w.cell? ⟨gg, a + 5, none⟩ = some (.int .i64 g.h.reader) ∧ w.cell? ⟨gg, a + 6, none⟩ = some (.int .i64 g.h.flags) ∧ w.cell? ⟨gg, a + 7, none⟩ = some (.int .i64 g.h.method) ∧ w.cell? ⟨gg, a + 8, none⟩ = some (.int .i64 g.h.time) ∧ w.cell? ⟨gg, a + 9, none⟩ = some (.int .i64 g.h.date) ∧ w.cell? ⟨gg, a + 10, none⟩ = some (.int .i64 g.h.crc) ∧ w.cell? ⟨gg, a + 11, none⟩ = some (.int .i64 g.h.packed) ∧ w.cell? ⟨gg, a + 12, none⟩ = some (.int .i64 g.h.size) ∧ w.cell? ⟨gg, a + 13, none⟩ = some (.int .i64 g.h.ext) ∧ w.cell? ⟨gg, a + 14, none⟩ = some (.int .i64 (pos : Int)) ∧ w.cell? ⟨gg, a + 15, none⟩ = some (.string (bs g.data)) :=
  ⟨hb 0 _ rfl, hb 1 _ rfl, hb 2 _ rfl, hb 3 _ rfl, hb 4 _ rfl, hb 5 _ rfl, hb 6 _ rfl, hb 7 _ rfl, hb 8 _ rfl, hb 9 _ rfl, hb 10 _ rfl, hb 11 _ rfl, hb 12 _ rfl, hb 13 _ rfl, hb 14 _ rfl, hb 15 _ rfl⟩
theorem infoRec2 : (Tryz.prog.info? 50).map (fun i => (i.zero.map (fun z => z.cells.size), i.size, i.bytes)) = some (some 16, 16, 160) := by kernel_rfl
theorem news_rec (w : World) (g : GEnt) (pos : Nat) : ∀ j u, (recL g pos)[j]? = some u → (w.alloc (.cells (recL g pos).toArray 50)).cell? ((⟨w.heap.size, 0, none⟩ : Addr).add j) = some u := fun j u hj => by
  rw [Addr.add_lit, Nat.zero_add]
  exact (Blk.new w 50 (recL g pos).toArray).at_ j u (by simpa using hj)
theorem ones_rec (g : GEnt) (pos : Nat) : ∀ u ∈ recL g pos, u.oneCell' = true := by
  intro u hu
  simp only [recL, List.mem_cons, List.not_mem_nil, or_false] at hu
  rcases hu with rfl | rfl | rfl | rfl | rfl | rfl | rfl | rfl | rfl | rfl | rfl | rfl | rfl | rfl | rfl | rfl <;> rfl
/-- Past the end no other end stands. -/
theorem scan_last {l : List GEnt} {c : By} (hen : ends (garch l c) = 1) : ∀ k, (gfiles l).length + (gdir 0 l).length < k → ¬ occ (garch l c) k := by
  intro k hk ho
  have hq : occ (garch l c) ((gfiles l).length + (gdir 0 l).length) := by
    have := drop_at (s := garch l c) (A := gfiles l ++ gdir 0 l) (X := endB l.length (gdir 0 l).length (gfiles l).length c ++ []) (by rw [List.append_nil]; rfl) rfl 0
    rw [Nat.add_zero] at this
    rw [occ, ← List.length_append, this]
    exact eb0 _ _ _ _ []
  have := occ_unique hen ho hq
  omega
end Go.Proofs.YtalgnjkdoaaacaaGreatDoor

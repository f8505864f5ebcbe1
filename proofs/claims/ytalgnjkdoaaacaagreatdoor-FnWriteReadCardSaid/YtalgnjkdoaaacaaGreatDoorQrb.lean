/- Reading numbers out of a slice of bytes: leUint16, leUint32, leUint64 and the methods of readBuf. -/
import Derived.Test.YtalgnjkdoaaacaaGreatDoorProg
import Derived.Test.YtalgnjkdoaaacaaGreatDoorQp
import Derived.WalkKit
import Derived.WalkLawsBesides
import Derived.WalkSpells
import Derived.Handy
import Derived.Deep.QuietTactic
import Derived.BigQuiet
import Derived.Deep.RegionWith
import Derived.Deep.RegionHeld3
import Derived.LaidEql
import Derived.Laws.MakeOwn
import Derived.Laws.CopyOwn
set_option linter.unusedVariables false
set_option linter.unusedSimpArgs false
namespace Go.Proofs.YtalgnjkdoaaacaaGreatDoor
open Go Go.RowKit

open Zp
theorem ret_eq {k : IntKind} {a b : Int} (h : a = b) : Ending.returned (.int k a) = .returned (.int k b) := by rw [h]
theorem or16 (b0 b1 : UInt8) (x : Nat) (hx : num [b0, b1] = x) : bits BinOp.or IntKind.u16 (IntKind.u16.wrap (b0.toNat : Int)) (IntKind.u16.wrap (IntKind.u16.wrap (b1.toNat : Int) * 256)) = (x : Int) := by
  have h0 := b0.toNat_lt
  have h1 := b1.toNat_lt
  have e : IntKind.u16.wrap (IntKind.u16.wrap (b1.toNat : Int) * 256) = ((256 * b1.toNat : Nat) : Int) := by
    rw [IntKind.wrap_u16, IntKind.wrap_u16]; omega
  have e' : IntKind.u16.wrap (b0.toNat : Int) = ((b0.toNat : Nat) : Int) := by rw [IntKind.wrap_u16]; omega
  rw [e, e', u16_or_nat _ _ (by omega) (by omega), Nat.or_comm, nat_join 8 _ _ (by omega) (by omega), ← hx]
  simp [num]; omega
theorem or32 (x y z : Nat) (hx : x < 65536) (hy : y < 65536) (hz : z = x + 65536 * y) : bits BinOp.or IntKind.u32 (x : Int) ((y : Int) * 65536) = (z : Int) := by
  have e : (y : Int) * 65536 = ((65536 * y : Nat) : Int) := by omega
  rw [e, u32_or_nat _ _ (by omega) (by omega), Nat.or_comm, nat_join 16 _ _ (by omega) (by omega)]
  omega
theorem or64 (x y z : Nat) (hx : x < 4294967296) (hy : y < 4294967296) (hz : z = x + 4294967296 * y) : bits BinOp.or IntKind.u64 (x : Int) ((y : Int) * 4294967296) = (z : Int) := by
  have e : (y : Int) * 4294967296 = ((4294967296 * y : Nat) : Int) := by omega
  rw [e, u64_or_nat _ _ (by omega) (by omega), Nat.or_comm, nat_join 32 _ _ (by omega) (by omega)]
  omega
theorem num_lt2 (a b : UInt8) : num [a, b] < 65536 := Nat.lt_of_lt_of_le (num_lt [a, b]) (by simp)
theorem num_lt4 (a b c d : UInt8) : num [a, b, c, d] < 4294967296 := Nat.lt_of_lt_of_le (num_lt [a, b, c, d]) (by simp)

set_option maxRecDepth 100000 in
set_option maxHeartbeats 400000 in
theorem leUint16_any (g o n c : Nat) (b0 b1 : UInt8) (x : Nat) (hx : num [b0, b1] = x) (w : World) (h2 : 2 ≤ n)
    (h0 : w.cell? ⟨g, o, none⟩ = some (.int .u8 (b0.toNat : Int))) (h1 : w.cell? ⟨g, o + 1, none⟩ = some (.int .u8 (b1.toNat : Int))) :
    Calls Tryz.prog 128 #[.slice (some ⟨g, o, none⟩) n c] w fun e w' => e = .returned (.int .u16 (x : Int)) ∧ ∃ m, w' = w.drewN m := by
  have h3 : (1 : Int) < (n : Int) := by omega
  have h4 : (0 : Int) < (n : Int) := by omega
  have HX := Lib.hid hx
  clear hx
  go_enter Tryz.func128, Tryz.ntmps128
  go_wp2
  go_quiet (fail)
  go_wp2
  go_ret
  exact ⟨ret_eq (or16 b0 b1 x HX.out), _, rfl⟩
set_option maxRecDepth 100000 in
set_option maxHeartbeats 1000000 in
theorem leUint32_any (g o n c : Nat) (b0 b1 b2 b3 : UInt8) (z : Nat) (hz : num [b0, b1, b2, b3] = z) (w : World) (h4 : 4 ≤ n) (hnc : n ≤ c) (hc : Rd w g o [b0, b1, b2, b3]) :
    Calls Tryz.prog 127 #[.slice (some ⟨g, o, none⟩) n c] w fun e w' => e = .returned (.int .u32 (z : Int)) ∧ ∃ m, w' = w.drewN m := by
  have c0 := hc.head
  have c1 := hc.tail.head
  have c2 := hc.tail.tail.head
  have c3 := hc.tail.tail.tail.head
  have i2 : (2 : Int) ≤ (n : Int) := by omega
  have i3 : (2 : Int) ≤ (c : Int) := by omega
  have hne : ¬ c = 2 := by omega
  obtain ⟨x, hx⟩ : ∃ x, num [b0, b1] = x := ⟨_, rfl⟩
  obtain ⟨y, hy⟩ : ∃ y, num [b2, b3] = y := ⟨_, rfl⟩
  have hxl : x < 65536 := by rw [← hx]; exact num_lt2 _ _
  have hyl : y < 65536 := by rw [← hy]; exact num_lt2 _ _
  have HZ : Hid (z = x + 65536 * y) := by
    show z = x + 65536 * y
    rw [← hz, ← hx, ← hy, show [b0, b1, b2, b3] = [b0, b1] ++ [b2, b3] from rfl, num_append]; rfl
  have q0 := fun m => (leUint16_any g o n c b0 b1 x hx (w.drewN m) (by omega) c0 c1)
  have q1 := fun m => (leUint16_any g (o + 2) (n - 2) (c - 2) b2 b3 y hy (w.drewN m) (by omega) c2 c3)
  have H0 := Lib.hid q0
  have H1 := Lib.hid q1
  clear q0 q1 c0 c1 c2 c3 hx hy hz hc
  go_enter Tryz.func127, Tryz.ntmps127
  go_wp2
  go_quiet ((first | (go_at_call_of 128 (Value.slice (some ⟨g, o, none⟩) n c); exact Calls.quiet_of (H0.out _)) | (go_at_call 128; exact Calls.quiet_of (H1.out _))))
  go_wp2
  go_ret
  exact ⟨ret_eq (or32 x y z hxl hyl HZ.out), _, rfl⟩
set_option maxRecDepth 100000 in
set_option maxHeartbeats 1000000 in
theorem leUint64_any (g o n c : Nat) (b0 b1 b2 b3 b4 b5 b6 b7 : UInt8) (w : World) (h8 : 8 ≤ n) (hnc : n ≤ c) (hc : Rd w g o [b0, b1, b2, b3, b4, b5, b6, b7]) :
    Calls Tryz.prog 145 #[.slice (some ⟨g, o, none⟩) n c] w fun e w' => (∃ z : Int, e = .returned (.int .u64 z)) ∧ ∃ m, w' = w.drewN m := by
  have i2 : (4 : Int) ≤ (n : Int) := by omega
  have i3 : (4 : Int) ≤ (c : Int) := by omega
  have hne : ¬ c = 4 := by omega
  obtain ⟨x, hx⟩ : ∃ x, num [b0, b1, b2, b3] = x := ⟨_, rfl⟩
  obtain ⟨y, hy⟩ : ∃ y, num [b4, b5, b6, b7] = y := ⟨_, rfl⟩
  have hxl : x < 4294967296 := by rw [← hx]; exact num_lt4 _ _ _ _
  have hyl : y < 4294967296 := by rw [← hy]; exact num_lt4 _ _ _ _
  have c0 : Rd w g o [b0, b1, b2, b3] := Rd.left (m := [b4, b5, b6, b7]) hc
  have c1 : Rd w g (o + 4) [b4, b5, b6, b7] := Rd.right (l := [b0, b1, b2, b3]) hc
  have q0 := fun m => (leUint32_any g o n c b0 b1 b2 b3 x hx (w.drewN m) (by omega) hnc (c0.drewN m))
  have q1 := fun m => (leUint32_any g (o + 4) (n - 4) (c - 4) b4 b5 b6 b7 y hy (w.drewN m) (by omega) (by omega) (c1.drewN m))
  have H0 := Lib.hid q0
  have H1 := Lib.hid q1
  clear q0 q1 c0 c1 hx hy hc
  go_enter Tryz.func145, Tryz.ntmps145
  go_wp2
  go_quiet ((first | (go_at_call_of 127 (Value.slice (some ⟨g, o, none⟩) n c); exact Calls.quiet_of (H0.out _)) | (go_at_call 127; exact Calls.quiet_of (H1.out _))))
  go_wp2
  go_ret
  exact ⟨⟨_, rfl⟩, _, rfl⟩

/-- p points to a slice that holds these bytes. -/
structure RB (w : World) (p : Addr) (g o n c : Nat) (l : List UInt8) : Prop where
  cell : ∃ a, w.cell? p = some (.slice (some a) n c) ∧ (0 < n → a = ⟨g, o, none⟩)
  free : w.frozen? p = false
  rd : Rd w g o l
  len : l.length = n
  cap : n ≤ c
  ne : g ≠ p.block
/-- .. and behind the call it has moved on by k bytes, and nothing else has turned. -/
structure Nx (w : World) (p : Addr) (g o n c k : Nat) (l : List UInt8) (w' : World) : Prop where
  fr : Fr [p.block] w w'
  nx : RB w' p g (o + k) (n - k) (c - k) l
  size : w'.heap.size = w.heap.size
theorem nx_of {w : World} {p a : Addr} {g o n c k m : Nat} {l t : List UInt8} (h : RB w p g o n c (t ++ l)) (hk : t.length = k) (ha : k < n → a = ⟨g, o + k, none⟩) :
    Nx w p g o n c k l ((w.setCell p (.slice (some a) (n - k) (c - k))).drewN m) := by
  obtain ⟨b, hp, _⟩ := h.cell
  have hlen := h.len
  have hcap := h.cap
  simp only [List.length_append] at hlen
  refine ⟨((Fr.refl _ w).setCell (.inl (by simp)) _).drewN m, ⟨⟨a, ?_, fun hn => ha (by omega)⟩, ?_, ?_, by omega, by omega, h.ne⟩, by simp⟩
  · simp only [World.cell?_drewN]; exact World.cell?_setCell_same w p _ hp
  · simpa using h.free
  · subst hk
    exact (h.rd.right.far h.ne _).drewN m
set_option maxRecDepth 100000 in
set_option maxHeartbeats 1000000 in
theorem rb16 (p : Addr) (g o n c : Nat) (b0 b1 : UInt8) (l : List UInt8) (x : Nat) (hx : num [b0, b1] = x) (w : World) (h : RB w p g o n c (b0 :: b1 :: l)) :
    Calls Tryz.prog 90 #[.pointer (some p)] w fun e w' => e = .returned (.int .u16 (x : Int)) ∧ Nx w p g o n c 2 l w' := by
  have hl : l.length + 2 = n := h.len
  have hcap := h.cap
  have hxl : x < 65536 := by rw [← hx]; exact num_lt2 _ _
  obtain ⟨a, hp, ha⟩ := h.cell
  obtain rfl := ha (by omega)
  have hf := h.free
  have i2 : (2 : Int) ≤ (n : Int) := by omega
  have i3 : (2 : Int) ≤ (c : Int) := by omega
  have q0 := leUint16_any g o n c b0 b1 x hx w (by omega) h.rd.head h.rd.tail.head
  have H0 := Lib.hid q0
  have HN := Lib.hid (fun a m ha => nx_of (m := m) (a := a) (k := 2) (t := [b0, b1]) (l := l) h rfl ha)
  clear q0 hx h
  go_enter Tryz.func90, Tryz.ntmps90
  go_wp2_with fail
  refine H0.out.mono ?_
  rintro e w1 ⟨rfl, m, rfl⟩
  go_wp2
  all_goals (try subst h)
  all_goals
    go_ret
    exact ⟨rfl, HN.out _ m (fun hk => by first | rfl | omega)⟩
set_option maxRecDepth 100000 in
set_option maxHeartbeats 1000000 in
theorem rb32 (p : Addr) (g o n c : Nat) (b0 b1 b2 b3 : UInt8) (l : List UInt8) (x : Nat) (hx : num [b0, b1, b2, b3] = x) (w : World) (h : RB w p g o n c (b0 :: b1 :: b2 :: b3 :: l)) :
    Calls Tryz.prog 89 #[.pointer (some p)] w fun e w' => e = .returned (.int .u32 (x : Int)) ∧ Nx w p g o n c 4 l w' := by
  have hl : l.length + 4 = n := h.len
  have hcap := h.cap
  have hxl : x < 4294967296 := by rw [← hx]; exact num_lt4 _ _ _ _
  obtain ⟨a, hp, ha⟩ := h.cell
  obtain rfl := ha (by omega)
  have hf := h.free
  have i2 : (4 : Int) ≤ (n : Int) := by omega
  have i3 : (4 : Int) ≤ (c : Int) := by omega
  have q0 := leUint32_any g o n c b0 b1 b2 b3 x hx w (by omega) hcap (Rd.left (l := [b0, b1, b2, b3]) (m := l) h.rd)
  have H0 := Lib.hid q0
  have HN := Lib.hid (fun a m ha => nx_of (m := m) (a := a) (k := 4) (t := [b0, b1, b2, b3]) (l := l) h rfl ha)
  clear q0 hx h
  go_enter Tryz.func89, Tryz.ntmps89
  go_wp2_with fail
  refine H0.out.mono ?_
  rintro e w1 ⟨rfl, m, rfl⟩
  go_wp2
  all_goals (try subst h)
  all_goals
    go_ret
    exact ⟨rfl, HN.out _ m (fun hk => by first | rfl | omega)⟩
set_option maxRecDepth 100000 in
set_option maxHeartbeats 1000000 in
theorem rb64 (p : Addr) (g o n c : Nat) (b0 b1 b2 b3 b4 b5 b6 b7 : UInt8) (l : List UInt8) (w : World) (h : RB w p g o n c (b0 :: b1 :: b2 :: b3 :: b4 :: b5 :: b6 :: b7 :: l)) :
    Calls Tryz.prog 117 #[.pointer (some p)] w fun e w' => (∃ z : Int, e = .returned (.int .u64 z)) ∧ Nx w p g o n c 8 l w' := by
  have hl : l.length + 8 = n := h.len
  have hcap := h.cap
  obtain ⟨a, hp, ha⟩ := h.cell
  obtain rfl := ha (by omega)
  have hf := h.free
  have i2 : (8 : Int) ≤ (n : Int) := by omega
  have i3 : (8 : Int) ≤ (c : Int) := by omega
  have q0 := leUint64_any g o n c b0 b1 b2 b3 b4 b5 b6 b7 w (by omega) hcap (Rd.left (l := [b0, b1, b2, b3, b4, b5, b6, b7]) (m := l) h.rd)
  have H0 := Lib.hid q0
  have HN := Lib.hid (fun a m ha => nx_of (m := m) (a := a) (k := 8) (t := [b0, b1, b2, b3, b4, b5, b6, b7]) (l := l) h rfl ha)
  clear q0 h
  go_enter Tryz.func117, Tryz.ntmps117
  go_wp2_with fail
  refine H0.out.mono ?_
  rintro e w1 ⟨⟨z, rfl⟩, m, rfl⟩
  go_wp2
  all_goals (try subst h)
  all_goals
    go_ret
    exact ⟨⟨_, rfl⟩, HN.out _ m (fun hk => by first | rfl | omega)⟩
set_option maxRecDepth 100000 in
set_option maxHeartbeats 1000000 in
theorem rb8 (p : Addr) (g o n c : Nat) (b0 : UInt8) (l : List UInt8) (w : World) (h : RB w p g o n c (b0 :: l)) :
    Calls Tryz.prog 121 #[.pointer (some p)] w fun e w' => e = .returned (.int .u8 (b0.toNat : Int)) ∧ Nx w p g o n c 1 l w' := by
  have hl : l.length + 1 = n := h.len
  have hcap := h.cap
  obtain ⟨a, hp, ha⟩ := h.cell
  obtain rfl := ha (by omega)
  have hf := h.free
  have i2 : (1 : Int) ≤ (n : Int) := by omega
  have i3 : (1 : Int) ≤ (c : Int) := by omega
  have h0 := h.rd.head
  have HN := Lib.hid (fun a m ha => nx_of (m := m) (a := a) (k := 1) (t := [b0]) (l := l) h rfl ha)
  clear h
  go_enter Tryz.func121, Tryz.ntmps121
  go_wp2
  all_goals (try subst h)
  all_goals
    go_ret
    exact ⟨rfl, HN.out _ 0 (fun hk => by first | rfl | omega)⟩
set_option maxRecDepth 100000 in
set_option maxHeartbeats 1000000 in
/-- 'sub': the first k bytes as a slice of their own. -/
theorem rbsub (p : Addr) (g o n c k : Nat) (l : List UInt8) (w : World) (h : RB w p g o n c l) (hk : k ≤ n) (hkm : n ≤ 1000000) :
    Calls Tryz.prog 116 #[.pointer (some p), .int .i64 (k : Int)] w fun e w' => (∃ a, e = .returned (.slice (some a) k c) ∧ (0 < k → a = ⟨g, o, none⟩)) ∧ Nx w p g o n c k (l.drop k) w' := by
  have hcap := h.cap
  have hlen := h.len
  obtain ⟨a, hp, ha⟩ := h.cell
  have hf := h.free
  have i2 : (k : Int) ≤ (n : Int) := by omega
  have i3 : (k : Int) ≤ (c : Int) := by omega
  have HN := Lib.hid (fun a m ha => nx_of (m := m) (a := a) (k := k) (t := l.take k) (l := l.drop k) (by rw [List.take_append_drop]; exact h) (by rw [List.length_take]; omega) ha)
  clear h hlen
  go_enter Tryz.func116, Tryz.ntmps116
  go_wp2
  · subst h
    have hnc : c = n := by omega
    subst hnc
    go_ret
    refine ⟨⟨a, rfl, ha⟩, ?_⟩
    have := HN.out a 0 (fun hk => by omega)
    simpa [World.drewN_zero] using this
  · go_ret
    refine ⟨⟨a, rfl, fun h0 => ha (by omega)⟩, HN.out (a.add k) 0 (fun hk => ?_)⟩
    rw [ha (by omega)]
    unfold Addr.add
    split
    · subst k; rfl
    · rfl
end Go.Proofs.YtalgnjkdoaaacaaGreatDoor

/- The readers of package strings and io: strings.Reader (ReadAt), io.SectionReader (Read, Seek), io.NopCloser; errors.New. -/
namespace Go.Proofs.YtalgnjkdoaaacaaGreatDoor
open Go Go.RowKit

abbrev str (l : List UInt8) : Value := .string ⟨l.toArray⟩
/-- The pointers that the errors of the packages hold. -/
structure Errs where
  fmt : Addr
  eof : Addr
  alg : Addr
  chk : Addr
  unx : Addr
  ins : Addr
abbrev errv (a : Addr) : Value := .iface 180 (.pointer (some a))
structure Env (E : Errs) (w : World) : Prop where
  fmt : w.cell? ⟨1, 0, none⟩ = some (errv E.fmt)
  eof : w.cell? ⟨5, 0, none⟩ = some (errv E.eof)
  alg : w.cell? ⟨2, 0, none⟩ = some (errv E.alg)
  chk : w.cell? ⟨3, 0, none⟩ = some (errv E.chk)
  unx : w.cell? ⟨4, 0, none⟩ = some (errv E.unx)
  ins : w.cell? ⟨0, 0, none⟩ = some (errv E.ins)

theorem Env.drewN {E : Errs} {w : World} (h : Env E w) (n : Nat) : Env E (w.drewN n) := ⟨h.fmt, h.eof, h.alg, h.chk, h.unx, h.ins⟩
/-- All variables that the calls read stand below block number 100. -/
theorem Env.below {E : Errs} {w w' : World} {B : Nat} (h : Env E w) (hb : Below B w w') (hB : 14 ≤ B) : Env E w' :=
  ⟨(hb.cell (by show _ < B; simp; omega)).trans h.fmt, (hb.cell (by show _ < B; simp; omega)).trans h.eof, (hb.cell (by show _ < B; simp; omega)).trans h.alg, (hb.cell (by show _ < B; simp; omega)).trans h.chk, (hb.cell (by show _ < B; simp; omega)).trans h.unx, (hb.cell (by show _ < B; simp; omega)).trans h.ins⟩
theorem Env.fr {E : Errs} {w w' : World} {S : List Nat} (h : Env E w) (hf : Fr S w w') (hS : ∀ s ∈ S, 14 ≤ s) (hw : 14 ≤ w.heap.size) : Env E w' := h.below (hf.below hS hw) (Nat.le_refl _)
theorem infoErrPtr : (Tryz.prog.info? 180).map (fun i => i.comparable) = some true := by kernel_rfl
theorem infoErr : (Tryz.prog.info? 182).map (fun i => i.size) = some 1 := by kernel_rfl
theorem eql_same (a : Addr) (w : World) : (binOp .eql 56 (errv a) (errv a)).run Tryz.prog w = .ok (.bool true) w := by
  obtain ⟨i, hi, hc⟩ := Option.map_eq_some_iff.1 infoErrPtr
  obtain ⟨j, hj, _⟩ := Option.map_eq_some_iff.1 infoErr
  exact run_eql_iface_ptr_same w a Tryz.underlying56 Tryz.underlying180 hi hc hj
theorem stringsNew_any (s : ByteArray) (w : World) :
    Calls Tryz.prog 33 #[.string s] w fun e w' => e = .returned (.pointer (some ⟨w.heap.size, 0, none⟩)) ∧ w' = w.alloc (.cells #[.string s, .int .i64 0, .int .i64 (-1)] 122) := by
  go_enter Tryz.func33, Tryz.ntmps33
  go_wp2
  go_ret
  exact ⟨rfl, rfl⟩
theorem errorsNew_any (s : ByteArray) (w : World) :
    Calls Tryz.prog 58 #[.string s] w fun e w' => e = .returned (errv ⟨w.heap.size, 0, none⟩) ∧ w' = w.alloc (.cells #[.string s] 182) := by
  go_enter Tryz.func58, Tryz.ntmps58
  go_wp2
  go_ret
  exact ⟨rfl, rfl⟩

theorem copyString (g o n c : Nat) (s : ByteArray) (cur : Array Value) (t : TypeId) (w : World) (hg : Blk w g t cur) (hfit : o + n ≤ cur.size) (hn : n ≤ s.size) :
    (Builtin.copy_ #[76, 9] 3 #[.slice (some ⟨g, o, none⟩) n c, .string s]).run Tryz.prog w = .ok (.int .i64 (n : Int)) (w.setRow g (spl cur o (s.data.toList.take n))) := by
  rw [run_copy_str w _ _ _ 5 g o n c s cur t Tryz.underlying76 (by kernel_rfl) hg hfit, show Nat.min s.size n = n from Nat.min_eq_right hn]; rfl

theorem copyRow (g o dLen dCap gs os sLen sCap : Nat) (l : List UInt8) (cur : Array Value) (t : TypeId) (w : World) (hg : Blk w g t cur) (hr : Rd w gs os l) (hl : l.length = min sLen dLen) (hfit : o + l.length ≤ cur.size) :
    (Builtin.copy_ #[76, 76] 3 #[.slice (some ⟨g, o, none⟩) dLen dCap, .slice (some ⟨gs, os, none⟩) sLen sCap]).run Tryz.prog w = .ok (.int .i64 (l.length : Int)) (w.setRow g (spl cur o l)) := by
  have hlen : (Lib.byteCells l).length = l.length := Lib.byteCells_length l
  have := run_copy_row (P := Tryz.prog) w 76 76 3 5 g o dLen dCap ⟨gs, os, none⟩ sLen sCap cur t (Lib.byteCells l) Tryz.underlying76 (by kernel_rfl) hg (by rw [hlen, hl])
    (fun j v hv => by
      simp only [Lib.byteCells, List.getElem?_map, Option.map_eq_some_iff] at hv
      obtain ⟨b, hb, rfl⟩ := hv
      have := hr j b hb
      unfold Addr.add
      split
      · subst j; exact this
      · exact this) (by rw [hlen]; exact hfit) (Lib.byteCells_one l)
  rw [this, hlen]
  simp [spl, goInt]
set_option maxRecDepth 100000 in
set_option maxHeartbeats 1000000 in
/-- ReadAt: the bytes are there. -/
theorem readAt_full (r g o n c off : Nat) (s : ByteArray) (cur : Array Value) (t : TypeId) (w : World) (hr : w.cell? ⟨r, 0, none⟩ = some (.string s)) (hg : Blk w g t cur) (hn : 0 < n) (hfit : o + n ≤ cur.size) (hl : off + n ≤ s.size) (_hs : s.size ≤ 4000000000) :
    Calls Tryz.prog 184 #[.pointer (some ⟨r, 0, none⟩), .slice (some ⟨g, o, none⟩) n c, .int .i64 (off : Int)] w fun e w' =>
      e = .returned (.tuple #[.int .i64 (n : Int), .nilIface]) ∧ w' = w.setRow g (spl cur o ((s.data.toList.drop off).take n)) := by
  have h1 : off < s.size := by omega
  have hcp := copyString g o n c (s.extract off s.size) cur t w hg hfit (by rw [ByteArray.size_extract]; omega)
  have he : (s.extract off s.size).data.toList = s.data.toList.drop off := by
    rw [Lib.extract_data]; exact List.take_of_length_le (by rw [List.length_drop, ← Lib.size_eq]; omega)
  rw [he] at hcp
  clear he
  go_enter Tryz.func184, Tryz.ntmps184
  go_wp2
  go_ret2
  exact ⟨rfl, rfl⟩
set_option maxRecDepth 100000 in
set_option maxHeartbeats 1000000 in
/-- ReadAt at the end or behind it. -/
theorem readAt_end (E : Errs) (r off : Nat) (v : Value) (s : ByteArray) (w : World) (hE : Env E w) (hr : w.cell? ⟨r, 0, none⟩ = some (.string s)) (ho : s.size ≤ off) (_hs : off ≤ 4000000000) :
    Calls Tryz.prog 184 #[.pointer (some ⟨r, 0, none⟩), v, .int .i64 (off : Int)] w fun e w' =>
      e = .returned (.tuple #[.int .i64 0, errv E.eof]) ∧ ∃ m, w' = w.drewN m := by
  have he := hE.eof
  clear hE
  go_enter Tryz.func184, Tryz.ntmps184
  go_wp2
  go_quiet (fail)
  go_wp2
  go_ret2
  exact ⟨rfl, _, rfl⟩
abbrev strRd (r : Nat) : Value := .iface 59 (.pointer (some ⟨r, 0, none⟩))
theorem newSection_any (r off n : Nat) (h : off + n ≤ 4000000000) (w : World) :
    Calls Tryz.prog 63 #[strRd r, .int .i64 (off : Int), .int .i64 (n : Int)] w fun e w' => e = .returned (.pointer (some ⟨w.heap.size, 0, none⟩)) ∧
      w' = w.alloc (.cells #[strRd r, .int .i64 (off : Int), .int .i64 (off : Int), .int .i64 ((off + n : Nat) : Int), .int .i64 (n : Int)] 198) := by
  go_enter Tryz.func63, Tryz.ntmps63
  go_wp2
  go_ret
  refine ⟨rfl, ?_⟩
  rw [Int.natCast_add, Int.add_comm]
theorem nilAhead_readAt (r : Nat) (w : World) : (nilAhead 157 59 (.pointer (some ⟨r, 0, none⟩)) "ReadAt").run Tryz.prog w = .ok (some false) w := by kernel_rfl
set_option maxRecDepth 100000 in
set_option maxHeartbeats 2000000 in
theorem secRead_full (b r g o n c base off lim N : Nat) (s : ByteArray) (cur : Array Value) (t : TypeId) (w : World)
    (hb : Blk w b 198 #[strRd r, .int .i64 (base : Int), .int .i64 (off : Int), .int .i64 (lim : Int), .int .i64 (N : Int)])
    (hr : w.cell? ⟨r, 0, none⟩ = some (.string s)) (hg : Blk w g t cur) (hn : 0 < n) (hfit : o + n ≤ cur.size) (hol : off + n ≤ lim) (hl : lim ≤ s.size) (hs : s.size ≤ 4000000000) (hbg : b ≠ g) :
    Calls Tryz.prog 195 #[.pointer (some ⟨b, 0, none⟩), .slice (some ⟨g, o, none⟩) n c] w fun e w' =>
      e = .returned (.tuple #[.int .i64 (n : Int), .nilIface]) ∧ ∃ m, w' = ((w.setRow g (spl cur o ((s.data.toList.drop off).take n))).setCell ⟨b, 2, none⟩ (.int .i64 ((off + n : Nat) : Int))).drewN m := by
  have c0 := hb.at_ 0 _ rfl
  have c2 := hb.at_ 2 _ rfl
  have c3 := hb.at_ 3 _ rfl
  have h1 : ¬ lim ≤ off := by omega
  have q := fun k => readAt_full r g o n c off s cur t (w.drewN k) hr hg hn hfit (by omega) hs
  have H := Lib.hid q
  clear q
  have kx : ∀ cs i, (w.setRow g cs).cell? ⟨b, i, none⟩ = w.cell? ⟨b, i, none⟩ := fun cs i => cell_setRow_other w g cs ⟨b, i, none⟩ hbg
  have kf : ∀ cs, (w.setRow g cs).frozen? ⟨b, 2, none⟩ = false := fun cs => (hb.rowFar hbg cs).frozen 2
  go_enter Tryz.func195, Tryz.ntmps195
  go_wp2_with fail
  go_quiet (fail)
  go_wp2_with fail
  go_quiet (fail)
  go_wp2_with fail
  go_region_held3 (fun w' => w'.cell? ⟨b, 0, none⟩ = some (strRd r) ∧ w'.cell? ⟨b, 2, none⟩ = some (.int .i64 (off : Int))) (go_keep) ((go_at_call 184; refine (H.out _).mono ?_; rintro e w1 ⟨rfl, rfl⟩))
  go_wp2
  go_ret2
  exact ⟨rfl, _, rfl⟩
set_option maxRecDepth 100000 in
set_option maxHeartbeats 2000000 in
theorem secRead_part (b r g o n c base off lim N k : Nat) (s : ByteArray) (cur : Array Value) (t : TypeId) (w : World)
    (hb : Blk w b 198 #[strRd r, .int .i64 (base : Int), .int .i64 (off : Int), .int .i64 (lim : Int), .int .i64 (N : Int)])
    (hr : w.cell? ⟨r, 0, none⟩ = some (.string s)) (hg : Blk w g t cur) (hk : off + k = lim) (hk0 : 0 < k) (hn : k < n) (hnc : n ≤ c) (hfit : o + n ≤ cur.size) (hl : lim ≤ s.size) (hs : s.size ≤ 4000000000) (hbg : b ≠ g) :
    Calls Tryz.prog 195 #[.pointer (some ⟨b, 0, none⟩), .slice (some ⟨g, o, none⟩) n c] w fun e w' =>
      e = .returned (.tuple #[.int .i64 (k : Int), .nilIface]) ∧ ∃ m, w' = ((w.setRow g (spl cur o ((s.data.toList.drop off).take k))).setCell ⟨b, 2, none⟩ (.int .i64 ((off + k : Nat) : Int))).drewN m := by
  subst hk
  have c0 := hb.at_ 0 (strRd r) rfl
  have c2 := hb.at_ 2 (.int .i64 (off : Int)) rfl
  have c3 := hb.at_ 3 (.int .i64 ((off : Int) + (k : Int))) rfl
  have h1 : ¬ off + k ≤ off := by omega
  have q := fun m => readAt_full r g o k c off s cur t (w.drewN m) hr hg hk0 (by omega) (by omega) hs
  have H := Lib.hid q
  clear q
  have kx : ∀ cs i, (w.setRow g cs).cell? ⟨b, i, none⟩ = w.cell? ⟨b, i, none⟩ := fun cs i => cell_setRow_other w g cs ⟨b, i, none⟩ hbg
  have kf : ∀ cs, (w.setRow g cs).frozen? ⟨b, 2, none⟩ = false := fun cs => (hb.rowFar hbg cs).frozen 2
  have e1 : (off : Int) + (k : Int) - (off : Int) = (k : Int) := by omega
  have e2 : (k : Int) ≤ (c : Int) := by omega
  have e3 : (k : Int) < (n : Int) := by omega
  go_enter Tryz.func195, Tryz.ntmps195
  go_wp2_with fail
  go_quiet (fail)
  go_wp2_with fail
  go_quiet (fail)
  go_wp2_with fail
  go_region_held3 (fun w' => w'.cell? ⟨b, 0, none⟩ = some (strRd r) ∧ w'.cell? ⟨b, 2, none⟩ = some (.int .i64 (off : Int))) (go_keep) ((go_at_call 184; refine (H.out _).mono ?_; rintro e w1 ⟨rfl, rfl⟩))
  go_wp2
  go_ret2
  exact ⟨rfl, _, rfl⟩
theorem secRead_data (b r g o n c base off lim N k : Nat) (s : ByteArray) (cur : Array Value) (t : TypeId) (w : World)
    (hb : Blk w b 198 #[strRd r, .int .i64 (base : Int), .int .i64 (off : Int), .int .i64 (lim : Int), .int .i64 (N : Int)])
    (hr : w.cell? ⟨r, 0, none⟩ = some (.string s)) (hg : Blk w g t cur) (hn : 0 < n) (hnc : n ≤ c) (hfit : o + n ≤ cur.size) (hol : off < lim) (hl : lim ≤ s.size) (hs : s.size ≤ 4000000000) (hbg : b ≠ g) (hk : k = min n (lim - off)) :
    Calls Tryz.prog 195 #[.pointer (some ⟨b, 0, none⟩), .slice (some ⟨g, o, none⟩) n c] w fun e w' =>
      e = .returned (.tuple #[.int .i64 (k : Int), .nilIface]) ∧ ∃ m, w' = ((w.setRow g (spl cur o ((s.data.toList.drop off).take k))).setCell ⟨b, 2, none⟩ (.int .i64 ((off + k : Nat) : Int))).drewN m := by
  by_cases h : off + n ≤ lim
  · obtain rfl : k = n := by omega
    exact secRead_full b r g o k c base off lim N s cur t w hb hr hg hn hfit h hl hs hbg
  · exact secRead_part b r g o n c base off lim N k s cur t w hb hr hg (by omega) (by omega) (by omega) hnc hfit hl hs hbg
set_option maxRecDepth 100000 in
set_option maxHeartbeats 2000000 in
theorem secRead_end (E : Errs) (b : Nat) (v rd : Value) (base off lim N : Nat) (w : World) (hE : Env E w)
    (hb : Blk w b 198 #[rd, .int .i64 (base : Int), .int .i64 (off : Int), .int .i64 (lim : Int), .int .i64 (N : Int)]) (h : lim ≤ off) :
    Calls Tryz.prog 195 #[.pointer (some ⟨b, 0, none⟩), v] w fun e w' =>
      e = .returned (.tuple #[.int .i64 0, errv E.eof]) ∧ ∃ m, w' = w.drewN m := by
  have c2 := hb.at_ 2 (.int .i64 (off : Int)) rfl
  have c3 := hb.at_ 3 (.int .i64 (lim : Int)) rfl
  have he := hE.eof
  clear hE
  go_enter Tryz.func195, Tryz.ntmps195
  go_wp2_with fail
  go_quiet (fail)
  go_wp2_with fail
  go_quiet (fail)
  go_wp2_with fail
  go_ret2
  refine ⟨rfl, ?_⟩
  simp only [World.drewN_drewN]
  exact ⟨_, rfl⟩
set_option maxRecDepth 100000 in
set_option maxHeartbeats 1000000 in
theorem secSeek_any (b : Nat) (rd : Value) (base off lim N to : Nat) (w : World)
    (hb : Blk w b 198 #[rd, .int .i64 (base : Int), .int .i64 (off : Int), .int .i64 (lim : Int), .int .i64 (N : Int)]) (h : base + to ≤ 4000000000) :
    Calls Tryz.prog 85 #[.pointer (some ⟨b, 0, none⟩), .int .i64 (to : Int), .int .i64 0] w fun e w' =>
      e = .returned (.tuple #[.int .i64 (to : Int), .nilIface]) ∧ w' = w.setCell ⟨b, 2, none⟩ (.int .i64 ((base + to : Nat) : Int)) := by
  have c1 := hb.at_ 1 (.int .i64 (base : Int)) rfl
  have c2 := hb.at_ 2 (.int .i64 (off : Int)) rfl
  have f2 := hb.frozen 2
  go_enter Tryz.func85, Tryz.ntmps85
  go_wp2
  go_ret2
  exact ⟨rfl, by rw [Int.natCast_add, Int.add_comm]⟩
end Go.Proofs.YtalgnjkdoaaacaaGreatDoor

/- bufio.Reader over an io.SectionReader over a strings.Reader: NewReader, Read. -/
namespace Go.Proofs.YtalgnjkdoaaacaaGreatDoor
open Go Go.RowKit

theorem run_make_rowN {P : Program} (t e : TypeId) (i : TypeInfo) (z : Value) (ht : P.underlying t = some (.slice e)) (hi : P.info? e = some i) (hz : i.zero = some z)
    (kl kc : IntKind) (n c : Nat) (hnc : n ≤ c) (hbytes : i.bytes * c ≤ 281474976710656) (h63 : c ≤ 9223372036854775807) (w : World) :
    (Instr.makeSlice t (.int kl (n : Int)) (.int kc (c : Int))).run P w = .ok (.slice (some ⟨w.heap.size, 0, none⟩) n c) (w.alloc (.cells (madeCells z.cells (c * i.size)) e)) := by
  have hb : (i.bytes : Int) * (c : Int) ≤ 281474976710656 := by
    have h : ((i.bytes * c : Nat) : Int) ≤ 281474976710656 := by omega
    rwa [Int.natCast_mul] at h
  have hr := run_make (P := P) w t e i z ht hi hz kl kc n c (by omega) (by omega) hb (by omega)
  simp only [Int.toNat_natCast] at hr
  exact hr
theorem infoByte : (Tryz.prog.info? 5).map (fun i => (i.zero, i.size, i.bytes)) = some (some (.int .u8 0), 1, 1) := by kernel_rfl
/-- A new row of n bytes. -/
def zeros (n : Nat) : Array Value := madeCells #[.int .u8 0] n
theorem zeros_size (n : Nat) : (zeros n).size = n := size_madeCells _ _
theorem zeros_get (n i : Nat) (h : i < n) : (zeros n)[i]? = some (.int .u8 0) := by
  simp [zeros, madeCells, h, Nat.mod_one]
theorem zeros_ones (n : Nat) : Ones (zeros n) := by
  intro v hv
  obtain ⟨i, hi, rfl⟩ := List.mem_iff_getElem.1 hv
  have hi' : i < n := by rw [Array.length_toList, zeros_size] at hi; exact hi
  have := zeros_get n i hi'
  rw [Array.getElem?_eq_getElem (by rw [zeros_size]; exact hi')] at this
  rw [Array.getElem_toList, Option.some.inj this]; rfl
theorem run_makeBytes (n c : Nat) (hnc : n ≤ c) (hc : c ≤ 4000000000) (w : World) :
    (Instr.makeSlice 76 (.int .i64 (n : Int)) (.int .i64 (c : Int))).run Tryz.prog w = .ok (.slice (some ⟨w.heap.size, 0, none⟩) n c) (w.alloc (.cells (zeros c) 5)) := by
  obtain ⟨i, hi, h0, h1, h2⟩ := info_parts infoByte
  have := run_make_rowN (P := Tryz.prog) 76 5 i (.int .u8 0) Tryz.underlying76 hi h0 .i64 .i64 n c hnc (by rw [h2]; omega) (by omega) w
  rw [h1, Nat.mul_one] at this
  exact this

abbrev secRd (b : Nat) : Value := .iface 124 (.pointer (some ⟨b, 0, none⟩))
/-- The string behind a strings.Reader. -/
def StrR (w : World) (r : Nat) (s : ByteArray) : Prop := Blk w r 122 #[.string s, .int .i64 0, .int .i64 (-1)]
def SecR (w : World) (b r base off lim n : Nat) : Prop := Blk w b 198 #[strRd r, .int .i64 (base : Int), .int .i64 (off : Int), .int .i64 (lim : Int), .int .i64 (n : Int)]
abbrev bufCells (gb b rdn wn : Nat) (e : Value) (lb lr : Int) : Array Value :=
  #[.slice (some ⟨gb, 0, none⟩) 4096 4096, secRd b, .int .i64 (rdn : Int), .int .i64 (wn : Int), e, .int .i64 lb, .int .i64 lr]
/-- A bufio.Reader (q, its buffer gb) over a section (b) of all of s, whose next byte is the one at pos. -/
structure BufS (w : World) (q gb b r : Nat) (s : ByteArray) (pos rdn wn off : Nat) (lb lr : Int) (cur : Array Value) : Prop where
  hq : Blk w q 276 (bufCells gb b rdn wn .nilIface lb lr)
  hgb : Blk w gb 5 cur
  hb : SecR w b r 0 off s.size s.size
  hr : StrR w r s
  hsize : cur.size = 4096
  hones : Ones cur
  hrw : rdn ≤ wn
  hw4 : wn ≤ 4096
  hoff : pos + (wn - rdn) = off
  hle : off ≤ s.size
  hrd : Rd w gb rdn ((s.data.toList.drop pos).take (wn - rdn))
  h18 : 14 ≤ q ∧ 14 ≤ gb ∧ 14 ≤ b ∧ 14 ≤ r
def BufR (w : World) (q gb b r : Nat) (s : ByteArray) (pos : Nat) : Prop := ∃ rdn wn off lb lr cur, BufS w q gb b r s pos rdn wn off lb lr cur
theorem BufS.fr {w w' : World} {q gb b r : Nat} {s : ByteArray} {pos rdn wn off : Nat} {lb lr : Int} {cur : Array Value} {S : List Nat} (h : BufS w q gb b r s pos rdn wn off lb lr cur) (hf : Fr S w w')
    (h1 : q ∉ S) (h2 : gb ∉ S) (h3 : b ∉ S) (h4 : r ∉ S) : BufS w' q gb b r s pos rdn wn off lb lr cur :=
  ⟨h.hq.fr hf h1, h.hgb.fr hf h2, Blk.fr h.hb hf h3, Blk.fr h.hr hf h4, h.hsize, h.hones, h.hrw, h.hw4, h.hoff, h.hle, h.hrd.fr hf h.hgb.lt h2, h.h18⟩
theorem BufR.h18 {w : World} {q gb b r : Nat} {s : ByteArray} {pos : Nat} (h : BufR w q gb b r s pos) : (14 ≤ q ∧ 14 ≤ gb ∧ 14 ≤ b ∧ 14 ≤ r) ∧ 14 ≤ w.heap.size := by
  obtain ⟨rdn, wn, off, lb, lr, cur, h⟩ := h
  have := h.hq.lt
  have := h.h18
  exact ⟨this, by omega⟩
theorem BufR.fr {w w' : World} {q gb b r : Nat} {s : ByteArray} {pos : Nat} {S : List Nat} (h : BufR w q gb b r s pos) (hf : Fr S w w') (h1 : q ∉ S) (h2 : gb ∉ S) (h3 : b ∉ S) (h4 : r ∉ S) : BufR w' q gb b r s pos := by
  obtain ⟨rdn, wn, off, lb, lr, cur, h⟩ := h
  exact ⟨_, _, _, _, _, _, h.fr hf h1 h2 h3 h4⟩

section
variable {w w' : World} {q gb b r : Nat} {s : ByteArray} {pos rdn wn off : Nat} {lb lr : Int} {cur : Array Value}
theorem BufS.ne_gb (h : BufS w q gb b r s pos rdn wn off lb lr cur) : q ≠ gb := h.hq.ne_ h.hgb (by decide)
theorem BufS.ne_b (h : BufS w q gb b r s pos rdn wn off lb lr cur) : q ≠ b := h.hq.ne_ h.hb (by decide)
theorem BufS.ne_r (h : BufS w q gb b r s pos rdn wn off lb lr cur) : q ≠ r := h.hq.ne_ h.hr (by decide)
theorem BufS.gb_b (h : BufS w q gb b r s pos rdn wn off lb lr cur) : gb ≠ b := h.hgb.ne_ h.hb (by decide)
theorem BufS.gb_r (h : BufS w q gb b r s pos rdn wn off lb lr cur) : gb ≠ r := h.hgb.ne_ h.hr (by decide)
theorem BufS.b_r (h : BufS w q gb b r s pos rdn wn off lb lr cur) : b ≠ r := Blk.ne_ h.hb h.hr (by decide)
/-- Only the reader's own cells have turned: k bytes have been taken. -/
theorem BufS.adv (h : BufS w q gb b r s pos rdn wn off lb lr cur) {k : Nat} {lb' lr' : Int} (hk : k ≤ wn - rdn) (hf : Fr [q] w w') (hq : Blk w' q 276 (bufCells gb b (rdn + k) wn .nilIface lb' lr')) :
    BufS w' q gb b r s (pos + k) (rdn + k) wn off lb' lr' cur := by
  have h1 := h.hoff
  have h2 := h.hrw
  refine ⟨hq, h.hgb.fr hf (by simpa using h.ne_gb.symm), Blk.fr h.hb hf (by simpa using h.ne_b.symm), Blk.fr h.hr hf (by simpa using h.ne_r.symm), h.hsize, h.hones, by omega, h.hw4, by omega, h.hle, ?_, h.h18⟩
  have h3 := (h.hrd.fr hf h.hgb.lt (by simpa using h.ne_gb.symm)).drop k
  rw [List.drop_take, List.drop_drop] at h3
  rw [show wn - (rdn + k) = wn - rdn - k by omega]
  exact h3
/-- The buffer, which was empty, has been filled with k bytes. -/
theorem BufS.fill (h : BufS w q gb b r s pos rdn rdn off lb lr cur) {k : Nat} {lb' lr' : Int} (hk4 : k ≤ 4096) (hk : off + k ≤ s.size) (hf : Fr [q, gb, b] w w') (hq : Blk w' q 276 (bufCells gb b 0 k .nilIface lb' lr'))
    (hg : Blk w' gb 5 (spl cur 0 ((s.data.toList.drop off).take k))) (hb : SecR w' b r 0 (off + k) s.size s.size) :
    BufS w' q gb b r s pos 0 k (off + k) lb' lr' (spl cur 0 ((s.data.toList.drop off).take k)) := by
  have h1 := h.hoff
  have hsz := Lib.size_eq s
  have hpos : pos = off := by omega
  subst hpos
  have hl : ((s.data.toList.drop pos).take k).length = k := by rw [List.length_take, List.length_drop]; omega
  refine ⟨hq, hg, hb, Blk.fr h.hr hf (by have := h.ne_r; have := h.gb_r; have := h.b_r; simp; omega), ?_, h.hones.spl, Nat.zero_le _, hk4, by omega, hk, ?_, h.h18⟩
  · rw [spl_size (by rw [hl, h.hsize]; omega), h.hsize]
  · rw [Nat.sub_zero]
    exact Rd.spl hg (by rw [hl, h.hsize]; omega)
end
set_option maxRecDepth 100000 in
set_option maxHeartbeats 1000000 in
theorem bufReset_any (q gb b : Nat) (v0 v1 v2 v3 v4 v5 v6 : Value) (w : World) (hq : Blk w q 276 #[v0, v1, v2, v3, v4, v5, v6]) :
    Calls Tryz.prog 143 #[.pointer (some ⟨q, 0, none⟩), .slice (some ⟨gb, 0, none⟩) 4096 4096, secRd b] w fun e w' =>
      e = .returned (.tuple #[]) ∧ Blk w' q 276 (bufCells gb b 0 0 .nilIface (-1) (-1)) ∧ Fr [q] w w' ∧ w'.heap.size = w.heap.size := by
  have c0 := hq.at_ 0 v0 rfl
  have c1 := hq.at_ 1 v1 rfl
  have c2 := hq.at_ 2 v2 rfl
  have c3 := hq.at_ 3 v3 rfl
  have c4 := hq.at_ 4 v4 rfl
  have c5 := hq.at_ 5 v5 rfl
  have c6 := hq.at_ 6 v6 rfl
  have f0 := hq.frozen 0
  have f1 := hq.frozen 1
  have f2 := hq.frozen 2
  have f3 := hq.frozen 3
  have f4 := hq.frozen 4
  have f5 := hq.frozen 5
  have f6 := hq.frozen 6
  have HQ := Lib.hid hq
  go_enter Tryz.func143, Tryz.ntmps143
  go_wp2
  go_end0
  refine ⟨rfl, ((((((HQ.out.set_ 0 _).set_ 1 _).set_ 2 _).set_ 3 _).set_ 4 _).set_ 5 _).set_ 6 _, ?_, by simp⟩
  exact (((((((Fr.refl [q] w).setCell (.inl (by simp)) _).setCell (.inl (by simp)) _).setCell (.inl (by simp)) _).setCell (.inl (by simp)) _).setCell (.inl (by simp)) _).setCell (.inl (by simp)) _).setCell (.inl (by simp)) _
set_option maxRecDepth 100000 in
set_option maxHeartbeats 1000000 in
theorem bufNew_any (b r pos : Nat) (s : ByteArray) (w : World) (hb : SecR w b r 0 pos s.size s.size) (hr : StrR w r s) (hp : pos ≤ s.size) (h18 : 14 ≤ b ∧ 14 ≤ r) :
    Calls Tryz.prog 114 #[secRd b, .int .i64 4096] w fun e w' => ∃ q gb, e = .returned (.pointer (some ⟨q, 0, none⟩)) ∧ BufR w' q gb b r s pos ∧ w.heap.size ≤ q ∧ w.heap.size ≤ gb ∧ Fr [] w w' := by
  have hta : ∀ w, (Instr.typeAssert (secRd b) 89 189 true).run Tryz.prog w = .ok (.tuple #[.pointer none, .bool false]) w := fun w => by kernel_rfl
  have hmk : ∀ w, (Instr.makeSlice 76 (.int .i64 4096) (.int .i64 4096)).run Tryz.prog w = .ok (.slice (some ⟨w.heap.size, 0, none⟩) 4096 4096) (w.alloc (.cells (zeros 4096) 5)) := fun w => run_makeBytes 4096 4096 (Nat.le_refl _) (by decide) w
  go_enter Tryz.func114, Tryz.ntmps114
  go_wp2_with fail
  refine (bufReset_any w.heap.size (w.heap.size + 1) b _ _ _ _ _ _ _ _ ((Blk.new _ _ _).alloc _)).mono ?_
  rintro e w1 ⟨rfl, h1, h2, h3⟩
  go_wp2_with fail
  have hsz := hb.lt
  have hrz := hr.lt
  have hgb := Blk.new (w.alloc (.cells #[.slice none 0 0, .nilIface, .int .i64 0, .int .i64 0, .nilIface, .int .i64 0, .int .i64 0] 276)) 5 (zeros 4096)
  rw [World.size_alloc] at hgb
  go_ret
  refine ⟨w.heap.size, w.heap.size + 1, rfl, ⟨0, 0, pos, -1, -1, zeros 4096, ⟨h1, hgb.fr h2 (by simp), Blk.fr (Blk.alloc (Blk.alloc hb _) _) h2 (by simp; omega), Blk.fr (Blk.alloc (Blk.alloc hr _) _) h2 (by simp; omega), zeros_size _, zeros_ones _, Nat.le_refl _, by omega, by omega, hp, by simpa using Rd.nil_ _ _ _, by omega⟩⟩, Nat.le_refl _, by omega, ?_⟩
  exact (((Fr.refl [] w).alloc _).alloc _).trans h2 (fun s hs => by simp at hs; subst hs; exact .inr (Nat.le_refl _))
theorem bufNewReader_any (b r pos : Nat) (s : ByteArray) (w : World) (hb : SecR w b r 0 pos s.size s.size) (hr : StrR w r s) (hp : pos ≤ s.size) (h18 : 14 ≤ b ∧ 14 ≤ r) :
    Calls Tryz.prog 86 #[secRd b] w fun e w' => ∃ q gb, e = .returned (.pointer (some ⟨q, 0, none⟩)) ∧ BufR w' q gb b r s pos ∧ w.heap.size ≤ q ∧ w.heap.size ≤ gb ∧ Fr [] w w' := by
  go_enter Tryz.func86, Tryz.ntmps86
  go_wp2_with fail
  refine (bufNew_any b r pos s _ hb hr hp h18).mono ?_
  rintro e w1 ⟨q, gb, rfl, h⟩
  go_wp2_with fail
  go_ret
  exact ⟨q, gb, rfl, h⟩
set_option maxRecDepth 100000 in
theorem bufReadErr_any (q gb b rdn wn : Nat) (ev : Option Addr) (lb lr : Int) (w : World) (hq : Blk w q 276 (bufCells gb b rdn wn (ev.elim .nilIface fun a => errv a) lb lr)) :
    Calls Tryz.prog 222 #[.pointer (some ⟨q, 0, none⟩)] w fun e w' => e = .returned (ev.elim .nilIface fun a => errv a) ∧ w' = w.setCell ⟨q, 4, none⟩ .nilIface := by
  have c4 := hq.at_ 4 _ rfl
  have f4 := hq.frozen 4
  cases ev <;> simp only [Option.elim] at c4 ⊢
  all_goals
    go_enter Tryz.func222, Tryz.ntmps222
    go_wp2
    go_ret
    exact ⟨rfl, rfl⟩
end Go.Proofs.YtalgnjkdoaaacaaGreatDoor

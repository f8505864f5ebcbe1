/- Reading numbers out of a slice of bytes: leUint16, leUint32, leUint64 and the methods of readBuf. -/
import Derived.Test.YtcodhjoiikdhmaaGreatDoorProg
import Derived.Test.YtcodhjoiikdhmaaGreatDoorQw
import Derived.Test.YtcodhjoiikdhmaaGreatDoorQp
import Derived.WalkKit
import Derived.WalkLawsBesides
import Derived.WalkSpells
import Derived.Handy
import Derived.Deep.QuietTactic
import Derived.BigQuiet
import Derived.Deep.RegionWith
set_option linter.unusedVariables false
set_option linter.unusedSimpArgs false
namespace Go.Proofs.YtcodhjoiikdhmaaGreatDoor
open Go Go.RowKit

open Zp
theorem ret_eq {k : IntKind} {a b : Int} (h : a = b) : Ending.returned (.int k a) = .returned (.int k b) := by rw [h]
theorem or16 (b0 b1 : UInt8) (x : Nat) (hx : num [b0, b1] = x) : bits BinOp.or IntKind.u16 (IntKind.u16.wrap (b0.toNat : Int)) (IntKind.u16.wrap (IntKind.u16.wrap (b1.toNat : Int) * 256)) = (x : Int) := by
  have h0 := b0.toNat_lt
  have h1 := b1.toNat_lt
  have e : IntKind.u16.wrap (IntKind.u16.wrap (b1.toNat : Int) * 256) = ((256 * b1.toNat : Nat) : Int) := by
    rw [IntKind.wrap_u16, IntKind.wrap_u16]; omega
  have e' : IntKind.u16.wrap (b0.toNat : Int) = ((b0.toNat : Nat) : Int) := by rw [IntKind.wrap_u16]; omega
  rw [e, e', u16_or_nat _ _ (by omega) (by omega), Nat.or_comm, nat_join 8 _ _ (by omega) (by omega), ← hx]
  simp [num]; omega
theorem or32 (x y z : Nat) (hx : x < 65536) (hy : y < 65536) (hz : z = x + 65536 * y) : bits BinOp.or IntKind.u32 (x : Int) ((y : Int) * 65536) = (z : Int) := by
  have e : (y : Int) * 65536 = ((65536 * y : Nat) : Int) := by omega
  rw [e, u32_or_nat _ _ (by omega) (by omega), Nat.or_comm, nat_join 16 _ _ (by omega) (by omega)]
  omega
theorem or64 (x y z : Nat) (hx : x < 4294967296) (hy : y < 4294967296) (hz : z = x + 4294967296 * y) : bits BinOp.or IntKind.u64 (x : Int) ((y : Int) * 4294967296) = (z : Int) := by
  have e : (y : Int) * 4294967296 = ((4294967296 * y : Nat) : Int) := by omega
  rw [e, u64_or_nat _ _ (by omega) (by omega), Nat.or_comm, nat_join 32 _ _ (by omega) (by omega)]
  omega
theorem num_lt2 (a b : UInt8) : num [a, b] < 65536 := Nat.lt_of_lt_of_le (num_lt [a, b]) (by simp)
theorem num_lt4 (a b c d : UInt8) : num [a, b, c, d] < 4294967296 := Nat.lt_of_lt_of_le (num_lt [a, b, c, d]) (by simp)

set_option maxRecDepth 100000 in
set_option maxHeartbeats 400000 in
theorem leUint16_any (g o n c : Nat) (b0 b1 : UInt8) (x : Nat) (hx : num [b0, b1] = x) (w : World) (h2 : 2 ≤ n)
    (h0 : w.cell? ⟨g, o, none⟩ = some (.int .u8 (b0.toNat : Int))) (h1 : w.cell? ⟨g, o + 1, none⟩ = some (.int .u8 (b1.toNat : Int))) :
    Calls Tryz.prog 68 #[.slice (some ⟨g, o, none⟩) n c] w fun e w' => e = .returned (.int .u16 (x : Int)) ∧ ∃ m, w' = w.drewN m := by
  have h3 : (1 : Int) < (n : Int) := by omega
  have h4 : (0 : Int) < (n : Int) := by omega
  have HX := Lib.hid hx
  clear hx
  go_enter Tryz.func68, Tryz.ntmps68
  go_wp2
  go_quiet (fail)
  go_wp2
  go_ret
  exact ⟨ret_eq (or16 b0 b1 x HX.out), _, rfl⟩
set_option maxRecDepth 100000 in
set_option maxHeartbeats 1000000 in
theorem leUint32_any (g o n c : Nat) (b0 b1 b2 b3 : UInt8) (z : Nat) (hz : num [b0, b1, b2, b3] = z) (w : World) (h4 : 4 ≤ n) (hnc : n ≤ c) (hc : Rd w g o [b0, b1, b2, b3]) :
    Calls Tryz.prog 67 #[.slice (some ⟨g, o, none⟩) n c] w fun e w' => e = .returned (.int .u32 (z : Int)) ∧ ∃ m, w' = w.drewN m := by
  have c0 := hc.head
  have c1 := hc.tail.head
  have c2 := hc.tail.tail.head
  have c3 := hc.tail.tail.tail.head
  have i2 : (2 : Int) ≤ (n : Int) := by omega
  have i3 : (2 : Int) ≤ (c : Int) := by omega
  have hne : ¬ c = 2 := by omega
  obtain ⟨x, hx⟩ : ∃ x, num [b0, b1] = x := ⟨_, rfl⟩
  obtain ⟨y, hy⟩ : ∃ y, num [b2, b3] = y := ⟨_, rfl⟩
  have hxl : x < 65536 := by rw [← hx]; exact num_lt2 _ _
  have hyl : y < 65536 := by rw [← hy]; exact num_lt2 _ _
  have HZ : Hid (z = x + 65536 * y) := by
    show z = x + 65536 * y
    rw [← hz, ← hx, ← hy, show [b0, b1, b2, b3] = [b0, b1] ++ [b2, b3] from rfl, num_append]; rfl
  have q0 := fun m => (leUint16_any g o n c b0 b1 x hx (w.drewN m) (by omega) c0 c1)
  have q1 := fun m => (leUint16_any g (o + 2) (n - 2) (c - 2) b2 b3 y hy (w.drewN m) (by omega) c2 c3)
  have H0 := Lib.hid q0
  have H1 := Lib.hid q1
  clear q0 q1 c0 c1 c2 c3 hx hy hz hc
  go_enter Tryz.func67, Tryz.ntmps67
  go_wp2
  go_quiet ((first | (go_at_call_of 68 (Value.slice (some ⟨g, o, none⟩) n c); exact Calls.quiet_of (H0.out _)) | (go_at_call 68; exact Calls.quiet_of (H1.out _))))
  go_wp2
  go_ret
  exact ⟨ret_eq (or32 x y z hxl hyl HZ.out), _, rfl⟩
set_option maxRecDepth 100000 in
set_option maxHeartbeats 1000000 in
theorem leUint64_any (g o n c : Nat) (b0 b1 b2 b3 b4 b5 b6 b7 : UInt8) (w : World) (h8 : 8 ≤ n) (hnc : n ≤ c) (hc : Rd w g o [b0, b1, b2, b3, b4, b5, b6, b7]) :
    Calls Tryz.prog 93 #[.slice (some ⟨g, o, none⟩) n c] w fun e w' => (∃ z : Int, e = .returned (.int .u64 z)) ∧ ∃ m, w' = w.drewN m := by
  have i2 : (4 : Int) ≤ (n : Int) := by omega
  have i3 : (4 : Int) ≤ (c : Int) := by omega
  have hne : ¬ c = 4 := by omega
  obtain ⟨x, hx⟩ : ∃ x, num [b0, b1, b2, b3] = x := ⟨_, rfl⟩
  obtain ⟨y, hy⟩ : ∃ y, num [b4, b5, b6, b7] = y := ⟨_, rfl⟩
  have hxl : x < 4294967296 := by rw [← hx]; exact num_lt4 _ _ _ _
  have hyl : y < 4294967296 := by rw [← hy]; exact num_lt4 _ _ _ _
  have c0 : Rd w g o [b0, b1, b2, b3] := Rd.left (m := [b4, b5, b6, b7]) hc
  have c1 : Rd w g (o + 4) [b4, b5, b6, b7] := Rd.right (l := [b0, b1, b2, b3]) hc
  have q0 := fun m => (leUint32_any g o n c b0 b1 b2 b3 x hx (w.drewN m) (by omega) hnc (c0.drewN m))
  have q1 := fun m => (leUint32_any g (o + 4) (n - 4) (c - 4) b4 b5 b6 b7 y hy (w.drewN m) (by omega) (by omega) (c1.drewN m))
  have H0 := Lib.hid q0
  have H1 := Lib.hid q1
  clear q0 q1 c0 c1 hx hy hc
  go_enter Tryz.func93, Tryz.ntmps93
  go_wp2
  go_quiet ((first | (go_at_call_of 67 (Value.slice (some ⟨g, o, none⟩) n c); exact Calls.quiet_of (H0.out _)) | (go_at_call 67; exact Calls.quiet_of (H1.out _))))
  go_wp2
  go_ret
  exact ⟨⟨_, rfl⟩, _, rfl⟩

/-- 'p' points to a slice that holds these bytes. -/
structure RB (w : World) (p : Addr) (g o n c : Nat) (l : List UInt8) : Prop where
  cell : ∃ a, w.cell? p = some (.slice (some a) n c) ∧ (0 < n → a = ⟨g, o, none⟩)
  free : w.frozen? p = false
  rd : Rd w g o l
  len : l.length = n
  cap : n ≤ c
  ne : g ≠ p.block
/-- .. and behind the call it has moved on by k bytes, and nothing else has turned. -/
structure Nx (w : World) (p : Addr) (g o n c k : Nat) (l : List UInt8) (w' : World) : Prop where
  fr : Fr [p.block] w w'
  nx : RB w' p g (o + k) (n - k) (c - k) l
  size : w'.heap.size = w.heap.size
theorem nx_of {w : World} {p a : Addr} {g o n c k m : Nat} {l t : List UInt8} (h : RB w p g o n c (t ++ l)) (hk : t.length = k) (ha : k < n → a = ⟨g, o + k, none⟩) :
    Nx w p g o n c k l ((w.setCell p (.slice (some a) (n - k) (c - k))).drewN m) := by
  obtain ⟨b, hp, _⟩ := h.cell
  have hlen := h.len
  have hcap := h.cap
  simp only [List.length_append] at hlen
  refine ⟨((Fr.refl _ w).setCell (.inl (by simp)) _).drewN m, ⟨⟨a, ?_, fun hn => ha (by omega)⟩, ?_, ?_, by omega, by omega, h.ne⟩, by simp⟩
  · simp only [World.cell?_drewN]; exact World.cell?_setCell_same w p _ hp
  · simpa using h.free
  · subst hk
    exact (h.rd.right.far h.ne _).drewN m
set_option maxRecDepth 100000 in
set_option maxHeartbeats 1000000 in
theorem rb16 (p : Addr) (g o n c : Nat) (b0 b1 : UInt8) (l : List UInt8) (x : Nat) (hx : num [b0, b1] = x) (w : World) (h : RB w p g o n c (b0 :: b1 :: l)) :
    Calls Tryz.prog 59 #[.pointer (some p)] w fun e w' => e = .returned (.int .u16 (x : Int)) ∧ Nx w p g o n c 2 l w' := by
  have hl : l.length + 2 = n := h.len
  have hcap := h.cap
  have hxl : x < 65536 := by rw [← hx]; exact num_lt2 _ _
  obtain ⟨a, hp, ha⟩ := h.cell
  obtain rfl := ha (by omega)
  have hf := h.free
  have i2 : (2 : Int) ≤ (n : Int) := by omega
  have i3 : (2 : Int) ≤ (c : Int) := by omega
  have q0 := leUint16_any g o n c b0 b1 x hx w (by omega) h.rd.head h.rd.tail.head
  have H0 := Lib.hid q0
  have HN := Lib.hid (fun a m ha => nx_of (m := m) (a := a) (k := 2) (t := [b0, b1]) (l := l) h rfl ha)
  clear q0 hx h
  go_enter Tryz.func59, Tryz.ntmps59
  go_wp2_with fail
  refine H0.out.mono ?_
  rintro e w1 ⟨rfl, m, rfl⟩
  go_wp2
  all_goals (try subst h)
  all_goals
    go_ret
    exact ⟨rfl, HN.out _ m (fun hk => by first | rfl | omega)⟩
set_option maxRecDepth 100000 in
set_option maxHeartbeats 1000000 in
theorem rb32 (p : Addr) (g o n c : Nat) (b0 b1 b2 b3 : UInt8) (l : List UInt8) (x : Nat) (hx : num [b0, b1, b2, b3] = x) (w : World) (h : RB w p g o n c (b0 :: b1 :: b2 :: b3 :: l)) :
    Calls Tryz.prog 58 #[.pointer (some p)] w fun e w' => e = .returned (.int .u32 (x : Int)) ∧ Nx w p g o n c 4 l w' := by
  have hl : l.length + 4 = n := h.len
  have hcap := h.cap
  have hxl : x < 4294967296 := by rw [← hx]; exact num_lt4 _ _ _ _
  obtain ⟨a, hp, ha⟩ := h.cell
  obtain rfl := ha (by omega)
  have hf := h.free
  have i2 : (4 : Int) ≤ (n : Int) := by omega
  have i3 : (4 : Int) ≤ (c : Int) := by omega
  have q0 := leUint32_any g o n c b0 b1 b2 b3 x hx w (by omega) hcap (Rd.left (l := [b0, b1, b2, b3]) (m := l) h.rd)
  have H0 := Lib.hid q0
  have HN := Lib.hid (fun a m ha => nx_of (m := m) (a := a) (k := 4) (t := [b0, b1, b2, b3]) (l := l) h rfl ha)
  clear q0 hx h
  go_enter Tryz.func58, Tryz.ntmps58
  go_wp2_with fail
  refine H0.out.mono ?_
  rintro e w1 ⟨rfl, m, rfl⟩
  go_wp2
  all_goals (try subst h)
  all_goals
    go_ret
    exact ⟨rfl, HN.out _ m (fun hk => by first | rfl | omega)⟩
set_option maxRecDepth 100000 in
set_option maxHeartbeats 1000000 in
theorem rb64 (p : Addr) (g o n c : Nat) (b0 b1 b2 b3 b4 b5 b6 b7 : UInt8) (l : List UInt8) (w : World) (h : RB w p g o n c (b0 :: b1 :: b2 :: b3 :: b4 :: b5 :: b6 :: b7 :: l)) :
    Calls Tryz.prog 77 #[.pointer (some p)] w fun e w' => (∃ z : Int, e = .returned (.int .u64 z)) ∧ Nx w p g o n c 8 l w' := by
  have hl : l.length + 8 = n := h.len
  have hcap := h.cap
  obtain ⟨a, hp, ha⟩ := h.cell
  obtain rfl := ha (by omega)
  have hf := h.free
  have i2 : (8 : Int) ≤ (n : Int) := by omega
  have i3 : (8 : Int) ≤ (c : Int) := by omega
  have q0 := leUint64_any g o n c b0 b1 b2 b3 b4 b5 b6 b7 w (by omega) hcap (Rd.left (l := [b0, b1, b2, b3, b4, b5, b6, b7]) (m := l) h.rd)
  have H0 := Lib.hid q0
  have HN := Lib.hid (fun a m ha => nx_of (m := m) (a := a) (k := 8) (t := [b0, b1, b2, b3, b4, b5, b6, b7]) (l := l) h rfl ha)
  clear q0 h
  go_enter Tryz.func77, Tryz.ntmps77
  go_wp2_with fail
  refine H0.out.mono ?_
  rintro e w1 ⟨⟨z, rfl⟩, m, rfl⟩
  go_wp2
  all_goals (try subst h)
  all_goals
    go_ret
    exact ⟨⟨_, rfl⟩, HN.out _ m (fun hk => by first | rfl | omega)⟩
set_option maxRecDepth 100000 in
set_option maxHeartbeats 1000000 in
theorem rb8 (p : Addr) (g o n c : Nat) (b0 : UInt8) (l : List UInt8) (w : World) (h : RB w p g o n c (b0 :: l)) :
    Calls Tryz.prog 82 #[.pointer (some p)] w fun e w' => e = .returned (.int .u8 (b0.toNat : Int)) ∧ Nx w p g o n c 1 l w' := by
  have hl : l.length + 1 = n := h.len
  have hcap := h.cap
  obtain ⟨a, hp, ha⟩ := h.cell
  obtain rfl := ha (by omega)
  have hf := h.free
  have i2 : (1 : Int) ≤ (n : Int) := by omega
  have i3 : (1 : Int) ≤ (c : Int) := by omega
  have h0 := h.rd.head
  have HN := Lib.hid (fun a m ha => nx_of (m := m) (a := a) (k := 1) (t := [b0]) (l := l) h rfl ha)
  clear h
  go_enter Tryz.func82, Tryz.ntmps82
  go_wp2
  all_goals (try subst h)
  all_goals
    go_ret
    exact ⟨rfl, HN.out _ 0 (fun hk => by first | rfl | omega)⟩
set_option maxRecDepth 100000 in
set_option maxHeartbeats 1000000 in
/-- 'sub': the first k bytes as a slice of their own. -/
theorem rbsub (p : Addr) (g o n c k : Nat) (l : List UInt8) (w : World) (h : RB w p g o n c l) (hk : k ≤ n) (hkm : n ≤ 1000000) :
    Calls Tryz.prog 76 #[.pointer (some p), .int .i64 (k : Int)] w fun e w' => (∃ a, e = .returned (.slice (some a) k c) ∧ (0 < k → a = ⟨g, o, none⟩)) ∧ Nx w p g o n c k (l.drop k) w' := by
  have hcap := h.cap
  have hlen := h.len
  obtain ⟨a, hp, ha⟩ := h.cell
  have hf := h.free
  have i2 : (k : Int) ≤ (n : Int) := by omega
  have i3 : (k : Int) ≤ (c : Int) := by omega
  have HN := Lib.hid (fun a m ha => nx_of (m := m) (a := a) (k := k) (t := l.take k) (l := l.drop k) (by rw [List.take_append_drop]; exact h) (by rw [List.length_take]; omega) ha)
  clear h hlen
  go_enter Tryz.func76, Tryz.ntmps76
  go_wp2
  · subst h
    have hnc : c = n := by omega
    subst hnc
    go_ret
    refine ⟨⟨a, rfl, ha⟩, ?_⟩
    have := HN.out a 0 (fun hk => by omega)
    simpa [World.drewN_zero] using this
  · go_ret
    refine ⟨⟨a, rfl, fun h0 => ha (by omega)⟩, HN.out (a.add k) 0 (fun hk => ?_)⟩
    rw [ha (by omega)]
    unfold Addr.add
    split
    · subst k; rfl
    · rfl
end Go.Proofs.YtcodhjoiikdhmaaGreatDoor

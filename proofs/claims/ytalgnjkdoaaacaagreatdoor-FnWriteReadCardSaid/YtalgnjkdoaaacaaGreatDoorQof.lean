/- The checksum by slices of eight: the loop. -/
import Derived.Test.YtalgnjkdoaaacaaGreatDoorQoa
import Derived.Test.YtalgnjkdoaaacaaGreatDoorQnd
import Derived.Stop.Asserts
set_option linter.unusedVariables false
set_option linter.unusedSimpArgs false
namespace Go.Proofs.YtalgnjkdoaaacaaGreatDoor
open Go Go.RowKit
open Zp
def slLen : Value → Nat
  | .slice _ n _ => n
  | _ => 0
theorem eight (l : By) (k : Nat) (h : k + 8 ≤ l.length) : ∃ b0 b1 b2 b3 b4 b5 b6 b7 r, l.drop k = b0 :: b1 :: b2 :: b3 :: b4 :: b5 :: b6 :: b7 :: r := by
  have hl : (l.drop k).length = l.length - k := List.length_drop
  generalize l.drop k = m at hl
  match m, hl with
  | b0 :: b1 :: b2 :: b3 :: b4 :: b5 :: b6 :: b7 :: r, _ => exact ⟨_, _, _, _, _, _, _, _, _, rfl⟩
  | [], h1 => simp at h1; omega
  | [_], h1 => simp at h1; omega
  | [_, _], h1 => simp at h1; omega
  | [_, _, _], h1 => simp at h1; omega
  | [_, _, _, _], h1 => simp at h1; omega
  | [_, _, _, _, _], h1 => simp at h1; omega
  | [_, _, _, _, _, _], h1 => simp at h1; omega
  | [_, _, _, _, _, _, _], h1 => simp at h1; omega
theorem take8 (l : By) (k : Nat) (r : By) (bs : By) (h8 : bs.length = 8) (h : l.drop k = bs ++ r) : l.take (k + 8) = l.take k ++ bs := by
  rw [List.take_add, h, ← h8, List.take_left]
theorem xor8 (a b c d e f g h : Nat) (ha : a < 4294967296) (hb : b < 4294967296) (hc : c < 4294967296) (hd : d < 4294967296) (he : e < 4294967296) (hf : f < 4294967296) (hg : g < 4294967296) (hh : h < 4294967296) :
    bits BinOp.xor IntKind.u32 (bits BinOp.xor IntKind.u32 (bits BinOp.xor IntKind.u32 (bits BinOp.xor IntKind.u32 (bits BinOp.xor IntKind.u32 (bits BinOp.xor IntKind.u32 (bits BinOp.xor IntKind.u32 (a : Int) (b : Int)) (c : Int)) (d : Int)) (e : Int)) (f : Int)) (g : Int)) (h : Int) = ((a ^^^ b ^^^ c ^^^ d ^^^ e ^^^ f ^^^ g ^^^ h : Nat) : Int) := by
  have s1 := xor_lt32 _ _ ha hb
  have s2 := xor_lt32 _ _ s1 hc
  have s3 := xor_lt32 _ _ s2 hd
  have s4 := xor_lt32 _ _ s3 he
  have s5 := xor_lt32 _ _ s4 hf
  have s6 := xor_lt32 _ _ s5 hg
  rw [u32_xor_nat _ _ ha hb, u32_xor_nat _ _ s1 hc, u32_xor_nat _ _ s2 hd, u32_xor_nat _ _ s3 he, u32_xor_nat _ _ s4 hf, u32_xor_nat _ _ s5 hg, u32_xor_nat _ _ s6 hh]
set_option maxRecDepth 100000 in
set_option maxHeartbeats 4000000 in
theorem sliceUpd (g gp o n cp c0 : Nat) (cur : Array Value) (l : By) (w : World) (hB : Blk w g tabT cur) (hT : Tabs cur 256 1) (hr : Rd w gp o l) (hl : l.length = n) (hncp : n ≤ cp) (hn : cp ≤ 4000000000) (hc : c0 < 4294967296) :
    Calls Tryz.prog 206 #[.int .u32 (c0 : Int), .pointer (some ⟨g, 0, none⟩), .slice (some ⟨gp, o, none⟩) n cp] w fun e w' => e = .returned (u32v (upd (c0 ^^^ 4294967295) l ^^^ 4294967295)) ∧ ∃ m, w' = w.drewN m := by
  have HB := Lib.hid hB
  have HT := Lib.hid hT
  have HR := Lib.hid hr
  have HL := Lib.hid hl
  clear hB hT hr hl
  have hsg : IntKind.u32.signed = false := rfl
  by_cases h16 : 16 ≤ n
  · go_enter Tryz.func206, Tryz.ntmps206
    go_wp2_with fail
    have hx := compl c0 hc
    rw [hx]
    obtain ⟨C, hC⟩ : ∃ C, c0 ^^^ 4294967295 = C := ⟨_, rfl⟩
    have hC4 : C < 4294967296 := by rw [← hC]; exact xor_lt32 _ _ hc (by omega)
    rw [hC]
    have HCC := Lib.hid hC
    clear hC hx
    rw [show decide ((16 : Int) ≤ (n : Int)) = true from decide_eq_true (by omega)]
    obtain ⟨wo, rfl⟩ : ∃ wo : World, wo = w := ⟨_, rfl⟩
    go_loopw [0, 2] (fun v0 v2 wr => ∃ k : Nat, 8 * k + 1 ≤ n ∧ v0 = u32v (upd C (l.take (8 * k))) ∧ v2 = .slice (some ⟨gp, o + 8 * k, none⟩) (n - 8 * k) (cp - 8 * k) ∧ ∃ m, wr = wo.drewN m) (fun _ v2 _ => slLen v2)
    case atStart => exact ⟨0, by omega, rfl, rfl, 0, rfl⟩
    case round =>
      obtain ⟨k, hk, rfl, rfl, m, rfl⟩ := hrel
      obtain ⟨c, hc1⟩ : ∃ c, upd C (l.take (8 * k)) = c := ⟨_, rfl⟩
      have hc4 : c < 4294967296 := by rw [← hc1]; exact upd_lt hC4 _
      have HC := Lib.hid hc1
      unfold u32v
      rw [hc1]
      clear hc1
      obtain ⟨n1, hn1⟩ : ∃ n1, n - 8 * k = n1 := ⟨_, rfl⟩
      obtain ⟨cp1, hcp1⟩ : ∃ n1, cp - 8 * k = n1 := ⟨_, rfl⟩
      obtain ⟨o1, ho1⟩ : ∃ n1, o + 8 * k = n1 := ⟨_, rfl⟩
      rw [hn1, hcp1, ho1]
      have hcp2 : n1 ≤ cp1 := by omega
      have hcp3 : cp1 ≤ 4000000000 := by omega
      by_cases h8 : 8 < n1
      · obtain ⟨b0, b1, b2, b3, b4, b5, b6, b7, r, hd⟩ := eight l (8 * k) (by rw [HL.out]; omega)
        have hR : Rd (wo.drewN m) gp o1 [b0, b1, b2, b3] := by
          have := HR.out.drop (8 * k)
          rw [hd, ho1] at this
          exact Rd.left (m := b4 :: b5 :: b6 :: b7 :: r) this
        have HD := Lib.hid hd
        clear hd
        have HR1 := Lib.hid hR
        clear hR
        have q7 : (7 : Int) < (n1 : Int) := by omega
        have q6 : (6 : Int) < (n1 : Int) := by omega
        have q5 : (5 : Int) < (n1 : Int) := by omega
        have q4 : (4 : Int) < (n1 : Int) := by omega
        go_wp2_with fail
        refine (leU32c gp o1 n1 cp1 b0 b1 b2 b3 _ (by omega) HR1.out).mono ?_
        rintro e w2 ⟨rfl, m2, rfl⟩
        have hrd : ∀ i b, (b0 :: b1 :: b2 :: b3 :: b4 :: b5 :: b6 :: b7 :: r)[i]? = some b → ((wo.drewN m).drewN m2).cell? ⟨gp, o1 + i, none⟩ = some (.int .u8 (b.toNat : Int)) := by
          have := HR.out.drop (8 * k)
          rw [HD.out, ho1] at this
          exact this
        have cb4 := hrd 4 b4 rfl
        have cb5 := hrd 5 b5 rfl
        have cb6 := hrd 6 b6 rfl
        have cb7 := hrd 7 b7 rfl
        obtain ⟨w3, hw3⟩ : ∃ w3, (wo.drewN m).drewN m2 = w3 := ⟨_, rfl⟩
        rw [hw3] at cb4 cb5 cb6 cb7 ⊢
        have HW3 := Lib.hid hw3
        clear hrd hw3
        go_upto_region 5 with fail
        have hxx := u32_xor_nat c (le4 b0 b1 b2 b3) hc4 (le4_lt _ _ _ _)
        obtain ⟨x, hx⟩ : ∃ x, c ^^^ le4 b0 b1 b2 b3 = x := ⟨_, rfl⟩
        have hx4 : x < 4294967296 := by rw [← hx]; exact xor_lt32 _ _ hc4 (le4_lt _ _ _ _)
        rw [hx] at hxx
        rw [hxx]
        have HX := Lib.hid hx
        clear hx hxx
        have i0 := b4.toNat_lt
        have i1 := b5.toNat_lt
        have i2 := b6.toNat_lt
        have i3 := b7.toNat_lt
        have hB3 : Blk w3 g tabT cur := by rw [← HW3.out]; exact HB.out
        have tl : ∀ a i, a < 8 → i < 256 → ∃ T : Nat, tb a i = T ∧ T < 4294967296 ∧ w3.cell? ⟨g, a * 256 + i, none⟩ = some (.int .u32 (T : Int)) := fun a i ha hi => ⟨_, rfl, tb_lt _ _ (by omega), hB3.at_ _ _ (HT.out.done a i ha hi)⟩
        have hz : ∀ y : Nat, y < 4294967296 → ∃ m : Nat, y % 256 = m ∧ m < 256 ∧ (m : Int) < 256 ∧ bits BinOp.and IntKind.u32 (y : Int) 255 = (m : Int) := fun y hy => ⟨_, rfl, by omega, by omega, and255 y hy⟩
        obtain ⟨x0, g0, j0, p0, a0⟩ := hz x hx4
        obtain ⟨x1, g1, j1, p1, a1⟩ := hz (x / 256) (by omega)
        obtain ⟨x2, g2, j2, p2, a2⟩ := hz (x / 65536) (by omega)
        obtain ⟨x3, g3⟩ : ∃ x3, x / 16777216 = x3 := ⟨_, rfl⟩
        have j3 : x3 < 256 := by omega
        have p3 : (x3 : Int) < 256 := by omega
        have pe : ((x : Int) / 16777216) = (x3 : Int) := by omega
        have po : ((x : Int) / 16777216).toNat = x3 := by omega
        rw [show ((x / 256 : Nat) : Int) = (x : Int) / 256 by omega] at a1
        rw [show ((x / 65536 : Nat) : Int) = (x : Int) / 65536 by omega] at a2
        have n0 : (b4.toNat : Int) < 256 := by omega
        have n1' : (b5.toNat : Int) < 256 := by omega
        have n2 : (b6.toNat : Int) < 256 := by omega
        have n3 : (b7.toNat : Int) < 256 := by omega
        obtain ⟨T0, r0, l0, t0⟩ := tl 0 b7.toNat (by omega) i3
        rw [show 0 * 256 + b7.toNat = b7.toNat by omega] at t0
        obtain ⟨T1, r1, l1, t1⟩ := tl 1 b6.toNat (by omega) i2
        rw [show 1 * 256 = 256 by omega] at t1
        obtain ⟨T2, r2, l2, t2⟩ := tl 2 b5.toNat (by omega) i1
        rw [show 2 * 256 = 512 by omega] at t2
        obtain ⟨T3, r3, l3, t3⟩ := tl 3 b4.toNat (by omega) i0
        rw [show 3 * 256 = 768 by omega] at t3
        obtain ⟨T4, r4, l4, t4⟩ := tl 4 x3 (by omega) j3
        rw [show 4 * 256 = 1024 by omega] at t4
        obtain ⟨T5, r5, l5, t5⟩ := tl 5 x2 (by omega) j2
        rw [show 5 * 256 = 1280 by omega] at t5
        obtain ⟨T6, r6, l6, t6⟩ := tl 6 x1 (by omega) j1
        rw [show 6 * 256 = 1536 by omega] at t6
        obtain ⟨T7, r7, l7, t7⟩ := tl 7 x0 (by omega) j0
        rw [show 7 * 256 = 1792 by omega] at t7
        have R0 := Lib.hid r0
        have R1 := Lib.hid r1
        have R2 := Lib.hid r2
        have R3 := Lib.hid r3
        have R4 := Lib.hid r4
        have R5 := Lib.hid r5
        have R6 := Lib.hid r6
        have R7 := Lib.hid r7
        have G := Lib.hid (show x >>> 24 = x3 ∧ (x >>> 16) % 256 = x2 ∧ (x >>> 8) % 256 = x1 ∧ x % 256 = x0 by simp only [Nat.shiftRight_eq_div_pow]; omega)
        clear r0 r1 r2 r3 r4 r5 r6 r7 tl hz g0 g1 g2 g3
        clear hB3
        go_quiet (fail)
        clear t0 t1 t2 t3 t4 t5 t6 t7 a0 a1 a2 p0 p1 p2 p3 pe po n0 n1' n2 n3 cb4 cb5 cb6 cb7
        go_wp2_with fail
        rw [xor8 T0 T1 T2 T3 T4 T5 T6 T7 l0 l1 l2 l3 l4 l5 l6 l7]
        have HS := slice8 c b0 b1 b2 b3 b4 b5 b6 b7 x HX.out.symm
        obtain ⟨e3, e2, e1, e0⟩ := G.out
        rw [e3, e2, e1, e0, R0.out, R1.out, R2.out, R3.out, R4.out, R5.out, R6.out, R7.out] at HS
        rw [← HS]
        refine ⟨⟨k + 1, by omega, ?_, ?_, m + m2 + nq, ?_⟩, by show n1 - 8 < n1; omega⟩
        · show Value.int IntKind.u32 _ = u32v _
          rw [show 8 * (k + 1) = 8 * k + 8 by omega, take8 l (8 * k) r [b0, b1, b2, b3, b4, b5, b6, b7] rfl HD.out, upd_append, HC.out]
        · show Value.slice (some ⟨gp, o1 + 8, none⟩) (n1 - 8) (cp1 - 8) = _
          rw [show o1 + 8 = o + 8 * (k + 1) by omega, show n1 - 8 = n - 8 * (k + 1) by omega, show cp1 - 8 = cp - 8 * (k + 1) by omega]
        · rw [← HW3.out, World.drewN_drewN, World.drewN_drewN, Nat.add_assoc]
      · have hy := compl c hc4
        have HQ : Rd (wo.drewN m) gp o1 (l.drop (8 * k)) := by
          have := HR.out.drop (8 * k)
          rw [ho1] at this
          exact this
        have HQ := Lib.hid HQ
        have HY := Lib.hid hy
        clear hy
        go_wp2_with fail
        rw [HY.out]
        refine (simpleUpd g gp o1 n1 cp1 (c ^^^ 4294967295) (l.drop (8 * k)) (wo.drewN m) (fun i hi => HB.out.at_ i _ (HT.out.row0 i hi)) HQ.out (by rw [List.length_drop, HL.out]; exact hn1) (by omega) (xor_lt32 _ _ hc4 (by omega))).mono ?_
        rintro e w2 ⟨rfl, rfl⟩
        go_wp2_with fail
        go_ret
        refine ⟨?_, m, rfl⟩
        show Ending.returned (u32v (upd (c ^^^ 4294967295 ^^^ 4294967295) (List.drop (8 * k) l) ^^^ 4294967295)) = _
        rw [Nat.xor_assoc, Nat.xor_self, Nat.xor_zero, HCC.out, ← HC.out, ← upd_append, List.take_append_drop]
  · go_enter Tryz.func206, Tryz.ntmps206
    by_cases h0 : n = 0
    · subst h0
      go_wp2_with fail
      go_ret
      refine ⟨?_, 0, rfl⟩
      rw [List.eq_nil_of_length_eq_zero HL.out]
      show Ending.returned (u32v c0) = Ending.returned (u32v (c0 ^^^ 4294967295 ^^^ 4294967295))
      rw [Nat.xor_assoc, Nat.xor_self, Nat.xor_zero]
    · have h0' : (n : Int) ≠ 0 := by omega
      go_wp2_with fail
      refine (simpleUpd g gp o n cp c0 l w (fun i hi => HB.out.at_ i _ (HT.out.row0 i hi)) HR.out HL.out (by omega) hc).mono ?_
      rintro e w2 ⟨rfl, rfl⟩
      go_wp2_with fail
      go_ret
      exact ⟨rfl, 0, rfl⟩
end Go.Proofs.YtalgnjkdoaaacaaGreatDoor

/- The checksum: UpdateIEEE, the hash's Write and Sum32. -/
namespace Go.Proofs.YtalgnjkdoaaacaaGreatDoor
open Go Go.RowKit
open Zp
def crcOf (c : Nat) (l : By) : Nat := upd (c ^^^ 4294967295) l ^^^ 4294967295
theorem crcOf_lt (c : Nat) (hc : c < 4294967296) (l : By) : crcOf c l < 4294967296 := xor_lt32 _ _ (upd_lt (xor_lt32 _ _ hc (by decide)) _) (by decide)
theorem crcOf_append (c : Nat) (l m : By) : crcOf c (l ++ m) = crcOf (crcOf c l) m := by
  unfold crcOf
  rw [upd_append, Nat.xor_assoc (upd _ l), Nat.xor_self, Nat.xor_zero]
theorem crcOf_nil (c : Nat) : crcOf c [] = c := by
  show c ^^^ 4294967295 ^^^ 4294967295 = c
  rw [Nat.xor_assoc, Nat.xor_self, Nat.xor_zero]
set_option maxRecDepth 100000 in
set_option maxHeartbeats 4000000 in
theorem updIEEE (gp o n cp c0 : Nat) (l : By) (w : World) (hr : Rd w gp o l) (hl : l.length = n) (hncp : n ≤ cp) (hn : cp ≤ 4000000000) (hc : c0 < 4294967296) (hg : gp < w.heap.size) :
    Calls Tryz.prog 205 #[.int .u32 (c0 : Int), .slice (some ⟨gp, o, none⟩) n cp] w fun e w' => e = .returned (u32v (crcOf c0 l)) ∧ Fr [] w w' := by
  go_enter Tryz.func205, Tryz.ntmps205
  go_wp2_with fail
  refine (makeTab w).mono ?_
  rintro e w1 ⟨rfl, cur, hB, hT, hF⟩
  go_wp2_with fail
  refine (sliceUpd w.heap.size gp o n cp c0 cur l w1 hB hT (hr.fr hF hg (by simp)) hl hncp hn hc).mono ?_
  rintro e w2 ⟨rfl, m, rfl⟩
  go_wp2_with fail
  go_ret
  exact ⟨rfl, hF.drewN m⟩
set_option maxRecDepth 100000 in
set_option maxHeartbeats 4000000 in
theorem hashWrite (h : Nat) (c0 : Nat) (th : TypeId) (gp o n cp : Nat) (l : By) (w : World) (hB : Blk w h th #[.int .u32 (c0 : Int)]) (hr : Rd w gp o l) (hl : l.length = n) (hncp : n ≤ cp) (hn : cp ≤ 4000000000) (hc : c0 < 4294967296) (hg : gp < w.heap.size) (hh : h < w.heap.size) :
    Calls Tryz.prog 204 #[.pointer (some ⟨h, 0, none⟩), .slice (some ⟨gp, o, none⟩) n cp] w fun e w' => e = .returned (.tuple #[.int .i64 (n : Int), .nilIface]) ∧ Blk w' h th #[.int .u32 (crcOf c0 l : Int)] ∧ Fr [h] w w' := by
  have c0c := hB.at_ 0 _ rfl
  go_enter Tryz.func204, Tryz.ntmps204
  have HC := Lib.hid (updIEEE gp o n cp c0 l w hr hl hncp hn hc hg)
  have HB := Lib.hid hB
  clear hr hB
  go_wp2_with fail
  refine HC.out.mono ?_
  rintro e w1 ⟨rfl, hF⟩
  have HB1 := HB.out.fr hF (by simp)
  have c1 := HB1.at_ 0 _ rfl
  have f1 := HB1.frozen 0
  have HB1 := Lib.hid HB1
  go_wp2_with fail
  go_ret2
  refine ⟨rfl, HB1.out.set_ 0 _, (hF.mono (by simp)).setCell (.inl (by simp)) _⟩
theorem hashSum (h : Nat) (c0 : Nat) (th : TypeId) (w : World) (hB : Blk w h th #[.int .u32 (c0 : Int)]) :
    Calls Tryz.prog 130 #[.pointer (some ⟨h, 0, none⟩)] w fun e w' => e = .returned (u32v c0) ∧ w' = w := by
  have c0c := hB.at_ 0 _ rfl
  clear hB
  go_enter Tryz.func130, Tryz.ntmps130
  go_wp2_with fail
  go_ret
  exact ⟨rfl, rfl⟩
end Go.Proofs.YtalgnjkdoaaacaaGreatDoor

/- Small functions of File.Open. -/
namespace Go.Proofs.YtalgnjkdoaaacaaGreatDoor
open Go Go.RowKit
open Zp
abbrev secV (b : Nat) : Value := .iface 124 (.pointer (some ⟨b, 0, none⟩))
abbrev nopV (b : Nat) : Value := .iface 308 (.agg #[secV b])
abbrev nopF : Value := .func (Fn.func 142) #[] #[]
set_option maxRecDepth 100000 in
set_option maxHeartbeats 4000000 in
theorem nopCloser_c (b : Nat) (w : World) : Calls Tryz.prog 142 #[secV b] w fun e w' => e = .returned (nopV b) ∧ ∃ m, w' = w.drewN m := by
  have hta : (Instr.typeAssert (secV b) 89 242 true).run Tryz.prog w = .ok (.tuple #[.nilIface, .bool false]) w := run_typeAssert_lacksB Tryz.underlying242 (by kernel_rfl) (by kernel_rfl) _ _ _
  go_enter Tryz.func142, Tryz.ntmps142
  go_wp2_with fail
  go_ret
  exact ⟨rfl, 0, rfl⟩
set_option maxRecDepth 100000 in
set_option maxHeartbeats 4000000 in
theorem decomp0 (w : World) (m : Nat) (hm : m ≤ 65535) : Calls Tryz.prog 110 #[.int .u16 (m : Int)] w fun e w' => e = .returned (if m = 0 then nopF else .nilFunc) ∧ w' = w := by
  go_enter Tryz.func110, Tryz.ntmps110
  by_cases h : m = 0
  · subst h
    go_wp2_with fail
    go_ret
    exact ⟨rfl, rfl⟩
  · have h' : (m : Int) ≠ 0 := by omega
    rw [if_neg h]
    go_wp2_with fail
    go_ret
    exact ⟨rfl, rfl⟩
theorem nilNil (w : World) : (binOp .eql 175 .nilFunc .nilFunc).run Tryz.prog w = .ok (.bool true) w := by kernel_rfl
theorem nopNil (w : World) : (binOp .eql 175 nopF .nilFunc).run Tryz.prog w = .ok (.bool false) w := by kernel_rfl
set_option maxRecDepth 100000 in
set_option maxHeartbeats 4000000 in
theorem decomp (w : World) (z m : Nat) (hm : m ≤ 65535) (hz : w.cell? ⟨z, 3, none⟩ = some (.map none)) : Calls Tryz.prog 82 #[.pointer (some ⟨z, 0, none⟩), .int .u16 (m : Int)] w fun e w' => e = .returned (if m = 0 then nopF else .nilFunc) ∧ ∃ n, w' = w.drewN n := by
  go_enter Tryz.func82, Tryz.ntmps82
  have hlk : (Instr.lookup 64 (.map none) (.int .u16 (m : Int)) false).run Tryz.prog w = .ok .nilFunc w := by kernel_rfl
  have hnn := nilNil w
  go_wp2_with fail
  refine (decomp0 w m hm).mono ?_
  rintro e w1 ⟨rfl, rfl⟩
  by_cases h : m = 0
  · rw [if_pos h]
    go_wp2_with fail
    go_ret
    exact ⟨rfl, 0, rfl⟩
  · rw [if_neg h]
    go_wp2_with fail
    go_ret
    exact ⟨rfl, 0, rfl⟩
theorem and8 (fl : Nat) (hf : fl ≤ 65535) : (bits BinOp.and IntKind.u16 (fl : Int) 8 != 0) = decide (fl / 8 % 2 = 1) := by
  have h := u16_and_nat fl 8 (by omega) (by omega)
  rw [show ((8 : Nat) : Int) = 8 from rfl] at h
  rw [h]
  have h2 : fl &&& 8 = 8 * (fl / 8 % 2) := by
    apply Nat.eq_of_testBit_eq
    intro i
    rw [Nat.testBit_and, show (8 : Nat) = 2 ^ 3 by decide, Nat.testBit_two_pow, Nat.testBit_two_pow_mul]
    by_cases hi : 3 = i
    · subst hi
      simp [Nat.testBit_eq_decide_div_mod_eq]
    · simp only [hi, decide_false, Bool.and_false]
      by_cases h3 : 3 ≤ i
      · have : (fl / 2 ^ 3 % 2).testBit (i - 3) = false := Nat.testBit_lt_two_pow (Nat.lt_of_lt_of_le (Nat.mod_lt _ (by omega)) (by
          have : 2 ^ 1 ≤ 2 ^ (i - 3) := Nat.pow_le_pow_right (by omega) (by omega)
          exact this))
        simp [this]
      · simp [h3]
  rw [h2]
  rcases Nat.mod_two_eq_zero_or_one (fl / 8) with h | h <;> simp [h]
set_option maxRecDepth 100000 in
set_option maxHeartbeats 4000000 in
theorem hasDD (w : World) (f fl : Nat) (hf : fl ≤ 65535) (h5 : w.cell? ⟨f, 5, none⟩ = some (.int .u16 (fl : Int))) : Calls Tryz.prog 83 #[.pointer (some ⟨f, 0, none⟩)] w fun e w' => e = .returned (.bool (decide (fl / 8 % 2 = 1))) ∧ w' = w := by
  have h := and8 fl hf
  go_enter Tryz.func83, Tryz.ntmps83
  go_wp2_with fail
  go_ret
  refine ⟨?_, rfl⟩
  rw [← h]
  rfl
def slash (s : ByteArray) : Bool := s.data.toList.getLast? == some 47
theorem slash0 (s : ByteArray) (h : s.size = 0) : slash s = false := by
  have : s.data.toList = [] := List.eq_nil_of_length_eq_zero (by simpa using h)
  rw [slash, this]
  rfl
theorem slash1 (s : ByteArray) (h : 1 ≤ s.size) : ((s.extract (s.size - 1) s.size).toList == [47]) = slash s := by
  rw [ByteArray.toList_eq, ByteArray.data_extract, Array.toList_extract, slash]
  have hl : s.data.toList.length = s.size := by simp
  generalize s.data.toList = l at hl
  rw [← hl] at h ⊢
  rcases List.eq_nil_or_concat l with rfl | ⟨m, b, rfl⟩
  · simp at h
  · simp
set_option maxRecDepth 100000 in
set_option maxHeartbeats 4000000 in
theorem hasSuf0 (w : World) (s : ByteArray) (hs : s.size ≤ 4000000000) : Calls Tryz.prog 108 #[.string s, .string ⟨#[47]⟩] w fun e w' => e = .returned (.bool (slash s)) ∧ ∃ m, w' = w.drewN m := by
  go_enter Tryz.func108, Tryz.ntmps108
  by_cases h : s.size = 0
  · rw [slash0 s h]
    have h1 : (s.size : Int) = 0 := by omega
    go_wp2_with fail
    go_ret
    exact ⟨rfl, 0, rfl⟩
  · have HS := Lib.hid (slash1 s (by omega))
    have h1 : (1 : Int) ≤ (s.size : Int) := by omega
    go_wp2_with fail
    go_ret
    refine ⟨?_, 0, rfl⟩
    rw [← HS.out]
    rfl
set_option maxRecDepth 100000 in
set_option maxHeartbeats 4000000 in
theorem hasSuf (w : World) (s : ByteArray) (hs : s.size ≤ 4000000000) : Calls Tryz.prog 77 #[.string s, .string ⟨#[47]⟩] w fun e w' => e = .returned (.bool (slash s)) ∧ ∃ m, w' = w.drewN m := by
  go_enter Tryz.func77, Tryz.ntmps77
  go_wp2_with fail
  refine (hasSuf0 w s hs).mono ?_
  rintro e w1 ⟨rfl, m, rfl⟩
  go_wp2_with fail
  go_ret
  exact ⟨rfl, m, rfl⟩
end Go.Proofs.YtalgnjkdoaaacaaGreatDoor

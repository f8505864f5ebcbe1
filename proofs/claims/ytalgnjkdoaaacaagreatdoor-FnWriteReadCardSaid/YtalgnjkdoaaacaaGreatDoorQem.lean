/- The checksum of a row of any capacity. -/
import Derived.Test.YtalgnjkdoaaacaaGreatDoorQof
import Derived.Test.YtalgnjkdoaaacaaGreatDoorQek
set_option linter.unusedVariables false
set_option linter.unusedSimpArgs false
namespace Go.Proofs.YtalgnjkdoaaacaaGreatDoor
open Go Go.RowKit
open Zp
set_option maxRecDepth 100000 in
set_option maxHeartbeats 4000000 in
theorem sliceUpdG (g gp o n cp c0 : Nat) (cur : Array Value) (l : By) (w : World) (hB : Blk w g tabT cur) (hT : Tabs cur 256 1) (hr : Rd w gp o l) (hl : l.length = n) (hncp : n ≤ cp) (hn4 : n ≤ 4000000000) (hn : cp ≤ 9223372036854775807) (hc : c0 < 4294967296) :
    Calls Tryz.prog 206 #[.int .u32 (c0 : Int), .pointer (some ⟨g, 0, none⟩), .slice (some ⟨gp, o, none⟩) n cp] w fun e w' => e = .returned (u32v (upd (c0 ^^^ 4294967295) l ^^^ 4294967295)) ∧ ∃ m, w' = w.drewN m := by
  have HB := Lib.hid hB
  have HT := Lib.hid hT
  have HR := Lib.hid hr
  have HL := Lib.hid hl
  clear hB hT hr hl
  have hsg : IntKind.u32.signed = false := rfl
  by_cases h16 : 16 ≤ n
  · go_enter Tryz.func206, Tryz.ntmps206
    go_wp2_with fail
    have hx := compl c0 hc
    rw [hx]
    obtain ⟨C, hC⟩ : ∃ C, c0 ^^^ 4294967295 = C := ⟨_, rfl⟩
    have hC4 : C < 4294967296 := by rw [← hC]; exact xor_lt32 _ _ hc (by omega)
    rw [hC]
    have HCC := Lib.hid hC
    clear hC hx
    rw [show decide ((16 : Int) ≤ (n : Int)) = true from decide_eq_true (by omega)]
    obtain ⟨wo, rfl⟩ : ∃ wo : World, wo = w := ⟨_, rfl⟩
    go_loopw [0, 2] (fun v0 v2 wr => ∃ k : Nat, 8 * k + 1 ≤ n ∧ v0 = u32v (upd C (l.take (8 * k))) ∧ v2 = .slice (some ⟨gp, o + 8 * k, none⟩) (n - 8 * k) (cp - 8 * k) ∧ ∃ m, wr = wo.drewN m) (fun _ v2 _ => slLen v2)
    case atStart => exact ⟨0, by omega, rfl, rfl, 0, rfl⟩
    case round =>
      obtain ⟨k, hk, rfl, rfl, m, rfl⟩ := hrel
      obtain ⟨c, hc1⟩ : ∃ c, upd C (l.take (8 * k)) = c := ⟨_, rfl⟩
      have hc4 : c < 4294967296 := by rw [← hc1]; exact upd_lt hC4 _
      have HC := Lib.hid hc1
      unfold u32v
      rw [hc1]
      clear hc1
      obtain ⟨n1, hn1⟩ : ∃ n1, n - 8 * k = n1 := ⟨_, rfl⟩
      obtain ⟨cp1, hcp1⟩ : ∃ n1, cp - 8 * k = n1 := ⟨_, rfl⟩
      obtain ⟨o1, ho1⟩ : ∃ n1, o + 8 * k = n1 := ⟨_, rfl⟩
      rw [hn1, hcp1, ho1]
      have hcp2 : n1 ≤ cp1 := by omega
      have hcp3 : cp1 ≤ 9223372036854775807 := by omega
      by_cases h8 : 8 < n1
      · obtain ⟨b0, b1, b2, b3, b4, b5, b6, b7, r, hd⟩ := eight l (8 * k) (by rw [HL.out]; omega)
        have hR : Rd (wo.drewN m) gp o1 [b0, b1, b2, b3] := by
          have := HR.out.drop (8 * k)
          rw [hd, ho1] at this
          exact Rd.left (m := b4 :: b5 :: b6 :: b7 :: r) this
        have HD := Lib.hid hd
        clear hd
        have HR1 := Lib.hid hR
        clear hR
        have q7 : (7 : Int) < (n1 : Int) := by omega
        have q6 : (6 : Int) < (n1 : Int) := by omega
        have q5 : (5 : Int) < (n1 : Int) := by omega
        have q4 : (4 : Int) < (n1 : Int) := by omega
        go_wp2_with fail
        refine (leU32c gp o1 n1 cp1 b0 b1 b2 b3 _ (by omega) HR1.out).mono ?_
        rintro e w2 ⟨rfl, m2, rfl⟩
        have hrd : ∀ i b, (b0 :: b1 :: b2 :: b3 :: b4 :: b5 :: b6 :: b7 :: r)[i]? = some b → ((wo.drewN m).drewN m2).cell? ⟨gp, o1 + i, none⟩ = some (.int .u8 (b.toNat : Int)) := by
          have := HR.out.drop (8 * k)
          rw [HD.out, ho1] at this
          exact this
        have cb4 := hrd 4 b4 rfl
        have cb5 := hrd 5 b5 rfl
        have cb6 := hrd 6 b6 rfl
        have cb7 := hrd 7 b7 rfl
        obtain ⟨w3, hw3⟩ : ∃ w3, (wo.drewN m).drewN m2 = w3 := ⟨_, rfl⟩
        rw [hw3] at cb4 cb5 cb6 cb7 ⊢
        have HW3 := Lib.hid hw3
        clear hrd hw3
        go_upto_region 5 with fail
        have hxx := u32_xor_nat c (le4 b0 b1 b2 b3) hc4 (le4_lt _ _ _ _)
        obtain ⟨x, hx⟩ : ∃ x, c ^^^ le4 b0 b1 b2 b3 = x := ⟨_, rfl⟩
        have hx4 : x < 4294967296 := by rw [← hx]; exact xor_lt32 _ _ hc4 (le4_lt _ _ _ _)
        rw [hx] at hxx
        rw [hxx]
        have HX := Lib.hid hx
        clear hx hxx
        have i0 := b4.toNat_lt
        have i1 := b5.toNat_lt
        have i2 := b6.toNat_lt
        have i3 := b7.toNat_lt
        have hB3 : Blk w3 g tabT cur := by rw [← HW3.out]; exact HB.out
        have tl : ∀ a i, a < 8 → i < 256 → ∃ T : Nat, tb a i = T ∧ T < 4294967296 ∧ w3.cell? ⟨g, a * 256 + i, none⟩ = some (.int .u32 (T : Int)) := fun a i ha hi => ⟨_, rfl, tb_lt _ _ (by omega), hB3.at_ _ _ (HT.out.done a i ha hi)⟩
        have hz : ∀ y : Nat, y < 4294967296 → ∃ m : Nat, y % 256 = m ∧ m < 256 ∧ (m : Int) < 256 ∧ bits BinOp.and IntKind.u32 (y : Int) 255 = (m : Int) := fun y hy => ⟨_, rfl, by omega, by omega, and255 y hy⟩
        obtain ⟨x0, g0, j0, p0, a0⟩ := hz x hx4
        obtain ⟨x1, g1, j1, p1, a1⟩ := hz (x / 256) (by omega)
        obtain ⟨x2, g2, j2, p2, a2⟩ := hz (x / 65536) (by omega)
        obtain ⟨x3, g3⟩ : ∃ x3, x / 16777216 = x3 := ⟨_, rfl⟩
        have j3 : x3 < 256 := by omega
        have p3 : (x3 : Int) < 256 := by omega
        have pe : ((x : Int) / 16777216) = (x3 : Int) := by omega
        have po : ((x : Int) / 16777216).toNat = x3 := by omega
        rw [show ((x / 256 : Nat) : Int) = (x : Int) / 256 by omega] at a1
        rw [show ((x / 65536 : Nat) : Int) = (x : Int) / 65536 by omega] at a2
        have n0 : (b4.toNat : Int) < 256 := by omega
        have n1' : (b5.toNat : Int) < 256 := by omega
        have n2 : (b6.toNat : Int) < 256 := by omega
        have n3 : (b7.toNat : Int) < 256 := by omega
        obtain ⟨T0, r0, l0, t0⟩ := tl 0 b7.toNat (by omega) i3
        rw [show 0 * 256 + b7.toNat = b7.toNat by omega] at t0
        obtain ⟨T1, r1, l1, t1⟩ := tl 1 b6.toNat (by omega) i2
        rw [show 1 * 256 = 256 by omega] at t1
        obtain ⟨T2, r2, l2, t2⟩ := tl 2 b5.toNat (by omega) i1
        rw [show 2 * 256 = 512 by omega] at t2
        obtain ⟨T3, r3, l3, t3⟩ := tl 3 b4.toNat (by omega) i0
        rw [show 3 * 256 = 768 by omega] at t3
        obtain ⟨T4, r4, l4, t4⟩ := tl 4 x3 (by omega) j3
        rw [show 4 * 256 = 1024 by omega] at t4
        obtain ⟨T5, r5, l5, t5⟩ := tl 5 x2 (by omega) j2
        rw [show 5 * 256 = 1280 by omega] at t5
        obtain ⟨T6, r6, l6, t6⟩ := tl 6 x1 (by omega) j1
        rw [show 6 * 256 = 1536 by omega] at t6
        obtain ⟨T7, r7, l7, t7⟩ := tl 7 x0 (by omega) j0
        rw [show 7 * 256 = 1792 by omega] at t7
        have R0 := Lib.hid r0
        have R1 := Lib.hid r1
        have R2 := Lib.hid r2
        have R3 := Lib.hid r3
        have R4 := Lib.hid r4
        have R5 := Lib.hid r5
        have R6 := Lib.hid r6
        have R7 := Lib.hid r7
        have G := Lib.hid (show x >>> 24 = x3 ∧ (x >>> 16) % 256 = x2 ∧ (x >>> 8) % 256 = x1 ∧ x % 256 = x0 by simp only [Nat.shiftRight_eq_div_pow]; omega)
        clear r0 r1 r2 r3 r4 r5 r6 r7 tl hz g0 g1 g2 g3
        clear hB3
        go_quiet (fail)
        clear t0 t1 t2 t3 t4 t5 t6 t7 a0 a1 a2 p0 p1 p2 p3 pe po n0 n1' n2 n3 cb4 cb5 cb6 cb7
        go_wp2_with fail
        rw [xor8 T0 T1 T2 T3 T4 T5 T6 T7 l0 l1 l2 l3 l4 l5 l6 l7]
        have HS := slice8 c b0 b1 b2 b3 b4 b5 b6 b7 x HX.out.symm
        obtain ⟨e3, e2, e1, e0⟩ := G.out
        rw [e3, e2, e1, e0, R0.out, R1.out, R2.out, R3.out, R4.out, R5.out, R6.out, R7.out] at HS
        rw [← HS]
        refine ⟨⟨k + 1, by omega, ?_, ?_, m + m2 + nq, ?_⟩, by show n1 - 8 < n1; omega⟩
        · show Value.int IntKind.u32 _ = u32v _
          rw [show 8 * (k + 1) = 8 * k + 8 by omega, take8 l (8 * k) r [b0, b1, b2, b3, b4, b5, b6, b7] rfl HD.out, upd_append, HC.out]
        · show Value.slice (some ⟨gp, o1 + 8, none⟩) (n1 - 8) (cp1 - 8) = _
          rw [show o1 + 8 = o + 8 * (k + 1) by omega, show n1 - 8 = n - 8 * (k + 1) by omega, show cp1 - 8 = cp - 8 * (k + 1) by omega]
        · rw [← HW3.out, World.drewN_drewN, World.drewN_drewN, Nat.add_assoc]
      · have hy := compl c hc4
        have HQ : Rd (wo.drewN m) gp o1 (l.drop (8 * k)) := by
          have := HR.out.drop (8 * k)
          rw [ho1] at this
          exact this
        have HQ := Lib.hid HQ
        have HY := Lib.hid hy
        clear hy
        go_wp2_with fail
        rw [HY.out]
        refine (simpleUpd g gp o1 n1 cp1 (c ^^^ 4294967295) (l.drop (8 * k)) (wo.drewN m) (fun i hi => HB.out.at_ i _ (HT.out.row0 i hi)) HQ.out (by rw [List.length_drop, HL.out]; exact hn1) (by omega) (xor_lt32 _ _ hc4 (by omega))).mono ?_
        rintro e w2 ⟨rfl, rfl⟩
        go_wp2_with fail
        go_ret
        refine ⟨?_, m, rfl⟩
        show Ending.returned (u32v (upd (c ^^^ 4294967295 ^^^ 4294967295) (List.drop (8 * k) l) ^^^ 4294967295)) = _
        rw [Nat.xor_assoc, Nat.xor_self, Nat.xor_zero, HCC.out, ← HC.out, ← upd_append, List.take_append_drop]
  · go_enter Tryz.func206, Tryz.ntmps206
    by_cases h0 : n = 0
    · subst h0
      go_wp2_with fail
      go_ret
      refine ⟨?_, 0, rfl⟩
      rw [List.eq_nil_of_length_eq_zero HL.out]
      show Ending.returned (u32v c0) = Ending.returned (u32v (c0 ^^^ 4294967295 ^^^ 4294967295))
      rw [Nat.xor_assoc, Nat.xor_self, Nat.xor_zero]
    · have h0' : (n : Int) ≠ 0 := by omega
      go_wp2_with fail
      refine (simpleUpd g gp o n cp c0 l w (fun i hi => HB.out.at_ i _ (HT.out.row0 i hi)) HR.out HL.out (by omega) hc).mono ?_
      rintro e w2 ⟨rfl, rfl⟩
      go_wp2_with fail
      go_ret
      exact ⟨rfl, 0, rfl⟩
set_option maxRecDepth 100000 in
set_option maxHeartbeats 4000000 in
theorem updIEEEG (gp o n cp c0 : Nat) (l : By) (w : World) (hr : Rd w gp o l) (hl : l.length = n) (hncp : n ≤ cp) (hn4 : n ≤ 4000000000) (hn : cp ≤ 9223372036854775807) (hc : c0 < 4294967296) (hg : gp < w.heap.size) :
    Calls Tryz.prog 205 #[.int .u32 (c0 : Int), .slice (some ⟨gp, o, none⟩) n cp] w fun e w' => e = .returned (u32v (crcOf c0 l)) ∧ Fr [] w w' := by
  go_enter Tryz.func205, Tryz.ntmps205
  go_wp2_with fail
  refine (makeTab w).mono ?_
  rintro e w1 ⟨rfl, cur, hB, hT, hF⟩
  go_wp2_with fail
  refine (sliceUpdG w.heap.size gp o n cp c0 cur l w1 hB hT (hr.fr hF hg (by simp)) hl hncp hn4 hn hc).mono ?_
  rintro e w2 ⟨rfl, m, rfl⟩
  go_wp2_with fail
  go_ret
  exact ⟨rfl, hF.drewN m⟩
set_option maxRecDepth 100000 in
set_option maxHeartbeats 4000000 in
theorem hashWriteG (h : Nat) (c0 : Nat) (th : TypeId) (gp o n cp : Nat) (l : By) (w : World) (hB : Blk w h th #[.int .u32 (c0 : Int)]) (hr : Rd w gp o l) (hl : l.length = n) (hncp : n ≤ cp) (hn4 : n ≤ 4000000000) (hn : cp ≤ 9223372036854775807) (hc : c0 < 4294967296) (hg : gp < w.heap.size) (hh : h < w.heap.size) :
    Calls Tryz.prog 204 #[.pointer (some ⟨h, 0, none⟩), .slice (some ⟨gp, o, none⟩) n cp] w fun e w' => e = .returned (.tuple #[.int .i64 (n : Int), .nilIface]) ∧ Blk w' h th #[.int .u32 (crcOf c0 l : Int)] ∧ Fr [h] w w' := by
  have c0c := hB.at_ 0 _ rfl
  go_enter Tryz.func204, Tryz.ntmps204
  have HC := Lib.hid (updIEEEG gp o n cp c0 l w hr hl hncp hn4 hn hc hg)
  have HB := Lib.hid hB
  clear hr hB
  go_wp2_with fail
  refine HC.out.mono ?_
  rintro e w1 ⟨rfl, hF⟩
  have HB1 := HB.out.fr hF (by simp)
  have c1 := HB1.at_ 0 _ rfl
  have f1 := HB1.frozen 0
  have HB1 := Lib.hid HB1
  go_wp2_with fail
  go_ret2
  refine ⟨rfl, HB1.out.set_ 0 _, (hF.mono (by simp)).setCell (.inl (by simp)) _⟩
end Go.Proofs.YtalgnjkdoaaacaaGreatDoor

/- fileWriter.Write of a file that is not raw. -/
namespace Go.Proofs.YtalgnjkdoaaacaaGreatDoor
open Go Go.RowKit
open Zp
theorem PN.step {w w' : World} {base cw bw bf sb : Nat} {own own' : Option Nat} {T T' : By} {dv : Value} {L : List WR} {x : WR} {nu : Bool} {fw rc nc cc cr n v n' v' : Nat} {S : List Nat} (h : PN w base cw bw bf sb own T dv L x nu fw rc nc cc cr n v) (hC' : CW w' base cw bw bf sb own' T') (hf : Fr S w w') (ho : OwnN w own own')
    (hS : ∀ s ∈ S, s ∈ cwS cw bw bf sb own ∨ ∃ t cs, Blk w s t cs ∧ (t = 159 ∨ t = 130)) (hw' : FwN w' x.hh cw fw rc nc cc cr n' v' false) : PN w' base cw bw bf sb own' T' dv L x nu fw rc nc cc cr n' v' := by
  have hk : ∀ s ∈ S, ∃ t cs, Blk w s t cs ∧ t ≠ 151 ∧ t ≠ 153 ∧ t ≠ 78 := fun s hs => by
    rcases hS s hs with h1 | ⟨t, cs, hb, ht⟩
    · obtain ⟨t, cs, hb, hk⟩ := h.hC.typ h1
      exact ⟨t, cs, hb, by rcases hk with ⟨k, -⟩ | ⟨k, -⟩ | ⟨k, -⟩ | ⟨k, -⟩ <;> (rw [k]; decide), by rcases hk with ⟨k, -⟩ | ⟨k, -⟩ | ⟨k, -⟩ | ⟨k, -⟩ <;> (rw [k]; decide), by rcases hk with ⟨k, -⟩ | ⟨k, -⟩ | ⟨k, -⟩ | ⟨k, -⟩ <;> (rw [k]; decide)⟩
    · exact ⟨t, cs, hb, by rcases ht with k | k <;> (rw [k]; decide), by rcases ht with k | k <;> (rw [k]; decide), by rcases ht with k | k <;> (rw [k]; decide)⟩
  have hfar : FarR w cw bw bf sb own S := fun s hs => by
    rcases hS s hs with h1 | ⟨t, cs, hb, ht⟩
    · exact .inr (.inl h1)
    · exact .inr (.inr ⟨t, cs, hb, by rcases ht with k | k <;> (rw [k]; decide), by rcases ht with k | k <;> (rw [k]; decide), by rcases ht with k | k <;> (rw [k]; decide)⟩)
  refine ⟨hC', rowB_fr h.hd hf (fun s hs => ?_), fun y hy => ⟨(h.hL y hy).1.fr h.hC hf ho hfar, (h.hL y hy).2⟩, h.hx.fr hf (fun hm => ?_) (fun hm => ?_), hw', h.hnf, h.lo⟩
  · obtain ⟨t, cs, hb, h1, -, -⟩ := hk s hs
    exact rowB_ty h.hd hb h1
  · obtain ⟨t, cs, hb, -, h2, -⟩ := hk _ hm
    exact h.hx.h.ne_ hb (fun e => h2 e.symm) rfl
  · obtain ⟨t, cs, hb, -, -, h3⟩ := hk _ hm
    exact h.hx.f.ne_ hb (fun e => h3 e.symm) rfl
set_option maxRecDepth 100000 in
set_option maxHeartbeats 8000000 in
theorem fwWriteN (w : World) (base cw bw bf sb : Nat) (own : Option Nat) (T l : By) (dv : Value) (L : List WR) (x : WR) (nu : Bool) (fw rc nc cc cr n v gs o c : Nat) (h : PN w base cw bw bf sb own T dv L x nu fw rc nc cc cr n v) (hv : v < 4294967296) (hT : T.length + l.length ≤ 4000000000) (hn : n + l.length ≤ 4000000000)
    (hr : Rd w gs o l) (hgl : gs < w.heap.size) (hgo : Off gs cw bw bf sb own) (hgr : gs ≠ cr) (hlc : l.length ≤ c) (hc : c ≤ 9223372036854775807) :
    Calls Tryz.prog 203 #[.pointer (some ⟨fw, 0, none⟩), .slice (some ⟨gs, o, none⟩) l.length c] w fun e w' => ∃ own', e = .returned (.tuple #[.int .i64 (l.length : Int), .nilIface]) ∧ PN w' base cw bw bf sb own' (T ++ l) dv L x nu fw rc nc cc cr (n + l.length) (crcOf v l) ∧ OwnN w own own' ∧ Fr (cr :: rc :: cc :: cwS cw bw bf sb own) w w' := by
  have H := Lib.hid h
  have g0 := h.hw.f.at_ 0 (.pointer (some ⟨x.hh, 0, none⟩)) rfl
  have g6 := h.hw.f.at_ 6 (.bool false) rfl
  have g5 := h.hw.f.at_ 5 (.pointer (some ⟨cr, 0, none⟩)) rfl
  have r2 := h.hx.h.at_ 2 (.bool false) rfl
  have HHS := Lib.hid (hashWriteG cr v 159 gs o l.length c l w h.hw.s hr rfl hlc (by omega) hc hv hgl h.hw.s.lt)
  have hR := Lib.hid hr
  have HGO := Lib.hid hgo
  obtain ⟨LL, hL⟩ : ∃ L, l.length = L := ⟨_, rfl⟩
  have HL := Lib.hid hL
  rw [hL] at HHS ⊢
  clear h hr hgo hL
  go_enter Tryz.func203, Tryz.ntmps203
  go_wp2_with fail
  refine HHS.out.mono ?_
  rintro e w1 ⟨rfl, hs1, hf1⟩
  have hcr := H.out.hw.s
  have hocr := H.out.hC.offBlk hcr (by decide) (by decide) (by decide) (by decide)
  have hC1 := H.out.hC.fr hf1 (by simp; exact fun e => hocr.1 e.symm) (by simp; exact fun e => hocr.2.1 e.symm) (by simp; exact fun e => hocr.2.2.1 e.symm) (by simp; exact fun e => hocr.2.2.2.1 e.symm) (fun g hg => by simp; exact fun e => hocr.2.2.2.2 (by rw [hg, e]))
  have hf_1 := H.out.hw.f.fr hf1 (by simp; exact H.out.hw.f.ne_ hcr (by decide))
  have hrc1 := H.out.hw.r.fr hf1 (by simp; exact H.out.hw.r.ne_ hcr (by decide))
  have hnc1 := H.out.hw.k.fr hf1 (by simp; exact H.out.hw.k.ne_ hcr (by decide))
  have hcc1 := H.out.hw.c.fr hf1 (by simp; exact H.out.hw.c.ne_ hcr (by decide))
  have q2 := hf_1.at_ 2 (.pointer (some ⟨rc, 0, none⟩)) rfl
  have hne := H.out.hw.ne
  have hw2 := rcWrite w1 base cw bw bf sb own T l rc nc cc n gs o c _ hrc1 hnc1 hcc1 hne.2.2 hne.2.1 hne.1 hC1 hT hn (.inr ⟨rfl, hR.out.fr hf1 hgl (by simp; exact hgr), Nat.lt_of_lt_of_le hgl hf1.size, HGO.out, hlc, hc⟩)
  rw [HL.out] at hw2
  have HW2 := Lib.hid hw2
  have HS1 := Lib.hid hs1
  have HF1 := Lib.hid hf1
  have HFW1 := Lib.hid hf_1
  have HNC1 := Lib.hid hnc1
  have HC1 := Lib.hid hC1
  have HRC1 := Lib.hid hrc1
  have HCC1 := Lib.hid hcc1
  clear hs1 hf1 hf_1 hnc1 hC1 hw2 hrc1 hcc1
  go_wp2_with fail
  refine HW2.out.mono ?_
  rintro e w2 ⟨own', rfl, hc2, ho2, hf2, hcc2, hrc2⟩
  have HC2 := Lib.hid hc2
  have HO2 := Lib.hid ho2
  have HF2 := Lib.hid hf2
  have HCC2 := Lib.hid hcc2
  have HRC2 := Lib.hid hrc2
  rw [HL.out]
  clear hc2 ho2 hf2 hcc2 hrc2
  go_wp2_with fail
  go_ret2
  have hF : Fr (cr :: rc :: cc :: cwS cw bw bf sb own) w w2 := (HF1.out.mono (S' := cr :: rc :: cc :: cwS cw bw bf sb own) (by simp)).trans HF2.out (fun s hs => .inl (List.mem_cons_of_mem _ hs))
  have hO : OwnN w own own' := (show OwnN w own own from .inl rfl).trans HO2.out HF1.out.size
  have hout : ∀ g t cs, Blk w1 g t cs → t ≠ 130 → t ≠ 240 → t ≠ 95 → t ≠ 5 → g ∉ rc :: cc :: cwS cw bw bf sb own := fun g t cs hb t1 t2 t3 t4 hm => by
    rcases List.mem_cons.1 hm with h | hm
    · subst h; exact hb.ne_ HRC1.out t1 rfl
    · rcases List.mem_cons.1 hm with h | hm
      · subst h; exact hb.ne_ HCC1.out t1 rfl
      · exact (HC1.out.offBlk hb t1 t2 t4 t3).not hm
  refine ⟨own', by first | rfl | (rw [HL.out]), H.out.step HC2.out hF hO (fun s hs => ?_) ⟨HFW1.out.fr HF2.out (hout _ _ _ HFW1.out (by decide) (by decide) (by decide) (by decide)), by rw [HL.out] at HRC2; exact HRC2.out, HNC1.out.fr HF2.out (hout _ _ _ HNC1.out (by decide) (by decide) (by decide) (by decide)), by rw [HL.out] at HCC2; exact HCC2.out, HS1.out.fr HF2.out (hout _ _ _ HS1.out (by decide) (by decide) (by decide) (by decide)), hne⟩, hO, hF⟩
  rcases List.mem_cons.1 hs with h | hs
  · subst h; exact .inr ⟨_, _, hcr, .inl rfl⟩
  · rcases List.mem_cons.1 hs with h | hs
    · subst h; exact .inr ⟨_, _, H.out.hw.r, .inr rfl⟩
    · rcases List.mem_cons.1 hs with h | hs
      · subst h; exact .inr ⟨_, _, H.out.hw.c, .inr rfl⟩
      · exact .inl hs
end Go.Proofs.YtalgnjkdoaaacaaGreatDoor

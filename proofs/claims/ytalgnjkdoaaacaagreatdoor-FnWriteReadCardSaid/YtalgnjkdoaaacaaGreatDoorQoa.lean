/- findBodyOffset: where a file's content begins. -/
import Derived.Test.YtalgnjkdoaaacaaGreatDoorQnd
import Derived.Test.YtalgnjkdoaaacaaGreatDoorQp
import Derived.Test.YtalgnjkdoaaacaaGreatDoorQrb
import Derived.Lib.Hide
import Derived.LoopTactic
import Derived.Great.Walk
import Derived.Deep.Cut
import Derived.Deep.QuietTactic
import Derived.BigQuiet
set_option linter.unusedVariables false
set_option linter.unusedSimpArgs false
namespace Go.Proofs.YtalgnjkdoaaacaaGreatDoor
open Go Go.RowKit
open Zp
set_option maxRecDepth 100000 in
set_option maxHeartbeats 4000000 in
theorem fbo_ok (w : World) (f r P : Nat) (s : ByteArray) (hr : StrR w r s) (h20 : w.cell? ⟨f, 20, none⟩ = some (strRd r)) (h21 : w.cell? ⟨f, 21, none⟩ = some (.int .i64 (P : Int))) (hfl : f < w.heap.size) (hs : s.size ≤ 4000000000) (hP : P + 30 ≤ s.size)
    (hsig : num ((s.data.toList.drop P).take 4) = 67324752) :
    Calls Tryz.prog 61 #[.pointer (some ⟨f, 0, none⟩)] w fun e w' => e = .returned (.tuple #[.int .i64 ((30 + num ((s.data.toList.drop (P + 26)).take 2) + num ((s.data.toList.drop (P + 28)).take 2) : Nat) : Int), .nilIface]) ∧ Fr [] w w' := by
  have HR := Lib.hid hr
  have HS := Lib.hid hsig
  have hF1 : Fr [] w (w.alloc (.cells (zeros 30) 192)) := (Fr.refl _ _).alloc _
  have c20 := (hF1.cell (p := ⟨f, 20, none⟩) hfl (by simp)).trans h20
  have c21 := (hF1.cell (p := ⟨f, 21, none⟩) hfl (by simp)).trans h21
  have q := readAt_full r w.heap.size 0 30 30 P s (zeros 30) 192 (w.alloc (.cells (zeros 30) 192)).drew ((Blk.alloc hr _).at_ 0 _ rfl) (Blk.new _ _ _).drew (by omega) (by rw [zeros_size]; omega) hP hs
  have HQ := Lib.hid q
  have i1 : (P : Int) ≤ 4000000000 := by omega
  clear q h20 h21 hr hsig hF1
  go_enter Tryz.func61, Tryz.ntmps61
  go_wp2_with fail
  rename_i K0 hK0 K hK
  rw [show (#[.int .u8 0, .int .u8 0, .int .u8 0, .int .u8 0, .int .u8 0, .int .u8 0, .int .u8 0, .int .u8 0, .int .u8 0, .int .u8 0, .int .u8 0, .int .u8 0, .int .u8 0, .int .u8 0, .int .u8 0, .int .u8 0, .int .u8 0, .int .u8 0, .int .u8 0, .int .u8 0, .int .u8 0, .int .u8 0, .int .u8 0, .int .u8 0, .int .u8 0, .int .u8 0, .int .u8 0, .int .u8 0, .int .u8 0, .int .u8 0] : Array Value) = zeros 30 from by kernel_rfl]
  have KS := Lib.hid (show ∀ cs, (((w.alloc (.cells (zeros 30) 192)).drew).setRow w.heap.size cs).cell? ⟨f, 20, none⟩ = some (strRd r) ∧ (((w.alloc (.cells (zeros 30) 192)).drew).setRow w.heap.size cs).cell? ⟨f, 21, none⟩ = some (.int .i64 (P : Int)) from fun cs => ⟨(cell_setRow_other _ w.heap.size cs ⟨f, 20, none⟩ (by show f ≠ w.heap.size; omega)).trans c20, (cell_setRow_other _ w.heap.size cs ⟨f, 21, none⟩ (by show f ≠ w.heap.size; omega)).trans c21⟩)
  go_region_held3 (fun w' => w'.cell? ⟨f, 20, none⟩ = some (strRd r) ∧ w'.cell? ⟨f, 21, none⟩ = some (.int .i64 (P : Int)))
    ((first | exact ⟨c20, c21⟩ | exact KS.out _ | assumption))
    ((first | (go_at_call 184; (with_reducible refine HQ.out.mono ?_); rintro e w2 ⟨rfl, rfl⟩)))
  have hb : Blk (((w.alloc (.cells (zeros 30) 192)).setRow w.heap.size (spl (zeros 30) 0 ((s.data.toList.drop P).take 30))).drew) w.heap.size 192 (spl (zeros 30) 0 ((s.data.toList.drop P).take 30)) := ((Blk.new w _ _).row _).drew
  have hF : Fr [] w (((w.alloc (.cells (zeros 30) 192)).setRow w.heap.size (spl (zeros 30) 0 ((s.data.toList.drop P).take 30))).drew) := (((Fr.refl _ _).alloc _).setRow (.inr (Nat.le_refl _)) _).drew
  generalize (((w.alloc (.cells (zeros 30) 192)).setRow w.heap.size (spl (zeros 30) 0 ((s.data.toList.drop P).take 30))).drew) = w2 at *
  obtain ⟨hd, hhd⟩ : ∃ hd, (s.data.toList.drop P).take 30 = hd := ⟨_, rfl⟩
  have hl : hd.length = 30 := by rw [← hhd, List.length_take, List.length_drop, ← Lib.size_eq]; omega
  rw [hhd] at hb
  have key : ∀ k n, k + n ≤ 30 → (hd.drop k).take n = (s.data.toList.drop (P + k)).take n := fun k n h => by
    rw [← hhd, List.drop_take, List.drop_drop, List.take_take, Nat.min_eq_left (by omega)]
  have e0 := Lib.hid (show num ((hd.drop 0).take 4) = 67324752 by rw [key 0 4 (by omega), Nat.add_zero]; exact HS.out)
  obtain ⟨n, hn⟩ : ∃ n, num ((hd.drop 26).take 2) = n := ⟨_, rfl⟩
  obtain ⟨x, hx⟩ : ∃ x, num ((hd.drop 28).take 2) = x := ⟨_, rfl⟩
  have hn6 : n < 65536 := by rw [← hn]; exact num_take2 _
  have hx6 : x < 65536 := by rw [← hx]; exact num_take2 _
  have hn' := hn
  have hx' := hx
  rw [key 26 2 (by omega)] at hn'
  rw [key 28 2 (by omega)] at hx'
  have EN := Lib.hid hn'
  have EX := Lib.hid hx'
  have e26 := Lib.hid hn
  have e28 := Lib.hid hx
  have HL := Lib.hid hl
  have R0 := Lib.hid (RB.start (t' := 194) hb hl (by rw [zeros_size]; omega))
  have HF := Lib.hid hF
  have hz := hb.lt
  clear c20 c21 HQ KS hb hF hhd key hn hx hn' hx' hl
  go_wp2_with fail
  refine (rb32d _ _ _ _ _ _ _ R0.out (by rw [HL.out]; decide)).mono ?_
  rintro e w3 ⟨rfl, hn⟩
  rw [show List.take 4 hd = List.take 4 (hd.drop 0) by rfl, e0.out]
  have R1 := Lib.hid hn
  obtain ⟨ad, ce, had⟩ := hn.nx.cell
  have fe := hn.nx.free
  have hadd := had (by decide)
  subst hadd
  clear hn had
  go_wp2_with fail
  have hsk := nx_of (m := 0) (k := 22) (t := (hd.drop 4).take 22) (l := (hd.drop 4).drop 22) (a := ⟨w.heap.size, 26, none⟩) (by rw [List.take_append_drop]; exact R1.out.nx) (by rw [List.length_take, List.length_drop, HL.out]; decide) (fun _ => rfl)
  have hsk2 : Nx w3 ⟨w2.heap.size, 0, none⟩ w.heap.size 4 26 26 22 (hd.drop 26) (w3.setCell ⟨w2.heap.size, 0, none⟩ (.slice (some ⟨w.heap.size, 26, none⟩) 4 4)) := by
    rw [List.drop_drop] at hsk
    exact hsk
  have R2 := Lib.hid hsk2
  clear hsk hsk2 ce fe
  refine (rb16d _ _ _ _ _ _ _ R2.out.nx (by rw [List.length_drop, HL.out]; decide)).mono ?_
  rintro e w4 ⟨rfl, hn⟩
  rw [e26.out]
  have hn2 : Nx (w3.setCell ⟨w2.heap.size, 0, none⟩ (.slice (some ⟨w.heap.size, 26, none⟩) 4 4)) ⟨w2.heap.size, 0, none⟩ w.heap.size 26 4 4 2 (hd.drop 28) w4 := by
    rw [List.drop_drop] at hn
    exact hn
  have R3 := Lib.hid hn2
  clear hn hn2
  go_wp2_with fail
  refine (rb16d _ _ _ _ _ _ _ R3.out.nx (by rw [List.length_drop, HL.out]; decide)).mono ?_
  rintro e w5 ⟨rfl, hn⟩
  rw [e28.out]
  have R4 := Lib.hid hn
  clear hn
  go_wp2_with fail
  go_ret2
  refine ⟨?_, ?_⟩
  · show Ending.returned (.tuple #[.int .i64 (30 + (n : Int) + (x : Int)), .nilIface]) = _
    rw [EN.out, EX.out, Int.natCast_add, Int.natCast_add]; rfl
  · exact (((HF.out.alloc (.cells #[.slice (some ⟨w.heap.size, 0, none⟩) 30 30] 194)).trans R1.out.fr (by simp; omega)).trans R2.out.fr (by simp; omega)).trans (R3.out.fr.trans R4.out.fr (by simp)) (by simp; omega)
end Go.Proofs.YtalgnjkdoaaacaaGreatDoor

/- The tables of the checksum. -/
namespace Go.Proofs.YtalgnjkdoaaacaaGreatDoor
open Go Go.RowKit
open Zp
abbrev u32v (n : Nat) : Value := .int .u32 (n : Int)
theorem and1 (c : Nat) (hc : c < 4294967296) : bits BinOp.and IntKind.u32 (c : Int) 1 = ((c % 2 : Nat) : Int) := by
  have := u32_and_nat c 1 hc (by omega)
  rw [Nat.and_one_is_mod] at this
  exact this
theorem s1_odd (c : Nat) (hc : c < 4294967296) (h : c % 2 = 1) : bits BinOp.xor IntKind.u32 ((c : Int) / 2) 3988292384 = ((s1 c : Nat) : Int) := by
  have := u32_xor_nat (c / 2) 3988292384 (by omega) (by omega)
  rw [show ((c : Int) / 2) = ((c / 2 : Nat) : Int) by omega]
  refine Eq.trans this ?_
  unfold s1
  rw [if_pos h, Nat.shiftRight_eq_div_pow]
theorem s1_even (c : Nat) (h : ¬ c % 2 = 1) : (c : Int) / 2 = ((s1 c : Nat) : Int) := by
  unfold s1
  rw [if_neg h, Nat.xor_zero, Nat.shiftRight_eq_div_pow]; omega
set_option maxRecDepth 100000 in
set_option maxHeartbeats 4000000 in
theorem popTable (g : Nat) (t : TypeId) (cur : Array Value) (w : World) (hg : Blk w g t cur) (hsz : 256 ≤ cur.size) (hone : ∀ i, i < 256 → ∃ n : Int, cur[i]? = some (.int .u32 n)) :
    Calls Tryz.prog 210 #[.int .u32 3988292384, .pointer (some ⟨g, 0, none⟩)] w fun e w' => e = .returned (.tuple #[]) ∧ ∃ cur', Blk w' g t cur' ∧ cur'.size = cur.size ∧ (∀ i, i < 256 → cur'[i]? = some (u32v (tb 0 i))) ∧ (∀ i, 256 ≤ i → cur'[i]? = cur[i]?) ∧ Fr [g] w w' ∧ w'.heap.size = w.heap.size := by
  have HG := Lib.hid hg
  have HO := Lib.hid hone
  clear hg hone
  go_enter Tryz.func210, Tryz.ntmps210
  go_wp2_with fail
  go_loopw [4, 5, 6] (fun v4 _ _ wr => ∃ k : Nat, k ≤ 256 ∧ v4 = .int .i64 (k : Int) ∧ ∃ cur', Blk wr g t cur' ∧ cur'.size = cur.size ∧ (∀ i, i < k → cur'[i]? = some (u32v (tb 0 i))) ∧ (∀ i, k ≤ i → cur'[i]? = cur[i]?) ∧ Fr [g] w wr ∧ wr.heap.size = w.heap.size) (fun v4 _ _ _ => 256 - (intOf v4).toNat)
  case atStart => exact ⟨0, by omega, rfl, cur, HG.out, rfl, fun i h => by omega, fun _ _ => rfl, Fr.refl _ _, rfl⟩
  case round =>
    obtain ⟨k, hk, rfl, cur', hb, hcs, h1, h2, hf, hz⟩ := hrel
    have HB := Lib.hid hb
    have HR := Lib.hid (And.intro hcs (And.intro h1 (And.intro h2 (And.intro hf hz))))
    clear hb hcs h1 h2 hf hz
    by_cases hlt : k < 256
    · go_wp2_with fail
      obtain ⟨n0, hn0⟩ := HO.out k hlt
      have ck := HB.out.at_ k _ ((HR.out.2.2.1 k (Nat.le_refl _)).trans hn0)
      have fk := HB.out.frozen k
      clear hn0
      obtain ⟨wo, rfl⟩ : ∃ wo : World, wo = wr := ⟨_, rfl⟩
      go_loop [5, 6] (fun v5 v6 => ∃ j : Nat, j ≤ 8 ∧ v6 = .int .i64 (j : Int) ∧ v5 = .int .u32 ((sn j k : Nat) : Int)) (fun _ v6 => 8 - (intOf v6).toNat)
      case atStart => exact ⟨0, by omega, rfl, by simp [sn]⟩
      case round =>
        obtain ⟨j, hj, rfl, rfl⟩ := hrel
        obtain ⟨c, hc⟩ : ∃ c, sn j k = c := ⟨_, rfl⟩
        have hc4 : c < 4294967296 := by rw [← hc]; exact sn_lt j (by omega)
        have HC := Lib.hid hc
        have HA := and1 c hc4
        rw [hc]
        clear hc
        by_cases hj8 : j < 8
        · by_cases hodd : c % 2 = 1
          · have t1 : (bits BinOp.and IntKind.u32 (c : Int) 1 == 1) = true := by rw [HA]; simp; omega
            clear HA
            have HO1 := Lib.hid (s1_odd c hc4 hodd)
            clear hodd
            go_wp2_with fail
            exact ⟨⟨j + 1, by omega, by rw [Int.natCast_add]; rfl, by rw [HO1.out, sn_succ', HC.out]⟩, by simp [intOf]; omega⟩
          · have t1 : (bits BinOp.and IntKind.u32 (c : Int) 1 == 1) = false := by rw [HA]; simp; omega
            clear HA
            have HO1 := Lib.hid (s1_even c hodd)
            clear hodd
            go_wp2_with fail
            exact ⟨⟨j + 1, by omega, by rw [Int.natCast_add]; rfl, by rw [HO1.out, sn_succ', HC.out]⟩, by simp [intOf]; omega⟩
        · obtain rfl : j = 8 := by omega
          clear HA
          go_wp2_with fail
          have hcs := HR.out.1
          refine ⟨⟨k + 1, by omega, by rw [Int.natCast_add]; rfl, cur'.setIfInBounds k (.int .u32 (c : Int)), HB.out.set_ k _, by rw [Array.size_setIfInBounds]; exact hcs, ?_, ?_, HR.out.2.2.2.1.setCell (.inl (by simp)) _, by simpa [World.setCell] using HR.out.2.2.2.2⟩, by simp [intOf]; omega⟩
          · intro i hi
            by_cases hik : i = k
            · subst hik
              rw [Array.getElem?_setIfInBounds_self_of_lt (by omega), ← HC.out]; rfl
            · rw [Array.getElem?_setIfInBounds_ne (by omega)]; exact HR.out.2.1 i (by omega)
          · intro i hi
            rw [Array.getElem?_setIfInBounds_ne (by omega)]; exact HR.out.2.2.1 i (by omega)
    · go_wp2_with fail
      go_end0
      obtain rfl : k = 256 := by omega
      exact ⟨rfl, cur', HB.out, HR.out⟩
end Go.Proofs.YtalgnjkdoaaacaaGreatDoor

/- The eight tables of the checksum. -/
namespace Go.Proofs.YtalgnjkdoaaacaaGreatDoor
open Go Go.RowKit
open Zp
/-- A new row of numbers. -/
def zeros32 (n : Nat) : Array Value := madeCells #[.int .u32 0] n
theorem zeros32_size (n : Nat) : (zeros32 n).size = n := size_madeCells _ _
theorem zeros32_get (n i : Nat) (h : i < n) : (zeros32 n)[i]? = some (.int .u32 0) := by
  simp [zeros32, madeCells, h, Nat.mod_one]
theorem and255 (c : Nat) (hc : c < 4294967296) : bits BinOp.and IntKind.u32 (c : Int) 255 = ((c % 256 : Nat) : Int) := by
  have := u32_and_nat c 255 hc (by omega)
  rw [show (255 : Nat) = 2 ^ 8 - 1 by decide, Nat.and_two_pow_sub_one_eq_mod] at this
  exact this
/-- The tables' cells: those of the columns below k are filled, of column k the rows below j. -/
structure Tabs (cur : Array Value) (k j : Nat) : Prop where
  size : cur.size = 2048
  row0 : ∀ i, i < 256 → cur[i]? = some (u32v (tb 0 i))
  done : ∀ a i, a < 8 → i < k → cur[a * 256 + i]? = some (u32v (tb a i))
  col : ∀ a, a < j → k < 256 → cur[a * 256 + k]? = some (u32v (tb a k))
  nums : ∀ p, p < 2048 → ∃ n : Int, cur[p]? = some (.int .u32 n)
theorem Tabs.put {cur : Array Value} {k j : Nat} (h : Tabs cur k j) (hj : 1 ≤ j) (hj8 : j < 8) (hk : k < 256) : Tabs (cur.setIfInBounds (j * 256 + k) (u32v (tb j k))) k (j + 1) := by
  have hs := h.size
  have hp : j * 256 + k < cur.size := by omega
  have hne : ∀ p, p ≠ j * 256 + k → (cur.setIfInBounds (j * 256 + k) (u32v (tb j k)))[p]? = cur[p]? := fun p hp => Array.getElem?_setIfInBounds_ne (by omega)
  refine ⟨by simp [hs], fun i hi => (hne i (by omega)).trans (h.row0 i hi), fun a i ha hi => (hne _ (by omega)).trans (h.done a i ha hi), fun a ha _ => ?_, fun p hp2 => ?_⟩
  · by_cases haj : a = j
    · subst haj; exact Array.getElem?_setIfInBounds_self_of_lt hp
    · exact (hne _ (by omega)).trans (h.col a (by omega) hk)
  · by_cases hpj : p = j * 256 + k
    · subst hpj; exact ⟨_, Array.getElem?_setIfInBounds_self_of_lt hp⟩
    · rw [hne p hpj]; exact h.nums p hp2
theorem Tabs.next {cur : Array Value} {k : Nat} (h : Tabs cur k 8) (hk : k < 256) : Tabs cur (k + 1) 1 :=
  ⟨h.size, h.row0, fun a i ha hi => by
    by_cases hik : i = k
    · subst hik; exact h.col a ha hk
    · exact h.done a i ha (by omega), fun a ha hk1 => by
    obtain rfl : a = 0 := by omega
    rw [Nat.zero_mul, Nat.zero_add]; exact h.row0 _ hk1, h.nums⟩
theorem tb_lt (j i : Nat) (hi : i < 4294967296) : tb j i < 4294967296 := sn_lt _ (by omega)
theorem tb_step (j k c m : Nat) (hj : 1 ≤ j) (hk : k < 256) (hc : tb (j - 1) k = c) (hm : c % 256 = m) : bits BinOp.xor IntKind.u32 ((tb 0 m : Nat) : Int) ((c : Int) / 256) = ((tb j k : Nat) : Int) := by
  have hc4 : c < 4294967296 := by rw [← hc]; exact tb_lt _ _ (by omega)
  have h := u32_xor_nat (tb 0 m) (c / 256) (tb_lt _ _ (by omega)) (by omega)
  rw [show ((c : Int) / 256) = ((c / 256 : Nat) : Int) by omega]
  refine Eq.trans h ?_
  obtain ⟨j', rfl⟩ : ∃ j', j = j' + 1 := ⟨j - 1, by omega⟩
  rw [Nat.add_sub_cancel] at hc
  rw [tb_succ, hc, hm, Nat.shiftRight_eq_div_pow]
abbrev tabT : Nat := 342
def isZ : Value → Bool
  | .int .u32 0 => true
  | _ => false
theorem isZ_eq {v : Value} (h : isZ v = true) : v = .int .u32 0 := by
  unfold isZ at h
  split at h
  · rfl
  · cases h
def allZ : List Value → Nat → Bool
  | [], n => n == 0
  | v :: l, n => match isZ v with
    | true => allZ l (n - 1)
    | false => false
theorem allZ_eq {l : List Value} : ∀ {n : Nat}, l.length ≤ n → allZ l n = true → l = List.replicate n (.int .u32 0) := by
  induction l with
  | nil => intro n _ h; simp [allZ] at h; subst h; rfl
  | cons v l ih =>
    intro n hn h
    unfold allZ at h
    split at h
    · rename_i hv
      obtain ⟨m, rfl⟩ : ∃ m, n = m + 1 := ⟨n - 1, by simp at hn; omega⟩
      rw [isZ_eq hv, List.replicate_succ, ih (n := m + 1 - 1) (by simp at hn; omega) h]; rfl
    · cases h
theorem infoTab1 : Tryz.prog.info? tabT = some Tryz.t342 := by kernel_rfl
theorem infoTab2 : (match Tryz.t342.zero with | some (.agg cs) => (allZ cs.toList 2048 && cs.toList.length == 2048) | _ => false) = true := by kernel_rfl
theorem allocTab (ρ : Operand → Value) (W : World) (d : Option Tmp) (ty : TypeId) (pos : String) (af : Array Edge) : (execOp ρ { dst := d, op := .alloc tabT, type := ty, pos := pos, after := af, guard := none }).run Tryz.prog W = .ok (.value (.pointer (some ⟨W.heap.size, 0, none⟩))) (W.alloc (.cells (zeros32 2048) tabT)) := by
  have h := infoTab2
  have hi := infoTab1
  generalize Tryz.t342 = i at h hi
  split at h
  · rename_i cs hz
    simp only [Bool.and_eq_true, beq_iff_eq] at h
    have hc : cs = zeros32 2048 := by
      have e1 := allZ_eq (by omega) h.1
      apply Array.ext_getElem?
      intro k
      rw [← Array.getElem?_toList, e1]
      by_cases hk : k < 2048
      · rw [zeros32_get 2048 k hk, List.getElem?_replicate_of_lt hk]
      · rw [Array.getElem?_eq_none (xs := zeros32 2048) (by rw [zeros32_size]; omega), List.getElem?_eq_none (by rw [List.length_replicate]; omega)]
    unfold execOp
    simp [Instr.alloc, zeroValue, typeInfo, hi, hz, newVar, newRow, Value.cells, hc]
  · cases h
set_option maxRecDepth 100000 in
set_option maxHeartbeats 4000000 in
theorem makeTab (w : World) : Calls Tryz.prog 207 #[.int .u32 3988292384] w fun e w' => e = .returned (.pointer (some ⟨w.heap.size, 0, none⟩)) ∧ ∃ cur, Blk w' w.heap.size tabT cur ∧ Tabs cur 256 1 ∧ Fr [] w w' := by
  go_enter Tryz.func207, Tryz.ntmps207
  go_upto_region 1 with fail
  rename_i K hK
  refine wp_region_list ?_
  change wpList _ _ _ [_, _] _ _
  refine Go.Great.wpList_runTo rfl (some 7) rfl _ _ (allocTab _ _ _ _ _ _) ?_
  have hB0 := Blk.new w tabT (zeros32 2048)
  have hF0 : Fr [] w (w.alloc (.cells (zeros32 2048) tabT)) := (Fr.refl _ _).alloc _
  obtain ⟨w1, hw1⟩ : ∃ w1, w.alloc (.cells (zeros32 2048) tabT) = w1 := ⟨_, rfl⟩
  rw [hw1] at hB0 hF0 ⊢
  clear hw1
  go_wp2_with fail
  refine (popTable w.heap.size tabT (zeros32 2048) w1 hB0 (by rw [zeros32_size]; omega) (fun i hi => ⟨0, zeros32_get 2048 i (by omega)⟩)).mono ?_
  rintro e w2 ⟨rfl, cur, hB, hcs, hr0, hrest, hf, hz⟩
  have hT0 : Tabs cur 0 1 := ⟨by rw [hcs, zeros32_size], hr0, fun a i _ hi => by omega, fun a ha hk => by
    obtain rfl : a = 0 := by omega
    exact hr0 0 (by omega), fun p hp => by
    by_cases hp6 : p < 256
    · exact ⟨_, hr0 p hp6⟩
    · exact ⟨0, (hrest p (by omega)).trans (zeros32_get 2048 p hp)⟩⟩
  have HF2 := Lib.hid (hF0.trans hf (by simp))
  have HB2 := Lib.hid hB
  have HT2 := Lib.hid hT0
  clear hB0 hF0 hB hcs hr0 hrest hf hz hT0
  go_wp2_with fail
  go_loopw [4, 5, 6] (fun v4 _ _ wr => ∃ k : Nat, k ≤ 256 ∧ v4 = .int .i64 (k : Int) ∧ ∃ cur', Blk wr w.heap.size tabT cur' ∧ Tabs cur' k 1 ∧ Fr [] w wr) (fun v4 _ _ _ => 256 - (intOf v4).toNat)
  case atStart => exact ⟨0, by omega, rfl, cur, HB2.out, HT2.out, HF2.out⟩
  case round =>
    obtain ⟨k, hk, rfl, cur', hb, hT, hf⟩ := hrel
    have HB := Lib.hid hb
    have HT := Lib.hid hT
    have HF := Lib.hid hf
    by_cases hlt : k < 256
    · have ck := hb.at_ k _ (hT.row0 k hlt)
      clear hb hT hf
      go_wp2_with fail
      obtain ⟨wo, rfl⟩ : ∃ wo : World, wo = wr := ⟨_, rfl⟩
      go_loopw [5, 6] (fun v5 v6 wr2 => ∃ j : Nat, 1 ≤ j ∧ j ≤ 8 ∧ v6 = .int .i64 (j : Int) ∧ v5 = u32v (tb (j - 1) k) ∧ ∃ cur2, Blk wr2 w.heap.size tabT cur2 ∧ Tabs cur2 k j ∧ Fr [] w wr2) (fun _ v6 _ => 8 - (intOf v6).toNat)
      case atStart => exact ⟨1, by omega, by omega, rfl, rfl, cur', HB.out, HT.out, HF.out⟩
      case round =>
        obtain ⟨j, hj1, hj8, rfl, rfl, cur2, hb2, hT2, hf2⟩ := hrel
        obtain ⟨c, hc⟩ : ∃ c, tb (j - 1) k = c := ⟨_, rfl⟩
        have hc4 : c < 4294967296 := by rw [← hc]; exact tb_lt _ _ (by omega)
        have HC := Lib.hid hc
        unfold u32v
        rw [hc]
        clear hc ck
        by_cases hj : j < 8
        · obtain ⟨m, hm⟩ : ∃ m, c % 256 = m := ⟨_, rfl⟩
          have hm6 : m < 256 := by omega
          have HA := and255 c hc4
          rw [hm] at HA
          have HM := Lib.hid (tb_step j k c m hj1 hlt HC.out hm)
          have cm := hb2.at_ m _ (hT2.row0 m hm6)
          obtain ⟨n0, hn0⟩ := hT2.nums (j * 256 + k) (by omega)
          have cj := hb2.at_ (j * 256 + k) _ hn0
          have fj := hb2.frozen (j * 256 + k)
          have HB2 := Lib.hid hb2
          have HT2 := Lib.hid hT2
          have HF2 := Lib.hid hf2
          clear hm hn0 hb2 hT2 hf2
          go_wp2_with fail
          rw [HM.out]
          exact ⟨⟨j + 1, by omega, by omega, by rw [Int.natCast_add]; rfl, rfl, _, HB2.out.set_ (j * 256 + k) (u32v (tb j k)), HT2.out.put hj1 hj hlt, HF2.out.setCell (.inr (Nat.le_refl _)) _⟩, by simp [intOf]; omega⟩
        · have HB2 := Lib.hid hb2
          have HT2 := Lib.hid hT2
          have HF2 := Lib.hid hf2
          clear hb2 hT2 hf2
          go_wp2_with fail
          obtain rfl : j = 8 := by omega
          exact ⟨⟨k + 1, by omega, by rw [Int.natCast_add]; rfl, cur2, HB2.out, HT2.out.next hlt, HF2.out⟩, by simp [intOf]; omega⟩
    · clear hb hT hf
      go_wp2_with fail
      go_ret
      obtain rfl : k = 256 := by omega
      exact ⟨rfl, cur', HB.out, HT.out, HF.out⟩
end Go.Proofs.YtalgnjkdoaaacaaGreatDoor

/- The checksum of a slice of bytes. -/
namespace Go.Proofs.YtalgnjkdoaaacaaGreatDoor
open Go Go.RowKit
open Zp
theorem take_snocB (l : By) (k : Nat) (b : UInt8) (h : l[k]? = some b) : l.take (k + 1) = l.take k ++ [b] := by
  rw [List.take_add_one, h]; rfl
theorem compl (c : Nat) (hc : c < 4294967296) : bits BinOp.xor IntKind.u32 IntKind.u32.max (c : Int) = ((c ^^^ 4294967295 : Nat) : Int) := by
  have h := u32_xor_nat 4294967295 c (by omega) hc
  rw [Nat.xor_comm c]
  exact h
theorem xor_lt32 (a b : Nat) (ha : a < 4294967296) (hb : b < 4294967296) : a ^^^ b < 4294967296 := Nat.xor_lt_two_pow (n := 32) ha hb
/-- One byte's step by the table. -/
theorem tab_step (c : Nat) (b : UInt8) (hc : c < 4294967296) (m : Nat) (hm : (c % 256) ^^^ b.toNat = m) : bits BinOp.xor IntKind.u32 ((tb 0 m : Nat) : Int) ((c : Int) / 256) = ((sn 8 (c ^^^ b.toNat) : Nat) : Int) := by
  have hb := b.toNat_lt
  have hm2 : m < 256 := by rw [← hm]; exact Nat.xor_lt_two_pow (n := 8) (by omega) hb
  have h := u32_xor_nat (tb 0 m) (c / 256) (tb_lt _ _ (by omega)) (by omega)
  rw [show ((c : Int) / 256) = ((c / 256 : Nat) : Int) by omega]
  refine Eq.trans h ?_
  have e1 : (c ^^^ b.toNat) % 256 = m := by
    rw [← hm, show (256 : Nat) = 2 ^ 8 by decide, Nat.xor_mod_two_pow, Nat.mod_eq_of_lt (show b.toNat < 2 ^ 8 from hb)]
  have e2 : (c ^^^ b.toNat) >>> 8 = c / 256 := by
    rw [Nat.shiftRight_xor_distrib, Nat.shiftRight_eq_div_pow, Nat.shiftRight_eq_div_pow, Nat.div_eq_of_lt (show b.toNat < 2 ^ 8 from hb), Nat.xor_zero]
  rw [s8_table, e1, e2]
  rfl
theorem u8idx (c : Nat) (b : UInt8) (m : Nat) (hm : (c % 256) ^^^ b.toNat = m) : bits BinOp.xor IntKind.u8 ((c : Int) % 256) (b.toNat : Int) = (m : Int) := by
  rw [show ((c : Int) % 256) = ((c % 256 : Nat) : Int) by omega]
  have h := u8_xor_nat (c % 256) b.toNat (by omega) b.toNat_lt
  rw [hm] at h
  exact h
set_option maxRecDepth 100000 in
set_option maxHeartbeats 4000000 in
theorem simpleUpd (g gp o n cp c0 : Nat) (l : By) (w : World) (ht : ∀ i, i < 256 → w.cell? ⟨g, i, none⟩ = some (u32v (tb 0 i))) (hr : Rd w gp o l) (hl : l.length = n) (hn : n ≤ 4000000000) (hc : c0 < 4294967296) :
    Calls Tryz.prog 209 #[.int .u32 (c0 : Int), .pointer (some ⟨g, 0, none⟩), .slice (some ⟨gp, o, none⟩) n cp] w fun e w' => e = .returned (u32v (upd (c0 ^^^ 4294967295) l ^^^ 4294967295)) ∧ w = w' := by
  have HT := Lib.hid ht
  have HR := Lib.hid hr
  have HL := Lib.hid hl
  clear ht hr hl
  have hsg : IntKind.u32.signed = false := rfl
  obtain ⟨C, hC⟩ : ∃ C, c0 ^^^ 4294967295 = C := ⟨_, rfl⟩
  have hC4 : C < 4294967296 := by rw [← hC]; exact xor_lt32 _ _ hc (by omega)
  have hx := compl c0 hc
  rw [hC] at hx ⊢
  clear hC
  go_enter Tryz.func209, Tryz.ntmps209
  go_wp2_with fail
  clear hx
  go_loop [0, 8, 13] (fun v0 _ v13 => ∃ k : Nat, k ≤ n ∧ v13 = .int .i64 (k : Int) ∧ v0 = u32v (upd C (l.take k))) (fun _ _ v13 => n - (intOf v13).toNat)
  case atStart => exact ⟨0, by omega, rfl, rfl⟩
  case round =>
    obtain ⟨k, hk, rfl, rfl⟩ := hrel
    obtain ⟨c, hc1⟩ : ∃ c, upd C (l.take k) = c := ⟨_, rfl⟩
    have hc4 : c < 4294967296 := by rw [← hc1]; exact upd_lt hC4 _
    have HC := Lib.hid hc1
    unfold u32v
    rw [hc1]
    clear hc1
    by_cases hlt : k < n
    · obtain ⟨b, hb⟩ : ∃ b, l[k]? = some b := ⟨l[k]'(by rw [HL.out]; exact hlt), List.getElem?_eq_getElem _⟩
      have cb := HR.out k b hb
      have HB := Lib.hid (take_snocB l k b hb)
      obtain ⟨m, hm⟩ : ∃ m, (c % 256) ^^^ b.toNat = m := ⟨_, rfl⟩
      have hm6 : m < 256 := by rw [← hm]; exact Nat.xor_lt_two_pow (n := 8) (by omega) b.toNat_lt
      have HST := Lib.hid (tab_step c b hc4 m hm)
      have hix := u8idx c b m hm
      have ct := HT.out m hm6
      clear hb hm
      go_wp2_with fail
      rw [HST.out]
      exact ⟨⟨k + 1, by omega, by rw [Int.natCast_add]; rfl, by rw [HB.out, upd_append, HC.out]; rfl⟩, by simp [intOf]; omega⟩
    · have HX := Lib.hid (compl c hc4)
      obtain rfl : k = n := by omega
      go_wp2_with fail
      go_ret
      refine ⟨?_, rfl⟩
      rw [show upd C l = c by rw [← HC.out, List.take_of_length_le (by rw [HL.out]; omega)]]
      show Ending.returned (.int .u32 (bits BinOp.xor IntKind.u32 IntKind.u32.max (c : Int))) = _
      rw [HX.out]
end Go.Proofs.YtalgnjkdoaaacaaGreatDoor

/- The checksum by slices of eight. -/
namespace Go.Proofs.YtalgnjkdoaaacaaGreatDoor
open Go Go.RowKit
open Zp
def le4 (b0 b1 b2 b3 : UInt8) : Nat := b0.toNat ^^^ (b1.toNat <<< 8) ^^^ (b2.toNat <<< 16) ^^^ (b3.toNat <<< 24)
theorem or_shift (a b k : Nat) (h : a < 2 ^ k) : a ||| (b <<< k) = a ^^^ (b <<< k) := by
  apply Nat.eq_of_testBit_eq
  intro i
  rw [Nat.testBit_or, Nat.testBit_xor, Nat.testBit_shiftLeft]
  by_cases hi : k ≤ i
  · have : a.testBit i = false := Nat.testBit_lt_two_pow (Nat.lt_of_lt_of_le h (Nat.pow_le_pow_right (by omega) hi))
    simp [this]
  · simp [hi]
theorem le4_lt (b0 b1 b2 b3 : UInt8) : le4 b0 b1 b2 b3 < 4294967296 := by
  have h0 := b0.toNat_lt
  have h1 := b1.toNat_lt
  have h2 := b2.toNat_lt
  have h3 := b3.toNat_lt
  unfold le4
  refine xor_lt32 _ _ (xor_lt32 _ _ (xor_lt32 _ _ (by omega) ?_) ?_) ?_ <;> (rw [Nat.shiftLeft_eq]; omega)
theorem orLE4 (b0 b1 b2 b3 : UInt8) : bits BinOp.or IntKind.u32 (bits BinOp.or IntKind.u32 (bits BinOp.or IntKind.u32 (b0.toNat : Int) ((b1.toNat : Int) * 256)) ((b2.toNat : Int) * 65536)) ((b3.toNat : Int) * 16777216) = ((le4 b0 b1 b2 b3 : Nat) : Int) := by
  have h0 := b0.toNat_lt
  have h1 := b1.toNat_lt
  have h2 := b2.toNat_lt
  have h3 := b3.toNat_lt
  have s1 : b1.toNat <<< 8 < 2 ^ 16 := by rw [Nat.shiftLeft_eq]; omega
  have s2 : b2.toNat <<< 16 < 2 ^ 24 := by rw [Nat.shiftLeft_eq]; omega
  have s3 : b3.toNat <<< 24 < 2 ^ 32 := by rw [Nat.shiftLeft_eq]; omega
  have x1 : b0.toNat ^^^ (b1.toNat <<< 8) < 2 ^ 16 := Nat.xor_lt_two_pow (by omega) s1
  have x2 : b0.toNat ^^^ (b1.toNat <<< 8) ^^^ (b2.toNat <<< 16) < 2 ^ 24 := Nat.xor_lt_two_pow (Nat.lt_of_lt_of_le x1 (by decide)) s2
  have e1 : (b1.toNat : Int) * (256 : Int) = ((b1.toNat <<< 8 : Nat) : Int) := by rw [Nat.shiftLeft_eq]; omega
  have e2 : (b2.toNat : Int) * (65536 : Int) = ((b2.toNat <<< 16 : Nat) : Int) := by rw [Nat.shiftLeft_eq]; omega
  have e3 : (b3.toNat : Int) * (16777216 : Int) = ((b3.toNat <<< 24 : Nat) : Int) := by rw [Nat.shiftLeft_eq]; omega
  rw [e1, e2, e3]
  rw [u32_or_nat _ _ (by omega) (by omega), or_shift _ _ 8 h0, u32_or_nat _ _ (by omega) (by omega), or_shift _ _ 16 x1, u32_or_nat _ _ (by omega) (by omega), or_shift _ _ 24 x2]
  rfl
set_option maxRecDepth 100000 in
set_option maxHeartbeats 4000000 in
theorem leU32c (g o n c : Nat) (b0 b1 b2 b3 : UInt8) (w : World) (h4 : 4 ≤ n) (hc : Rd w g o [b0, b1, b2, b3]) :
    Calls Tryz.prog 208 #[.slice (some ⟨g, o, none⟩) n c] w fun e w' => e = .returned (u32v (le4 b0 b1 b2 b3)) ∧ ∃ m, w' = w.drewN m := by
  have c0 := hc.head
  have c1 := hc 1 b1 rfl
  have c2 := hc 2 b2 rfl
  have c3 := hc 3 b3 rfl
  have h3 : (3 : Int) < (n : Int) := by omega
  have h2 : (2 : Int) < (n : Int) := by omega
  have h1 : (1 : Int) < (n : Int) := by omega
  have h0 : (0 : Int) < (n : Int) := by omega
  clear hc
  go_enter Tryz.func208, Tryz.ntmps208
  go_wp2_with fail
  go_quiet (fail)
  go_wp2_with fail
  go_ret
  refine ⟨?_, _, rfl⟩
  have l0 := b0.toNat_lt
  have l1 := b1.toNat_lt
  have l2 := b2.toNat_lt
  have l3 := b3.toNat_lt
  have e0 : (b0.toNat : Int) % 4294967296 = (b0.toNat : Int) := by omega
  have e1 : (b1.toNat : Int) % 4294967296 * 256 % 4294967296 = (b1.toNat : Int) * 256 := by omega
  have e2 : (b2.toNat : Int) % 4294967296 * 65536 % 4294967296 = (b2.toNat : Int) * 65536 := by omega
  have e3 : (b3.toNat : Int) % 4294967296 * 16777216 % 4294967296 = (b3.toNat : Int) * 16777216 := by omega
  show Ending.returned (.int .u32 (bits BinOp.or IntKind.u32 (bits BinOp.or IntKind.u32 (bits BinOp.or IntKind.u32 ((b0.toNat : Int) % 4294967296) ((b1.toNat : Int) % 4294967296 * 256 % 4294967296)) ((b2.toNat : Int) % 4294967296 * 65536 % 4294967296)) ((b3.toNat : Int) % 4294967296 * 16777216 % 4294967296))) = _
  rw [e0, e1, e2, e3, orLE4]
end Go.Proofs.YtalgnjkdoaaacaaGreatDoor

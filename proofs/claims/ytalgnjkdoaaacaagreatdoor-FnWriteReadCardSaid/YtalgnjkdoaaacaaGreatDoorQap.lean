/- Append of bytes to a row of the call's own. -/
import Derived.Test.YtalgnjkdoaaacaaGreatDoorQp
import Derived.Test.YtalgnjkdoaaacaaGreatDoorQoa
import Derived.Laws.OwnMore
import Derived.Laws.AppendOwn
import Derived.Great.Walk
import Derived.Test.YtalgnjkdoaaacaaGreatDoorQok
set_option linter.unusedVariables false
set_option linter.unusedSimpArgs false
namespace Go.Proofs.YtalgnjkdoaaacaaGreatDoor
open Go Go.RowKit
open Zp
/-- These bytes stand in a row of their own, which is none of the blocks of G. -/
def OB (w : World) (base gb : Nat) (v : Value) (l : By) : Prop :=
  ∃ g cap cur, v = .slice (some ⟨g, 0, none⟩) l.length cap ∧ base ≤ g ∧ g ≠ gb ∧ Blk w g 5 cur ∧ l.length ≤ cap ∧ cap ≤ maxLen ∧ cur.size = cap ∧ cur.toList.take l.length = l.map vb
theorem infoU8 : (Tryz.prog.info? 5).map (fun i => (i.zero, i.size, i.bytes)) = some (some (Value.int IntKind.u8 0), 1, 1) := by kernel_rfl
theorem append_room (w : World) (base gb : Nat) (v : Value) (l m : By) (gs o c : Nat) (hv : OB w base gb v l) (hr : Rd w gs o m) (hm : ∀ g cap, v = .slice (some ⟨g, 0, none⟩) l.length cap → l.length + m.length ≤ cap) (hl : l.length + m.length ≤ 4000000000) :
    ∃ v' w', (Builtin.append_ #[76, 76] 76 #[v, .slice (some ⟨gs, o, none⟩) m.length c]).run Tryz.prog w = .ok v' w' ∧ OB w' base gb v' (l ++ m) ∧ ∃ g, base ≤ g ∧ g ≠ gb ∧ Fr [g] w w' := by
  obtain ⟨g, cap, cur, rfl, h1, h2, h3, h4, h5, h6, h7⟩ := hv
  obtain ⟨i, hi, hzz⟩ := Option.map_eq_some_iff.1 infoU8
  simp only [Prod.mk.injEq] at hzz
  obtain ⟨hz, hsz, hby⟩ := hzz
  have hroom := hm g cap rfl
  have hrr := run_append_room (P := Tryz.prog) (w := w) 76 76 5 i Tryz.underlying76 hi g l.length cap cur h3 ⟨gs, o, none⟩ m.length c (m.map vb) (by rw [List.length_map, hsz, Nat.mul_one]) (fun j u hj => by
    rw [List.getElem?_map] at hj
    obtain ⟨b, hb, rfl⟩ := Option.map_eq_some_iff.1 hj
    rw [Addr.add_lit]
    exact hr j b hb) (fun u hu => by
    obtain ⟨b, _, rfl⟩ := List.mem_map.1 hu
    rfl) hroom (by rw [List.length_map, hsz, Nat.mul_one, h6]; exact hroom)
  refine ⟨_, _, hrr, ?_, g, h1, h2, (Fr.refl _ _).setRow (.inl (by simp)) _⟩
  refine ⟨g, cap, _, by rw [List.length_append], h1, h2, h3.row _, by rw [List.length_append]; exact hroom, h5, ?_, ?_⟩
  · rw [hsz, Nat.mul_one, h7]; simp [h6]; omega
  · rw [hsz, Nat.mul_one, h7, ← List.map_append, ← List.length_map (f := vb), List.take_left']
    rfl
theorem append_grow (w : World) (base gb : Nat) (v : Value) (l m : By) (gs o c : Nat) (hv : OB w base gb v l) (hr : Rd w gs o m) (hm : ∀ g cap, v = .slice (some ⟨g, 0, none⟩) l.length cap → cap < l.length + m.length) (hl : l.length + m.length ≤ 4000000000) (hb : base ≤ w.heap.size) (hgb : gb < w.heap.size) :
    ∃ v' w', (Builtin.append_ #[76, 76] 76 #[v, .slice (some ⟨gs, o, none⟩) m.length c]).run Tryz.prog w = .ok v' w' ∧ OB w' base gb v' (l ++ m) ∧ ∃ g, base ≤ g ∧ g ≠ gb ∧ Fr [g] w w' := by
  obtain ⟨g, cap, cur, rfl, h1, h2, h3, h4, h5, h6, h7⟩ := hv
  obtain ⟨i, hi, hzz⟩ := Option.map_eq_some_iff.1 infoU8
  simp only [Prod.mk.injEq] at hzz
  obtain ⟨hz, hsz, hby⟩ := hzz
  have hlt := hm g cap rfl
  have hg := run_append_grow (P := Tryz.prog) (w := w) 76 76 5 i (.int .u8 0) Tryz.underlying76 hi hz ⟨g, 0, none⟩ l.length cap (l.map vb) (by rw [List.length_map, hsz, Nat.mul_one]) (fun j u hj => by
    rw [Addr.add_lit, Nat.zero_add]
    rw [← h7, List.getElem?_take] at hj
    split at hj
    · rw [Array.getElem?_toList] at hj
      exact h3.at_ j u hj
    · cases hj) ⟨gs, o, none⟩ m.length c (m.map vb) (by rw [List.length_map, hsz, Nat.mul_one]) (fun j u hj => by
    rw [List.getElem?_map] at hj
    obtain ⟨b, hb, rfl⟩ := Option.map_eq_some_iff.1 hj
    rw [Addr.add_lit]
    exact hr j b hb) hlt (by omega) (growslice_fits (by omega) (by rw [hby]; omega))
  have hge := grownCap_ge w (l.length + m.length) cap 5
  have hcm := grownCap_le_maxLen w (l.length + m.length) cap 5 (by unfold maxLen; omega)
  refine ⟨_, _, hg, ?_, w.heap.size, hb, by omega, ((Fr.refl _ _).drew).alloc _⟩
  refine ⟨w.heap.size, _, _, by rw [List.length_append], hb, by omega, Blk.new w.drew _ _, by rw [List.length_append]; exact hge, hcm, ?_, ?_⟩
  · simp [Builtin.zeroCells, Value.cells]; omega
  · simp [List.take_append, List.map_append]
    exact List.take_of_length_le (by simp)
theorem append_b (w : World) (base gb : Nat) (v : Value) (l m : By) (gs o c : Nat) (hv : OB w base gb v l) (hr : Rd w gs o m) (hl : l.length + m.length ≤ 4000000000) (hb : base ≤ w.heap.size) (hgb : gb < w.heap.size) :
    ∃ v' w', (Builtin.append_ #[76, 76] 76 #[v, .slice (some ⟨gs, o, none⟩) m.length c]).run Tryz.prog w = .ok v' w' ∧ OB w' base gb v' (l ++ m) ∧ ∃ g, base ≤ g ∧ g ≠ gb ∧ Fr [g] w w' := by
  have hv' := hv
  obtain ⟨g, cap, cur, rfl, h1⟩ := hv'
  by_cases h : l.length + m.length ≤ cap
  · exact append_room w base gb _ l m gs o c hv hr (fun g' cap' e => by injection e with _ _ e; omega) hl
  · exact append_grow w base gb _ l m gs o c hv hr (fun g' cap' e => by injection e with _ _ e; omega) hl hb hgb
theorem OB.fr {S : List Nat} {w w' : World} {base gb : Nat} {v : Value} {l : By} (h : OB w base gb v l) (hf : Fr S w w') (hS : ∀ s ∈ S, s < base ∨ s = gb) : OB w' base gb v l := by
  obtain ⟨g, cap, cur, e, h1, h2, h3, h4⟩ := h
  exact ⟨g, cap, cur, e, h1, h2, h3.fr hf (fun hm => by rcases hS _ hm with h | h <;> omega), h4⟩
theorem conv_b (w : World) (a : Addr) (g o n cap : Nat) (l : List UInt8) (hl : l.length = n) (ha : 0 < n → a = ⟨g, o, none⟩) (hr : Rd w g o l) :
    (convert 76 9 (.slice (some a) n cap)).run Tryz.prog w = .ok (.string ⟨l.toArray⟩) w := by
  subst hl
  refine run_convert_bytes_back w 76 9 5 a cap l Tryz.underlying76 (by kernel_rfl) (by kernel_rfl) fun j hj => ?_
  rw [ha (by omega)]
  have := hr j l[j] (List.getElem?_eq_getElem hj)
  unfold Addr.add
  split
  · rename_i h; subst h; exact this
  · exact this
theorem OB.drew {w : World} {base gb : Nat} {v : Value} {l : By} (h : OB w base gb v l) : OB w.drew base gb v l := h
theorem OB.rd {w : World} {base gb : Nat} {v : Value} {l : By} (h : OB w base gb v l) : ∃ g cap, v = .slice (some ⟨g, 0, none⟩) l.length cap ∧ Rd w g 0 l := by
  obtain ⟨g, cap, cur, rfl, h3, h4, h5, h6, h7, h8, h9⟩ := h
  refine ⟨g, cap, rfl, Rd.of_blk h5 (fun i b hb => ?_)⟩
  have hi : i < l.length := (List.getElem?_eq_some_iff.1 hb).1
  have : (cur.toList.take l.length)[i]? = (l.map vb)[i]? := by rw [h9]
  rw [List.getElem?_take, if_pos hi, List.getElem?_map, hb] at this
  simpa using this
theorem OB.str {w : World} {base gb : Nat} {v : Value} {l : By} (h : OB w base gb v l) : (convert 76 9 v).run Tryz.prog w = .ok (.string ⟨l.toArray⟩) w := by
  obtain ⟨g, cap, rfl, hr⟩ := h.rd
  exact conv_b w _ g 0 _ cap l rfl (fun _ => rfl) hr
theorem wpList_append_run {P : Program} {ops : Array Oper} {rest : List Oper} {o : Oper} {a : Act} {w : World} {Q : Exit → Act → World → Prop} (hgd : o.guard = none) (s x : Operand) (t : TypeId)
    (ho : o.op = .call { callee := .builtin .append, args := #[s, x], argTypes := #[t, t] }) (v u v' : Value) (w' : World) (hs : a.eval s = v) (hx : a.eval x = u)
    (hr : (Builtin.append_ #[t, t] o.type #[v, u]).run P w = .ok v' w') (h : wpList P ops Q rest (a.put o.dst v') w') : wpList P ops Q (o :: rest) a w :=
  wpList_plain hgd fun _ hK => by
    unfold Oper.wp execOp
    simp only [ho, resolve, invoke, builtin, Sem.run_bind, Sem.run_pure, Result.andThen_ok, List.map_toArray, List.map_cons, List.map_nil, hs, hx, hr]
    exact hK _ _ h
end Go.Proofs.YtalgnjkdoaaacaaGreatDoor

/- impl.all: append of bytes (Zap) beside the errors' numbers. -/

/- impl.all. -/
namespace Go.Proofs.YtalgnjkdoaaacaaGreatDoor
open Go Go.RowKit
open Zp
/-- What all reads of a file: all bytes, and how it ends. -/
def faultN (E : Errs) (x : Addr) : Int := if x = E.eof then 0 else if x = E.fmt then 1 else if x = E.alg then 2 else if x = E.chk then 3 else if x = E.unx then 4 else 5
theorem CK.fr {S : List Nat} {w w' : World} {k h b r f q off lim pk nr c : Nat} {s : ByteArray} {sz crc : Nat} (hK : CK w k h b r f q off lim pk nr c s sz crc) (hf : Fr S w w') (hS : k ∉ S ∧ h ∉ S ∧ b ∉ S ∧ r ∉ S ∧ f ∉ S) : CK w' k h b r f q off lim pk nr c s sz crc :=
  ⟨hK.k_.fr hf hS.1, hK.h_.fr hf hS.2.1, hK.b_.fr hf hS.2.2.1, Blk.fr hK.r_ hf hS.2.2.2.1, (hf.cell (p := ⟨f, 12, none⟩) hK.lf hS.2.2.2.2).trans hK.c12, (hf.cell (p := ⟨f, 16, none⟩) hK.lf hS.2.2.2.2).trans hK.c16, Nat.lt_of_lt_of_le hK.lf hf.size⟩
/-- The loop's state: j bytes are read. -/
structure AL (w0 : World) (k h b r f q pk : Nat) (s : ByteArray) (sz crc : Nat) (D : By) (j : Nat) (v : Value) (w : World) : Prop where
  ck : CK w k h b r f q (q + j) (q + pk) pk j (crcOf 0 (D.take j)) s sz crc
  ob : OB w w0.heap.size (w0.heap.size + 1) v (D.take j)
  bg : ∃ cur, Blk w (w0.heap.size + 1) 5 cur ∧ cur.size = 512
  fr : Fr [k, h, b] w0 w
set_option maxRecDepth 100000 in
set_option maxHeartbeats 4000000 in
theorem all_file (E : Errs) (B0 : Nat) (w : World) (k h b r f q pk : Nat) (s : ByteArray) (sz crc : Nat) (hE : Env E w) (hEB : EB E B0 w) (hB : B0 ≤ k ∧ B0 ≤ h ∧ B0 ≤ b) (hK : CK w k h b r f q q (q + pk) pk 0 0 s sz crc)
    (hne : k ≠ h ∧ k ≠ b ∧ k ≠ f ∧ k ≠ r ∧ h ≠ b ∧ h ≠ f ∧ h ≠ r ∧ b ≠ f ∧ b ≠ r) (hs : s.size ≤ 4000000000) (hq : q + pk ≤ s.size) (hpk : pk ≤ sz) (hsz : sz ≤ 4294967295) (hcrc : crc < 4294967296) (D : By) (hD : (s.data.toList.drop q).take pk = D) :
    Calls Tryz.prog 41 #[.iface 177 (.pointer (some ⟨k, 0, none⟩))] w fun e w' => e = .returned (.tuple #[.string ⟨D.toArray⟩, .int .i64 (faultN E (endErr E pk sz (crcOf 0 D) crc))]) ∧ Fr [k, h, b] w w' := by
  have hmk : ∀ w, (Instr.makeSlice 76 (.int .i64 512) (.int .i64 512)).run Tryz.prog w = .ok (.slice (some ⟨w.heap.size, 0, none⟩) 512 512) (w.alloc (.cells (zeros 512) 5)) := fun w => run_makeBytes 512 512 (Nat.le_refl _) (by decide) w
  have hmk1 := hmk (w.alloc (.cells #[] 5))
  have ho : OB ((w.alloc (.cells #[] 5)).alloc (.cells (zeros 512) 5)) w.heap.size (w.heap.size + 1) (.slice (some ⟨w.heap.size, 0, none⟩) 0 0) (D.take 0) := ⟨w.heap.size, 0, #[], rfl, Nat.le_refl _, by omega, (Blk.new w _ _).alloc _, Nat.le_refl _, by unfold maxLen; omega, rfl, rfl⟩
  have hbg : Blk ((w.alloc (.cells #[] 5)).alloc (.cells (zeros 512) 5)) (w.heap.size + 1) 5 (zeros 512) := by
    have := Blk.new (w.alloc (.cells #[] 5)) 5 (zeros 512)
    rw [World.size_alloc] at this
    exact this
  have hf0 : Fr [k, h, b] w ((w.alloc (.cells #[] 5)).alloc (.cells (zeros 512) 5)) := ((Fr.refl _ _).alloc _).alloc _
  have hk0 : CK ((w.alloc (.cells #[] 5)).alloc (.cells (zeros 512) 5)) k h b r f q (q + 0) (q + pk) pk 0 (crcOf 0 (D.take 0)) s sz crc := by
    rw [List.take_zero, crcOf_nil]
    have hf : Fr [] w ((w.alloc (.cells #[] 5)).alloc (.cells (zeros 512) 5)) := ((Fr.refl _ _).alloc _).alloc _
    exact ⟨hK.k_.fr hf (by simp), hK.h_.fr hf (by simp), hK.b_.fr hf (by simp), Blk.fr hK.r_ hf (by simp), (hf.cell (p := ⟨f, 12, none⟩) hK.lf (by simp)).trans hK.c12, (hf.cell (p := ⟨f, 16, none⟩) hK.lf (by simp)).trans hK.c16, Nat.lt_of_lt_of_le hK.lf hf.size⟩
  have HA := Lib.hid (show AL w k h b r f q pk s sz crc D 0 (.slice (some ⟨w.heap.size, 0, none⟩) 0 0) ((w.alloc (.cells #[] 5)).alloc (.cells (zeros 512) 5)) from ⟨hk0, ho, ⟨_, hbg, zeros_size _⟩, hf0⟩)
  have HE := Lib.hid hE
  have HEB := Lib.hid hEB
  have HK := Lib.hid hK
  clear ho hbg hf0 hk0 hE hEB hK
  go_enter Tryz.func41, Tryz.ntmps41
  go_wp2_with fail
  go_loopw [4] (fun v4 wr => ∃ j : Nat, j ≤ pk ∧ AL w k h b r f q pk s sz crc D j v4 wr) (fun v4 _ => pk - slLen v4)
  case atStart => exact ⟨0, by omega, HA.out⟩
  case round =>
    obtain ⟨j, hj, hal⟩ := hrel
    obtain ⟨hck, hob, ⟨cur, hbg, hcs⟩, hfr⟩ := hal
    have lk := HK.out.k_.lt
    have lh := HK.out.h_.lt
    have lb := HK.out.b_.lt
    have lr := Blk.lt HK.out.r_
    have lf := HK.out.lf
    by_cases hlt : j < pk
    · obtain ⟨kk, hkk⟩ : ∃ kk, min 512 (q + pk - (q + j)) = kk := ⟨_, rfl⟩
      have hk1 : kk ≤ 512 := by omega
      have hk2 : j + kk ≤ pk := by omega
      have hk3 : 0 < kk := by omega
      obtain ⟨l, hl0⟩ : ∃ l, (s.data.toList.drop (q + j)).take kk = l := ⟨_, rfl⟩
      have HQ := Lib.hid (ck_data wr k h b r f q (q + j) (q + pk) pk j (crcOf 0 (D.take j)) (w.heap.size + 1) 512 512 kk s sz crc cur 5 hck hbg (by omega) (by omega) (by omega) (by omega) (by omega) hq hs hkk.symm ⟨by omega, by omega, by omega, by omega, by omega, hne⟩ (crcOf_lt _ (by omega) _) (by omega) hsz l hl0)
      have HO := Lib.hid hob
      have HF := Lib.hid hfr
      have HKK := Lib.hid hkk
      have HL0 := Lib.hid hl0
      clear hck hob hbg hfr hkk hl0
      have hll : l.length = kk := by rw [← HL0.out, List.length_take, List.length_drop, ← Lib.size_eq]; omega
      have hDl : D.length = pk := by rw [← hD, List.length_take, List.length_drop, ← Lib.size_eq]; omega
      have hjl : (D.take j).length = j := by rw [List.length_take]; omega
      go_wp2_with fail
      refine HQ.out.mono ?_
      rintro e w2 ⟨rfl, hck2, hbg2, hf2⟩
      have hz2 := HF.out.size
      have hz3 := hf2.size
      obtain ⟨v', w3, hrun, ho3, g', hg1, hg2, hf3⟩ := append_b w2 w.heap.size (w.heap.size + 1) u4 (D.take j) l (w.heap.size + 1) 0 512 (HO.out.fr hf2 (by simp; omega)) (Rd.spl hbg2 (by omega)) (by omega) (by omega) hbg2.lt
      rw [hll] at hrun
      have hf4 : Fr [k, h, b] w w3 := (HF.out.trans hf2 (by simp <;> omega)).trans hf3 (by simp <;> omega)
      have hu4 : slLen u4 = j := by
        obtain ⟨_, _, e, _⟩ := HO.out.rd
        rw [e]; exact hjl
      have hT : D.take (j + kk) = D.take j ++ l := by rw [List.take_add, ← HL0.out, ← hD, List.drop_take, List.drop_drop, List.take_take, List.take_take, Nat.min_eq_left (by omega), Nat.min_eq_left (by omega)]
      have HT := Lib.hid hT
      clear hT
      have hb18 := HEB.out.b18
      have x1 := (HE.out.fr hf4 (by simp; omega) (Nat.le_trans hb18 HEB.out.le)).eof
      have x2 := nil_eql E.eof w3
      have HF4 := Lib.hid hf4
      have hbg3 : Blk w3 (w.heap.size + 1) 5 (spl cur 0 l) := hbg2.fr hf3 (by simp; omega)
      have HBG3 := Lib.hid hbg3
      have hck3 : CK w3 k h b r f q (q + j + kk) (q + pk) pk (j + kk) (crcOf (crcOf 0 (D.take j)) l) s sz crc := hck2.fr hf3 (by simp; omega)
      have HCK3 := Lib.hid hck3
      clear hf4 hbg3 hck3
      have HCK := Lib.hid hck2
      have HBG := Lib.hid hbg2
      have HF2 := Lib.hid hf2
      have HO3 := Lib.hid ho3
      have HF3 := Lib.hid hf3
      have hkc : (kk : Int) ≤ 512 := by omega
      clear hck2 hbg2 hf2 ho3 hf3 HQ HO hmk hmk1 HA
      go_wp2_with (at_builtin; refine wpList_append_run rfl _ _ 76 rfl _ _ _ _ rfl rfl hrun ?_)
      have hv' : slLen v' = j + kk := by
        obtain ⟨_, _, e, _⟩ := HO3.out.rd
        rw [e]; show (D.take j ++ l).length = _; rw [List.length_append]; omega
      refine ⟨⟨j + kk, by omega, ?_, ?_, ⟨_, HBG3.out, by rw [spl_size (by omega)]; exact hcs⟩, HF4.out⟩, by omega⟩
      · rw [HT.out, crcOf_append, ← Nat.add_assoc]
        exact HCK3.out
      · rw [HT.out]
        exact HO3.out
    · obtain rfl : j = pk := by omega
      have hDl : D.length = j := by rw [← hD, List.length_take, List.length_drop, ← Lib.size_eq]; omega
      have hDt : D.take j = D := List.take_of_length_le (by omega)
      rw [hDt] at hck hob
      have hb18 := HEB.out.b18
      have h18 : 14 ≤ w.heap.size := Nat.le_trans hb18 HEB.out.le
      have hsz1 := hfr.size
      have hEr := HE.out.fr hfr (by simp; omega) h18
      have hEBr := HEB.out.fr hfr (by simp; omega)
      have HQ := Lib.hid (ck_end E B0 wr k h b r f q (q + j) (q + j) j j (crcOf 0 D) (w.heap.size + 1) 512 512 s sz crc hEr hEBr ⟨hB.1, hB.2.1⟩ hck cur 5 hbg (by omega) (by omega) ⟨by omega, by omega, hne.1, hne.2.2.1, hne.2.2.2.2.2.1⟩ (crcOf_lt _ (by omega) _) hpk hsz hcrc)
      have HO := Lib.hid hob
      have HF := Lib.hid hfr
      have HBG := Lib.hid hbg
      clear hck hob hfr hbg hEr hEBr hmk hmk1 HA
      go_wp2_with fail
      refine HQ.out.mono ?_
      rintro e w2 ⟨rfl, hf2⟩
      obtain ⟨v', w3, hrun, ho3, g', hg1, hg2, hf3⟩ := append_b w2 w.heap.size (w.heap.size + 1) u4 D [] (w.heap.size + 1) 0 512 (HO.out.fr hf2 (by simp; omega)) (fun i b hi => by simp at hi) (by simp; omega) (by have := hf2.size; omega) (HBG.out.fr hf2 (by simp; omega)).lt
      rw [List.append_nil] at ho3
      rw [List.length_nil] at hrun
      have hf4 : Fr [k, h, b] w w3 := (HF.out.trans hf2 (by simp <;> omega)).trans hf3 (by simp <;> omega)
      have hE3 := HE.out.fr hf4 (by simp; omega) h18
      have hEB3 := HEB.out.fr hf4 (by simp; omega)
      have x1 := hE3.eof
      have hcv := ho3.str
      obtain ⟨gv, cv, rfl, -⟩ := ho3.rd
      have HO5 := Lib.hid ho3
      have HF4 := Lib.hid hf4
      have HE3 := Lib.hid hE3
      have HEB3 := Lib.hid hEB3
      have hxx : endErr E j sz (crcOf 0 D) crc = E.unx ∨ endErr E j sz (crcOf 0 D) crc = E.chk ∨ endErr E j sz (crcOf 0 D) crc = E.eof := by
        unfold endErr
        split
        · exact .inl rfl
        · split
          · exact .inr (.inl rfl)
          · exact .inr (.inr rfl)
      clear hf2 hf3 hf4 hE3 hEB3 ho3 HQ HO HBG hDl hDt
      obtain ⟨x, hx⟩ : ∃ x, endErr E j sz (crcOf 0 D) crc = x := ⟨_, rfl⟩
      have HX := Lib.hid hx
      rw [hx] at hxx ⊢
      clear hx
      obtain ⟨n1, n2, n3, n4, n5, n6, n7, n8, n9, n10, n11, n12, n13, n14⟩ := HEB3.out.ne
      have HE4 := Lib.hid (HE.out.fr HF4.out.drew (by simp; omega) h18)
      have HEB4 := Lib.hid (HEB.out.fr HF4.out.drew (by simp; omega))
      have hcv2 : (convert 76 9 (Value.slice (some ⟨gv, 0, none⟩) D.length cv)).run Tryz.prog w3.drew = .ok (.string ⟨D.toArray⟩) w3.drew := HO5.out.drew.str
      rcases hxx with rfl | rfl | rfl
      · have t1 := eql_other HEB3.out E.m.2.2.2.2.1 E.m.2.1 n12
        have HQ := Lib.hid (faultOf_unx E B0 w3.drew HE4.out HEB4.out)
        have HN := Lib.hid (show faultN E E.unx = 4 by simp [faultN, n1, n7, n8, n12])
        clear n1 n2 n3 n4 n5 n6 n7 n8 n9 n10 n11 n12 n13 n14
        go_wp2_with (at_builtin; refine wpList_append_run rfl _ _ 76 rfl _ _ _ _ rfl rfl hrun ?_)
        go_region_held3 (fun w' => w' = w3.drew) ((first | rfl | assumption))
          ((first | (go_at_call 38; (with_reducible refine HQ.out.mono ?_); rintro e w5 ⟨rfl, rfl⟩)))
        go_wp2_with fail
        go_ret2
        exact ⟨by rw [HX.out, HN.out]; rfl, HF4.out.drew⟩
      · have t1 := eql_other HEB3.out E.m.2.2.2.1 E.m.2.1 n13
        have HQ := Lib.hid (faultOf_chk E B0 w3.drew HE4.out HEB4.out)
        have HN := Lib.hid (show faultN E E.chk = 3 by simp [faultN, n5, n6, n13])
        clear n1 n2 n3 n4 n5 n6 n7 n8 n9 n10 n11 n12 n13 n14
        go_wp2_with (at_builtin; refine wpList_append_run rfl _ _ 76 rfl _ _ _ _ rfl rfl hrun ?_)
        go_region_held3 (fun w' => w' = w3.drew) ((first | rfl | assumption))
          ((first | (go_at_call 38; (with_reducible refine HQ.out.mono ?_); rintro e w5 ⟨rfl, rfl⟩)))
        go_wp2_with fail
        go_ret2
        exact ⟨by rw [HX.out, HN.out]; rfl, HF4.out.drew⟩
      · have t1 := eql_same' E.eof w3
        have HN := Lib.hid (show faultN E E.eof = 0 by simp [faultN])
        clear n1 n2 n3 n4 n5 n6 n7 n8 n9 n10 n11 n12 n13 n14 hcv2
        go_wp2_with (at_builtin; refine wpList_append_run rfl _ _ 76 rfl _ _ _ _ rfl rfl hrun ?_)
        go_ret2
        exact ⟨by rw [HX.out, HN.out]; rfl, HF4.out⟩
end Go.Proofs.YtalgnjkdoaaacaaGreatDoor

/- impl.all over a dirReader. -/
namespace Go.Proofs.YtalgnjkdoaaacaaGreatDoor
open Go Go.RowKit
open Zp
set_option maxRecDepth 100000 in
set_option maxHeartbeats 4000000 in
theorem all_dirX (E : Errs) (B0 : Nat) (w : World) (d : Nat) (x : Addr) (n : Int) (M : By) (hM : M = []) (hE : Env E w) (hEB : EB E B0 w) (hd : Blk w d 173 #[errv x]) (hx : (x = E.eof ∧ n = 0) ∨ (x = E.fmt ∧ n = 1)) :
    Calls Tryz.prog 41 #[.iface 171 (.pointer (some ⟨d, 0, none⟩))] w fun e w' => e = .returned (.tuple #[.string ⟨M.toArray⟩, .int .i64 n]) ∧ Fr [] w w' := by
  have hmk : ∀ w, (Instr.makeSlice 76 (.int .i64 512) (.int .i64 512)).run Tryz.prog w = .ok (.slice (some ⟨w.heap.size, 0, none⟩) 512 512) (w.alloc (.cells (zeros 512) 5)) := fun w => run_makeBytes 512 512 (Nat.le_refl _) (by decide) w
  have hmk1 := hmk (w.alloc (.cells #[] 5))
  have h18 : 14 ≤ w.heap.size := Nat.le_trans hEB.b18 hEB.le
  have hld := hd.lt
  have HE := Lib.hid hE
  have HEB := Lib.hid hEB
  have HD := Lib.hid hd
  clear hE hEB hd
  have HX := Lib.hid hx
  have HM := Lib.hid hM
  clear hx
  go_enter Tryz.func41, Tryz.ntmps41
  go_wp2_with fail
  have hob0 : OB ((w.alloc (.cells #[] 5)).alloc (.cells (zeros 512) 5)) w.heap.size (w.heap.size + 1) (.slice (some ⟨w.heap.size, 0, none⟩) 0 0) [] := ⟨w.heap.size, 0, #[], rfl, Nat.le_refl _, by omega, (Blk.new w _ _).alloc _, Nat.le_refl _, by unfold maxLen; omega, rfl, rfl⟩
  rw [← hM] at hob0
  clear hM
  have HOB0 := Lib.hid hob0
  clear hob0
  go_loopw [4] (fun v4 wr => OB wr w.heap.size (w.heap.size + 1) v4 M ∧ wr = ((w.alloc (.cells #[] 5)).alloc (.cells (zeros 512) 5))) (fun _ _ => 0)
  case atStart => exact ⟨HOB0.out, rfl⟩
  case round =>
    obtain ⟨hob, rfl⟩ := hrel
    have hf0 : Fr [] w ((w.alloc (.cells #[] 5)).alloc (.cells (zeros 512) 5)) := ((Fr.refl _ _).alloc _).alloc _
    clear HOB0
    have hgb : w.heap.size + 1 < ((w.alloc (.cells #[] 5)).alloc (.cells (zeros 512) 5)).heap.size := by simp
    have hge : w.heap.size ≤ ((w.alloc (.cells #[] 5)).alloc (.cells (zeros 512) 5)).heap.size := by simp; omega
    generalize (w.alloc (.cells #[] 5)).alloc (.cells (zeros 512) 5) = w1 at *
    have HQ := Lib.hid (dirRead w1 d x (.slice (some ⟨w.heap.size + 1, 0, none⟩) 512 512) (HD.out.fr hf0 (by simp)))
    have HO := Lib.hid hob
    have HF := Lib.hid hf0
    clear hob hf0 hmk hmk1
    go_wp2_with fail
    refine HQ.out.mono ?_
    rintro e w2 ⟨rfl, m, rfl⟩
    have hfm := HF.out.drewN m
    have hom := HO.out.fr ((Fr.refl [] w1).drewN m) (by simp)
    have hge2 : w.heap.size ≤ (w1.drewN m).heap.size := hge
    have hgb2 : w.heap.size + 1 < (w1.drewN m).heap.size := hgb
    generalize w1.drewN m = w2 at hfm hom hge2 hgb2 ⊢
    obtain ⟨v', w3, hrun, ho3, g', hg1, hg2, hf3⟩ := append_b w2 w.heap.size (w.heap.size + 1) u4 M [] (w.heap.size + 1) 0 512 hom (fun i b hi => by simp at hi) (by rw [HM.out]; simp) hge2 hgb2
    rw [List.length_nil] at hrun
    rw [List.append_nil] at ho3
    have hf4 : Fr [] w w3 := hfm.trans hf3 (by simp; omega)
    have hE3 := HE.out.fr hf4 (by simp) h18
    have hEB3 := HEB.out.fr hf4 (by simp)
    have x1 := hE3.eof
    have HO5 := Lib.hid ho3
    have hcv := ho3.str
    have HQF := Lib.hid (faultOf_fmt E B0 w3.drew (HE.out.fr hf4.drew (by simp) h18) (HEB.out.fr hf4.drew (by simp)))
    obtain ⟨gv, cv, rfl, -⟩ := ho3.rd
    have hcv2 : (convert 76 9 (Value.slice (some ⟨gv, 0, none⟩) M.length cv)).run Tryz.prog w3.drew = .ok (.string ⟨M.toArray⟩) w3.drew := HO5.out.drew.str
    have HF4 := Lib.hid hf4
    have HE3 := Lib.hid hE3
    have HEB3 := Lib.hid hEB3
    clear hf3 hf4 hE3 hEB3 ho3 HQ HO hfm hom
    rcases HX.out with ⟨rfl, rfl⟩ | ⟨rfl, rfl⟩
    · have t1 := eql_same' E.eof w3
      clear hcv2 HX
      go_wp2_with (at_builtin; refine wpList_append_run rfl _ _ 76 rfl _ _ _ _ rfl rfl hrun ?_)
      go_ret2
      exact ⟨rfl, HF4.out⟩
    · have t1 := eql_other HEB3.out E.m.1 E.m.2.1 HEB3.out.ne.2.2.2.2.2.2.2.2.2.2.1
      clear HX
      go_wp2_with (at_builtin; refine wpList_append_run rfl _ _ 76 rfl _ _ _ _ rfl rfl hrun ?_)
      go_region_held3 (fun w' => w' = w3.drew) ((first | rfl | assumption))
        ((first | (go_at_call 38; (with_reducible refine HQF.out.mono ?_); rintro e w5 ⟨rfl, rfl⟩)))
      go_wp2_with fail
      go_ret2
      exact ⟨rfl, HF4.out.drew⟩
theorem all_dir (E : Errs) (B0 : Nat) (w : World) (d : Nat) (P : Prop) [Decidable P] (hE : Env E w) (hEB : EB E B0 w) (hd : Blk w d 173 #[errv (if P then E.eof else E.fmt)]) :
    Calls Tryz.prog 41 #[.iface 171 (.pointer (some ⟨d, 0, none⟩))] w fun e w' => e = .returned (.tuple #[.string ⟨#[]⟩, .int .i64 (if P then 0 else 1)]) ∧ Fr [] w w' := by
  by_cases h : P
  · rw [if_pos h] at hd ⊢
    exact all_dirX E B0 w d _ 0 [] rfl hE hEB hd (.inl ⟨rfl, rfl⟩)
  · rw [if_neg h] at hd ⊢
    exact all_dirX E B0 w d _ 1 [] rfl hE hEB hd (.inr ⟨rfl, rfl⟩)
end Go.Proofs.YtalgnjkdoaaacaaGreatDoor

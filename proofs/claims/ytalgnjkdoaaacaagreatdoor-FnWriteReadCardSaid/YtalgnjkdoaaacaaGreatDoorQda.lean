/- strings.Builder. -/
import Derived.Test.YtalgnjkdoaaacaaGreatDoorQrb
import Derived.Maps.AppendAt
import Derived.Lib.Builder
import Derived.Lib.UnsafeStr
import Derived.Laws.Externs
import Derived.RegionTactic
import Derived.Deep.RegionHeld3
import Derived.StillTailTactics
set_option linter.unusedVariables false
set_option linter.unusedSimpArgs false
namespace Go.Proofs.YtalgnjkdoaaacaaGreatDoor
open Go Go.RowKit
theorem infoByte1 : (Tryz.prog.info? 5).map (fun i => (i.zero, i.size, i.bytes)) = some (some (Value.int IntKind.u8 0), 1, 1) := by kernel_rfl
theorem wpList_appR {P : Program} {ops : Array Oper} {rest : List Oper} {o : Oper} {a : Act} {w : World} {Q : Exit → Act → World → Prop} (hgd : o.guard = none) (s x : Operand) (t : TypeId)
    (ho : o.op = .call { callee := .builtin .append, args := #[s, x], argTypes := #[t, t] }) (v u v' : Value) (w' : World) (hs : a.eval s = v) (hx : a.eval x = u)
    (hr : (Builtin.append_ #[t, t] o.type #[v, u]).run P w = .ok v' w') (h : wpList P ops Q rest (a.put o.dst v') w') : wpList P ops Q (o :: rest) a w :=
  wpList_plain hgd fun _ hK => by
    unfold Oper.wp execOp
    simp only [ho, resolve, invoke, builtin, Sem.run_bind, Sem.run_pure, Result.andThen_ok, List.map_toArray, List.map_cons, List.map_nil, hs, hx, hr]
    exact hK _ _ h
/-- A builder that holds the text T; own: the block of its row. -/
def SBd (w : World) (base sb : Nat) (own : Option Nat) (T : List UInt8) : Prop :=
  ∃ p v, Blk w sb 95 #[p, v] ∧ (p = .pointer none ∨ p = .pointer (some ⟨sb, 0, none⟩)) ∧ v.ownBlock = own ∧ w.ownsRow base 5 1 v T.length (T.map vb)
theorem sizeBd : (Tryz.prog.info? 95).map (·.size) = some 2 := by kernel_rfl
theorem liesBd : liesAt Tryz.prog Tryz.prog.depth 95 (2 / Tryz.prog.cellsOf 95) 0 95 1 = true := by kernel_rfl
theorem Blk.shape {w : World} {g : Nat} {t : TypeId} {cs : Array Value} (h : Blk w g t cs) : w.shape? g = some (t, cs.size) := by
  unfold Blk at h
  simp [World.shape?, h]
set_option maxRecDepth 100000 in
set_option maxHeartbeats 2000000 in
theorem cc_used (b : Nat) (w : World) (h0 : w.cell? ⟨b, 0, none⟩ = some (.pointer (some ⟨b, 0, none⟩))) :
    Calls Tryz.prog 192 #[.pointer (some ⟨b, 0, none⟩)] w fun e w' => e = .returned (.tuple #[]) ∧ w' = w := by
  obtain ⟨j, hj, _⟩ := Option.map_eq_some_iff.1 sizeBd
  go_enter Tryz.func192, Tryz.ntmps192
  go_wp2_with fail
  rw [Lib.run_neq_ptr_same w _ Tryz.underlying93 hj]
  go_wp2_with fail
  go_end0
  exact ⟨rfl, rfl⟩
set_option maxRecDepth 100000 in
set_option maxHeartbeats 2000000 in
theorem cc_fresh (b : Nat) (v : Value) (w : World) (hb : Blk w b 95 #[.pointer none, v]) :
    Calls Tryz.prog 192 #[.pointer (some ⟨b, 0, none⟩)] w fun e w' => e = .returned (.tuple #[]) ∧ w' = w.setCell ⟨b, 0, none⟩ (.pointer (some ⟨b, 0, none⟩)) := by
  obtain ⟨j, hj, hjs⟩ := Option.map_eq_some_iff.1 sizeBd
  have h0 := hb.at_ 0 (.pointer none) rfl
  have hfz := hb.frozen 0
  have hsh : w.shape? b = some (95, 2) := hb.shape
  go_enter Tryz.func192, Tryz.ntmps192
  go_wp2_with fail
  rw [Lib.run_to_unsafe w ⟨b, 0, none⟩ Tryz.underlying93 Tryz.underlying331 hj (by rw [hjs]; decide) hsh (Nat.zero_lt_succ 1)]
  simp only [Result.andThen]
  rw [Oper.upon_value]
  go_wp2_with fail
  rw [run_callFunc_extern Tryz.func193 (by kernel_rfl) (by kernel_rfl) (by kernel_rfl) (e := Extern.AbiNoEscape.same) (by kernel_rfl)]
  rw [Lib.run_noEscape]
  simp only [Result.andThen]
  rw [Oper.upon_value]
  go_wp2_with fail
  rw [Lib.run_from_unsafe w ⟨b, 0, none⟩ Tryz.underlying331 Tryz.underlying93 hj hsh liesBd]
  simp only [Result.andThen]
  rw [Oper.upon_value]
  go_wp2_with fail
  go_end0
  exact ⟨rfl, rfl⟩
/-- What copyCheck leaves. -/
def CcP (w : World) (b : Nat) (v : Value) (e : Ending) (w' : World) : Prop := e = .returned (.tuple #[]) ∧ Blk w' b 95 #[.pointer (some ⟨b, 0, none⟩), v] ∧ Fr [b] w w' ∧ w'.heap.size = w.heap.size
theorem ccC (b : Nat) (p v : Value) (w : World) (hb : Blk w b 95 #[p, v]) (hp : p = .pointer none ∨ p = .pointer (some ⟨b, 0, none⟩)) :
    Calls Tryz.prog 192 #[.pointer (some ⟨b, 0, none⟩)] w (CcP w b v) := by
  rcases hp with rfl | rfl
  · refine (cc_fresh b v w hb).mono ?_
    rintro e w' ⟨rfl, rfl⟩
    exact ⟨rfl, hb.set_ 0 _, (Fr.refl _ _).setCell (.inl (by simp)) _, by simp [World.setCell]⟩
  · refine (cc_used b w (hb.at_ 0 _ rfl)).mono ?_
    rintro e w' ⟨rfl, rfl⟩
    exact ⟨rfl, hb, Fr.refl _ _, rfl⟩
/-- What a write leaves. -/
def SbW (w : World) (base sb : Nat) (own : Option Nat) (T l : List UInt8) (e : Ending) (w' : World) : Prop :=
  ∃ own', e = .returned (.tuple #[.int .i64 (l.length : Int), .nilIface]) ∧ SBd w' base sb own' (T ++ l) ∧ (own' = own ∨ own' = some w.heap.size) ∧ Fr (sb :: own.toList) w w'
set_option maxRecDepth 100000 in
set_option maxHeartbeats 4000000 in
theorem sbWrite (w : World) (base sb : Nat) (own : Option Nat) (T l : List UInt8) (gs o c : Nat) (h : SBd w base sb own T) (hr : Rd w gs o l) (hgl : gs < w.heap.size) (hgs : gs ≠ sb) (hb : base ≤ w.heap.size) (hsb : base ≤ sb) (hl : T.length + l.length ≤ 4000000000) :
    Calls Tryz.prog 190 #[.pointer (some ⟨sb, 0, none⟩), .slice (some ⟨gs, o, none⟩) l.length c] w (SbW w base sb own T l) := by
  obtain ⟨p, v, hbk, hp, rfl, hown⟩ := h
  have hlt := hbk.lt
  obtain ⟨i, hi, hzz⟩ := Option.map_eq_some_iff.1 infoByte1
  simp only [Prod.mk.injEq] at hzz
  obtain ⟨hz, hsz, hby⟩ := hzz
  have HCC := Lib.hid (ccC sb p v w hbk hp)
  have HOW := Lib.hid hown
  have HR := Lib.hid hr
  have hne : v.ownBlock ≠ some sb := fun he => by
    rcases hown.2 with ⟨h1, _⟩ | ⟨g, cap, cur, rfl, _, h3, _⟩
    · rw [h1] at he; cases he
    · simp [Value.ownBlock] at he
      subst he
      exact absurd rfl ((show Blk w g 5 cur from h3).ne_ hbk (by decide))
  have HI := Lib.hid (And.intro hi (And.intro hz (And.intro hsz hby)))
  clear hbk hp hown hr hi hz hsz hby
  go_enter Tryz.func190, Tryz.ntmps190
  go_wp2_with fail
  refine HCC.out.mono ?_
  rintro e w1 ⟨rfl, hb1, hf1, hs1⟩
  have hown1 : w1.ownsRow base 5 1 v T.length (T.map vb) := by
    obtain ⟨h0, hh⟩ := HOW.out
    refine ⟨h0, ?_⟩
    rcases hh with hh | ⟨g, cap, cur, hv, h2, h3, h4⟩
    · exact .inl hh
    · exact .inr ⟨g, cap, cur, hv, h2, Blk.fr (t := 5) (cs := cur) h3 hf1 (by rw [hv] at hne; simp [Value.ownBlock] at hne ⊢; exact hne), h4⟩
  have hr1 : Rd w1 gs o l := HR.out.fr hf1 hgl (by simp; exact hgs)
  obtain ⟨v', w2, hrun, hown2, hgrow, _, hat⟩ := run_append_own_at (P := Tryz.prog) w1 base 76 76 5 i _ 1 1 Tryz.underlying76 HI.out.1 HI.out.2.1 HI.out.2.2.1 HI.out.2.2.2 rfl (by omega) v T.length (T.map vb) hown1 ⟨gs, o, none⟩ l.length c (l.map vb) (by simp) (fun j u hj => by
    rw [List.getElem?_map] at hj
    obtain ⟨b, hb, rfl⟩ := Option.map_eq_some_iff.1 hj
    rw [Addr.add_lit]
    exact hr1 j b hb) (fun u hu => by
    obtain ⟨b, _, rfl⟩ := List.mem_map.1 hu
    rfl) (by unfold maxLen; omega) (by omega) (by omega)
  obtain ⟨pv, cv, hv'⟩ : ∃ pv cv, v' = .slice pv (T.length + l.length) cv := by
    rcases hown2.2 with ⟨h1, h2⟩ | ⟨g, cap, cur, h1, _⟩
    · exact ⟨none, 0, by rw [h1]; congr 1; omega⟩
    · exact ⟨_, cap, h1⟩
  subst hv'
  have c1 := hb1.at_ 1 v rfl
  have hb2 : Blk w2 sb 95 #[.pointer (some ⟨sb, 0, none⟩), v] := (hgrow.block sb (by omega) (Ne.symm hne)).trans hb1
  have z1 := hb2.frozen 1
  have d1 := hb2.at_ 1 v rfl
  have HB2 := Lib.hid hb2
  have HF2 := Lib.hid (show Fr (sb :: v.ownBlock.toList) w w2 from (hf1.mono (S' := sb :: v.ownBlock.toList) (by simp)).trans (Fr.of_grown (S := v.ownBlock.toList) hgrow (fun g hg => .inl (by rw [hg]; simp))) (fun g hg => .inl (by simp at hg ⊢; exact .inr hg)))
  have HO2 := Lib.hid hown2
  have HAT := Lib.hid hat
  clear hb1 hf1 hown1 hr1 hown2 hgrow hat hb2
  go_wp2_with (at_builtin; refine wpList_appR rfl _ _ 76 rfl _ _ _ _ rfl rfl hrun ?_)
  go_ret2
  refine ⟨(Value.slice pv (T.length + l.length) cv).ownBlock, rfl, ⟨_, _, HB2.out.set_ 1 (.slice pv (T.length + l.length) cv), .inr rfl, rfl, ?_⟩, ?_, HF2.out.setCell (.inl (by simp)) _⟩
  · have := HO2.out
    rw [← List.map_append, ← List.length_append] at this
    obtain ⟨h0, hh⟩ := this
    rw [← List.length_append]
    refine ⟨h0, ?_⟩
    rcases hh with hh | ⟨g, cap, cur, hv, h2, h3, h4⟩
    · exact .inl hh
    · exact .inr ⟨g, cap, cur, hv, h2, Blk.far (t := 5) (cs := cur) h3 (p := ⟨sb, 1, none⟩) (fun he => by
        have he' : g = sb := he
        subst he'
        exact absurd rfl ((show Blk w2 g 5 cur from h3).ne_ HB2.out (by decide))) _, h4⟩
  · rcases HAT.out with h | h
    · exact .inl h
    · exact .inr (by rw [h, hs1])
set_option maxRecDepth 100000 in
set_option maxHeartbeats 4000000 in
theorem sbString (w : World) (base sb : Nat) (own : Option Nat) (T : List UInt8) (h : SBd w base sb own T) (h0 : T ≠ []) (hT : T.length ≤ 4000000000) :
    Calls Tryz.prog 68 #[.pointer (some ⟨sb, 0, none⟩)] w fun e w' => e = .returned (.string ⟨T.toArray⟩) ∧ Below base w w' := by
  obtain ⟨p, v, hbk, hp, -, hown⟩ := h
  have hl0 : T.length ≠ 0 := by simpa using h0
  obtain ⟨g, cap, cur, rfl, hbg, hg, hnc, hcm, hcs, htake⟩ : ∃ g cap cur, v = .slice (some ⟨g, 0, none⟩) T.length cap ∧ base ≤ g ∧ w.heap[g]? = some (.cells cur 5 (0, 0)) ∧ T.length ≤ cap ∧ cap ≤ maxLen ∧ cur.size = cap * 1 ∧ cur.toList.take (T.length * 1) = T.map vb := by
    rcases hown.2 with ⟨_, hz⟩ | ⟨g, cap, cur, hv, r⟩
    · exact absurd hz hl0
    · exact ⟨g, cap, cur, hv, r⟩
  have c1 : w.drew.cell? ⟨sb, 1, none⟩ = some (.slice (some ⟨g, 0, none⟩) T.length cap) := hbk.drew.at_ 1 _ rfl
  have hSD : (Builtin.unsafeSliceData_ #[76] 206 #[.slice (some ⟨g, 0, none⟩) T.length cap]).run Tryz.prog w.drew = .ok (.pointer (some ⟨g, 0, none⟩)) w.drew :=
    Lib.run_unsafeSliceData_row _ _ _ _ _ _ (by omega)
  have hUS : (Builtin.unsafeString_ #[206, 3] 9 #[.pointer (some ⟨g, 0, none⟩), .int .i64 T.length]).run Tryz.prog w.drew = .ok (.string ⟨T.toArray⟩) (w.drew.freeze ⟨g, 0, none⟩ T.length) := by
    refine Lib.run_unsafeString_row w.drew 206 3 9 5 Tryz.underlying206 (by kernel_rfl) g cur.size (by have hg' : w.drew.heap[g]? = some (.cells cur 5 (0, 0)) := hg; simp [World.shape?, hg']) T h0 (by omega) (by unfold maxLen at hcm; omega) ?_
    intro j x hx
    have := hown.cells (g := g) rfl j (.int .u8 x.toNat) (by simp [hx])
    exact this
  clear hown htake hp
  go_enter Tryz.func68, Tryz.ntmps68
  go_wp2_with fail
  go_region
  all_goals go_wp2_with fail
  all_goals go_ret
  all_goals exact ⟨rfl, Lib.below_freeze (Below.drew (Below.refl base w)) (p := ⟨g, 0, none⟩) hbg _⟩
end Go.Proofs.YtalgnjkdoaaacaaGreatDoor

/- bufio.Writer over a strings.Builder. -/
namespace Go.Proofs.YtalgnjkdoaaacaaGreatDoor
open Go Go.RowKit
open Zp
abbrev bwC (bf sb n : Nat) : Array Value := #[.nilIface, .slice (some ⟨bf, 0, none⟩) 4096 4096, .int .i64 (n : Int), .iface 93 (.pointer (some ⟨sb, 0, none⟩))]
/-- The text T has been written; its last n bytes lie in the buffer. -/
structure BWn (w : World) (base bw bf sb : Nat) (own : Option Nat) (T : List UInt8) (n : Nat) : Prop where
  hb : Blk w bw 240 (bwC bf sb n)
  hf : ∃ cur, Blk w bf 5 cur ∧ cur.size = 4096
  hT : ∃ T0 P, SBd w base sb own T0 ∧ Rd w bf 0 P ∧ P.length = n ∧ T = T0 ++ P
  hn : n ≤ 4096
  ho : own ≠ some bf
  lo : base ≤ bw ∧ base ≤ bf ∧ base ≤ sb ∧ base ≤ w.heap.size
theorem SBd.lt {w : World} {base sb : Nat} {own : Option Nat} {T : List UInt8} (h : SBd w base sb own T) : sb < w.heap.size ∧ ∀ g, own = some g → base ≤ g ∧ g < w.heap.size ∧ g ≠ sb := by
  obtain ⟨p, v, hb, hp, rfl, hown⟩ := h
  refine ⟨hb.lt, fun g hg => ?_⟩
  rcases hown.2 with ⟨h1, _⟩ | ⟨g', cap, cur, rfl, h2, h3, _⟩
  · rw [h1] at hg; cases hg
  · have hg' : g' = g := by simpa [Value.ownBlock] using hg
    subst hg'
    exact ⟨h2, Blk.lt (t := 5) (cs := cur) h3, (show Blk w g' 5 cur from h3).ne_ hb (by decide)⟩
theorem SBd.fr {w w' : World} {S : List Nat} {base sb : Nat} {own : Option Nat} {T : List UInt8} (h : SBd w base sb own T) (hf : Fr S w w') (h1 : sb ∉ S) (h2 : ∀ g, own = some g → g ∉ S) : SBd w' base sb own T := by
  obtain ⟨p, v, hb, hp, rfl, hown⟩ := h
  refine ⟨p, v, hb.fr hf h1, hp, rfl, ?_⟩
  obtain ⟨h0, hh⟩ := hown
  refine ⟨h0, ?_⟩
  rcases hh with hh | ⟨g, cap, cur, hv, h3, h4, h5⟩
  · exact .inl hh
  · exact .inr ⟨g, cap, cur, hv, h3, Blk.fr (t := 5) (cs := cur) h4 hf (h2 g (by rw [hv]; rfl)), h5⟩
theorem BWn.ne {w : World} {base bw bf sb : Nat} {own : Option Nat} {T : List UInt8} {n : Nat} (h : BWn w base bw bf sb own T n) : bw ≠ bf ∧ bw ≠ sb ∧ bf ≠ sb ∧ bw < w.heap.size ∧ bf < w.heap.size ∧ sb < w.heap.size ∧ ∀ g, own = some g → base ≤ g ∧ g < w.heap.size ∧ g ≠ sb ∧ g ≠ bf ∧ g ≠ bw := by
  obtain ⟨cur, h1, h2⟩ := h.hf
  obtain ⟨T0, P, h3, h4, h5, h6⟩ := h.hT
  obtain ⟨p, v, hb, hp, rfl, hown⟩ := id h3
  have hl := h3.lt
  refine ⟨h.hb.ne_ h1 (by decide), h.hb.ne_ hb (by decide), h1.ne_ hb (by decide), h.hb.lt, h1.lt, hb.lt, fun g hg => ?_⟩
  obtain ⟨k1, k2, k3⟩ := hl.2 g hg
  refine ⟨k1, k2, k3, fun e => h.ho (by rw [hg, e]), ?_⟩
  rcases hown.2 with ⟨h7, _⟩ | ⟨g', cap, cur', rfl, _, h8, _⟩
  · rw [h7] at hg; cases hg
  · have hg' : g' = g := by simpa [Value.ownBlock] using hg
    subst hg'
    exact (show Blk w g' 5 cur' from h8).ne_ h.hb (by decide)
theorem BWn.fr {w w' : World} {S : List Nat} {base bw bf sb : Nat} {own : Option Nat} {T : List UInt8} {n : Nat} (h : BWn w base bw bf sb own T n) (hf : Fr S w w') (h1 : bw ∉ S) (h2 : bf ∉ S) (h3 : sb ∉ S) (h4 : ∀ g, own = some g → g ∉ S) : BWn w' base bw bf sb own T n := by
  obtain ⟨cur, k1, k2⟩ := h.hf
  obtain ⟨T0, P, k3, k4, k5, k6⟩ := h.hT
  exact ⟨h.hb.fr hf h1, ⟨cur, k1.fr hf h2, k2⟩, ⟨T0, P, k3.fr hf h3 h4, k4.fr hf k1.lt h2, k5, k6⟩, h.hn, h.ho, ⟨h.lo.1, h.lo.2.1, h.lo.2.2.1, Nat.le_trans h.lo.2.2.2 hf.size⟩⟩
set_option maxRecDepth 100000 in
theorem bwAvail (w : World) (bw bf sb n : Nat) (hb : Blk w bw 240 (bwC bf sb n)) (hn : n ≤ 4096) :
    Calls Tryz.prog 198 #[.pointer (some ⟨bw, 0, none⟩)] w fun e w' => e = .returned (.int .i64 ((4096 - n : Nat) : Int)) ∧ ∃ m, w' = w.drewN m := by
  have c1 := hb.at_ 1 (.slice (some ⟨bf, 0, none⟩) 4096 4096) rfl
  have c2 := hb.at_ 2 (.int .i64 (n : Int)) rfl
  have e1 : IntKind.i64.wrap (4096 - (n : Int)) = ((4096 - n : Nat) : Int) := by rw [IntWalk.i64_in _ (by omega)]; omega
  have e2 : (4096 - (n : Int)) = ((4096 - n : Nat) : Int) := by omega
  go_enter Tryz.func198, Tryz.ntmps198
  go_wp2_with fail
  go_quiet (fail)
  go_wp2_with fail
  go_ret
  exact ⟨by first | rfl | rw [e1] | rw [e2], _, rfl⟩
set_option maxRecDepth 100000 in
theorem bwBuffered (w : World) (bw bf sb n : Nat) (hb : Blk w bw 240 (bwC bf sb n)) :
    Calls Tryz.prog 202 #[.pointer (some ⟨bw, 0, none⟩)] w fun e w' => e = .returned (.int .i64 (n : Int)) ∧ w' = w := by
  have c2 := hb.at_ 2 (.int .i64 (n : Int)) rfl
  go_enter Tryz.func202, Tryz.ntmps202
  go_wp2_with fail
  go_ret
  exact ⟨rfl, rfl⟩
/-- The own row is the old one or a new one. -/
def OwnN (w : World) (own own' : Option Nat) : Prop := own' = own ∨ ∃ x, own' = some x ∧ w.heap.size ≤ x
def FlushP (w : World) (base bw bf sb : Nat) (own : Option Nat) (T : List UInt8) (e : Ending) (w' : World) : Prop :=
  ∃ own', e = .returned .nilIface ∧ BWn w' base bw bf sb own' T 0 ∧ OwnN w own own' ∧ Fr (bw :: sb :: own.toList) w w'
set_option maxRecDepth 100000 in
set_option maxHeartbeats 4000000 in
theorem bwFlush (w : World) (base bw bf sb : Nat) (own : Option Nat) (T : List UInt8) (n : Nat) (h : BWn w base bw bf sb own T n) (hT : T.length ≤ 4000000000) :
    Calls Tryz.prog 96 #[.pointer (some ⟨bw, 0, none⟩)] w (FlushP w base bw bf sb own T) := by
  have hne := h.ne
  obtain ⟨cur, k1, k2⟩ := h.hf
  obtain ⟨T0, P, k3, k4, k5, k6⟩ := h.hT
  have hnn := h.hn
  have hlo := h.lo
  have c0 := h.hb.at_ 0 .nilIface rfl
  have c1 := h.hb.at_ 1 (.slice (some ⟨bf, 0, none⟩) 4096 4096) rfl
  have c2 := h.hb.at_ 2 (.int .i64 (n : Int)) rfl
  have c3 := h.hb.at_ 3 (.iface 93 (.pointer (some ⟨sb, 0, none⟩))) rfl
  by_cases h0 : n = 0
  · subst h0
    have H := Lib.hid h
    clear h
    go_enter Tryz.func96, Tryz.ntmps96
    go_wp2_with fail
    go_ret
    exact ⟨own, rfl, H.out, .inl rfl, Fr.refl _ _⟩
  · have i1 : ((n : Int) == 0) = false := by simp; omega
    have i2 : (0 : Int) ≤ (n : Int) := by omega
    have i3 : (n : Int) ≤ 4096 := by omega
    have hna : ∀ W, (nilAhead 452 93 (.pointer (some ⟨sb, 0, none⟩)) "Write").run Tryz.prog W = .ok (some false) W := fun W => by kernel_rfl
    have HW := Lib.hid (fun (w' : World) (hw : Fr [] w w') => sbWrite w' base sb own T0 P bf 0 4096 (k3.fr hw (by simp) (by simp)) (k4.fr hw k1.lt (by simp)) (Nat.lt_of_lt_of_le k1.lt hw.size) hne.2.2.1 (Nat.le_trans hlo.2.2.2 hw.size) hlo.2.2.1 (by rw [k6, List.length_append] at hT; exact hT))
    rw [k5] at HW
    have H := Lib.hid h
    have HK1 := Lib.hid k1
    have HK6 := Lib.hid k6
    have HNE := Lib.hid hne
    clear h k1 k3 k4 k6 hne
    go_enter Tryz.func96, Tryz.ntmps96
    go_wp2_with fail
    go_region_held3 (fun w' => w'.cell? ⟨bw, 1, none⟩ = some (.slice (some ⟨bf, 0, none⟩) 4096 4096) ∧ w'.cell? ⟨bw, 2, none⟩ = some (.int .i64 (n : Int)) ∧ w'.cell? ⟨bw, 3, none⟩ = some (.iface 93 (.pointer (some ⟨sb, 0, none⟩))))
      ((first | exact ⟨c1, c2, c3⟩ | exact KS.out | assumption))
      ((first | (go_at_call 190; (with_reducible refine (HW.out _ ((Fr.refl [] w).drew)).mono ?_); rintro e w1 ⟨own', rfl, hs1, ho1, hf1⟩; have hb1 := Blk.fr H.out.hb.drew hf1 (by have h1 := HNE.out; simp; exact ⟨h1.2.1, fun h => (h1.2.2.2.2.2.2 bw h).2.2.2.2 rfl⟩); have KS := Lib.hid (And.intro (hb1.at_ 1 (.slice (some ⟨bf, 0, none⟩) 4096 4096) rfl) (And.intro (hb1.at_ 2 (.int .i64 (n : Int)) rfl) (hb1.at_ 3 (.iface 93 (.pointer (some ⟨sb, 0, none⟩))) rfl))))))
    obtain ⟨d1, d2, d3⟩ := KS.out
    have z2 := hb1.frozen 2
    have HB1 := Lib.hid hb1
    have HS1 := Lib.hid hs1
    have HO1 := Lib.hid ho1
    have HF1 := Lib.hid hf1
    have i4 : ¬ (n : Int) < (n : Int) := by omega
    clear c0 c1 c2 c3 hb1 hs1 ho1 hf1 KS
    go_wp2_with fail
    go_ret
    obtain ⟨n1, n2, n3, n4, n5, n6, n7⟩ := HNE.out
    have hw1 : w.heap.size ≤ w1.heap.size := HF1.out.size
    have hsl := HS1.out.lt
    have hbf1 := Blk.fr HK1.out.drew HF1.out (by simp; exact ⟨n3, fun h => (n7 bf h).2.2.2.1 rfl⟩)
    refine ⟨own', rfl, ⟨?_, ⟨cur, ?_, k2⟩, ⟨T0 ++ P, [], ?_, Rd.nil_ _ _ _, rfl, by rw [List.append_nil]; exact HK6.out⟩, by omega, ?_, ⟨hlo.1, hlo.2.1, hlo.2.2.1, ?_⟩⟩, ?_, ?_⟩
    · exact HB1.out.set_ 2 (.int .i64 0)
    · exact hbf1.far (p := ⟨bw, 2, none⟩) (fun h => n1 h.symm) _
    · refine HS1.out.fr (S := [bw]) ((Fr.refl _ _).setCell (.inl (by simp)) _) (by simp; exact fun h => n2 h.symm) (fun g hg => ?_)
      have hgb : g ≠ bw := by
        rcases HO1.out with h | h
        · exact (n7 g (by rw [← h]; exact hg)).2.2.2.2
        · rw [h] at hg
          have : w.heap.size = g := by simpa using hg
          omega
      simpa using hgb
    · rcases HO1.out with h | h
      · rw [h]; exact H.out.ho
      · rw [h]
        intro e
        have : w.heap.size = bf := by simpa using e
        omega
    · simp [World.setCell]; omega
    · rcases HO1.out with h | h
      · exact .inl h
      · exact .inr ⟨_, h, Nat.le_refl _⟩
    · exact (((Fr.refl _ w).drew).trans HF1.out (fun s hs => .inl (by simp at hs ⊢; exact .inr hs))).setCell (p := ⟨bw, 2, none⟩) (.inl (by simp)) _
end Go.Proofs.YtalgnjkdoaaacaaGreatDoor

/- bufio.Writer.Write. -/
namespace Go.Proofs.YtalgnjkdoaaacaaGreatDoor
open Go Go.RowKit
open Zp
def mN (w : World) (bw : Nat) : Nat := match w.cell? ⟨bw, 2, none⟩ with
  | some (.int _ n) => if n = 0 then 0 else 1
  | _ => 1
def slN : Value → Nat
  | .slice _ n _ => n
  | _ => 0
/-- What a write leaves. -/
def BwP (w : World) (base bw bf sb : Nat) (own : Option Nat) (T l : List UInt8) (e : Ending) (w' : World) : Prop :=
  ∃ own' n', e = .returned (.tuple #[.int .i64 (l.length : Int), .nilIface]) ∧ BWn w' base bw bf sb own' (T ++ l) n' ∧ OwnN w own own' ∧ Fr (bw :: bf :: sb :: own.toList) w w'
/-- The state of the loop: j bytes are written. -/
def BwL (w : World) (base bw bf sb : Nat) (own : Option Nat) (T l : List UInt8) (gs o c : Nat) (v1 v4 : Value) (wr : World) : Prop :=
  ∃ j own' n', j ≤ l.length ∧ (∃ a : Addr, v1 = .slice (some a) (l.length - j) (c - j) ∧ (j < c → a = ⟨gs, o + j, none⟩)) ∧ v4 = .int .i64 (j : Int) ∧ BWn wr base bw bf sb own' (T ++ l.take j) n' ∧ OwnN w own own' ∧ Fr (bw :: bf :: sb :: own.toList) w wr
theorem OwnN.ne {w : World} {own own' : Option Nat} (h : OwnN w own own') {x : Nat} (hx : x < w.heap.size) (ho : own ≠ some x) : own' ≠ some x := by
  rcases h with h | ⟨y, h, hy⟩
  · rw [h]; exact ho
  · rw [h]
    intro e
    have : y = x := by simpa using e
    omega
theorem OwnN.trans {w w1 : World} {own own1 own2 : Option Nat} (h : OwnN w own own1) (k : OwnN w1 own1 own2) (hs : w.heap.size ≤ w1.heap.size) : OwnN w own own2 := by
  rcases k with k | ⟨y, k, hy⟩
  · rw [k]; exact h
  · exact .inr ⟨y, k, by omega⟩
/-- What a later step turned is turned as seen from the start. -/
theorem Fr.own {S : List Nat} {w w1 w2 : World} {own own1 : Option Nat} (h : Fr (S ++ own.toList) w w1) (ho : OwnN w own own1) {S' : List Nat} (k : Fr (S' ++ own1.toList) w1 w2) (hS : ∀ s ∈ S', s ∈ S) : Fr (S ++ own.toList) w w2 := by
  refine h.trans k (fun s hs => ?_)
  rcases List.mem_append.1 hs with hs | hs
  · exact .inl (List.mem_append_left _ (hS s hs))
  · rcases ho with ho | ⟨y, ho, hy⟩
    · rw [ho] at hs
      exact .inl (List.mem_append_right _ hs)
    · rw [ho] at hs
      have : s = y := by simpa using hs
      exact .inr (by omega)
theorem mN_le (w : World) (bw : Nat) : mN w bw ≤ 1 := by
  unfold mN
  split
  · split <;> omega
  · omega
theorem BWn.set0 {w : World} {base bw bf sb : Nat} {own : Option Nat} {T : List UInt8} {n : Nat} (h : BWn w base bw bf sb own T n) : BWn (w.setCell ⟨bw, 0, none⟩ .nilIface) base bw bf sb own T n := by
  have hn := h.ne
  obtain ⟨cur, k1, k2⟩ := h.hf
  obtain ⟨T0, P, k3, k4, k5, k6⟩ := h.hT
  have hf : Fr [bw] w (w.setCell ⟨bw, 0, none⟩ .nilIface) := (Fr.refl _ _).setCell (.inl (by simp)) _
  exact ⟨h.hb.set_ 0 .nilIface, ⟨cur, k1.fr hf (by simp; exact fun e => hn.1 e.symm), k2⟩, ⟨T0, P, k3.fr hf (by simp; exact fun e => hn.2.1 e.symm) (fun g hg => by have := (hn.2.2.2.2.2.2 g hg).2.2.2.2; simpa using this), k4.fr hf k1.lt (by simp; exact fun e => hn.1 e.symm), k5, k6⟩, h.hn, h.ho, ⟨h.lo.1, h.lo.2.1, h.lo.2.2.1, Nat.le_trans h.lo.2.2.2 hf.size⟩⟩
/-- The builder alone was written. -/
theorem BWn.direct {w w' : World} {base bw bf sb : Nat} {own own' : Option Nat} {T T' : List UInt8} (h : BWn w base bw bf sb own T 0) (hs : SBd w' base sb own' T') (ho : OwnN w own own') (hf : Fr (sb :: own.toList) w w') : BWn w' base bw bf sb own' T' 0 := by
  have hn := h.ne
  obtain ⟨cur, k1, k2⟩ := h.hf
  have hb1 : bw ∉ sb :: own.toList := by simp; exact ⟨hn.2.1, fun e => (hn.2.2.2.2.2.2 bw e).2.2.2.2 rfl⟩
  have hb2 : bf ∉ sb :: own.toList := by simp; exact ⟨hn.2.2.1, fun e => (hn.2.2.2.2.2.2 bf e).2.2.2.1 rfl⟩
  refine ⟨h.hb.fr hf hb1, ⟨cur, k1.fr hf hb2, k2⟩, ⟨T', [], hs, Rd.nil_ _ _ _, rfl, by simp⟩, Nat.zero_le _, ?_, ⟨h.lo.1, h.lo.2.1, h.lo.2.2.1, Nat.le_trans h.lo.2.2.2 hf.size⟩⟩
  rcases ho with ho | ⟨y, ho, hy⟩
  · rw [ho]; exact h.ho
  · rw [ho]
    intro e
    have : y = bf := by simpa using e
    have := k1.lt
    omega
/-- copy out of a row of bytes; of an empty one the place does not matter. -/
theorem copyRowA (g o dLen dCap : Nat) (a : Addr) (gs os sLen sCap : Nat) (l : List UInt8) (cur : Array Value) (t : TypeId) (w : World) (hg : Blk w g t cur) (hr : Rd w gs os l) (ha : 0 < l.length → a = ⟨gs, os, none⟩) (hl : l.length = min sLen dLen) (hfit : o + l.length ≤ cur.size) :
    (Builtin.copy_ #[76, 76] 3 #[.slice (some ⟨g, o, none⟩) dLen dCap, .slice (some a) sLen sCap]).run Tryz.prog w = .ok (.int .i64 (l.length : Int)) (w.setRow g (spl cur o l)) := by
  have hlen : (Lib.byteCells l).length = l.length := Lib.byteCells_length l
  have := run_copy_row (P := Tryz.prog) w 76 76 3 5 g o dLen dCap a sLen sCap cur t (Lib.byteCells l) Tryz.underlying76 (by kernel_rfl) hg (by rw [hlen, hl])
    (fun j v hv => by
      have hjl := (List.getElem?_eq_some_iff.1 hv).1
      rw [hlen] at hjl
      simp only [Lib.byteCells, List.getElem?_map, Option.map_eq_some_iff] at hv
      obtain ⟨b, hb, rfl⟩ := hv
      have := hr j b hb
      rw [ha (by omega), Addr.add_lit]
      exact this) (by rw [hlen]; exact hfit) (Lib.byteCells_one l)
  rw [this, hlen]
  simp [spl, goInt]
theorem BWn.drew {w : World} {base bw bf sb : Nat} {own : Option Nat} {T : List UInt8} {n : Nat} (h : BWn w base bw bf sb own T n) : BWn w.drew base bw bf sb own T n := h.fr ((Fr.refl [] w).drew) (by simp) (by simp) (by simp) (by simp)
/-- The buffer was filled on. -/
theorem BWn.fill {w : World} {base bw bf sb : Nat} {own : Option Nat} {T x : List UInt8} {n k : Nat} (h : BWn w base bw bf sb own T n) (cur : Array Value) (hc : Blk w bf 5 cur) (hs : cur.size = 4096) (hx : x.length = k) (hk : n + k ≤ 4096) : BWn ((w.setRow bf (spl cur n x)).setCell ⟨bw, 2, none⟩ (.int .i64 ((n : Int) + (k : Int)))) base bw bf sb own (T ++ x) (n + k) := by
  subst hx
  have hn := h.ne
  obtain ⟨T0, P, k3, k4, k5, k6⟩ := h.hT
  have hf : Fr [bf, bw] w ((w.setRow bf (spl cur n x)).setCell ⟨bw, 2, none⟩ (.int .i64 ((n : Int) + (x.length : Int)))) := ((Fr.refl _ _).setRow (.inl (by simp)) _).setCell (.inl (by simp)) _
  have hb2 : Blk ((w.setRow bf (spl cur n x)).setCell ⟨bw, 2, none⟩ (.int .i64 ((n : Int) + (x.length : Int)))) bf 5 (spl cur n x) := (hc.row _).far (p := ⟨bw, 2, none⟩) (fun e => hn.1 e.symm) _
  refine ⟨?_, ⟨_, hb2, by rw [spl_size (by omega)]; exact hs⟩, ⟨T0, P ++ x, k3.fr hf (by simp; exact ⟨fun e => hn.2.2.1 e.symm, fun e => hn.2.1 e.symm⟩) (fun g hg => by have := hn.2.2.2.2.2.2 g hg; simp; exact ⟨this.2.2.2.1, this.2.2.2.2⟩), ?_, by rw [List.length_append, k5], by rw [k6, List.append_assoc]⟩, hk, h.ho, ⟨h.lo.1, h.lo.2.1, h.lo.2.2.1, Nat.le_trans h.lo.2.2.2 hf.size⟩⟩
  · have := (h.hb.rowFar (g' := bf) hn.1 (spl cur n x)).set_ 2 (.int .i64 ((n : Int) + (x.length : Int)))
    rw [← Int.natCast_add] at this ⊢
    exact this
  · intro i b hi
    rw [Nat.zero_add, hb2.cell]
    by_cases hin : i < P.length
    · rw [List.getElem?_append_left hin] at hi
      rw [spl_out (by omega) (.inl (by omega)), ← hc.cell]
      have := k4 i b hi
      rwa [Nat.zero_add] at this
    · rw [List.getElem?_append_right (by omega)] at hi
      have := spl_in (cur := cur) (o := n) (by omega) hi
      rwa [show n + (i - P.length) = i by omega] at this
set_option maxRecDepth 100000 in
set_option maxHeartbeats 8000000 in
theorem bwWrite (w : World) (base bw bf sb : Nat) (own : Option Nat) (T l : List UInt8) (n gs o c : Nat) (h : BWn w base bw bf sb own T n) (hr : Rd w gs o l) (hgl : gs < w.heap.size) (hgs : gs ≠ bw ∧ gs ≠ bf ∧ gs ≠ sb ∧ own ≠ some gs) (hlc : l.length ≤ c) (hc : c ≤ 9223372036854775807) (hT : T.length + l.length ≤ 4000000000) :
    Calls Tryz.prog 200 #[.pointer (some ⟨bw, 0, none⟩), .slice (some ⟨gs, o, none⟩) l.length c] w (BwP w base bw bf sb own T l) := by
  have hne := h.ne
  have hlo := h.lo
  have H0 := Lib.hid h
  have HR := Lib.hid hr
  have HNE := Lib.hid hne
  obtain ⟨L, hL⟩ : ∃ L, l.length = L := ⟨_, rfl⟩
  have HL := Lib.hid hL
  have hna : ∀ W, (nilAhead 452 93 (.pointer (some ⟨sb, 0, none⟩)) "Write").run Tryz.prog W = .ok (some false) W := fun W => by kernel_rfl
  clear h hr hne
  rw [hL] at hlc hT ⊢
  clear hL
  go_enter Tryz.func200, Tryz.ntmps200
  go_wp2_with fail
  go_loopw [1, 4] (fun v1 v4 wr => BwL w base bw bf sb own T l gs o c v1 v4 wr) (fun v1 _ wr => 2 * slN v1 + mN wr bw)
  case atStart => exact ⟨0, own, n, Nat.zero_le _, ⟨⟨gs, o, none⟩, by rw [HL.out]; rfl, fun _ => rfl⟩, rfl, by rw [List.take_zero, List.append_nil]; exact H0.out, .inl rfl, Fr.refl _ _⟩
  case round =>
    obtain ⟨j, own', n', hj, ⟨a, rfl, ha⟩, rfl, hB, hO, hF⟩ := hrel
    rw [HL.out] at hj ⊢
    have hw1 := hF.size
    obtain ⟨m1, m2, m3, m4, m5, m6, m7⟩ := HNE.out
    have hgr : Rd wr gs (o + j) (l.drop j) := (HR.out.fr hF hgl (by simp; exact ⟨hgs.1, hgs.2.1, hgs.2.2.1, fun h => hgs.2.2.2 h⟩)).drop j
    have hog : own' ≠ some gs := hO.ne hgl hgs.2.2.2
    have hdl : (l.drop j).length = L - j := by rw [List.length_drop, HL.out]
    have hnn := hB.hn
    have c0 := hB.hb.at_ 0 .nilIface rfl
    have c1 := hB.hb.at_ 1 (.slice (some ⟨bf, 0, none⟩) 4096 4096) rfl
    have c2 := hB.hb.at_ 2 (.int .i64 (n' : Int)) rfl
    have c3 := hB.hb.at_ 3 (.iface 93 (.pointer (some ⟨sb, 0, none⟩))) rfl
    have HA := Lib.hid (bwAvail wr bw bf sb n' hB.hb hnn)
    have HB := Lib.hid hB
    have HO := Lib.hid hO
    have HF := Lib.hid hF
    have HGR := Lib.hid hgr
    clear hB hO hF hgr
    go_wp2_with fail
    refine HA.out.mono ?_
    rintro e wa ⟨rfl, mm, rfl⟩
    have hBa : BWn (wr.drewN mm) base bw bf sb own' (T ++ l.take j) n' := HB.out.fr ((Fr.refl [] wr).drewN mm) (by simp) (by simp) (by simp) (by simp)
    have hFa : Fr (bw :: bf :: sb :: own.toList) w (wr.drewN mm) := HF.out.drewN mm
    have hGa : Rd (wr.drewN mm) gs (o + j) (l.drop j) := HGR.out.drewN mm
    have hga : gs < (wr.drewN mm).heap.size := by show gs < wr.heap.size; omega
    have hm0 : mN (wr.drewN mm) bw = mN wr bw := rfl
    have d0 : (wr.drewN mm).cell? ⟨bw, 0, none⟩ = some .nilIface := c0
    have d1 : (wr.drewN mm).cell? ⟨bw, 1, none⟩ = some (.slice (some ⟨bf, 0, none⟩) 4096 4096) := c1
    have d2 : (wr.drewN mm).cell? ⟨bw, 2, none⟩ = some (.int .i64 (n' : Int)) := c2
    have d3 : (wr.drewN mm).cell? ⟨bw, 3, none⟩ = some (.iface 93 (.pointer (some ⟨sb, 0, none⟩))) := c3
    clear c0 c1 c2 c3 HA HB HF HGR
    generalize wr.drewN mm = wc at *
    have HM := Lib.hid hm0
    clear hm0
    by_cases hlt : 4096 - n' < L - j
    · have i1 : ((4096 - n' : Nat) : Int) < ((L - j : Nat) : Int) := by omega
      obtain rfl := ha (by omega)
      by_cases h0 : n' = 0
      · subst h0
        have HBF := Lib.hid (bwBuffered wc bw bf sb 0 hBa.hb)
        obtain ⟨T0, P, k3, k4, k5, k6⟩ := hBa.hT
        obtain rfl : P = [] := List.eq_nil_of_length_eq_zero k5
        rw [List.append_nil] at k6
        subst k6
        have HSW := Lib.hid (sbWrite wc base sb own' (T ++ l.take j) (l.drop j) gs (o + j) (c - j) k3 hGa hga hgs.2.2.1 hBa.lo.2.2.2 hlo.2.2.1 (by rw [List.length_append, List.length_take, List.length_drop, HL.out]; omega))
        rw [hdl] at HSW
        have HB := Lib.hid hBa
        have HF := Lib.hid hFa
        clear hBa hFa hGa k3 k4 k5
        go_wp2_with fail
        refine HBF.out.mono ?_
        rintro e w1 ⟨rfl, hw⟩
        rw [hw]
        clear hw w1
        go_wp2_with fail
        refine HSW.out.mono ?_
        rintro e w2 ⟨own2, rfl, hs2, ho2, hf2⟩
        have hnb := HB.out.ne
        have hb2 := Blk.fr HB.out.hb hf2 (by simp; exact ⟨hnb.2.1, fun h => (hnb.2.2.2.2.2.2 bw h).2.2.2.2 rfl⟩)
        have z0 := hb2.frozen 0
        have e0 := hb2.at_ 0 .nilIface rfl
        rw [hdl]
        clear d0 d1 d2 d3
        go_wp2_with fail
        have hod : OwnN wc own' own2 := by
          rcases ho2 with h | h
          · exact .inl h
          · exact .inr ⟨_, h, Nat.le_refl _⟩
        have hLd : (T ++ l.take j) ++ l.drop j = T ++ l.take L := by rw [List.append_assoc, List.take_append_drop, List.take_of_length_le (by rw [HL.out]; omega)]
        rw [hLd] at hs2
        have hsz := hf2.size
        have hcz : w.heap.size ≤ wc.heap.size := HF.out.size
        refine ⟨⟨L, own2, 0, by rw [HL.out]; omega, ?_, by rw [show (j : Int) + ((L - j : Nat) : Int) = (L : Int) by omega], ((HB.out.direct hs2 hod hf2).set0), HO.out.trans hod hcz, ((Fr.own (S := [bw, bf, sb]) HF.out HO.out (S' := [sb]) hf2 (by simp)).setCell (.inl (by simp)) _)⟩, ?_⟩
        · by_cases hcl : c - j = L - j
          · rw [if_pos hcl]
            exact ⟨_, by rw [HL.out]; congr 1 <;> omega, fun h => absurd h (by omega)⟩
          · rw [if_neg hcl]
            exact ⟨_, by rw [HL.out]; congr 1 <;> omega, fun _ => by rw [show o + j + (L - j) = o + L by omega]⟩
        · have := mN_le (w2.setCell ⟨bw, 0, none⟩ .nilIface) bw
          simp only [slN]
          omega
      · have i0 : ((n' : Int) == 0) = false := by simp; omega
        have HBF := Lib.hid (bwBuffered wc bw bf sb n' hBa.hb)
        have j2 : (n' : Int) ≤ 4096 := by omega
        have j3 : (0 : Int) ≤ (n' : Int) := by omega
        go_wp2_with fail
        refine HBF.out.mono ?_
        rintro e w1 ⟨rfl, hw⟩
        rw [hw]
        clear hw w1
        obtain ⟨cur, kb1, kb2⟩ := hBa.hf
        have hnb := hBa.ne
        obtain ⟨x, hx⟩ : ∃ x, (l.drop j).take (4096 - n') = x := ⟨_, rfl⟩
        have hxl : x.length = 4096 - n' := by rw [← hx, List.length_take, hdl]; omega
        have hrx : Rd wc gs (o + j) x := by rw [← hx]; exact Rd.left (m := (l.drop j).drop (4096 - n')) (by rw [List.take_append_drop]; exact hGa)
        by_cases hfull : n' = 4096
        · subst hfull
          have hcp : (Builtin.copy_ #[76, 76] 3 #[.slice (some ⟨bf, 0, none⟩) 0 0, .slice (some ⟨gs, o + j, none⟩) (L - j) (c - j)]).run Tryz.prog wc.drew = .ok (.int .i64 0) ((wc.setRow bf cur).drew) := by
            have := copyRowA bf 0 0 0 ⟨gs, o + j, none⟩ gs (o + j) (L - j) (c - j) [] cur 5 wc.drew kb1.drew (Rd.nil_ _ _ _) (fun _ => rfl) (by simp) (by simp)
            rw [spl_nil] at this
            exact this
          have kq := hBa.hb.rowFar (g' := bf) hnb.1 cur
          have r2 := kq.at_ 2 (.int .i64 ((4096 : Nat) : Int)) rfl
          have y2 := kq.frozen 2
          have HFL := Lib.hid (fun (w' : World) (hB' : BWn w' base bw bf sb own' (T ++ l.take j) 4096) => bwFlush w' base bw bf sb own' (T ++ l.take j) 4096 hB' (by rw [List.length_append, List.length_take, HL.out]; omega))
          have hfi := hBa.fill (x := []) (k := 0) cur kb1 kb2 rfl (by omega)
          rw [spl_nil, List.append_nil] at hfi
          have HFI := Lib.hid hfi
          have HF := Lib.hid hFa
          clear hBa hFa hGa kb1 kq hrx hx hfi hxl
          go_wp2_with fail
          go_still_tail 10, (by kernel_rfl)
          change wpList _ _ _ _ _ wc.drew
          go_wp2_with fail
          refine (HFL.out _ HFI.out.drew).mono ?_
          rintro e w3 ⟨own2, rfl, hB3, hO3, hF3⟩
          have hF23 : Fr (bw :: bf :: sb :: own.toList) w ((wc.setRow bf cur).setCell ⟨bw, 2, none⟩ (.int .i64 (((4096 : Nat) : Int) + ((0 : Nat) : Int)))).drew := (((HF.out.setRow (.inl (by simp)) _).setCell (.inl (by simp)) _).drew)
          have hsz3 : wc.heap.size = ((wc.setRow bf cur).setCell ⟨bw, 2, none⟩ (.int .i64 (((4096 : Nat) : Int) + ((0 : Nat) : Int)))).drew.heap.size := by simp [World.setCell]
          have HB3 := Lib.hid hB3
          have HO3 := Lib.hid (show OwnN wc own' own2 by
            rcases hO3 with h | ⟨y, h, hy⟩
            · exact .inl h
            · exact .inr ⟨y, h, by rw [hsz3]; exact hy⟩)
          have HF3 := Lib.hid (Fr.own (S := [bw, bf, sb]) hF23 HO.out (S' := [bw, sb]) hF3 (by simp))
          have hcz : w.heap.size ≤ wc.heap.size := HF.out.size
          have HMW := Lib.hid (show mN wr bw = 1 by rw [← HM.out]; unfold mN; rw [d2]; rfl)
          have HM3 := Lib.hid (show mN w3 bw = 0 by unfold mN; rw [HB3.out.hb.at_ 2 (.int .i64 ((0 : Nat) : Int)) rfl]; rfl)
          clear hB3 hO3 hF3 hF23 hsz3 hcp r2 y2
          go_wp2_with fail
          refine ⟨⟨j, own2, 0, by rw [HL.out]; omega, ⟨⟨gs, o + j, none⟩, by rw [HL.out], fun _ => rfl⟩, by simp, HB3.out, HO.out.trans HO3.out hcz, HF3.out⟩, ?_⟩
          have := HMW.out
          have := HM3.out
          simp only [slN]
          omega
        · have j4 : ¬ 4096 = n' := by omega
          have hcp : (Builtin.copy_ #[76, 76] 3 #[.slice (some ⟨bf, n', none⟩) (4096 - n') (4096 - n'), .slice (some ⟨gs, o + j, none⟩) (L - j) (c - j)]).run Tryz.prog wc.drew = .ok (.int .i64 ((4096 - n' : Nat) : Int)) ((wc.setRow bf (spl cur n' x)).drew) := by
            have := copyRowA bf n' (4096 - n') (4096 - n') ⟨gs, o + j, none⟩ gs (o + j) (L - j) (c - j) x cur 5 wc.drew kb1.drew hrx.drew (fun _ => rfl) (by rw [hxl]; omega) (by omega)
            rw [hxl] at this
            exact this
          have kq := hBa.hb.rowFar (g' := bf) hnb.1 (spl cur n' x)
          have r2 := kq.at_ 2 (.int .i64 (n' : Int)) rfl
          have y2 := kq.frozen 2
          have HFL := Lib.hid (fun (w' : World) (hB' : BWn w' base bw bf sb own' (T ++ l.take j ++ x) (n' + (4096 - n'))) => bwFlush w' base bw bf sb own' (T ++ l.take j ++ x) (n' + (4096 - n')) hB' (by rw [List.length_append, List.length_append, List.length_take, hxl, HL.out]; omega))
          have HFI := Lib.hid (hBa.fill cur kb1 kb2 hxl (by omega))
          have HF := Lib.hid hFa
          have HX := Lib.hid hx
          clear hBa hFa hGa kb1 kq hrx hx
          go_wp2_with fail
          go_still_tail 10, (by kernel_rfl)
          change wpList _ _ _ _ _ wc.drew
          go_wp2_with fail
          refine (HFL.out _ HFI.out.drew).mono ?_
          rintro e w3 ⟨own2, rfl, hB3, hO3, hF3⟩
          have hF23 : Fr (bw :: bf :: sb :: own.toList) w ((wc.setRow bf (spl cur n' x)).setCell ⟨bw, 2, none⟩ (.int .i64 ((n' : Int) + ((4096 - n' : Nat) : Int)))).drew := (((HF.out.setRow (.inl (by simp)) _).setCell (.inl (by simp)) _).drew)
          have hsz3 : wc.heap.size = ((wc.setRow bf (spl cur n' x)).setCell ⟨bw, 2, none⟩ (.int .i64 ((n' : Int) + ((4096 - n' : Nat) : Int)))).drew.heap.size := by simp [World.setCell]
          have HB3 := Lib.hid hB3
          have HO3 := Lib.hid (show OwnN wc own' own2 by
            rcases hO3 with h | ⟨y, h, hy⟩
            · exact .inl h
            · exact .inr ⟨y, h, by rw [hsz3]; exact hy⟩)
          have HF3 := Lib.hid (Fr.own (S := [bw, bf, sb]) hF23 HO.out (S' := [bw, sb]) hF3 (by simp))
          have hcz : w.heap.size ≤ wc.heap.size := HF.out.size
          clear hB3 hO3 hF3 hF23 hsz3 hcp r2 y2
          go_wp2_with fail
          have hLd : T ++ l.take j ++ x = T ++ l.take (j + (4096 - n')) := by rw [← HX.out, List.append_assoc, List.take_add]
          rw [hLd] at HB3
          refine ⟨⟨j + (4096 - n'), own2, 0, by rw [HL.out]; omega, ?_, by rw [Int.natCast_add], HB3.out, HO.out.trans HO3.out hcz, HF3.out⟩, ?_⟩
          · rw [HL.out]
            exact ⟨_, by congr 1 <;> omega, fun _ => by rw [Nat.add_assoc]⟩
          · simp only [slN]
            have := mN_le w3 bw
            omega
    · have i1 : ¬ ((4096 - n' : Nat) : Int) < ((L - j : Nat) : Int) := by omega
      obtain ⟨cur, kb1, kb2⟩ := hBa.hf
      have hnb := hBa.ne
      have j2 : (n' : Int) ≤ 4096 := by omega
      have j3 : (0 : Int) ≤ (n' : Int) := by omega
      have hLd : T ++ l.take j ++ l.drop j = T ++ l := by rw [List.append_assoc, List.take_append_drop]
      by_cases hfull : n' = 4096
      · subst hfull
        have hjl : L - j = 0 := by omega
        have hd0 : l.drop j = [] := List.eq_nil_of_length_eq_zero (by rw [hdl]; omega)
        have hcp : (Builtin.copy_ #[76, 76] 3 #[.slice (some ⟨bf, 0, none⟩) 0 0, .slice (some a) 0 (c - j)]).run Tryz.prog wc.drew = .ok (.int .i64 0) ((wc.setRow bf cur).drew) := by
          have := copyRowA bf 0 0 0 a gs (o + j) 0 (c - j) [] cur 5 wc.drew kb1.drew (Rd.nil_ _ _ _) (fun h => absurd h (by simp)) (by simp) (by simp)
          rw [spl_nil] at this
          exact this
        have kq := hBa.hb.rowFar (g' := bf) hnb.1 cur
        have r2 := kq.at_ 2 (.int .i64 ((4096 : Nat) : Int)) rfl
        have y2 := kq.frozen 2
        have hfi := hBa.fill (x := []) (k := 0) cur kb1 kb2 rfl (by omega)
        rw [spl_nil, List.append_nil] at hfi
        have HFI := Lib.hid hfi
        have HF := Lib.hid hFa
        clear hBa hFa hGa kb1 kq hfi
        go_wp2_with fail
        go_still_tail 10, (by kernel_rfl)
        change wpList _ _ _ _ _ wc.drew
        go_wp2_with fail
        go_ret2
        have hjL : j = L := by omega
        rw [hd0, List.append_nil] at hLd
        have hB4 := HFI.out.drew
        rw [hLd] at hB4
        refine ⟨own', 4096, by rw [HL.out, hjL]; simp, hB4, HO.out, ((HF.out.setRow (.inl (by simp)) _).setCell (.inl (by simp)) _).drew⟩
      · have j4 : ¬ 4096 = n' := by omega
        have hcp : (Builtin.copy_ #[76, 76] 3 #[.slice (some ⟨bf, n', none⟩) (4096 - n') (4096 - n'), .slice (some a) (L - j) (c - j)]).run Tryz.prog wc.drew = .ok (.int .i64 ((L - j : Nat) : Int)) ((wc.setRow bf (spl cur n' (l.drop j))).drew) := by
          have := copyRowA bf n' (4096 - n') (4096 - n') a gs (o + j) (L - j) (c - j) (l.drop j) cur 5 wc.drew kb1.drew hGa.drew (fun h => ha (by omega)) (by omega) (by omega)
          rw [hdl] at this
          exact this
        have kq := hBa.hb.rowFar (g' := bf) hnb.1 (spl cur n' (l.drop j))
        have r2 := kq.at_ 2 (.int .i64 (n' : Int)) rfl
        have y2 := kq.frozen 2
        have HFI := Lib.hid (hBa.fill (x := l.drop j) (k := L - j) cur kb1 kb2 hdl (by omega))
        have HF := Lib.hid hFa
        clear hBa hFa hGa kb1 kq
        go_wp2_with fail
        go_still_tail 10, (by kernel_rfl)
        change wpList _ _ _ _ _ wc.drew
        go_wp2_with fail
        go_ret2
        have hB4 := HFI.out.drew
        rw [hLd] at hB4
        refine ⟨own', n' + (L - j), by rw [HL.out, show (j : Int) + ((L - j : Nat) : Int) = (L : Int) by omega]; rfl, hB4, HO.out, ((HF.out.setRow (.inl (by simp)) _).setCell (.inl (by simp)) _).drew⟩
end Go.Proofs.YtalgnjkdoaaacaaGreatDoor

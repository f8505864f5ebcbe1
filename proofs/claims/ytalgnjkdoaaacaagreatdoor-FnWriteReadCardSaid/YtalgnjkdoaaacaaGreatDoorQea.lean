/- impl.raw: the header that is written as it is. -/
import Derived.Test.YtalgnjkdoaaacaaGreatDoorQdp
import Derived.Test.YtalgnjkdoaaacaaGreatDoorQdu
import Derived.Test.YtalgnjkdoaaacaaGreatDoorQrd
set_option linter.unusedVariables false
set_option linter.unusedSimpArgs false
namespace Go.Proofs.YtalgnjkdoaaacaaGreatDoor
open Go Go.RowKit
open Zp
/-- A FileHeader laid anew, whose extra fields lie in a row of their own. -/
def RawP (w : World) (nm cm ex : By) (nu : Bool) (cr rd fl me ti da cs pk sz ext : Nat) (e : Ending) (w' : World) : Prop :=
  ∃ fh ge c, e = .returned (.pointer (some ⟨fh, 0, none⟩)) ∧ w.heap.size ≤ fh ∧ w.heap.size ≤ ge ∧ Blk w' fh 78 (fhD nm cm nu cr rd fl me ti da cs pk sz ext (.slice (some ⟨ge, 0, none⟩) ex.length c) 0 0 none 0 0) ∧
    Rd w' ge 0 ex ∧ (∃ cs q, w'.heap[ge]? = some (.cells cs 5 q)) ∧ ex.length ≤ c ∧ c ≤ 9223372036854775807 ∧ Fr [] w w'
set_option maxRecDepth 100000 in
set_option maxHeartbeats 8000000 in
theorem rawC (w : World) (nm cm ex : By) (nu : Bool) (cr rd fl me ti da cs pk sz ext : Nat) (b0 : cr ≤ 65535) (b1 : rd ≤ 65535) (b2 : fl ≤ 65535) (b3 : me ≤ 65535) (b4 : ti ≤ 65535) (b5 : da ≤ 65535) (b6 : cs ≤ 4294967295) (b7 : pk ≤ 4294967294) (b8 : sz ≤ 4294967294) (b9 : ext ≤ 4294967295) (b10 : ex.length ≤ 60000) :
    Calls Tryz.prog 53 #[.agg #[.string (bs nm), .string (bs cm), .string (bs ex), .bool nu, .int .i64 (cr : Int), .int .i64 (rd : Int), .int .i64 (fl : Int), .int .i64 (me : Int), .int .i64 (ti : Int), .int .i64 (da : Int), .int .i64 (cs : Int), .int .i64 (pk : Int), .int .i64 (sz : Int), .int .i64 (ext : Int)]] w (RawP w nm cm ex nu cr rd fl me ti da cs pk sz ext) := by
  have hns := bs_size ex
  have hcv : ∀ W : World, (convert 9 76 (.string (bs ex))).run Tryz.prog W = .ok (.slice (some ⟨W.heap.size, 0, none⟩) (bs ex).size (grownCap W (bs ex).size 0 5)) (W.drew.alloc (.cells (bytesRow (bs ex) (grownCap W (bs ex).size 0 5)) 5 ((bytesRow (bs ex) (grownCap W (bs ex).size 0 5)).size, (bytesRow (bs ex) (grownCap W (bs ex).size 0 5)).size + 1))) := fun W => run_bytes_of_string W _ _ 5 (bs ex) Tryz.underlying9 Tryz.underlying76 (by kernel_rfl)
  go_enter Tryz.func53, Tryz.ntmps53
  go_wp2_with fail
  go_ret
  obtain ⟨wA, hwA⟩ : ∃ wA, w.alloc (.cells #[.string (bs nm), .string (bs cm), .string (bs ex), .bool nu, .int .i64 (cr : Int), .int .i64 (rd : Int), .int .i64 (fl : Int), .int .i64 (me : Int), .int .i64 (ti : Int), .int .i64 (da : Int), .int .i64 (cs : Int), .int .i64 (pk : Int), .int .i64 (sz : Int), .int .i64 (ext : Int)] 36) = wA := ⟨_, rfl⟩
  have hfA : Fr [] w wA := by rw [← hwA]; exact (Fr.refl [] w).alloc _
  have hsA : wA.heap.size = w.heap.size + 1 := by rw [← hwA]; exact World.size_alloc _ _
  have hge := grownCap_ge wA ex.length 0 5
  have hle := grownCap_le_maxLen wA ex.length 0 5 (by unfold maxLen; omega)
  have hrd := rdStr wA ex (grownCap wA ex.length 0 5) 5 ((bytesRow (bs ex) (grownCap wA ex.length 0 5)).size, (bytesRow (bs ex) (grownCap wA ex.length 0 5)).size + 1) hge
  have hhp := heap_alloc_new wA (.cells (bytesRow (bs ex) (grownCap wA ex.length 0 5)) 5 ((bytesRow (bs ex) (grownCap wA ex.length 0 5)).size, (bytesRow (bs ex) (grownCap wA ex.length 0 5)).size + 1))
  rw [hsA] at hrd hhp
  obtain ⟨wB, hwB⟩ : ∃ wB, wA.alloc (.cells (bytesRow (bs ex) (grownCap wA ex.length 0 5)) 5 ((bytesRow (bs ex) (grownCap wA ex.length 0 5)).size, (bytesRow (bs ex) (grownCap wA ex.length 0 5)).size + 1)) = wB := ⟨_, rfl⟩
  have hfB : Fr [] wA wB := by rw [← hwB]; exact (Fr.refl [] wA).alloc _
  have hsB : wB.heap.size = w.heap.size + 1 + 1 := by rw [← hwB, World.size_alloc, hsA]
  rw [hwB] at hrd hhp
  have hf : Fr [] wB ((wB.alloc (.cells (fhD nm cm nu cr rd fl me ti da cs pk sz ext (.slice (some ⟨w.heap.size + 1, 0, none⟩) ex.length (grownCap wA ex.length 0 5)) 0 0 none 0 0) 78)).drew) := ((Fr.refl [] wB).alloc _).drew
  have hb := (Blk.new wB 78 (fhD nm cm nu cr rd fl me ti da cs pk sz ext (.slice (some ⟨w.heap.size + 1, 0, none⟩) ex.length (grownCap wA ex.length 0 5)) 0 0 none 0 0)).drew
  rw [hsB] at hb
  rw [hwA, hwB]
  have hlB : w.heap.size + 1 < wB.heap.size := by omega
  exact ⟨w.heap.size + 1 + 1, w.heap.size + 1, grownCap wA ex.length 0 5, rfl, by omega, by omega, hb, hrd.fr hf hlB (by simp), ⟨_, _, (hf.block _ hlB (by simp)).trans hhp⟩, hge, by unfold maxLen at hle; omega, (hfA.trans hfB (by simp)).trans hf (by simp)⟩
theorem rawE (h : Hd) (hok : HdOk h) (w : World) : Calls Tryz.prog 53 #[.agg #[.string (bs h.name), .string (bs h.comment), .string (bs h.extra), .bool h.non, .int .i64 h.creator, .int .i64 h.reader, .int .i64 h.flags, .int .i64 h.method, .int .i64 h.time, .int .i64 h.date, .int .i64 h.crc, .int .i64 h.packed, .int .i64 h.size, .int .i64 h.ext]] w
    (RawP w h.name h.comment h.extra h.non h.creator.toNat h.reader.toNat h.flags.toNat h.method.toNat h.time.toNat h.date.toNat h.crc.toNat h.packed.toNat h.size.toNat h.ext.toNat) := by
  obtain ⟨⟨o1, p1⟩, ⟨o2, p2⟩, ⟨o3, p3⟩, ⟨o4, p4⟩, ⟨o5, p5⟩, ⟨o6, p6⟩, ⟨o7, p7⟩, ⟨o8, p8⟩, ⟨o9, p9⟩, ⟨o10, p10⟩, o11, o12, o13⟩ := hok
  have h1 := rawC w h.name h.comment h.extra h.non h.creator.toNat h.reader.toNat h.flags.toNat h.method.toNat h.time.toNat h.date.toNat h.crc.toNat h.packed.toNat h.size.toNat h.ext.toNat (by omega) (by omega) (by omega) (by omega) (by omega) (by omega) (by omega) (by omega) (by omega) (by omega) o13
  rw [Int.toNat_of_nonneg o1, Int.toNat_of_nonneg o2, Int.toNat_of_nonneg o3, Int.toNat_of_nonneg o4, Int.toNat_of_nonneg o5, Int.toNat_of_nonneg o6, Int.toNat_of_nonneg o7, Int.toNat_of_nonneg o8, Int.toNat_of_nonneg o9, Int.toNat_of_nonneg o10] at h1
  exact h1
end Go.Proofs.YtalgnjkdoaaacaaGreatDoor

/- impl.WriteRaw. -/
namespace Go.Proofs.YtalgnjkdoaaacaaGreatDoor
open Go Go.RowKit
open Zp
set_option maxRecDepth 100000 in
theorem dirWrite (w : World) (p : Option Addr) (c : Nat) : Calls Tryz.prog 211 #[.agg #[], .slice p 0 c] w fun e w' => e = .returned (.tuple #[.int .i64 0, .nilIface]) ∧ Fr [] w w' := by
  go_enter Tryz.func211, Tryz.ntmps211
  go_wp2_with fail
  go_ret2
  exact ⟨rfl, (Fr.refl _ _).alloc _⟩
set_option maxRecDepth 100000 in
set_option maxHeartbeats 8000000 in
theorem writeRawC (w : World) (l : List Ent) (c : By) (v : Value) (hv : SV w v l) (h1000 : l.length ≤ 1000) (hc : c.length ≤ 65535)
    (hK : ∀ e ∈ l, HdOk e.h ∧ e.h.packed = e.data.length ∧ e.h.flags.toNat / 8 % 2 = 0 ∧ (slash (bs e.h.name) = true → e.data = [])) (hsz : (filesB l).length + 180046 * l.length + 900000 ≤ 4000000000) :
    Calls Tryz.prog 26 #[v, .string (bs c)] w fun x w' => x = .returned (.tuple #[.string (bs (archB l c)), .bool true]) ∧ Fr [] w w' := by
  obtain ⟨p, cap, rfl, hlc, hcm, hp⟩ := hv
  have HP := Lib.hid hp
  have HK := Lib.hid hK
  clear hp hK
  obtain ⟨n, hn⟩ : ∃ n, l.length = n := ⟨_, rfl⟩
  rw [hn] at hlc ⊢
  have hn47 : n ≤ 9223372036854775807 := by unfold maxLen at hcm; omega
  have HNZ := Lib.hid (newZw (w.alloc (.cells #[.pointer none, .slice none 0 0] 95)) w.heap.size w.heap.size (Blk.new _ _ _) (Nat.le_refl _))
  go_enter Tryz.func26, Tryz.ntmps26
  go_wp2_with fail
  refine HNZ.out.mono ?_
  rintro e w3 ⟨zw, cw, bw, bf, rfl, hC, hz, hf3, hzl⟩
  rw [World.size_alloc] at hzl
  have hf23 : Fr [] w w3 := ((Fr.refl [] w).alloc _).trans hf3 (by simp)
  have HB23 := Lib.hid (hf23.below (by simp) (Nat.le_refl _) : Below w.heap.size w w3)
  have HC3 := Lib.hid hC
  have HZ3 := Lib.hid hz
  clear hC hz hf3 hf23
  go_wp2_with fail
  go_loopw [21] (fun v21 wr => ∃ k : Nat, k ≤ n ∧ v21 = .int .i64 (k : Int) ∧ CLp w3 w.heap.size zw cw bw bf w.heap.size l k wr) (fun v21 _ => n - (intOf v21).toNat)
  case atStart => exact ⟨0, by omega, rfl, none, _, _, [], ⟨HC3.out, ⟨by simp, .inl ⟨rfl, rfl⟩⟩, by simp⟩, HZ3.out, .inl rfl, rfl, rfl, Below.refl _ _⟩
  case round =>
    obtain ⟨k, hk, rfl, own, dv, last, L, hws, hz, hl, hLk, hdl, hb⟩ := hrel
    have hB2 : Below w.heap.size w wr := HB23.out.trans hb
    have HWS := Lib.hid hws
    have HZ := Lib.hid hz
    have HLL := Lib.hid hl
    have HDL := Lib.hid hdl
    have HB := Lib.hid hb
    have HB2 := Lib.hid hB2
    have hbase : w.heap.size ≤ wr.heap.size := hB2.size
    clear hws hz hl hdl hb hB2
    by_cases hlt : k < n
    · have hkl : k < l.length := by omega
      obtain ⟨e, he⟩ : ∃ e, l[k] = e := ⟨_, rfl⟩
      have hle : l[k]? = some e := by rw [List.getElem?_eq_getElem hkl, he]
      have hem : e ∈ l := by rw [← he]; exact List.getElem_mem hkl
      obtain ⟨g, o, rfl, hg, hles⟩ := HP.out (fun h => by rw [h] at hkl; simp at hkl)
      obtain ⟨hok, hpk, hfl, hdr⟩ := HK.out e hem
      have hrg := (hles.fr (Fr.of_below HB2.out (Nat.le_refl _) []) hg (by simp)) k e hle
      obtain ⟨c0, c1, c2, c3, c4, c5, c6, c7, c8, c9, c10, c11, c12, c13, c14⟩ := cellsE hrg
      have i1 : (k : Int) < (n : Int) := by omega
      have HPK := Lib.hid hpk
      have HOK := Lib.hid hok
      clear hles hrg hpk hok
      have HRW := Lib.hid (fun w' => rawE e.h HOK.out w')
      go_wp2_with fail
      clear c0 c1 c2 c3 c4 c5 c6 c7 c8 c9 c10 c11 c12 c13 c14
      have hE0 := Blk.new wr 38 (entL e).toArray
      have hfA : Fr [] wr (wr.alloc (.cells (entL e).toArray 38)) := (Fr.refl [] wr).alloc _
      have hsA : (wr.alloc (.cells (entL e).toArray 38)).heap.size = wr.heap.size + 1 := World.size_alloc _ _
      obtain ⟨wA, hwA⟩ : ∃ wA, wr.alloc (.cells (entL e).toArray 38) = wA := ⟨_, rfl⟩
      rw [hwA] at hE0 hfA hsA
      unfold entL at hwA
      rw [hwA]
      clear hwA
      refine (HRW.out wA).mono ?_
      rintro x w1 ⟨fh, ge, ec, rfl, hfh, hge, hfb, hrd, hu8, hec, hec9, hf1⟩
      have hF1 : Fr [] wr w1 := hfA.trans hf1 (by simp)
      have hz1 := HZ.out.fr hF1 (by simp)
      have hW1 := HWS.out.fr (HWS.out.hC.nil hF1) hF1 (.inl rfl) (FarR.nil _ _ _ _ _ _) (by simp)
      have hl1 := HLL.out.fr HWS.out hF1 (by simp)
      have hE1 := hE0.fr hf1 (by simp)
      have hoff0 : Off ge cw bw bf w.heap.size own := HWS.out.hC.fresh (by omega)
      have hnf : ∀ x ∈ L, x.fh ≠ fh := fun x hx => by
        obtain ⟨⟨_, _, _, _, _, _, _, x1, x2, x3⟩, _⟩ := HWS.out.hL x hx
        have := x2.lt
        omega
      have hea : ExA w1 bf own (some ⟨ge, 0, none⟩) ec e.h.extra := .inr ⟨ge, 0, rfl, hrd, hu8, hoff0.2.2.1, hoff0.2.2.2.2, hec, hec9⟩
      have hss : (filesB (l.take k)).length + (localB e.h).length + e.data.length ≤ (filesB l).length := by
        have h1 := filesB_take hle
        have h2 : filesB l = filesB (l.take (k + 1)) ++ filesB (l.drop (k + 1)) := by rw [← filesB_append, List.take_append_drop]
        rw [h2, h1]
        simp only [List.length_append]
        omega
      have hrok : WR.Ok ⟨e.h.name, e.h.comment, e.h.extra, e.h.creator.toNat, e.h.reader.toNat, e.h.flags.toNat, e.h.method.toNat, e.h.time.toNat, e.h.date.toNat, e.h.crc.toNat, e.h.packed.toNat, e.h.size.toNat, e.h.ext.toNat, (filesB (l.take k)).length, 0, fh⟩ := by
        obtain ⟨⟨o1, p1⟩, ⟨o2, p2⟩, ⟨o3, p3⟩, ⟨o4, p4⟩, ⟨o5, p5⟩, ⟨o6, p6⟩, ⟨o7, p7⟩, ⟨o8, p8⟩, ⟨o9, p9⟩, ⟨o10, p10⟩, o11, o12, o13⟩ := HOK.out
        exact ⟨by show e.h.creator.toNat ≤ _; omega, by show e.h.reader.toNat ≤ _; omega, by show e.h.flags.toNat ≤ _; omega, by show e.h.method.toNat ≤ _; omega, by show e.h.time.toNat ≤ _; omega, by show e.h.date.toNat ≤ _; omega, by show e.h.crc.toNat ≤ _; omega, by show e.h.packed.toNat ≤ _; omega, by show e.h.size.toNat ≤ _; omega, by show e.h.ext.toNat ≤ _; omega, by show (filesB (l.take k)).length ≤ _; omega, o11, o12, o13⟩
      have HCR := Lib.hid (createS w1 zw w.heap.size cw bw bf w.heap.size own (filesB (l.take k)) [] dv last L ⟨e.h.name, e.h.comment, e.h.extra, e.h.creator.toNat, e.h.reader.toNat, e.h.flags.toNat, e.h.method.toNat, e.h.time.toNat, e.h.date.toNat, e.h.crc.toNat, e.h.packed.toNat, e.h.size.toNat, e.h.ext.toNat, (filesB (l.take k)).length, 0, fh⟩ e.h.non 0 0 none ⟨ge, 0, none⟩ ec 0 0 hz1 hW1 hl1 (Nat.le_trans hbase hF1.size) hfb hnf hea hrok hfl rfl (by omega) (by omega))
      have hfar := CrSP.far (c := []) hz1 hW1 hl1 hfb
      have hgeS := CrSP.ge (fh := fh) (by omega : w.heap.size ≤ zw) (by omega) hW1 hl1
      have hlocB : locW ⟨e.h.name, e.h.comment, e.h.extra, e.h.creator.toNat, e.h.reader.toNat, e.h.flags.toNat, e.h.method.toNat, e.h.time.toNat, e.h.date.toNat, e.h.crc.toNat, e.h.packed.toNat, e.h.size.toNat, e.h.ext.toNat, (filesB (l.take k)).length, 0, fh⟩ = localB e.h := rfl
      have hcenB : ∀ j, cenL ⟨e.h.name, e.h.comment, e.h.extra, e.h.creator.toNat, e.h.reader.toNat, e.h.flags.toNat, e.h.method.toNat, e.h.time.toNat, e.h.date.toNat, e.h.crc.toNat, e.h.packed.toNat, e.h.size.toNat, e.h.ext.toNat, (filesB (l.take k)).length, j, fh⟩ = centralB e.h (filesB (l.take k)).length := fun j => rfl
      have HLOC := Lib.hid hlocB
      have HCEN := Lib.hid hcenB
      have HFAR := Lib.hid hfar
      have HGES := Lib.hid hgeS
      have HE1 := Lib.hid hE1
      have HBW := Lib.hid (HB.out.trans (hF1.below (by simp) hbase))
      have HT := Lib.hid (filesB_take hle)
      have HDT := Lib.hid (dirB_take hle)
      clear hfb hrd hu8 hec hec9 hz1 hW1 hl1 hE1 hnf hea hrok hfar hgeS hlocB hcenB hE0
      go_wp2_with fail
      refine HCR.out.mono ?_
      rintro x w2 ⟨own2, dv2, hh2, last2, hW2, ho2, hz2, hl2, hf2, hhh, hcase⟩
      have hE2 := HE1.out.fr hf2 (fun hm => by
        obtain ⟨t', cs', hb', hk⟩ := HFAR.out _ hm
        exact HE1.out.ne_ hb' (by rcases hk with k | k | k | k | k | k | k | k <;> (rw [k]; decide)) rfl)
      have hB2' : Below w.heap.size w1 w2 := hf2.below HGES.out (Nat.le_trans hbase hF1.size)
      have d14 := hE2.at_ 14 (.string (bs e.data)) rfl
      have hbf1 : w1.heap.size ≤ w2.heap.size := hf2.size
      have hbase2 : w.heap.size ≤ w2.heap.size := Nat.le_trans hbase (Nat.le_trans hF1.size hbf1)
      have HE2 := Lib.hid hE2
      have HB2' := Lib.hid hB2'
      have HW2 := Lib.hid hW2
      have HZ2 := Lib.hid hz2
      have HL2 := Lib.hid hl2
      clear hE2 hB2' hW2 hz2 hl2 ho2 hf2
      have hns := bs_size e.data
      have hcv : ∀ W : World, (convert 9 76 (.string (bs e.data))).run Tryz.prog W = .ok (.slice (some ⟨W.heap.size, 0, none⟩) (bs e.data).size (grownCap W (bs e.data).size 0 5)) (W.drew.alloc (.cells (bytesRow (bs e.data) (grownCap W (bs e.data).size 0 5)) 5 ((bytesRow (bs e.data) (grownCap W (bs e.data).size 0 5)).size, (bytesRow (bs e.data) (grownCap W (bs e.data).size 0 5)).size + 1))) := fun W => run_bytes_of_string W _ _ 5 (bs e.data) Tryz.underlying9 Tryz.underlying76 (by kernel_rfl)
      rcases hcase with ⟨hsl, rfl⟩ | ⟨hsl, fw, hfw, rfl, hfwb, hhhb, rfl⟩
      · have hd0 := hdr hsl
        rw [hd0] at hcv d14 hns
        go_wp2_with fail
        refine (dirWrite _ _ _).mono ?_
        rintro x w4 ⟨rfl, hf4⟩
        have hF4 : Fr [] w2 w4 := ((Fr.refl [] w2).alloc _).drew.trans hf4 (by simp)
        have HF4 := Lib.hid hF4
        clear hf4 hF4 hcv
        go_wp2_with fail
        have hws4 := HW2.out.fr (HW2.out.hC.nil HF4.out) HF4.out (.inl rfl) (FarR.nil _ _ _ _ _ _) (by simp)
        refine ⟨⟨k + 1, by omega, by rw [Int.natCast_add]; rfl, own2, dv2, last2, _, ?_, HZ2.out.fr HF4.out (by simp), HL2.out.fr HW2.out HF4.out (by simp), by simp [hLk], ?_, ?_⟩, by simp [intOf]; omega⟩
        · rw [HT.out, hd0, List.append_nil]
          rw [HLOC.out] at hws4
          exact hws4
        · rw [HDT.out, dirL, List.flatMap_append, ← dirL, HDL.out]
          simp [HCEN.out]
        · exact (HBW.out.trans HB2'.out).trans (HF4.out.below (by simp) (by omega))
      · have HFW := Lib.hid hfwb
        have HHH := Lib.hid hhhb
        have hcw := HW2.out.hC
        rw [HLOC.out] at hcw
        have HCW := Lib.hid hcw
        have hgr := grownCap_ge w2 e.data.length 0 5
        have hgl := grownCap_le_maxLen w2 e.data.length 0 5 (by unfold maxLen; omega)
        have hfW : Fr [] w2 ((w2.alloc (.cells (bytesRow (bs e.data) (grownCap w2 e.data.length 0 5)) 5 ((bytesRow (bs e.data) (grownCap w2 e.data.length 0 5)).size, (bytesRow (bs e.data) (grownCap w2 e.data.length 0 5)).size + 1))).drew) := ((Fr.refl [] w2).alloc _).drew
        have hrdW := (rdStr w2 e.data (grownCap w2 e.data.length 0 5) 5 ((bytesRow (bs e.data) (grownCap w2 e.data.length 0 5)).size, (bytesRow (bs e.data) (grownCap w2 e.data.length 0 5)).size + 1) hgr).drew
        have hwr := fwWrite _ fw hh2 cw (.slice (some ⟨w2.heap.size, 0, none⟩) e.data.length (grownCap w2 e.data.length 0 5)) _ .nilIface .nilIface (HFW.out.fr hfW (by simp)) ((HHH.out.fr hfW (by simp)).at_ 2 _ rfl) (some ⟨w2.heap.size, 0, none⟩) e.data.length _ rfl (cwStr w2 _ w.heap.size cw bw bf w.heap.size own2 _ e.data _ HCW.out hfW hrdW (by simp) (by rw [List.length_append]; omega) hgr hgl) (fun e w' h => ⟨_, _, h.choose_spec.1⟩)
        have HWRT := Lib.hid hwr
        have HFW2 := Lib.hid hfW
        clear hfwb hhhb hcw hgr hgl hfW hrdW hwr
        go_wp2_with fail
        refine HWRT.out.mono ?_
        rintro x w4 ⟨own4, rfl, hc4, ho4, hf4⟩
        have hF4 : Fr (cwS cw bw bf w.heap.size own2) w2 w4 := fr0 HFW2.out hf4
        have hO4 : OwnN w2 own2 own4 := (show OwnN w2 own2 own2 from .inl rfl).trans ho4 HFW2.out.size
        have HF4 := Lib.hid hF4
        have HC4 := Lib.hid hc4
        have HO4 := Lib.hid hO4
        clear hf4 hF4 hcv ho4 hO4 hc4
        go_wp2_with fail
        have hws4 := HW2.out.wr HC4.out HF4.out HO4.out
        refine ⟨⟨k + 1, by omega, by rw [Int.natCast_add]; rfl, own4, dv2, _, _, ?_, HZ2.out.fr HF4.out (HW2.out.hC.offBlk HZ2.out (by decide) (by decide) (by decide) (by decide)).not, HL2.out.fr HW2.out HF4.out (fun s hs => .inr (CwS.ty HW2.out.hC s hs)), by simp [hLk], ?_, ?_⟩, by simp [intOf]; omega⟩
        · rw [HT.out]
          exact hws4
        · rw [HDT.out, dirL, List.flatMap_append, ← dirL, HDL.out]
          simp [HCEN.out]
        · exact (HBW.out.trans HB2'.out).trans (HF4.out.below (fun s hs => HW2.out.hC.ge s hs) (by omega))
    · obtain rfl : k = n := by omega
      have i1 : ¬ (k : Int) < (k : Int) := by omega
      have htk : l.take k = l := List.take_of_length_le (by omega)
      have hws := HWS.out
      have hdl := HDL.out
      rw [htk] at hws hdl
      have hf5 : Fr [zw] wr (wr.setCell ⟨zw, 5, none⟩ (.string (bs c))) := (Fr.refl _ _).setCell (.inl (by simp)) _
      have hoz := hws.hC.offBlk HZ.out (by decide) (by decide) (by decide) (by decide)
      have hws5 := hws.fr (hws.hC.fr hf5 (by simp; exact fun e => hoz.1 e.symm) (by simp; exact fun e => hoz.2.1 e.symm) (by simp; exact fun e => hoz.2.2.1 e.symm) (by simp; exact fun e => hoz.2.2.2.1 e.symm) (fun g hg => by simp; exact fun e => hoz.2.2.2.2 (by rw [hg, e]))) hf5 (.inl rfl) (fun s hs => by simp at hs; subst hs; exact .inr (.inr ⟨_, _, HZ.out, by decide, by decide, by decide⟩)) (fun s hs => by simp at hs; subst hs; exact hws.dvty HZ.out (by decide))
      have hl5 := HLL.out.fr hws hf5 (fun s hs => by simp at hs; subst hs; exact .inr ⟨_, _, HZ.out, by decide, by decide⟩)
      have hz5 := HZ.out.set_ 5 (.string (bs c))
      have hlc : LastC _ zw w.heap.size cw bw bf w.heap.size own (filesB l) dv last c L := hl5.c hz5 hws5 (Nat.le_trans hbase hf5.size)
      have HCD := Lib.hid (closedC wr zw w.heap.size cw bw bf w.heap.size own (filesB l) dv last [] c L HZ.out hlc hbase (by omega) (by omega) (by rw [hLk]; omega) hc (by have := dirL_le (l := L) (fun x hx => (hws.hL x hx).2); omega))
      have harc : filesB l ++ dirL L ++ endB L.length (dirL L).length (filesB l).length c = archB l c := by rw [hdl, hLk, ← hn]; rfl
      rw [harc] at HCD
      clear hws hdl hf5 hws5 hl5 hz5 hlc harc
      go_wp2_with fail
      refine HCD.out.mono ?_
      rintro x w5 ⟨rfl, hb5⟩
      have HB5 := Lib.hid hb5
      clear hb5
      go_wp2_with fail
      go_ret2
      exact ⟨rfl, Fr.of_below (HB2.out.trans HB5.out) (Nat.le_refl _) []⟩
end Go.Proofs.YtalgnjkdoaaacaaGreatDoor

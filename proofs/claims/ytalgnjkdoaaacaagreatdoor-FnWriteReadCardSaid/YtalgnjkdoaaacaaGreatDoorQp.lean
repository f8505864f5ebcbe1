/- The ZIP format as lists of bytes, and the checksum: plain Lean, no program in sight. -/
import Derived.Below
import Derived.Laws.OwnMore
import Derived.Deep.AppendLies
import Derived.Deep.Draws
import Derived.Laws.Rows
import Derived.Laws.Tables
import Derived.Laws.BitsAllLaws
import Derived.Laws.BitsLemmas
import Derived.Lib.Hide
import Derived.WalkKit
import Derived.Lib.BufferWrite
set_option linter.unusedVariables false
set_option linter.unusedSimpArgs false
namespace Go.Proofs.YtalgnjkdoaaacaaGreatDoor
namespace Zp
abbrev By := List UInt8
/-- a number as k bytes, the lowest one first -/
def le : Nat → Nat → By
  | 0, _ => []
  | k + 1, n => UInt8.ofNat (n % 256) :: le k (n / 256)
/-- the number of bytes, the lowest one first -/
def num : By → Nat
  | [] => 0
  | b :: l => b.toNat + 256 * num l
@[simp] theorem le_length (k n : Nat) : (le k n).length = k := by
  induction k generalizing n with
  | zero => rfl
  | succ k ih => simp [le, ih]
theorem num_le (k n : Nat) : num (le k n) = n % 256 ^ k := by
  induction k generalizing n with
  | zero => simp [le, num, Nat.mod_one]
  | succ k ih =>
    simp only [le, num, ih]
    have h1 : (UInt8.ofNat (n % 256)).toNat = n % 256 := by simp
    rw [h1, Nat.pow_succ, Nat.mul_comm (256 ^ k) 256, Nat.mod_mul]
theorem num_le_of {k n : Nat} (h : n < 256 ^ k) : num (le k n) = n := by rw [num_le, Nat.mod_eq_of_lt h]
theorem num_lt (l : By) : num l < 256 ^ l.length := by
  induction l with
  | nil => simp [num]
  | cons b l ih =>
    have := b.toNat_lt
    simp only [num, List.length_cons, Nat.pow_succ]
    omega
theorem num_append (l m : By) : num (l ++ m) = num l + 256 ^ l.length * num m := by
  induction l with
  | nil => simp [num]
  | cons b l ih => simp only [List.cons_append, num, ih, List.length_cons, Nat.pow_succ]; rw [Nat.mul_add, Nat.mul_comm (256 ^ l.length) 256, Nat.mul_assoc]; omega
/-- a part of a text -/
def sub (s : By) (a b : Nat) : By := (s.drop a).take (b - a)

def sigL : By := [80, 75, 3, 4]
def sigC : By := [80, 75, 1, 2]
def sigE : By := [80, 75, 5, 6]

structure Hd where
  name : By
  comment : By
  extra : By
  non : Bool
  creator : Int
  reader : Int
  flags : Int
  method : Int
  time : Int
  date : Int
  crc : Int
  packed : Int
  size : Int
  ext : Int
structure Ent where
  h : Hd
  data : By

def fieldsB (h : Hd) : By := le 2 h.flags.toNat ++ le 2 h.method.toNat ++ le 2 h.time.toNat ++ le 2 h.date.toNat ++ le 4 h.crc.toNat ++ le 4 h.packed.toNat ++ le 4 h.size.toNat
def localB (h : Hd) : By := sigL ++ le 2 h.reader.toNat ++ fieldsB h ++ le 2 h.name.length ++ le 2 h.extra.length ++ h.name ++ h.extra
def centralB (h : Hd) (pos : Nat) : By := sigC ++ le 2 h.creator.toNat ++ le 2 h.reader.toNat ++ fieldsB h ++ le 2 h.name.length ++ le 2 h.extra.length ++ le 2 h.comment.length ++ le 2 0 ++ le 2 0 ++ le 4 h.ext.toNat ++ le 4 pos ++ h.name ++ h.extra ++ h.comment
def endB (many size pos : Nat) (comment : By) : By := sigE ++ le 2 0 ++ le 2 0 ++ le 2 many ++ le 2 many ++ le 4 size ++ le 4 pos ++ le 2 comment.length ++ comment
def filesB : List Ent → By
  | [] => []
  | e :: l => localB e.h ++ e.data ++ filesB l
def dirB (pos : Nat) : List Ent → By
  | [] => []
  | e :: l => centralB e.h pos ++ dirB (pos + (localB e.h ++ e.data).length) l
def archB (l : List Ent) (c : By) : By := filesB l ++ dirB 0 l ++ endB l.length (dirB 0 l).length (filesB l).length c
/-- how many times the beginning of an end stands in a text -/
def ends : By → Nat
  | [] => 0
  | b :: s => ends s + if (b :: s).take 4 = sigE then 1 else 0
def In16 (n : Int) : Prop := 0 ≤ n ∧ n ≤ 65535
def HdOk (h : Hd) : Prop := In16 h.creator ∧ In16 h.reader ∧ In16 h.flags ∧ In16 h.method ∧ In16 h.time ∧ In16 h.date ∧
  (0 ≤ h.crc ∧ h.crc ≤ 4294967295) ∧ (0 ≤ h.packed ∧ h.packed ≤ 4294967294) ∧ (0 ≤ h.size ∧ h.size ≤ 4294967294) ∧ (0 ≤ h.ext ∧ h.ext ≤ 4294967295) ∧
  h.name.length ≤ 60000 ∧ h.comment.length ≤ 60000 ∧ h.extra.length ≤ 60000
def GoodP (l : List Ent) (c : By) : Prop := (∀ e ∈ l, HdOk e.h ∧ e.data.length ≤ 1048576) ∧ l.length ≤ 1000 ∧ c.length ≤ 65535 ∧ ends (archB l c) = 1
def occ (s : By) (k : Nat) : Prop := (s.drop k).take 4 = sigE
theorem occ_of_ends0 {s : By} (h : ends s = 0) : ∀ k, ¬ occ s k := by
  induction s with
  | nil => intro k; simp [occ, sigE]
  | cons b s ih =>
    simp only [ends] at h
    intro k
    cases k with
    | zero => intro hk; rw [if_pos (by simpa [occ] using hk)] at h; omega
    | succ k => exact ih (by omega) k
theorem occ_unique {s : By} (h : ends s = 1) : ∀ {j k}, occ s j → occ s k → j = k := by
  induction s with
  | nil => simp [ends] at h
  | cons b s ih =>
    simp only [ends] at h
    intro j k hj hk
    by_cases h0 : (b :: s).take 4 = sigE
    · rw [if_pos h0] at h
      have hn := occ_of_ends0 (s := s) (by omega)
      cases j with
      | succ j => exact absurd hj (hn j)
      | zero => cases k with
        | zero => rfl
        | succ k => exact absurd hk (hn k)
    · rw [if_neg h0] at h
      cases j with
      | zero => exact absurd hj h0
      | succ j => cases k with
        | zero => exact absurd hk h0
        | succ k => rw [ih (by omega) hj hk]
theorem ends_pos {s : By} {k : Nat} (h : occ s k) : 0 < ends s := by
  rcases Nat.eq_zero_or_pos (ends s) with h0 | h0
  · exact absurd h (occ_of_ends0 h0 k)
  · exact h0
end Zp
end Go.Proofs.YtalgnjkdoaaacaaGreatDoor

/- The ZIP format as lists of bytes, and the checksum: plain Lean, no program in sight. -/
namespace Go.Proofs.YtalgnjkdoaaacaaGreatDoor
namespace Zp
/-- one bit of the checksum -/
def s1 (c : Nat) : Nat := (c >>> 1) ^^^ (if c % 2 = 1 then 0xedb88320 else 0)
theorem xor_mod2 (a b : Nat) : (a ^^^ b) % 2 = (a % 2 + b % 2) % 2 := by
  have e0 := Nat.testBit_xor a b 0
  simp only [Nat.testBit_zero] at e0
  rcases Nat.mod_two_eq_zero_or_one a with ha | ha <;> rcases Nat.mod_two_eq_zero_or_one b with hb | hb <;>
    rcases Nat.mod_two_eq_zero_or_one (a ^^^ b) with hc | hc <;> simp [ha, hb, hc] at e0 ⊢
theorem s1_xor (a b : Nat) : s1 (a ^^^ b) = s1 a ^^^ s1 b := by
  unfold s1
  rw [xor_mod2, Nat.shiftRight_xor_distrib]
  generalize a >>> 1 = x
  generalize b >>> 1 = y
  rcases Nat.mod_two_eq_zero_or_one a with ha | ha <;> rcases Nat.mod_two_eq_zero_or_one b with hb | hb <;> simp [ha, hb]
  · rw [Nat.xor_assoc]
  · rw [Nat.xor_assoc, Nat.xor_comm y, ← Nat.xor_assoc]
  · rw [Nat.xor_assoc x, Nat.xor_comm y, ← Nat.xor_assoc 3988292384, Nat.xor_self, Nat.zero_xor]
theorem s1_lt {c : Nat} (h : c < 2 ^ 32) : s1 c < 2 ^ 32 := by
  unfold s1
  refine Nat.xor_lt_two_pow ?_ ?_
  · rw [Nat.shiftRight_eq_div_pow]; omega
  · split <;> decide
theorem s1_zero : s1 0 = 0 := by decide
theorem xor_cancel_left {a b c : Nat} (h : a ^^^ b = a ^^^ c) : b = c := by
  have := congrArg (a ^^^ ·) h
  simpa [← Nat.xor_assoc] using this
/-- a table word has its top bit: so the step can be undone -/
theorem s1_inj0 {c : Nat} (hc : c < 2 ^ 32) (h : s1 c = 0) : c = 0 := by
  unfold s1 at h
  rw [Nat.shiftRight_eq_div_pow] at h
  by_cases hm : c % 2 = 1
  · rw [if_pos hm] at h
    have hx : c / 2 ^ 1 = 0xedb88320 := by
      have := congrArg (· ^^^ 0xedb88320) h
      simpa [Nat.xor_assoc] using this
    omega
  · rw [if_neg hm] at h
    simp at h
    omega
theorem s1_inj {a b : Nat} (ha : a < 2 ^ 32) (hb : b < 2 ^ 32) (h : s1 a = s1 b) : a = b := by
  have h0 : s1 (a ^^^ b) = 0 := by rw [s1_xor, h, Nat.xor_self]
  have := s1_inj0 (Nat.xor_lt_two_pow ha hb) h0
  have e : a ^^^ (a ^^^ b) = a ^^^ 0 := by rw [this]
  rw [← Nat.xor_assoc, Nat.xor_self, Nat.zero_xor, Nat.xor_zero] at e
  exact e.symm
/-- n bits of the checksum -/
def sn : Nat → Nat → Nat
  | 0, c => c
  | n + 1, c => sn n (s1 c)
theorem sn_succ (n c : Nat) : sn (n + 1) c = sn n (s1 c) := rfl
theorem sn_succ' (n c : Nat) : sn (n + 1) c = s1 (sn n c) := by
  induction n generalizing c with
  | zero => rfl
  | succ n ih => rw [sn_succ, ih, sn_succ]
theorem sn_xor (n a b : Nat) : sn n (a ^^^ b) = sn n a ^^^ sn n b := by
  induction n generalizing a b with
  | zero => rfl
  | succ n ih => simp only [sn_succ, s1_xor, ih]
theorem sn_lt (n : Nat) {c : Nat} (h : c < 2 ^ 32) : sn n c < 2 ^ 32 := by
  induction n generalizing c with
  | zero => exact h
  | succ n ih => exact ih (s1_lt h)
theorem sn_inj (n : Nat) {a b : Nat} (ha : a < 2 ^ 32) (hb : b < 2 ^ 32) (h : sn n a = sn n b) : a = b := by
  induction n generalizing a b with
  | zero => exact h
  | succ n ih => exact s1_inj ha hb (ih (s1_lt ha) (s1_lt hb) h)
theorem sn_add (m n c : Nat) : sn (m + n) c = sn n (sn m c) := by
  induction m generalizing c with
  | zero => rw [Nat.zero_add]; rfl
  | succ m ih => rw [Nat.succ_add, sn_succ, ih, sn_succ]
theorem sn_shift (n c : Nat) : sn n (c <<< n) = c := by
  induction n generalizing c with
  | zero => simp [sn]
  | succ n ih =>
    have : s1 (c <<< (n + 1)) = c <<< n := by
      have e : c <<< (n + 1) = 2 * (c <<< n) := by simp only [Nat.shiftLeft_eq, Nat.pow_succ]; rw [Nat.mul_comm 2, Nat.mul_assoc]
      unfold s1
      rw [e, if_neg (by omega), Nat.xor_zero, Nat.shiftRight_eq_div_pow]
      omega
    rw [sn_succ, this, ih]
theorem split_low (c n : Nat) : c = (c % 2 ^ n) ^^^ ((c >>> n) <<< n) := by
  apply Nat.eq_of_testBit_eq
  intro i
  rw [Nat.testBit_xor, Nat.testBit_mod_two_pow, Nat.testBit_shiftLeft, Nat.testBit_shiftRight]
  by_cases h : i < n
  · simp [h, Nat.not_le.2 h]
  · have h' : n ≤ i := by omega
    simp [h, h', Nat.add_sub_cancel' h']
/-- the table's road: a step of eight bits -/
theorem s8_table (c : Nat) : sn 8 c = sn 8 (c % 256) ^^^ (c >>> 8) := by
  conv => lhs; rw [split_low c 8]
  rw [sn_xor, sn_shift]
/-- the checksum of a text, from a state on -/
def upd (c : Nat) : List UInt8 → Nat
  | [] => c
  | b :: l => upd (sn 8 (c ^^^ b.toNat)) l
theorem upd_append (c : Nat) (l m : List UInt8) : upd c (l ++ m) = upd (upd c l) m := by
  induction l generalizing c with
  | nil => rfl
  | cons b l ih => simp [upd, ih]
theorem byte_lt (b : UInt8) : b.toNat < 2 ^ 32 := Nat.lt_of_lt_of_le b.toNat_lt (by decide)
theorem upd_lt {c : Nat} (h : c < 2 ^ 32) (l : List UInt8) : upd c l < 2 ^ 32 := by
  induction l generalizing c with
  | nil => exact h
  | cons b l ih => exact ih (sn_lt 8 (Nat.xor_lt_two_pow h (byte_lt b)))
theorem upd_inj {a b : Nat} (ha : a < 2 ^ 32) (hb : b < 2 ^ 32) (l : List UInt8) (h : upd a l = upd b l) : a = b := by
  induction l generalizing a b with
  | nil => exact h
  | cons x l ih =>
    have h1 := ih (sn_lt 8 (Nat.xor_lt_two_pow ha (byte_lt x))) (sn_lt 8 (Nat.xor_lt_two_pow hb (byte_lt x))) h
    have h2 := sn_inj 8 (Nat.xor_lt_two_pow ha (byte_lt x)) (Nat.xor_lt_two_pow hb (byte_lt x)) h1
    rw [Nat.xor_comm a, Nat.xor_comm b] at h2
    exact xor_cancel_left h2
/-- two texts that part in one byte have two checksums -/
theorem upd_byte {c : Nat} (hc : c < 2 ^ 32) (p q : List UInt8) {x y : UInt8} (h : x ≠ y) : upd c (p ++ x :: q) ≠ upd c (p ++ y :: q) := by
  rw [upd_append, upd_append]
  intro e
  have h1 := upd_inj (sn_lt 8 (Nat.xor_lt_two_pow (upd_lt hc p) (byte_lt x))) (sn_lt 8 (Nat.xor_lt_two_pow (upd_lt hc p) (byte_lt y))) q e
  have h2 := xor_cancel_left (sn_inj 8 (Nat.xor_lt_two_pow (upd_lt hc p) (byte_lt x)) (Nat.xor_lt_two_pow (upd_lt hc p) (byte_lt y)) h1)
  exact h (UInt8.toNat_inj.1 h2)
/-- the eight tables -/
def tb (j i : Nat) : Nat := sn (8 * (j + 1)) i
theorem tb_succ (j i : Nat) : tb (j + 1) i = tb 0 (tb j i % 256) ^^^ (tb j i >>> 8) := by
  have e : tb (j + 1) i = sn 8 (tb j i) := by
    unfold tb; rw [show 8 * (j + 1 + 1) = 8 * (j + 1) + 8 by omega, sn_add]
  rw [e, s8_table]; rfl
theorem sn_lift (m n c : Nat) : sn m c = sn (n + m) (c <<< n) := by rw [sn_add, sn_shift]
theorem sn_lift' {m n c d k : Nat} (hk : k = n + m) (hd : d = c <<< n) : sn m c = sn k d := by rw [hk, hd]; exact sn_lift m n c
/-- eight bytes at once -/
theorem slice8 (c : Nat) (b0 b1 b2 b3 b4 b5 b6 b7 : UInt8) (x : Nat) (hx : x = c ^^^ (b0.toNat ^^^ (b1.toNat <<< 8) ^^^ (b2.toNat <<< 16) ^^^ (b3.toNat <<< 24))) :
    upd c [b0, b1, b2, b3, b4, b5, b6, b7] =
      tb 0 b7.toNat ^^^ tb 1 b6.toNat ^^^ tb 2 b5.toNat ^^^ tb 3 b4.toNat ^^^ tb 4 (x >>> 24) ^^^ tb 5 ((x >>> 16) % 256) ^^^ tb 6 ((x >>> 8) % 256) ^^^ tb 7 (x % 256) := by
  have a16 : ∀ c, sn 8 (sn 8 c) = sn 16 c := fun c => (sn_add 8 8 c).symm
  have a24 : ∀ c, sn 8 (sn 16 c) = sn 24 c := fun c => (sn_add 16 8 c).symm
  have a32 : ∀ c, sn 8 (sn 24 c) = sn 32 c := fun c => (sn_add 24 8 c).symm
  have a40 : ∀ c, sn 8 (sn 32 c) = sn 40 c := fun c => (sn_add 32 8 c).symm
  have a48 : ∀ c, sn 8 (sn 40 c) = sn 48 c := fun c => (sn_add 40 8 c).symm
  have a56 : ∀ c, sn 8 (sn 48 c) = sn 56 c := fun c => (sn_add 48 8 c).symm
  have a64 : ∀ c, sn 8 (sn 56 c) = sn 64 c := fun c => (sn_add 56 8 c).symm
  have h4 : sn 8 (sn 8 (sn 8 (sn 8 (c ^^^ b0.toNat) ^^^ b1.toNat) ^^^ b2.toNat) ^^^ b3.toNat) = sn 32 x := by
    rw [hx]
    simp only [sn_xor, a16, a24, a32]
    rw [← sn_lift' (m := 24) (n := 8) (c := b1.toNat) rfl rfl, ← sn_lift' (m := 16) (n := 16) (c := b2.toNat) rfl rfl, ← sn_lift' (m := 8) (n := 24) (c := b3.toNat) rfl rfl]
    simp only [Nat.xor_assoc]
  have hs : x = (x % 256) ^^^ (((x >>> 8) % 256) <<< 8) ^^^ (((x >>> 16) % 256) <<< 16) ^^^ ((x >>> 24) <<< 24) := by
    conv => lhs; rw [split_low x 8, split_low (x >>> 8) 8, split_low (x >>> 8 >>> 8) 8]
    simp only [Nat.shiftLeft_xor_distrib, ← Nat.shiftRight_add, ← Nat.shiftLeft_add, Nat.xor_assoc]
  have h5 : sn 64 x = tb 4 (x >>> 24) ^^^ tb 5 ((x >>> 16) % 256) ^^^ tb 6 ((x >>> 8) % 256) ^^^ tb 7 (x % 256) := by
    conv => lhs; rw [hs]
    simp only [sn_xor]
    rw [← sn_lift' (m := 56) (n := 8) (c := (x >>> 8) % 256) rfl rfl, ← sn_lift' (m := 48) (n := 16) (c := (x >>> 16) % 256) rfl rfl, ← sn_lift' (m := 40) (n := 24) (c := x >>> 24) rfl rfl]
    show sn 64 _ ^^^ sn 56 _ ^^^ sn 48 _ ^^^ sn 40 _ = sn 40 _ ^^^ sn 48 _ ^^^ sn 56 _ ^^^ sn 64 _
    generalize sn 64 _ = p; generalize sn 56 _ = q; generalize sn 48 _ = r; generalize sn 40 _ = s
    rw [Nat.xor_comm (s ^^^ r ^^^ q) p, Nat.xor_comm (s ^^^ r) q, Nat.xor_comm s r]
    simp only [Nat.xor_assoc]
  simp only [upd, h4]
  simp only [sn_xor, a16, a24, a32, a40, a48, a56, a64]
  rw [h5]
  show _ ^^^ sn 32 _ ^^^ sn 24 _ ^^^ sn 16 _ ^^^ sn 8 _ = sn 8 _ ^^^ sn 16 _ ^^^ sn 24 _ ^^^ sn 32 _ ^^^ _ ^^^ _ ^^^ _ ^^^ _
  generalize sn 32 _ = p; generalize sn 24 _ = q; generalize sn 16 _ = r; generalize sn 8 _ = s
  generalize tb 4 _ = t4; generalize tb 5 _ = t5; generalize tb 6 _ = t6; generalize tb 7 _ = t7
  rw [Nat.xor_comm (t4 ^^^ t5 ^^^ t6 ^^^ t7 ^^^ p ^^^ q ^^^ r) s, Nat.xor_comm (t4 ^^^ t5 ^^^ t6 ^^^ t7 ^^^ p ^^^ q) r, Nat.xor_comm (t4 ^^^ t5 ^^^ t6 ^^^ t7 ^^^ p) q, Nat.xor_comm (t4 ^^^ t5 ^^^ t6 ^^^ t7) p]
  simp only [Nat.xor_assoc]
end Zp
end Go.Proofs.YtalgnjkdoaaacaaGreatDoor

/- The archive of entries whose fields are any numbers. -/
namespace Go.Proofs.YtalgnjkdoaaacaaGreatDoor
namespace Zp
/-- a number as k bytes, as the reference writes it -/
def leI : Nat → Int → By
  | 0, _ => []
  | k + 1, n => UInt8.ofNat (n % 256).toNat :: leI k (n.tdiv 256)
@[simp] theorem leI_length (k : Nat) : ∀ n, (leI k n).length = k := by
  induction k with
  | zero => intro n; rfl
  | succ k ih => intro n; simp [leI, ih]
theorem leI_le (k : Nat) : ∀ n : Int, 0 ≤ n → leI k n = le k n.toNat := by
  induction k with
  | zero => intro n h; rfl
  | succ k ih =>
    intro n h
    have h1 : n.tdiv 256 = n / 256 := Int.tdiv_eq_ediv_of_nonneg h
    have h2 : (n % 256).toNat = n.toNat % 256 := by omega
    have h3 : (n / 256).toNat = n.toNat / 256 := by omega
    simp only [leI, le]
    rw [h1, ih _ (by omega), h2, h3]
theorem leI_nat (k n : Nat) : leI k (n : Int) = le k n := by rw [leI_le k _ (by omega)]; simp
def fieldsI (h : Hd) : By := leI 2 h.flags ++ leI 2 h.method ++ leI 2 h.time ++ leI 2 h.date ++ leI 4 h.crc ++ leI 4 h.packed ++ leI 4 h.size
def localI (h : Hd) : By := sigL ++ leI 2 h.reader ++ fieldsI h ++ leI 2 h.name.length ++ leI 2 h.extra.length ++ h.name ++ h.extra
def centralI (h : Hd) (pos : Int) : By := sigC ++ leI 2 h.creator ++ leI 2 h.reader ++ fieldsI h ++ leI 2 h.name.length ++ leI 2 h.extra.length ++ leI 2 h.comment.length ++ leI 2 0 ++ leI 2 0 ++ leI 4 h.ext ++ leI 4 pos ++ h.name ++ h.extra ++ h.comment
def endI (many size pos : Int) (comment : By) : By := sigE ++ leI 2 0 ++ leI 2 0 ++ leI 2 many ++ leI 2 many ++ leI 4 size ++ leI 4 pos ++ leI 2 comment.length ++ comment
def filesI : List Ent → By
  | [] => []
  | e :: l => localI e.h ++ e.data ++ filesI l
def dirI (pos : Nat) : List Ent → By
  | [] => []
  | e :: l => centralI e.h pos ++ dirI (pos + (localI e.h ++ e.data).length) l
def archI (l : List Ent) (c : By) : By := filesI l ++ dirI 0 l ++ endI l.length (dirI 0 l).length (filesI l).length c
theorem fieldsI_length (h : Hd) : (fieldsI h).length = 20 := by simp [fieldsI]
theorem localI_length (h : Hd) : (localI h).length = 30 + h.name.length + h.extra.length := by simp [localI, fieldsI_length, sigL]; omega
theorem centralI_length (h : Hd) (pos : Int) : (centralI h pos).length = 46 + h.name.length + h.extra.length + h.comment.length := by simp [centralI, fieldsI_length, sigC]; omega
theorem endI_length (m a b : Int) (c : By) : (endI m a b c).length = 22 + c.length := by simp [endI, sigE]; omega
theorem fieldsI_ok {h : Hd} (hd : HdOk h) : fieldsI h = fieldsB h := by
  obtain ⟨h1, h2, h3, h4, h5, h6, ⟨h7, h8⟩, ⟨h9, h10⟩, ⟨h11, h12⟩, ⟨h13, h14⟩, h15, h16, h17⟩ := hd
  rw [fieldsI, fieldsB, leI_le 2 _ h3.1, leI_le 2 _ h4.1, leI_le 2 _ h5.1, leI_le 2 _ h6.1, leI_le 4 _ h7, leI_le 4 _ h9, leI_le 4 _ h11]
theorem localI_ok {h : Hd} (hd : HdOk h) : localI h = localB h := by
  rw [localI, localB, fieldsI_ok hd, leI_le 2 _ hd.2.1.1, leI_nat, leI_nat]
theorem centralI_ok {h : Hd} (hd : HdOk h) (pos : Nat) : centralI h pos = centralB h pos := by
  have he : 0 ≤ h.ext := hd.2.2.2.2.2.2.2.2.2.1.1
  have h0 := leI_nat 2 0
  rw [Int.natCast_zero] at h0
  rw [centralI, centralB, fieldsI_ok hd, leI_le 2 _ hd.1.1, leI_le 2 _ hd.2.1.1, leI_nat, leI_nat, leI_nat, leI_nat, h0, leI_le 4 _ he]
theorem endI_ok (m a b : Nat) (c : By) : endI m a b c = endB m a b c := by
  have h0 := leI_nat 2 0
  rw [Int.natCast_zero] at h0
  rw [endI, endB, leI_nat, leI_nat, leI_nat, leI_nat, h0]
theorem filesI_ok : ∀ {l : List Ent}, (∀ e ∈ l, HdOk e.h) → filesI l = filesB l
  | [], _ => rfl
  | e :: l, h => by rw [filesI, filesB, localI_ok (h e (by simp)), filesI_ok (fun x hx => h x (by simp [hx]))]
theorem dirI_ok : ∀ {l : List Ent} (pos : Nat), (∀ e ∈ l, HdOk e.h) → dirI pos l = dirB pos l
  | [], _, _ => rfl
  | e :: l, pos, h => by rw [dirI, dirB, centralI_ok (h e (by simp)), localI_ok (h e (by simp)), dirI_ok _ (fun x hx => h x (by simp [hx]))]
theorem archI_ok {l : List Ent} (c : By) (h : ∀ e ∈ l, HdOk e.h) : archI l c = archB l c := by
  rw [archI, archB, filesI_ok h, dirI_ok 0 h, endI_ok]
/-- How long an archive is. -/
def sizeE (e : Ent) : Nat := e.h.name.length + e.h.extra.length + e.h.comment.length + e.data.length
theorem filesI_le : ∀ (l : List Ent) (M : Nat), (∀ e ∈ l, sizeE e ≤ M) → (filesI l).length ≤ l.length * (30 + M)
  | [], _, _ => by simp [filesI]
  | e :: l, M, h => by
    have h1 := h e (by simp)
    have h2 := filesI_le l M (fun x hx => h x (by simp [hx]))
    simp only [filesI, List.length_append, localI_length, List.length_cons, Nat.succ_mul]
    unfold sizeE at h1
    omega
theorem dirI_le : ∀ (l : List Ent) (M pos : Nat), (∀ e ∈ l, sizeE e ≤ M) → (dirI pos l).length ≤ l.length * (46 + M)
  | [], _, _, _ => by simp [dirI]
  | e :: l, M, pos, h => by
    have h1 := h e (by simp)
    have h2 := dirI_le l M (pos + (localI e.h ++ e.data).length) (fun x hx => h x (by simp [hx]))
    simp only [dirI, List.length_append, centralI_length, List.length_cons, Nat.succ_mul] at h2 ⊢
    unfold sizeE at h1
    omega
end Zp
end Go.Proofs.YtalgnjkdoaaacaaGreatDoor

/- Words on memory that the contracts of this claim use: what a call may have turned, blocks that are known whole, rows of bytes. -/
namespace Go.Proofs.YtalgnjkdoaaacaaGreatDoor
open Go Go.RowKit

/-- All blocks that were there and are not listed are as they were. -/
structure Fr (S : List Nat) (w w' : World) : Prop where
  os : w'.os = w.os
  tape : w'.tape = w.tape
  output : w'.output = w.output
  size : w.heap.size ≤ w'.heap.size
  block : ∀ k, k < w.heap.size → k ∉ S → w'.heap[k]? = w.heap[k]?

namespace Fr
variable {S S' : List Nat} {w w1 w2 : World}
theorem refl (S : List Nat) (w : World) : Fr S w w := ⟨rfl, rfl, rfl, Nat.le_refl _, fun _ _ _ => rfl⟩
theorem trans (h : Fr S w w1) (k : Fr S' w1 w2) (hs : ∀ s ∈ S', s ∈ S ∨ w.heap.size ≤ s) : Fr S w w2 :=
  ⟨k.os.trans h.os, k.tape.trans h.tape, k.output.trans h.output, Nat.le_trans h.size k.size, fun i hi hn => (k.block i (Nat.lt_of_lt_of_le hi h.size) (fun hm => by
    rcases hs i hm with h1 | h1
    · exact hn h1
    · omega)).trans (h.block i hi hn)⟩
theorem mono (h : Fr S w w1) (hs : ∀ s ∈ S, s ∈ S' ∨ w.heap.size ≤ s) : Fr S' w w1 :=
  ⟨h.os, h.tape, h.output, h.size, fun i hi hn => h.block i hi (fun hm => by
    rcases hs i hm with h1 | h1
    · exact hn h1
    · omega)⟩
theorem drew (h : Fr S w w1) : Fr S w w1.drew := ⟨h.os, h.tape, h.output, h.size, h.block⟩
theorem drewN (h : Fr S w w1) (n : Nat) : Fr S w (w1.drewN n) := ⟨h.os, h.tape, h.output, h.size, h.block⟩
theorem alloc (h : Fr S w w1) (o : Obj) : Fr S w (w1.alloc o) :=
  ⟨h.os, h.tape, h.output, Nat.le_trans h.size (by simp), fun i hi hn => (Below.heap_alloc w1 o i (Nat.lt_of_lt_of_le hi h.size)).trans (h.block i hi hn)⟩
theorem setCell (h : Fr S w w1) {p : Addr} (hp : p.block ∈ S ∨ w.heap.size ≤ p.block) (u : Value) : Fr S w (w1.setCell p u) :=
  ⟨h.os, h.tape, h.output, by simpa [World.setCell] using h.size, fun i hi hn => (Below.heap_setCell w1 p u i (fun e => by
    subst e
    rcases hp with h1 | h1
    · exact hn h1
    · omega)).trans (h.block i hi hn)⟩
theorem setRow (h : Fr S w w1) {g : Nat} (hp : g ∈ S ∨ w.heap.size ≤ g) (cs : Array Value) : Fr S w (w1.setRow g cs) :=
  ⟨h.os, h.tape, h.output, by simpa using h.size, fun i hi hn => (setRow_other w1 g i cs (fun e => by
    subst e
    rcases hp with h1 | h1
    · exact hn h1
    · omega)).trans (h.block i hi hn)⟩
theorem below (h : Fr S w w1) {B : Nat} (hs : ∀ s ∈ S, B ≤ s) (hB : B ≤ w.heap.size) : Below B w w1 :=
  ⟨h.os, h.tape, h.output, h.size, fun k hk => h.block k (by omega) (fun hm => by have := hs k hm; omega)⟩
theorem of_below {B : Nat} (h : Below B w w1) (hB : w.heap.size ≤ B) (S : List Nat) : Fr S w w1 := ⟨h.os, h.tape, h.output, h.size, fun k hk _ => h.block k (by omega)⟩
theorem of_grown {row : Option Nat} (h : w.grownBy w1 row) (hs : ∀ k, row = some k → k ∈ S ∨ w.heap.size ≤ k) : Fr S w w1 :=
  ⟨h.os, h.tape, h.output, h.size, fun k hk hn => h.block k hk (fun e => by
    rcases hs k e.symm with h1 | h1
    · exact hn h1
    · omega)⟩
theorem cell (h : Fr S w w1) {p : Addr} (hp : p.block < w.heap.size) (hn : p.block ∉ S) : w1.cell? p = w.cell? p := World.cell?_of_block (w := w) (h.block _ hp hn)
theorem frozen (h : Fr S w w1) {p : Addr} (hp : p.block < w.heap.size) (hn : p.block ∉ S) : w1.frozen? p = w.frozen? p := World.frozen?_of_block (w := w) (h.block _ hp hn)
end Fr

/-- Block g is just these cells of type t, none of them frozen. -/
def Blk (w : World) (g : Nat) (t : TypeId) (cs : Array Value) : Prop := w.heap[g]? = some (.cells cs t (0, 0))
namespace Blk
variable {w w' : World} {g : Nat} {t : TypeId} {cs : Array Value}
theorem lt (h : Blk w g t cs) : g < w.heap.size := by
  rcases Nat.lt_or_ge g w.heap.size with hlt | hge
  · exact hlt
  · unfold Blk at h; rw [Array.getElem?_eq_none hge] at h; cases h
theorem cell (h : Blk w g t cs) (i : Nat) : w.cell? ⟨g, i, none⟩ = cs[i]? := cell_of_row w g i cs t (0, 0) h
theorem at_ (h : Blk w g t cs) (i : Nat) (v : Value) (hv : cs[i]? = some v) : w.cell? ⟨g, i, none⟩ = some v := (h.cell i).trans hv
theorem frozen (h : Blk w g t cs) (i : Nat) : w.frozen? ⟨g, i, none⟩ = false := by
  unfold Blk at h
  simp [World.frozen?, h]
theorem new (w : World) (t : TypeId) (cs : Array Value) : Blk (w.alloc (.cells cs t)) w.heap.size t cs := heap_alloc_new w _
theorem drew (h : Blk w g t cs) : Blk w.drew g t cs := h
theorem drewN (h : Blk w g t cs) (n : Nat) : Blk (w.drewN n) g t cs := h
theorem alloc (h : Blk w g t cs) (o : Obj) : Blk (w.alloc o) g t cs := (Below.heap_alloc w o g h.lt).trans h
theorem set_ (h : Blk w g t cs) (i : Nat) (u : Value) : Blk (w.setCell ⟨g, i, none⟩ u) g t (cs.setIfInBounds i u) := by
  unfold Blk at h ⊢
  simp [World.setCell, Array.getElem?_modify, h]
theorem far (h : Blk w g t cs) {p : Addr} (hp : g ≠ p.block) (u : Value) : Blk (w.setCell p u) g t cs := (Below.heap_setCell w p u g hp).trans h
theorem row (h : Blk w g t cs) (cs' : Array Value) : Blk (w.setRow g cs') g t cs' := setRow_heap w g cs cs' t (0, 0) h
theorem rowFar (h : Blk w g t cs) {g' : Nat} (hp : g ≠ g') (cs' : Array Value) : Blk (w.setRow g' cs') g t cs := (setRow_other w g' g cs' hp).trans h
theorem fr {S : List Nat} (h : Blk w g t cs) (hf : Fr S w w') (hn : g ∉ S) : Blk w' g t cs := (hf.block g h.lt hn).trans h
theorem below {B : Nat} (h : Blk w g t cs) (hb : Below B w w') (hg : g < B) : Blk w' g t cs := (hb.block g hg).trans h
theorem ne_ {g' : Nat} {t' : TypeId} {cs' : Array Value} (h : Blk w g t cs) (h' : Blk w g' t' cs') (hne : t ≠ t') : g ≠ g' := by
  rintro rfl
  unfold Blk at h h'
  rw [h] at h'
  injection h' with h'
  injection h' with _ ht
  exact hne ht
theorem inj {t' : TypeId} {cs' : Array Value} (h : Blk w g t cs) (h' : Blk w g t' cs') : cs = cs' := by
  unfold Blk at h h'
  rw [h] at h'
  injection h' with h'
  injection h'
end Blk

/-- A byte as a cell holds it. -/
abbrev vb (b : UInt8) : Value := .int .u8 (b.toNat : Int)
/-- These bytes lie at this place. -/
def Rd (w : World) (g o : Nat) (l : List UInt8) : Prop := ∀ i b, l[i]? = some b → w.cell? ⟨g, o + i, none⟩ = some (.int .u8 (b.toNat : Int))
namespace Rd
variable {w w' : World} {g o : Nat} {l m : List UInt8}
theorem nil_ (w : World) (g o : Nat) : Rd w g o [] := fun i b h => by simp at h
theorem head {b : UInt8} (h : Rd w g o (b :: l)) : w.cell? ⟨g, o, none⟩ = some (.int .u8 (b.toNat : Int)) := h 0 b rfl
theorem tail {b : UInt8} (h : Rd w g o (b :: l)) : Rd w g (o + 1) l := fun i c hc => by
  have := h (i + 1) c (by simpa using hc)
  rwa [show o + (i + 1) = o + 1 + i by omega] at this
theorem drop (h : Rd w g o l) (k : Nat) : Rd w g (o + k) (l.drop k) := fun i c hc => by
  have := h (k + i) c (by simpa using hc)
  rwa [show o + (k + i) = o + k + i by omega] at this
theorem left (h : Rd w g o (l ++ m)) : Rd w g o l := fun i c hc => h i c (by
  have hi : i < l.length := (List.getElem?_eq_some_iff.1 hc).1
  rw [List.getElem?_append_left hi]; exact hc)
theorem right (h : Rd w g o (l ++ m)) : Rd w g (o + l.length) m := by
  have := h.drop l.length
  simpa using this
theorem keep (h : Rd w g o l) (hk : ∀ i, w'.cell? ⟨g, i, none⟩ = w.cell? ⟨g, i, none⟩) : Rd w' g o l := fun i b hb => (hk _).trans (h i b hb)
theorem drewN (h : Rd w g o l) (n : Nat) : Rd (w.drewN n) g o l := h
theorem drew (h : Rd w g o l) : Rd w.drew g o l := h
theorem far (h : Rd w g o l) {p : Addr} (hp : g ≠ p.block) (u : Value) : Rd (w.setCell p u) g o l :=
  h.keep fun i => World.cell?_setCell_other w p ⟨g, i, none⟩ u (fun e => hp (by rw [e]))
theorem fr {S : List Nat} (h : Rd w g o l) (hf : Fr S w w') (hg : g < w.heap.size) (hn : g ∉ S) : Rd w' g o l := h.keep fun i => hf.cell (p := ⟨g, i, none⟩) hg hn
theorem below {B : Nat} (h : Rd w g o l) (hb : Below B w w') (hg : g < B) : Rd w' g o l := h.keep fun i => hb.cell (p := ⟨g, i, none⟩) hg
theorem of_blk {t : TypeId} {cs : Array Value} (h : Blk w g t cs) (hl : ∀ i b, l[i]? = some b → cs[o + i]? = some (.int .u8 (b.toNat : Int))) : Rd w g o l :=
  fun i b hb => (h.cell _).trans (hl i b hb)
end Rd
@[simp, go_sem] theorem setRow_drewN (w : World) (n g : Nat) (cs : Array Value) : (w.drewN n).setRow g cs = (w.setRow g cs).drewN n := rfl
@[simp, go_sem] theorem setRow_drew (w : World) (g : Nat) (cs : Array Value) : w.drew.setRow g cs = (w.setRow g cs).drew := rfl
@[simp, go_sem] theorem setCell_drewN (w : World) (n : Nat) (a : Addr) (v : Value) : (w.drewN n).setCell a v = (w.setCell a v).drewN n := rfl
@[simp, go_sem] theorem alloc_drewN (w : World) (n : Nat) (o : Obj) : (w.drewN n).alloc o = (w.alloc o).drewN n := rfl
end Go.Proofs.YtalgnjkdoaaacaaGreatDoor

/- A row of bytes written in part: 'spl'; copies from a string and from another row. -/
namespace Go.Proofs.YtalgnjkdoaaacaaGreatDoor
open Go Go.RowKit

/-- The cells with these bytes laid over them from place o on. -/
def spl (cur : Array Value) (o : Nat) (l : List UInt8) : Array Value := (cur.toList.take o ++ Lib.byteCells l ++ cur.toList.drop (o + l.length)).toArray
theorem spl_size {cur : Array Value} {o : Nat} {l : List UInt8} (h : o + l.length ≤ cur.size) : (spl cur o l).size = cur.size := by
  simp [spl, Lib.byteCells_length]; omega
theorem spl_nil (cur : Array Value) (o : Nat) : spl cur o [] = cur := by
  simp [spl, Lib.byteCells]
theorem spl_in {cur : Array Value} {o i : Nat} {l : List UInt8} {b : UInt8} (h : o + l.length ≤ cur.size) (hi : l[i]? = some b) : (spl cur o l)[o + i]? = some (.int .u8 (b.toNat : Int)) := by
  have hil : i < l.length := (List.getElem?_eq_some_iff.1 hi).1
  simp only [spl, List.getElem?_toArray]
  rw [List.getElem?_append_left (by simp [Lib.byteCells_length]; omega), List.getElem?_append_right (by simp; omega)]
  have e : o + i - (List.take o cur.toList).length = i := by simp; omega
  rw [e]
  simp [Lib.byteCells, hi]
theorem spl_out {cur : Array Value} {o i : Nat} {l : List UInt8} (h : o + l.length ≤ cur.size) (hi : i < o ∨ o + l.length ≤ i) : (spl cur o l)[i]? = cur[i]? := by
  simp only [spl, List.getElem?_toArray]
  rcases hi with hi | hi
  · rw [List.getElem?_append_left (by simp; omega), List.getElem?_append_left (by simp; omega)]
    simp [hi]
  · rw [List.getElem?_append_right (by simp [Lib.byteCells_length]; omega)]
    have e : (List.take o cur.toList ++ Lib.byteCells l).length = o + l.length := by simp [Lib.byteCells_length]; omega
    rw [e, List.getElem?_drop, show o + l.length + (i - (o + l.length)) = i by omega]
    simp
theorem Rd.spl {w : World} {g o : Nat} {t : TypeId} {cur : Array Value} {l : List UInt8} (h : Blk w g t (spl cur o l)) (hl : o + l.length ≤ cur.size) : Rd w g o l :=
  Rd.of_blk h fun _ _ hb => spl_in hl hb
/-- All cells are whole values (no struct or array lies in one): so a row of bytes. -/
def Ones (cur : Array Value) : Prop := ∀ v ∈ cur.toList, v.oneCell' = true
theorem Ones.spl {cur : Array Value} {o : Nat} {l : List UInt8} (h : Ones cur) : Ones (spl cur o l) := by
  intro v hv
  simp only [Proofs.YtalgnjkdoaaacaaGreatDoor.spl, List.mem_append] at hv
  rcases hv with (hv | hv) | hv
  · exact h v (List.mem_of_mem_take hv)
  · exact Lib.byteCells_one l v hv
  · exact h v (List.mem_of_mem_drop hv)

theorem spl_spl {cur : Array Value} {o o' : Nat} {l m : List UInt8} (ho : o' = o + l.length) (h : o + (l ++ m).length ≤ cur.size) : spl (spl cur o l) o' m = spl cur o (l ++ m) := by
  subst ho
  rw [List.length_append] at h
  apply Array.ext_getElem?
  intro i
  have h1 : o + l.length + m.length ≤ (spl cur o l).size := by rw [spl_size (by omega)]; omega
  have h2 : o + (l ++ m).length ≤ cur.size := by rw [List.length_append]; omega
  by_cases ha : i < o ∨ o + l.length + m.length ≤ i
  · rw [spl_out h1 (by omega), spl_out (by omega) (by omega), spl_out h2 (by rw [List.length_append]; omega)]
  · by_cases hb : i < o + l.length
    · obtain ⟨j, rfl⟩ : ∃ j, i = o + j := ⟨i - o, by omega⟩
      have hj : l[j]? = some (l[j]'(by omega)) := List.getElem?_eq_getElem (by omega)
      rw [spl_out h1 (by omega), spl_in (by omega) hj, spl_in h2 (by rw [List.getElem?_append_left (by omega)]; exact hj)]
    · obtain ⟨j, rfl⟩ : ∃ j, i = o + l.length + j := ⟨i - (o + l.length), by omega⟩
      have hj : m[j]? = some (m[j]'(by omega)) := List.getElem?_eq_getElem (by omega)
      rw [spl_in h1 hj, Nat.add_assoc, spl_in h2 (by rw [List.getElem?_append_right (by omega), Nat.add_sub_cancel_left]; exact hj)]
/-- 'copy(dst, s)' from a string: as many bytes as the shorter of the two has. -/
theorem run_copy_str {P : Program} (w : World) (dT sT ty elem : TypeId) (g o dLen dCap : Nat) (s : ByteArray) (cur : Array Value) (t : TypeId)
    (hu : P.underlying dT = some (.slice elem)) (hs : (P.info? elem).map (·.size) = some 1) (hg : Blk w g t cur) (hfit : o + dLen ≤ cur.size) :
    (Builtin.copy_ #[dT, sT] ty #[.slice (some ⟨g, o, none⟩) dLen dCap, .string s]).run P w =
      .ok (goInt (Nat.min s.size dLen)) (w.setRow g (spl cur o (s.data.toList.take dLen))) := by
  have hsz : s.size = s.data.toList.length := Lib.size_eq s
  have hmin : (s.data.toList.take dLen).length = Nat.min s.size dLen := by rw [hsz, List.length_take]; exact Nat.min_comm _ _
  have hlen : (Lib.byteCells (s.data.toList.take dLen)).length = Nat.min s.size dLen := by rw [Lib.byteCells_length, hmin]
  have hle : Nat.min s.size dLen ≤ dLen := Nat.min_le_right _ _
  have hst := run_storeCells_at P g o t (Lib.byteCells (s.data.toList.take dLen)) 0 cur w hg (by rw [hlen]; omega) (Lib.byteCells_one _)
  have htk : List.take (Nat.min s.size dLen) (List.map (fun b : UInt8 => Value.int IntKind.u8 (b.toNat : Int)) s.data.toList) = Lib.byteCells (s.data.toList.take dLen) := by
    unfold Lib.byteCells
    rw [List.map_take]
    show List.take (min s.size dLen) _ = _
    rw [Nat.min_comm, hsz, ← List.length_map (f := fun b : UInt8 => Value.int IntKind.u8 (b.toNat : Int))]
    exact List.take_eq_take_min.symm
  rw [hlen] at hst
  simp only [Nat.add_zero] at hst
  cases hq : P.info? elem with
  | none => simp [hq] at hs
  | some i =>
    simp [Builtin.copy_, run_underlying hu, Builtin.lenOf, Builtin.firstCells, sizeOf, typeInfo, hq]
    rw [htk, hst]
    simp [Result.andThen, spl, hmin]
end Go.Proofs.YtalgnjkdoaaacaaGreatDoor

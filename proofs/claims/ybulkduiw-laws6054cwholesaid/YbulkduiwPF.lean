/-
  The plain laws on float64: the order's key, and that the mean of two depends on their keys alone.
-/
import Derived.Test.YbulkduiwF0
import Derived.Sort.Statements
import Derived.Laws.FloatArith
namespace Go.Proofs.Ybulkduiw
open Go.Sort Ieee

def big : Int := 2 ^ 2200

/-- What a datum that was read is like. -/
def Canon : Datum → Prop
  | .number _ m i => -1074 ≤ i ∧ i ≤ 1000 ∧ m < 9007199254740992 ∧ (i = -1074 ∨ 4503599627370496 ≤ m)
  | _ => True

theorem read_is (x : Nat) : double.read x =
    (if x % 9223372036854775808 < 4503599627370496 then .number (x / 9223372036854775808 % 2 == 1) (x % 9223372036854775808) (-1074)
     else if x % 9223372036854775808 < 9218868437227405312 then .number (x / 9223372036854775808 % 2 == 1) (4503599627370496 + x % 9223372036854775808 % 4503599627370496) (-1074 + (x % 9223372036854775808 / 4503599627370496 - 1 : Nat))
     else if x % 9223372036854775808 = 9218868437227405312 then .infinity (x / 9223372036854775808 % 2 == 1)
     else .nan (x / 9223372036854775808 % 2 == 1) (x % 9223372036854775808 - 9218868437227405312)) := by
  rfl

theorem read_canon (x : Nat) : Canon (double.read x) := by
  rw [read_is]
  split
  · rename_i h
    exact ⟨by omega, by omega, by omega, .inl rfl⟩
  · split
    · rename_i h1 h2
      refine ⟨by omega, ?_, by omega, .inr (by omega)⟩
      have : x % 9223372036854775808 / 4503599627370496 < 2047 := by omega
      omega
    · split <;> trivial

def key : Datum → Option Int
  | .nan .. => none
  | .infinity s => some (if s then -big else big)
  | .number s m i => some (signed s m (i + 1074).toNat)

theorem signed_eq (s : Bool) (m k : Nat) : signed s m k = (if s then -1 else 1) * ((m : Int) * 2 ^ k) := by
  unfold signed
  rw [Nat.shiftLeft_eq]
  cases s <;> simp [Int.natCast_mul, Int.natCast_pow]

theorem signed_add (s : Bool) (m k c : Nat) : signed s m (k + c) = signed s m k * 2 ^ c := by
  rw [signed_eq, signed_eq, Int.pow_add, Int.mul_assoc, Int.mul_assoc]

theorem pow_pos (c : Nat) : (0 : Int) < 2 ^ c := Int.pow_pos (by decide)

theorem cmp_def (a b : Int) : compare a b = if a < b then .lt else if a = b then .eq else .gt := rfl

theorem cmp_scale (a b : Int) (c : Nat) : compare (a * 2 ^ c) (b * 2 ^ c) = compare a b := by
  have hp := pow_pos c
  rw [cmp_def, cmp_def]
  have h1 : a * 2 ^ c < b * 2 ^ c ↔ a < b := Int.mul_lt_mul_right hp
  have h2 : a * 2 ^ c = b * 2 ^ c ↔ a = b := ⟨fun h => Int.eq_of_mul_eq_mul_right (by omega) h, fun h => by rw [h]⟩
  simp only [h1, h2]

theorem big_pos : 0 < big := pow_pos _

theorem num_lt {s : Bool} {m : Nat} {i : Int} (h : Canon (.number s m i)) : -big < signed s m (i + 1074).toNat ∧ signed s m (i + 1074).toNat < big := by
  obtain ⟨h1, h2, h3, _⟩ := h
  have hm : (m : Int) < 2 ^ 53 := by
    have : (2 : Int) ^ 53 = 9007199254740992 := by decide
    omega
  have hle : (m : Int) * 2 ^ (i + 1074).toNat < big := by
    have e : big = 2 ^ 53 * (2 ^ (i + 1074).toNat * 2 ^ (2147 - (i + 1074).toNat)) := by
      rw [← Int.pow_add, ← Int.pow_add]
      unfold big
      congr 1
      omega
    rw [e]
    have p1 := pow_pos (i + 1074).toNat
    have p2 := pow_pos (2147 - (i + 1074).toNat)
    calc (m : Int) * 2 ^ (i + 1074).toNat < 2 ^ 53 * 2 ^ (i + 1074).toNat := Int.mul_lt_mul_of_pos_right hm p1
      _ ≤ 2 ^ 53 * (2 ^ (i + 1074).toNat * 2 ^ (2147 - (i + 1074).toNat)) := by
        refine Int.mul_le_mul_of_nonneg_left ?_ (by decide)
        have := Int.mul_le_mul_of_nonneg_left (show (1 : Int) ≤ 2 ^ (2147 - (i + 1074).toNat) by omega) (show (0 : Int) ≤ 2 ^ (i + 1074).toNat by omega)
        omega
  have h0 : 0 ≤ (m : Int) * 2 ^ (i + 1074).toNat := Int.mul_nonneg (by omega) (by have := pow_pos (i + 1074).toNat; omega)
  rw [signed_eq]
  cases s
  · simp only [Bool.false_eq_true, if_false, Int.one_mul]; have := big_pos; omega
  · simp only [if_true, Int.neg_mul, Int.one_mul]; have := big_pos; omega

theorem order_key {d e : Datum} (hd : Canon d) (he : Canon e) : d.order e = (match key d, key e with | some a, some b => some (compare a b) | _, _ => none) := by
  have hb := big_pos
  cases d with
  | nan s f => cases e <;> rfl
  | infinity s =>
    cases e with
    | nan t g => cases s <;> rfl
    | infinity t =>
      have a1 : compare (-big) big = .lt := by rw [cmp_def, if_pos (by omega)]
      have a2 : compare big (-big) = .gt := by rw [cmp_def, if_neg (by omega), if_neg (by omega)]
      cases s <;> cases t <;> simp [Datum.order, key, a1, a2] <;> rfl
    | number t n j =>
      obtain ⟨l, r⟩ := num_lt he
      cases s
      · simp only [Datum.order, key, Bool.false_eq_true, if_false]
        rw [cmp_def, if_neg (by omega), if_neg (by omega)]
      · simp only [Datum.order, key, if_true]
        rw [cmp_def, if_pos (by omega)]
  | number s m i =>
    cases e with
    | nan t g => rfl
    | infinity t =>
      obtain ⟨l, r⟩ := num_lt hd
      cases t
      · simp only [Datum.order, key, Bool.false_eq_true, if_false]
        rw [cmp_def, if_pos (by omega)]
      · simp only [Datum.order, key, if_true]
        rw [cmp_def, if_neg (by omega), if_neg (by omega)]
    | number t n j =>
      simp only [Datum.order, key]
      obtain ⟨h1, _⟩ := hd
      obtain ⟨h2, _⟩ := he
      rw [show (i + 1074).toNat = (i - min i j).toNat + (min i j + 1074).toNat by omega, show (j + 1074).toNat = (j - min i j).toNat + (min i j + 1074).toNat by omega, signed_add, signed_add, cmp_scale]

/-- The key of a word: none of a NaN. -/
def fk (x : Nat) : Option Int := key (double.read x)

theorem ordF_eq (x y : Nat) : ordF x y = (match fk x, fk y with | some a, some b => some (compare a b) | _, _ => none) := order_key (read_canon x) (read_canon y)

theorem nanF_eq (x : Nat) : nanF x = (fk x).isNone := by
  unfold nanF
  rw [ordF_eq]
  cases h : fk x with
  | none => rfl
  | some a =>
    simp only [cmp_def]
    simp

theorem ltF_eq (x y : Nat) : ltF x y = (match fk x, fk y with | none, some _ => true | some a, some b => decide (a < b) | _, _ => false) := by
  unfold ltF
  rw [nanF_eq, nanF_eq, ordF_eq]
  cases fk x <;> cases fk y <;> simp [cmp_def]
  rename_i a b
  by_cases h1 : a < b
  · simp [h1]
  · by_cases h2 : a = b <;> simp [h1, h2]

theorem swo : SWO ltF where
  irrefl := fun x => by rw [ltF_eq]; cases fk x <;> simp
  trans := fun x y z => by
    rw [ltF_eq, ltF_eq, ltF_eq]
    cases fk x <;> cases fk y <;> cases fk z <;> simp
    omega
  ntrans := fun x y z => by
    rw [ltF_eq, ltF_eq, ltF_eq]
    cases fk x <;> cases fk y <;> cases fk z <;> simp
    omega

theorem fk_of_not_lt {x y : Nat} (h1 : ltF x y = false) (h2 : ltF y x = false) : fk x = fk y := by
  rw [ltF_eq] at h1 h2
  revert h1 h2
  cases fk x <;> cases fk y <;> simp
  omega

/-! ### The mean -/
/-- The same number: the same datum, or two zeros. -/
def Same (d e : Datum) : Prop := d = e ∨ ∃ s t i, d = .number s 0 i ∧ e = .number t 0 i

theorem signed_zero (s : Bool) (k : Nat) : signed s 0 k = 0 := by rw [signed_eq]; simp

theorem same_key {d e : Datum} (h : Same d e) : key d = key e := by
  rcases h with rfl | ⟨s, t, i, rfl, rfl⟩
  · rfl
  · simp only [key, signed_zero]

theorem mul_pow_pos {m : Nat} (h : m ≠ 0) (k : Nat) : 0 < (m : Int) * 2 ^ k := Int.mul_pos (by omega) (pow_pos k)

theorem canon_inj {m n : Nat} {i j : Int} {s t : Bool} (h1 : Canon (.number s m i)) (h2 : Canon (.number t n j)) (hij : i ≤ j) (h : (m : Int) * 2 ^ (i + 1074).toNat = (n : Int) * 2 ^ (j + 1074).toNat) : m = n ∧ i = j ∨ m = 0 ∧ n = 0 := by
  obtain ⟨a1, a2, a3, a4⟩ := h1
  obtain ⟨b1, b2, b3, b4⟩ := h2
  have e : (j + 1074).toNat = (j - i).toNat + (i + 1074).toNat := by omega
  rw [e, Int.pow_add, ← Int.mul_assoc] at h
  have h' := Int.eq_of_mul_eq_mul_right (by have := pow_pos (i + 1074).toNat; omega) h
  by_cases hlt : i < j
  · by_cases hn : n = 0
    · subst hn
      rw [Int.natCast_zero, Int.zero_mul] at h'
      exact .inr ⟨by omega, rfl⟩
    · have hn2 : 4503599627370496 ≤ n := by omega
      have e2 : (j - i).toNat = ((j - i).toNat - 1) + 1 := by omega
      rw [e2, Int.pow_succ] at h'
      have p := pow_pos ((j - i).toNat - 1)
      have : (n : Int) * 2 ≤ (n : Int) * (2 ^ ((j - i).toNat - 1) * 2) := Int.mul_le_mul_of_nonneg_left (by omega) (by omega)
      omega
  · have : i = j := by omega
    subst this
    rw [Int.sub_self] at h'
    simp at h'
    exact .inl ⟨by omega, rfl⟩

theorem key_same {d e : Datum} (hd : Canon d) (he : Canon e) {v : Int} (h1 : key d = some v) (h2 : key e = some v) : Same d e := by
  have hb := big_pos
  cases d with
  | nan s f => cases h1
  | infinity s =>
    cases e with
    | nan t g => cases h2
    | infinity t =>
      simp only [key, Option.some.injEq] at h1 h2
      left
      cases s <;> cases t <;> simp at h1 h2 <;> first | rfl | omega
    | number t n j =>
      simp only [key, Option.some.injEq] at h1 h2
      obtain ⟨l, r⟩ := num_lt he
      cases s <;> simp at h1 <;> omega
  | number s m i =>
    cases e with
    | nan t g => cases h2
    | infinity t =>
      simp only [key, Option.some.injEq] at h1 h2
      obtain ⟨l, r⟩ := num_lt hd
      cases t <;> simp at h2 <;> omega
    | number t n j =>
      simp only [key, Option.some.injEq] at h1 h2
      have h : signed s m (i + 1074).toNat = signed t n (j + 1074).toNat := h1.trans h2.symm
      have zi : m = 0 → i = -1074 := fun h => by obtain ⟨_, _, _, a4⟩ := hd; omega
      have zj : n = 0 → j = -1074 := fun h => by obtain ⟨_, _, _, a4⟩ := he; omega
      have zero : m = 0 → n = 0 → Same (.number s m i) (.number t n j) := fun a b => by
        have := zi a
        have := zj b
        subst a; subst b
        exact .inr ⟨s, t, i, rfl, by rw [show j = i by omega]⟩
      rw [signed_eq, signed_eq] at h
      by_cases hm : m = 0
      · by_cases hn : n = 0
        · exact zero hm hn
        · exfalso
          have := mul_pow_pos hn (j + 1074).toNat
          subst hm
          cases t <;> simp at h <;> omega
      · have pm := mul_pow_pos hm (i + 1074).toNat
        by_cases hn : n = 0
        · exfalso
          subst hn
          cases s <;> simp at h <;> omega
        · have pn := mul_pow_pos hn (j + 1074).toNat
          have hst : s = t ∧ (m : Int) * 2 ^ (i + 1074).toNat = (n : Int) * 2 ^ (j + 1074).toNat := by
            cases s <;> cases t <;> simp only [Bool.false_eq_true, if_false, if_true, Int.one_mul, Int.neg_mul] at h
            · exact ⟨rfl, h⟩
            · omega
            · omega
            · exact ⟨rfl, by omega⟩
          obtain ⟨rfl, hv⟩ := hst
          left
          rcases Int.le_total i j with hij | hij
          · rcases canon_inj hd he hij hv with ⟨rfl, rfl⟩ | ⟨a, _⟩
            · rfl
            · exact absurd a hm
          · rcases canon_inj he hd hij hv.symm with ⟨rfl, rfl⟩ | ⟨a, _⟩
            · rfl
            · exact absurd a hn

/-- Two answers of an operation: both none, or the same number. -/
def Same? : Option Datum → Option Datum → Prop
  | none, none => True
  | some d, some e => Same d e
  | _, _ => False

theorem same?_refl (d : Option Datum) : Same? d d := by cases d <;> simp [Same?, Same]

theorem sum_comm (d e : Datum) : d.sum e = e.sum d := by
  cases d <;> cases e <;> simp only [Datum.sum]
  · rename_i s m i t n j
    rw [Int.min_comm j i, Int.add_comm, Bool.and_comm t s]
  · rename_i s t
    by_cases h : s = t
    · subst h; rfl
    · rw [if_neg h, if_neg (Ne.symm h)]

theorem sum_zero (s t : Bool) (i : Int) (e : Datum) : Same? ((Datum.number s 0 i).sum e) ((Datum.number t 0 i).sum e) := by
  cases e with
  | nan _ _ => trivial
  | infinity u => exact .inl rfl
  | number u n j =>
    simp only [Datum.sum, Same?, signed_zero, Int.zero_add]
    generalize signed u n (j - min i j).toNat = v
    by_cases h : v = 0
    · subst h
      exact .inr ⟨_, _, _, rfl, rfl⟩
    · rw [if_neg h, if_neg h]
      exact .inl rfl

theorem same?_trans {a b c : Option Datum} (h1 : Same? a b) (h2 : Same? b c) : Same? a c := by
  cases a <;> cases b <;> cases c <;> simp only [Same?] at * <;> try trivial
  rcases h1 with rfl | ⟨s, t, i, rfl, rfl⟩
  · exact h2
  · rcases h2 with rfl | ⟨s', t', i', h3, rfl⟩
    · exact .inr ⟨s, t, i, rfl, rfl⟩
    · cases h3
      exact .inr ⟨s, t', i, rfl, rfl⟩

theorem sum_same {d d' e e' : Datum} (h1 : Same d d') (h2 : Same e e') : Same? (d.sum e) (d'.sum e') := by
  have l : Same? (d.sum e) (d'.sum e) := by
    rcases h1 with rfl | ⟨s, t, i, rfl, rfl⟩
    · exact same?_refl _
    · exact sum_zero s t i e
  refine same?_trans l ?_
  rw [sum_comm d' e, sum_comm d' e']
  rcases h2 with rfl | ⟨s, t, i, rfl, rfl⟩
  · exact same?_refl _
  · exact sum_zero s t i d'

theorem write_zero (s : Bool) (i : Int) : double.read (double.write (.number s 0 i)) = .number s 0 (-1074) := by
  have e : double.write (.number s 0 i) = double.word s 0 := by
    simp only [Format.write, Format.nearest]
    rw [if_pos trivial]
  rw [e]
  cases s <;> decide

theorem write_same {d e : Datum} (h : Same d e) : Same (double.read (double.write d)) (double.read (double.write e)) := by
  rcases h with rfl | ⟨s, t, i, rfl, rfl⟩
  · exact .inl rfl
  · rw [write_zero, write_zero]
    exact .inr ⟨_, _, _, rfl, rfl⟩

def two : Nat := 4611686018427387904
theorem read_two : double.read two = .number false 4503599627370496 (-51) := by rfl

theorem half_same {d e : Datum} (h : Same d e) : Same? (d.quotient 54 (double.read two)) (e.quotient 54 (double.read two)) := by
  rw [read_two]
  rcases h with rfl | ⟨s, t, i, rfl, rfl⟩
  · exact same?_refl _
  · simp only [Datum.quotient, Same?]
    rw [if_neg (by decide), if_neg (by decide)]
    simp only [Nat.zero_shiftLeft, Nat.zero_div, Nat.zero_mod]
    exact .inr ⟨_, _, _, rfl, rfl⟩

/-- What the model's '+' and '/' may give. -/
def AddR (x y r : Nat) : Prop := double.add x y = some r ∨ (double.add x y = none ∧ fk r = none)
def DivR (x r : Nat) : Prop := double.div x two = some r ∨ (double.div x two = none ∧ fk r = none)

theorem sum_nan_left {d e : Datum} (h : key d = none) : d.sum e = none := by
  cases d <;> simp [key] at h
  rfl

theorem quo_nan {d e : Datum} (h : key d = none) : d.quotient 54 e = none := by
  cases d <;> simp [key] at h
  rfl

theorem key_none {d : Datum} (h : key d = none) : ∃ s f, d = .nan s f := by
  cases d <;> simp [key] at h
  exact ⟨_, _, rfl⟩

/-- Words of one key give sums of one key. -/
theorem add_key {x x' y y' r r' : Nat} (hx : fk x = fk x') (hy : fk y = fk y') (h : AddR x y r) (h' : AddR x' y' r') : Same (double.read r) (double.read r') ∨ fk r = none ∧ fk r' = none := by
  have hs : Same? ((double.read x).sum (double.read y)) ((double.read x').sum (double.read y')) := by
    cases e1 : fk x with
    | none =>
      rw [sum_nan_left e1, sum_nan_left (hx ▸ e1 : fk x' = none)]
      trivial
    | some v =>
      cases e2 : fk y with
      | none =>
        rw [sum_comm, sum_nan_left e2, sum_comm, sum_nan_left (hy ▸ e2 : fk y' = none)]
        trivial
      | some u => exact sum_same (key_same (read_canon _) (read_canon _) e1 (show fk x' = _ from hx ▸ e1)) (key_same (read_canon _) (read_canon _) e2 (show fk y' = _ from hy ▸ e2))
  unfold AddR Format.add at h h'
  generalize (double.read x).sum (double.read y) = A at *
  generalize (double.read x').sum (double.read y') = B at *
  cases A <;> cases B <;> simp at h h'
  · exact .inr ⟨h, h'⟩
  · exact hs.elim
  · exact hs.elim
  · subst h; subst h'
    exact .inl (write_same hs)

theorem div_key {x x' r r' : Nat} (hx : Same (double.read x) (double.read x') ∨ fk x = none ∧ fk x' = none) (h : DivR x r) (h' : DivR x' r') : fk r = fk r' := by
  have hs : Same? ((double.read x).quotient 54 (double.read two)) ((double.read x').quotient 54 (double.read two)) := by
    rcases hx with hx | ⟨h1, h2⟩
    · exact half_same hx
    · rw [quo_nan h1, quo_nan h2]; trivial
  unfold DivR Format.div at h h'
  change ((double.read x).quotient 54 (double.read two)).map double.write = some r ∨ ((double.read x).quotient 54 (double.read two)).map double.write = none ∧ fk r = none at h
  change ((double.read x').quotient 54 (double.read two)).map double.write = some r' ∨ ((double.read x').quotient 54 (double.read two)).map double.write = none ∧ fk r' = none at h'
  generalize (double.read x).quotient 54 (double.read two) = A at *
  generalize (double.read x').quotient 54 (double.read two) = B at *
  cases A <;> cases B <;> simp at h h'
  · rw [h, h']
  · exact hs.elim
  · exact hs.elim
  · subst h; subst h'
    exact same_key (write_same hs)

theorem mean_key {x x' y y' s s' r r' : Nat} (hx : fk x = fk x') (hy : fk y = fk y') (h1 : AddR x y s) (h1' : AddR x' y' s') (h2 : DivR s r) (h2' : DivR s' r') : fk r = fk r' :=
  div_key (add_key hx hy h1 h1') h2 h2'

/-- What the model lays for a NaN is one. -/
theorem nan_bits (t : Nat) : fk ((t % 2) * 2 ^ 63 + 0x7ff0000000000000 + 1 + (t / 2) % (2 ^ 52 - 1)) = none := by
  unfold fk
  have h1 : (t / 2) % (2 ^ 52 - 1) < 2 ^ 52 - 1 := Nat.mod_lt _ (by decide)
  have h2 : t % 2 < 2 := Nat.mod_lt _ (by decide)
  generalize (t / 2) % (2 ^ 52 - 1) = a at *
  generalize t % 2 = b at *
  have e : (b * 2 ^ 63 + 0x7ff0000000000000 + 1 + a) % 9223372036854775808 = 9218868437227405313 + a := by omega
  rw [read_is, e, if_neg (by omega), if_neg (by omega), if_neg (by omega)]
  rfl

end Go.Proofs.Ybulkduiw

/-
  Plain functions for the road of timeOfDay: no Go in sight.
-/
import Derived.Below
namespace Go.Proofs.YbulkdueoFmt.P

def isDig (c : UInt8) : Bool := decide (48 ≤ (c.toNat : Int)) && decide ((c.toNat : Int) ≤ 57)

/-- One digit more: the number modulo 2^64, and whether it has ever gone beyond. -/
def step (st : Int × Bool) (c : UInt8) : Int × Bool :=
  ((st.1 * 10 + ((c.toNat : Int) - 48)) % 18446744073709551616, st.2 || decide (18446744073709551615 < st.1 * 10 + ((c.toNat : Int) - 48)))

def acc (l : List UInt8) : Int × Bool := l.foldl step (0, false)

theorem acc_snoc (l : List UInt8) (c : UInt8) : acc (l ++ [c]) = step (acc l) c := by simp [acc]

theorem acc_nil : acc [] = (0, false) := rfl

theorem foldl_bd : ∀ (l : List UInt8) (st : Int × Bool), 0 ≤ st.1 ∧ st.1 ≤ 18446744073709551615 → 0 ≤ (l.foldl step st).1 ∧ (l.foldl step st).1 ≤ 18446744073709551615
  | [], _, h => h
  | c :: l, st, _ => foldl_bd l (step st c) (by unfold step; simp only; omega)

theorem acc_bd (l : List UInt8) : 0 ≤ (acc l).1 ∧ (acc l).1 ≤ 18446744073709551615 := foldl_bd l (0, false) ⟨by decide, by decide⟩

def sg : List UInt8 → Nat
  | [] => 0
  | c :: _ => if c.toNat = 43 ∨ c.toNat = 45 then 1 else 0

def ngt : List UInt8 → Bool
  | [] => false
  | c :: _ => decide ((c.toNat : Int) = 45)

/-- The digits that open l. -/
def ds (l : List UInt8) : List UInt8 := l.takeWhile isDig

/-- strtoul in base 10: the number; what is left; whether it went beyond. -/
def numN (l : List UInt8) : Int :=
  if ds (l.drop (sg l)) = [] then 0
  else if (acc (ds (l.drop (sg l)))).2 = true then 18446744073709551615
  else if ngt l = true then (0 - (acc (ds (l.drop (sg l)))).1) % 18446744073709551616
  else (acc (ds (l.drop (sg l)))).1

def numR (l : List UInt8) : List UInt8 := if ds (l.drop (sg l)) = [] then l else (l.drop (sg l)).drop (ds (l.drop (sg l))).length

theorem numN_bd (l : List UInt8) : 0 ≤ numN l ∧ numN l ≤ 18446744073709551615 := by
  unfold numN
  have := acc_bd (ds (l.drop (sg l)))
  split
  · omega
  · split
    · omega
    · split
      · omega
      · exact this

theorem numR_len (l : List UInt8) : (numR l).length ≤ l.length := by
  unfold numR
  split
  · exact Nat.le_refl _
  · simp

/-- where the first k bytes are digits and the next one is none, they are the digits that open the list. -/
theorem ds_take : ∀ (l : List UInt8) (k : Nat), k ≤ l.length → (∀ i (h : i < l.length), i < k → isDig l[i] = true) → (∀ h : k < l.length, isDig l[k] = false) → ds l = l.take k
  | [], k, _, _, _ => by simp [ds]
  | c :: l, 0, _, _, h2 => by
    have := h2 (by simp)
    simp [ds] at this ⊢
    simp [this]
  | c :: l, k + 1, hk, h1, h2 => by
    have hc : isDig c = true := h1 0 (by simp) (by omega)
    have ih := ds_take l k (by simpa using hk) (fun i h hik => h1 (i + 1) (by simpa using h) (by omega)) (fun h => h2 (by simpa using h))
    simp only [ds] at ih ⊢
    rw [List.takeWhile_cons, hc]
    simp [ih]

/-- the time of day. -/
def hd (l : List UInt8) : Bool := match l with | [] => false | c :: _ => decide ((c.toNat : Int) = 58)

def tod (l : List UInt8) : Option Int :=
  if hd (numR l) = true ∧ numN l ≤ 23 then
    if (numR (numR l).tail = [] ∨ hd (numR (numR l).tail) = true) ∧ numN (numR l).tail ≤ 59 then
      if numR (numR l).tail = [] then some (numN l * 3600 + numN (numR l).tail * 60)
      else if numR (numR (numR l).tail).tail = [] ∧ numN (numR (numR l).tail).tail ≤ 59 then some (numN l * 3600 + numN (numR l).tail * 60 + numN (numR (numR l).tail).tail)
      else none
    else none
  else none

end Go.Proofs.YbulkdueoFmt.P

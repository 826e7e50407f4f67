/-
  Plain laws and the contract of (Statement).Truth (4).
-/
import Derived.Test.YbulkdujkProg
import Derived.WalkKit
import Derived.WalkSpells
import Derived.Outline
import Derived.LoopTactic
import Derived.Deep.Light
import Derived.Maps.Own
import Derived.Maps.OwnOps
import Derived.Maps.OwnSet
import Derived.Lib.Strings
namespace Go.Proofs.Ybulkdujk
open Go.RowKit Go.WideMaps Go.Maps

theorem law : Keyed Yba.prog 9 := string_keyed Yba.underlying9
theorem zero4 (w : World) : (zeroValue 4).run Yba.prog w = .ok (.bool false) w := by kernel_rfl

def kl (s : ByteArray) : Lit := .string s.data.toList

theorem key_ok {s : ByteArray} (h : s.size ≤ maxLen) : keyOf Yba.prog 9 (.string s) = some (kl s) := keyOf_string_mk Yba.underlying9 h

/-- The map after k rounds. -/
def Dm (ss : List ByteArray) (vs : List Bool) : Nat → DataW Unit
  | 0 => .map []
  | k + 1 => (Dm ss vs k).put (kl (ss.getD k ByteArray.empty)) (.lit (.bool (vs.getD k false)))

/-- The last entry of the item among the first k. -/
def st (ss : List ByteArray) (vs : List Bool) (item : ByteArray) : Nat → Option Bool
  | 0 => none
  | k + 1 => if ss.getD k ByteArray.empty = item then some (vs.getD k false) else st ss vs item k

def wantOf : Option Bool → Int
  | none => 1
  | some true => 2
  | some false => 0

theorem kl_inj {a b : ByteArray} (h : kl a = kl b) : a = b := by
  unfold kl at h
  simp only [Lit.string.injEq] at h
  exact Go.WideShapes.bytes_inj h

theorem Dm_isMap (ss : List ByteArray) (vs : List Bool) : ∀ k, IsMap (Dm ss vs k)
  | 0 => isMap_empty
  | k + 1 => (Dm_isMap ss vs k).put _ _

theorem has_Dm (ss : List ByteArray) (vs : List Bool) (item : ByteArray) : ∀ k, Maps.has (Dm ss vs k) (kl item) = (st ss vs item k).isSome
  | 0 => rfl
  | k + 1 => by
    unfold Dm st
    by_cases e : ss.getD k ByteArray.empty = item
    · rw [if_pos e, e, has_put_same (Dm_isMap ss vs k) (show WideAt.IsKeyLit (kl item) from trivial)]; rfl
    · rw [if_neg e, has_put_other (fun h => e (kl_inj h).symm)]
      exact has_Dm ss vs item k

theorem at_Dm (ss : List ByteArray) (vs : List Bool) (item : ByteArray) (b : Bool) : ∀ k, st ss vs item k = some b → (Dm ss vs k).atKey (kl item) (.lit (.bool false)) = .lit (.bool b)
  | 0, h => by cases h
  | k + 1, h => by
    unfold st at h
    unfold Dm
    by_cases e : ss.getD k ByteArray.empty = item
    · rw [if_pos e] at h
      cases h
      rw [e, atKey_put_same (Dm_isMap ss vs k) (show WideAt.IsKeyLit (kl item) from trivial)]
    · rw [if_neg e] at h
      rw [atKey_put_other (fun h => e (kl_inj h).symm)]
      exact at_Dm ss vs item b k h

/-- Every key that was laid is there. -/
theorem st_mem (ss : List ByteArray) (vs : List Bool) (item : ByteArray) : ∀ k j, j < k → ss.getD j ByteArray.empty = item → (st ss vs item k).isSome = true
  | 0, _, h, _ => absurd h (Nat.not_lt_zero _)
  | k + 1, j, h, e => by
    unfold st
    by_cases e2 : ss.getD k ByteArray.empty = item
    · rw [if_pos e2]; rfl
    · rw [if_neg e2]
      refine st_mem ss vs item k j ?_ e
      rcases Nat.lt_or_ge j k with h' | h'
      · exact h'
      · exact absurd (by rw [show k = j by omega]; exact e) e2

theorem plainElem_bool_inv {v : Value} {z : DataW Unit × List MemPlace} (h : plainElem Yba.prog 4 v = some z) : ∃ x, v = .bool x ∧ z = (.lit (.bool x), []) := by
  cases v <;> simp [plainElem, Yba.underlying4] at h
  exact ⟨_, rfl, h.symm⟩

/-- The look-up with 'ok' at elements that are bools, its run. -/
theorem look_run {w : World} {b n : Nat} {D : DataW Unit} (hown : w.ownsMap Yba.prog 9 (plainElem Yba.prog 4) b n D) {s : ByteArray} (hs : s.size ≤ maxLen) :
    ∃ x : Bool, (Instr.lookup 25 (.map (some b)) (.string s) true).run Yba.prog w = .ok (.tuple #[.bool x, .bool (Maps.has D (kl s))]) w ∧ D.atKey (kl s) (.lit (.bool false)) = .lit (.bool x) := by
  obtain ⟨v, ps, hrun, hv⟩ := hown.look_ok law Yba.underlying25 (zero4 w) (plainElem_bool Yba.underlying4 false) (key_ok hs)
  obtain ⟨x, rfl, hz⟩ := plainElem_bool_inv hv
  exact ⟨x, hrun, congrArg Prod.fst hz⟩

theorem truth_run (m : Value) (s : ByteArray) (x ok : Bool) (w : World) (h : (Instr.lookup 25 m (.string s) true).run Yba.prog w = .ok (.tuple #[.bool x, .bool ok]) w) :
    Calls Yba.prog 4 #[m, .string s] w fun e w' => e = .returned (.int .i8 (wantOf (if ok = true then some x else none))) ∧ w' = w := by
  cases ok
  · go_enter Yba.func4, Yba.ntmps4
    go_wp2
    go_ret
    exact ⟨rfl, rfl⟩
  · cases x
    · go_enter Yba.func4, Yba.ntmps4
      go_wp2
      go_ret
      exact ⟨rfl, rfl⟩
    · go_enter Yba.func4, Yba.ntmps4
      go_wp2
      go_ret
      exact ⟨rfl, rfl⟩

end Go.Proofs.Ybulkdujk

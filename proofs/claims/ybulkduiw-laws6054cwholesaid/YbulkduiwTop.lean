/-
  slices.Sort, slices.Collect (10), slices.Sorted (7) and Median (5) at float64.
-/
import Derived.Test.YbulkduiwS13
import Derived.Test.YbulkduiwIter
import Derived.Test.YbulkduiwPR
import Derived.Outline
import Derived.LoopTactic
import Derived.Deep.Light
import Derived.Deep.DeepCutAuto
import Derived.BigQuiet
import Derived.WalkSpells
namespace Go.Proofs.Ybulkduiw
open Go.RowKit Go.Sort

/-! ### '+' and '/ 2' -/
def addV (x y : Nat) (w : World) : Nat := match Ieee.double.add x y with | some r => r | none => Question.cut (.nanBits .f64 x y) (w.tape w.drawn (.nanBits .f64 x y))
def addM (x y : Nat) : Nat := match Ieee.double.add x y with | some _ => 0 | none => 1
def divV (x : Nat) (w : World) : Nat := match Ieee.double.div x two with | some r => r | none => Question.cut (.nanBits .f64 x two) (w.tape w.drawn (.nanBits .f64 x two))
def divM (x : Nat) : Nat := match Ieee.double.div x two with | some _ => 0 | none => 1

theorem run_add (P : Program) (w : World) (t : TypeId) (x y : Nat) : (binOp .add t (.float .f64 x) (.float .f64 y)).run P w = .ok (.float .f64 (addV x y w)) (w.drewN (addM x y)) := by
  unfold addV addM
  cases h : Ieee.double.add x y with
  | some r => exact run_float_arith w .add t .f64 x y r h
  | none =>
    have h' : FloatKind.f64.format.add x y = none := h
    simp [binOp, Op.floatArith, h', Question.forced]
    rfl

theorem run_div (P : Program) (w : World) (t : TypeId) (x : Nat) : (binOp .quo t (.float .f64 x) (.float .f64 4611686018427387904)).run P w = .ok (.float .f64 (divV x w)) (w.drewN (divM x)) := by
  unfold divV divM
  cases h : Ieee.double.div x two with
  | some r => exact run_float_arith w .quo t .f64 x two r h
  | none =>
    have h' : FloatKind.f64.format.div x 4611686018427387904 = none := h
    simp [binOp, Op.floatArith, h', Question.forced]
    exact ⟨rfl, rfl⟩

theorem addV_ok (x y : Nat) (w : World) : AddR x y (addV x y w) := by
  unfold addV AddR
  cases h : Ieee.double.add x y with
  | some r => exact .inl rfl
  | none => exact .inr ⟨rfl, nan_bits _⟩

theorem divV_ok (x : Nat) (w : World) : DivR x (divV x w) := by
  unfold divV DivR
  cases h : Ieee.double.div x two with
  | some r => exact .inl rfl
  | none => exact .inr ⟨rfl, nan_bits _⟩

/-! ### slices.Sort, whole -/
theorem callees13f : Callees13f where
  ins := insertionSort_f
  brk := breakPatterns_f
  piv := choosePivot_f
  par := partialInsertionSort_f
  peq := partitionEqualOrdered_f
  prt := partitionOrdered_f

theorem plain13f : Plain13f where
  swo := swo
  ins := insertionSort_holds
  par := partialInsertionSort_holds
  prt := partition_holds _
  peq := partitionEqual_holds _
  pdq := pdq_sorts _

theorem pdqWalkF : pdqWalk_f := fun blk off cap a b limit d w hH hb hab hbd hsz hl hB =>
  pdqsort_f callees13f plain13f (b - a + 1) blk off cap a b limit d w (by omega) hH hb hab hbd hsz hl hB

theorem holds_of_row {w : World} {g : Nat} {cur : Array Value} {e : TypeId} {zs : List Nat} (hb : w.heap[g]? = some (.cells cur e (0, 0))) (ht : cur.toList.take zs.length = zs.map (Value.float .f64)) : Holds (Value.float .f64) w g 0 zs.toArray := by
  intro j hj
  have hj' : j < zs.length := by simpa using hj
  refine ⟨?_, by simp [World.frozen?, hb]⟩
  have h1 : (cur.toList.take zs.length)[j]? = (zs.map (Value.float .f64))[j]? := by rw [ht]
  rw [List.getElem?_take_of_lt hj'] at h1
  simp only [World.cell?, hb, Nat.zero_add]
  simp only [Option.isSome_none, Bool.false_eq_true, if_false]
  rw [← Array.getElem?_toList, h1]
  simp [hj']

theorem grownBy_put {w : World} {g n : Nat} {os : Array Obj} (d : Array Nat) : w.grownBy (grow (putRow (Value.float .f64) (Sort.ahead w n) g 0 d) os) (some g) := by
  refine ⟨rfl, rfl, rfl, by simp [grow], fun k hk hne => ?_⟩
  rw [heap_grow_old _ _ (by simpa using hk)]
  have : g ≠ k := fun e => hne (by rw [e])
  simp [putRow, mapBlock, Sort.ahead, Array.getElem?_modify, this]

theorem sort_top (g cap : Nat) (zs : List Nat) (w : World) (hH : Holds (Value.float .f64) w g 0 zs.toArray) (hg : g < w.heap.size) (hsz : zs.length < 4611686018427387904) :
    Calls Yba.prog 11 #[.slice (some ⟨g, 0, none⟩) zs.length cap] w fun e w' => e = .returned (.tuple #[]) ∧ (∀ j, j < zs.length → w'.cell? ⟨g, j, none⟩ = some (.float .f64 ((srt zs).getD j 0))) ∧ Go.RowKit.Below g w w' := by
  have h := Sort_f pdqWalkF g 0 cap zs.toArray w hH hg (by simpa using hsz)
  refine (show Calls Yba.prog 11 #[.slice (some ⟨g, 0, none⟩) zs.length cap] w _ from h).mono ?_
  rintro e w' ⟨rfl, n, os, rfl⟩
  refine ⟨rfl, fun j hj => ?_, (Go.RowKit.Below.refl g w).grown (grownBy_put _) (Nat.le_of_lt hg) (fun k hk => by cases hk; exact Nat.le_refl _)⟩
  have hs := srt_length zs
  have h1 := (sort_sorts ltF swo zs.toArray).1.1
  rw [cell?_grow _ _ _ (by simpa using hg)]
  have h2 := cell?_putRow (Value.float .f64) (Sort.ahead w n) g 0 zs.toArray (Sort.sort ltF zs.toArray) (holds_ahead _ _ _ _ _ _ hH) h1 j (by rw [h1]; simpa using hj)
  rw [Nat.zero_add] at h2
  rw [h2]
  congr 2
  unfold srt
  rw [List.getD, getElem!_def, ← Array.getElem?_toList]
  cases (Sort.sort ltF zs.toArray).toList[j]? <;> rfl

/-! ### Collect, Sorted -/
set_option maxHeartbeats 1000000 in
theorem collect_f (Bs b off cap : Nat) (zs : List Nat) (hlen : zs.length ≤ 2048) (w : World)
    (hBs : Bs < w.heap.size) (hc : w.cell? ⟨Bs, 0, none⟩ = some (.slice (some ⟨b, off, none⟩) zs.length cap)) (hb : b < w.heap.size) (hcs : ∀ j, j < zs.length → w.cell? ⟨b, off + j, none⟩ = some (.float .f64 (zs[j]?.getD 0))) :
    Calls Yba.prog 10 #[.func (.func 12) #[] #[.pointer (some ⟨Bs, 0, none⟩)]] w fun e W' => ∃ v, e = .returned v ∧ W'.ownsRow w.heap.size 26 1 v zs.length (zs.map (Value.float .f64)) ∧ Go.RowKit.Below w.heap.size w W' := by
  have h := appendSeq_f Bs b off cap zs (by unfold maxLen; omega) (by omega) w hBs hc hb hcs
  clear hc hcs
  go_enter Yba.func10, Yba.ntmps10
  go_wp2_with fail
  refine h.mono ?_
  rintro e w' ⟨v, rfl, hrow, hB⟩
  go_wp2_with fail
  go_ret
  exact ⟨v, rfl, hrow, hB⟩

set_option maxHeartbeats 1000000 in
theorem sorted_f (Bs b off cap : Nat) (zs : List Nat) (hpos : 0 < zs.length) (hlen : zs.length ≤ 2048) (w : World)
    (hBs : Bs < w.heap.size) (hc : w.cell? ⟨Bs, 0, none⟩ = some (.slice (some ⟨b, off, none⟩) zs.length cap)) (hb : b < w.heap.size) (hcs : ∀ j, j < zs.length → w.cell? ⟨b, off + j, none⟩ = some (.float .f64 (zs[j]?.getD 0))) :
    Calls Yba.prog 7 #[.func (.func 12) #[] #[.pointer (some ⟨Bs, 0, none⟩)]] w fun e W' => ∃ g cap', e = .returned (.slice (some ⟨g, 0, none⟩) zs.length cap') ∧ (∀ j, j < zs.length → W'.cell? ⟨g, j, none⟩ = some (.float .f64 ((srt zs).getD j 0))) ∧ Go.RowKit.Below w.heap.size w W' := by
  have h := collect_f Bs b off cap zs hlen w hBs hc hb hcs
  clear hc hcs
  go_enter Yba.func7, Yba.ntmps7
  go_wp2_with fail
  refine h.mono ?_
  rintro e w' ⟨v, rfl, hrow, hB⟩
  rcases hrow.2 with ⟨hnil, hz⟩ | ⟨g, cap', cur, rfl, hbase, hbk, h1, h2, h3, h4⟩
  · exfalso
    omega
  · have hH : Holds (Value.float .f64) w' g 0 zs.toArray := holds_of_row hbk (by simpa using h4)
    have hg : g < w'.heap.size := (Array.getElem?_eq_some_iff.1 hbk).1
    have hs := sort_top g cap' zs w' hH hg (by omega)
    clear hH h4 hbk hrow
    go_wp2_with fail
    refine hs.mono ?_
    rintro e w2 ⟨rfl, hcell, hB2⟩
    go_wp2_with fail
    go_ret
    exact ⟨g, cap', rfl, hcell, hB.trans (hB2.mono hbase)⟩

end Go.Proofs.Ybulkduiw

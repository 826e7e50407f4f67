/-
  The row and the tied card of LawS6048BWhole.
-/
import Derived.Test.YbulkdufqDoorRows
import Derived.Test.YbulkdufqDoorTie
import Derived.Test.YbulkdufqDoorCards
import Derived.Test.YbulkdufqDoorLaw1
import Derived.ProofKit
import Derived.LaidMore
import Derived.OpenShut
import Derived.Stop.Joined
import Derived.SevenTiedAt
import Derived.Lib.LaidTab
import Derived.SizedLaws
namespace Go.Proofs.YbulkdufqDoor
open Go.ChangeShapes Go.WideShapes Go.ChangeAt Go.RowKit

namespace LawB
theorem own : ownKnob Ybad.prog.godebug = none := by kernel_rfl
theorem laidOut : laidOutB Ybad.prog = true := by kernel_rfl
theorem g32 : Ybad.prog.globalNamed "math/bits.deBruijn32tab" = some 1 := by kernel_rfl
theorem g64 : Ybad.prog.globalNamed "math/bits.deBruijn64tab" = some 2 := by kernel_rfl
theorem g10 : Ybad.prog.globalNamed "internal/strconv.uint64pow10" = some 0 := by kernel_rfl
theorem t10 : (Ybad.prog.globals[0]?).map (·.type) = some 37 := by kernel_rfl

theorem door_met (os : Os) (args : Array Value) : laidMetH Ybad.prog Rows.lawS6048BWholeRow.laid ((World.doorLaid Ybad.prog 400 os).forCall (fun _ _ => 0) ⟨#[], args, []⟩).memory :=
  laidMetH_of_parts3 (fuel := 8) (laidMet_of_run' 8 (by kernel_rfl) (by kernel_rfl)) (by kernel_rfl) (by kernel_rfl)

theorem of_laid {W : World} (h : laidMetH Ybad.prog Rows.lawS6048BWholeRow.laid W) : Lib.TabIs Ybad.prog W "internal/strconv.uint64pow10" .u64 Lib.pow10Tab := by
  rw [MakeChecks.laidMetH_plain _ _ _ (by kernel_rfl)] at h
  obtain ⟨ps, ⟨g0, t0, cs0, f0, p0, q0, hg0, ht0, hv0, hd0, ⟨g1, t1, cs1, f1, p1, q1, hg1, ht1, hv1, hd1, ⟨g2, t2, cs2, f2, p2, q2, hg2, ht2, hv2, hd2, _, _⟩, _⟩, _⟩, _, _⟩ := h
  obtain rfl := Option.some.inj (g10.symm.trans hg2)
  obtain rfl := Option.some.inj (t10.symm.trans ht2)
  have c27 : Ybad.prog.cellsOf 27 = 1 := by kernel_rfl
  have c37 : Ybad.prog.cellsOf 37 = 20 := by kernel_rfl
  have e := Lib.cells_of_tab (k := .u64) (zs := Lib.pow10Tab) Ybad.underlying37 Ybad.underlying27 c27 c37 hd2
  unfold Lib.TabIs
  rw [hv2, ← e]

/-- WHAT THE WALK IS TOLD OF A SLICE OF INTEGERS THAT CAME IN. -/
def IsRow (k : IntKind) (w : World) (a : Option Addr) (len cap : Nat) (zs : List Int) : Prop :=
  (a = none ∧ len = 0 ∧ cap = 0 ∧ zs = []) ∨
  ∃ x, a = some x ∧ len ≤ cap ∧ cap ≤ maxLen ∧ zs.length = cap ∧ (∀ i, i < zs.length → w.cell? (x.add i) = some (.int k (zs.getD i 0))) ∧ ∀ n ∈ zs, (Lit.int k n).wf = true

theorem arg_of {w : World} {a : Option Addr} {len cap : Nat} {zs : List Int} (h : IsRow .u8 w a len cap zs) : Arg w a len cap (zs.take len) := by
  rcases h with ⟨rfl, rfl, rfl, rfl⟩ | ⟨x, rfl, hlc, hcm, hz, hcell, hwf⟩
  · exact ⟨rfl, fun _ => ⟨rfl, rfl⟩, fun ad had => (by cases had), fun z hz => (by cases hz)⟩
  · refine ⟨by rw [List.length_take]; omega, fun h => (by cases h), fun ad had j v hj => ?_, fun z hz => bounds_u8 (hwf z (List.mem_of_mem_take hz))⟩
    cases had
    have hjl : j < len := by
      rcases Nat.lt_or_ge j len with h | h
      · exact h
      · rw [List.getElem?_eq_none (by simp; omega)] at hj; cases hj
    have hj2 : j < zs.length := by omega
    rw [hcell j hj2]
    rw [List.getElem?_map, List.getElem?_take_of_lt hjl, List.getElem?_eq_getElem hj2] at hj
    simp only [List.getD, List.getElem?_eq_getElem hj2, Option.getD_some]
    simpa using hj

theorem law_big (a0 a1 : Option Addr) (len0 cap0 len1 cap1 : Nat) (w : World) (h0 : len0 ≤ 140737488355328) (h1 : len1 ≤ 140737488355328) (hb : 1048576 < len0 + len1) :
    Calls Ybad.prog 3 #[.slice a0 len0 cap0, .slice a1 len1 cap1] w fun e w' => e = .returned (.bool true) ∧ Below w.heap.size w w' := by
  go_enter Ybad.func3, Ybad.ntmps3
  go_wp2
  go_ret
  exact ⟨rfl, Below.refl _ _⟩

theorem walk (a0 a1 : Option Addr) (len0 cap0 len1 cap1 : Nat) (z0 z1 : List Int) (w : World) (r0 : IsRow .u8 w a0 len0 cap0 z0) (r1 : IsRow .u8 w a1 len1 cap1 z1) (h0 : len0 ≤ 140737488355328) (h1 : len1 ≤ 140737488355328)
    (htab : Lib.TabIs Ybad.prog w "internal/strconv.uint64pow10" .u64 Lib.pow10Tab) :
    Calls Ybad.prog 3 #[.slice a0 len0 cap0, .slice a1 len1 cap1] w fun e w' => e = .returned (.bool true) ∧ Below w.heap.size w w' := by
  by_cases hb : 1048576 < len0 + len1
  · exact law_big a0 a1 len0 cap0 len1 cap1 w h0 h1 hb
  · exact law_any a0 a1 len0 cap0 len1 cap1 _ _ w (arg_of r0) (arg_of r1) (by omega) htab

set_option maxRecDepth 100000 in
theorem lifted (os : Os) (started : os.Started) (H : Type) (enc : TypeId × Value → H) :
    ReturnsInHanded {} Ybad.checked os 3 .any (fun w args => (Rows.lawS6048BWholeSpec.pre enc Ybad.prog Ybad.f3 [] false w args ∧ laidMetH Ybad.prog Rows.lawS6048BWholeRow.laid w) ∧ sizedMet enc Ybad.prog Ybad.f3 (OpenSpec.ofChange Rows.lawS6048BWholeSpec) false w args)
      (Rows.lawS6048BWholeSpec.post enc Ybad.prog Ybad.f3 false true false false) := by
  refine returnsInHanded_of_change_and (C := Ybad.checked) (X := fun w _ => laidMetH Ybad.prog Rows.lawS6048BWholeRow.laid w) (fun _ _ _ hh h => h.of_heap hh) own started (by kernel_rfl) Ybad.func3
    (ChangeSpec.witness_shaped (enc := enc) (C := Ybad.checked) (os := os) (X := fun w _ => laidMetH Ybad.prog Rows.lawS6048BWholeRow.laid w) false (World.doorLaid Ybad.prog 400 os) #[.slice none 0 0, .slice none 0 0] 8 rfl (World.shaped_of_RefB (by kernel_rfl) (by kernel_rfl)) (by kernel_rfl) (by kernel_rfl) (by kernel_rfl) (door_met os _)) ?_
  intro W base args ds gs before hval0 hW _ hsz hL _
  have hval : ∀ (j : Nat) t v, Ybad.f3.params[j]? = some t → args[j]? = some v → Value.okWide Ybad.prog W .any base t v := hval0
  have hW' := hW
  obtain ⟨p, q, hA0, hV, rfl, hfz, hnd⟩ := hW
  have hA : DataW.TrodAll enc Ybad.prog W 0 (fun _ => true) true Ybad.f3.params.toList args.toList ds p := hA0
  rw [Ybad.params3] at hA hval
  obtain ⟨v0, vs0, d0, ds0, p0, q0, hargs, rfl, rfl, h0, r0⟩ := trodAll_cons hA
  obtain ⟨v1, vs1, d1, ds1, p1, q1, rfl, rfl, rfl, h1, r1⟩ := trodAll_cons r0
  obtain ⟨rfl, rfl, rfl⟩ := trodAll_nil r1
  obtain rfl : args = #[v0, v1] := by cases args; simp_all
  obtain ⟨rfl, rfl⟩ := trodVars_none hV
  obtain ⟨a0, len0, cap0, rfl⟩ := okWide_slice Ybad.underlying22 (hval 0 22 v0 rfl rfl)
  have k0 := h0
  have lt0 : ∀ x ∈ p0, x.block < W.heap.size := by obtain ⟨m, hm⟩ := k0; exact DataW.trod_lt m _ _ _ hm
  obtain ⟨z0, w0, b0⟩ : ∃ zs, IsRow .u8 W a0 len0 cap0 zs ∧ len0 ≤ 140737488355328 := by
    obtain ⟨fuel, hf⟩ := h0
    rcases open_ints Ybad.underlying22 Ybad.underlying5 (by kernel_rfl) hf with ⟨hcs, _⟩ | ⟨x, l, c, zs, hcs, _, hl, hm, hz, hx, hcell, hwz⟩
    · simp [Value.cells] at hcs
      obtain ⟨rfl, rfl, rfl⟩ := hcs
      exact ⟨[], .inl ⟨rfl, rfl, rfl, rfl⟩, by omega⟩
    · simp [Value.cells] at hcs
      obtain ⟨rfl, rfl, rfl⟩ := hcs
      refine ⟨zs, .inr ⟨_, rfl, hl, hm, by simpa using hz, hcell, hwz⟩, ?_⟩
      simp only [Prod.mk.injEq] at hx
      obtain ⟨rfl, _⟩ := hx
      simp only [if_true] at hz
      have hsl := sized_slice hsz (j := 0) (t := 22) (e := 5) rfl rfl Ybad.underlying22
      have hr47 := reachBytes_lt
      have hb5 : Ybad.checked.prog.bytesOf 5 = 1 := by kernel_rfl
      simp [lits, hb5] at hsl
      omega
  obtain ⟨a1, len1, cap1, rfl⟩ := okWide_slice Ybad.underlying22 (hval 1 22 v1 rfl rfl)
  have k1 := h1
  have lt1 : ∀ x ∈ p1, x.block < W.heap.size := by obtain ⟨m, hm⟩ := k1; exact DataW.trod_lt m _ _ _ hm
  obtain ⟨z1, w1, b1⟩ : ∃ zs, IsRow .u8 W a1 len1 cap1 zs ∧ len1 ≤ 140737488355328 := by
    obtain ⟨fuel, hf⟩ := h1
    rcases open_ints Ybad.underlying22 Ybad.underlying5 (by kernel_rfl) hf with ⟨hcs, _⟩ | ⟨x, l, c, zs, hcs, _, hl, hm, hz, hx, hcell, hwz⟩
    · simp [Value.cells] at hcs
      obtain ⟨rfl, rfl, rfl⟩ := hcs
      exact ⟨[], .inl ⟨rfl, rfl, rfl, rfl⟩, by omega⟩
    · simp [Value.cells] at hcs
      obtain ⟨rfl, rfl, rfl⟩ := hcs
      refine ⟨zs, .inr ⟨_, rfl, hl, hm, by simpa using hz, hcell, hwz⟩, ?_⟩
      simp only [Prod.mk.injEq] at hx
      obtain ⟨rfl, _⟩ := hx
      simp only [if_true] at hz
      have hsl := sized_slice hsz (j := 1) (t := 22) (e := 5) rfl rfl Ybad.underlying22
      have hr47 := reachBytes_lt
      have hb5 : Ybad.checked.prog.bytesOf 5 = 1 := by kernel_rfl
      simp [lits, hb5] at hsl
      omega
  clear hA0 hval0
  refine (walk a0 a1 len0 cap0 len1 cap1 z0 z1 W w0 w1 b0 b1 (of_laid hL)).mono fun e W' ⟨he, bel⟩ => ?_
  subst he
  exact ⟨_, rfl, _, _, _, [], _, [], hW', trodAll_mk1 (shut_bool Ybad.underlying4 _), (trodAll_cons_mk (Below.trod laidOut (by kernel_rfl) (of_decide_eq_true (by kernel_rfl)) k0 bel lt0) (trodAll_cons_mk (Below.trod laidOut (by kernel_rfl) (of_decide_eq_true (by kernel_rfl)) k1 bel lt1) trodAll_mk0)), rfl, bel.frame _, fun h => by cases h⟩

theorem over : Rows.lawS6048BWholeRow.holds Ybad.pinned (OpenSpec.ofChange Rows.lawS6048BWholeSpec) :=
  OpenClaim.holds_of_wide 3 Ybad.f3 rfl rfl rfl rfl rfl rfl rfl ⟨rfl, rfl, rfl, rfl, rfl⟩ rfl rfl rfl rfl rfl (by kernel_rfl) Ybad.func3 (by kernel_rfl)
    (of_decide_eq_true (by kernel_rfl)) (by unfold Func.isWrapper; first | (rw [if_pos (by decide +kernel)]; kernel_rfl) | (rw [if_neg (by decide +kernel)]; exact ⟨rfl, rfl⟩))
    (fun os started H enc _ => lifted os started H enc)
end LawB

theorem lawS6048BWholeCard_holds : Rows.LawS6048BWholeCardSaid :=
  Claim7.holds_tied_plain_at .later [] [.data, .data, .data] true (true, "de3aef2642911eadc2cadf20a3b59f8d57e968fa033f4d84e41c2fad07feadc8") false
    LawB.over (fun _ h => by cases h) (by kernel_rfl) (fun _ h => by cases h) lawS6048BWhole_row_tie rfl ⟨rfl, rfl⟩ (by kernel_rfl) rfl
    (fun f fn hf hfn => by
      obtain rfl : f = 3 := Option.some.inj ((show Ybad.prog.funcNamed Ybad.f3.name = some 3 by kernel_rfl).symm.trans hf) |>.symm
      obtain rfl : fn = Ybad.f3 := (Option.some.inj (Ybad.func3.symm.trans hfn)).symm
      exact ⟨by kernel_rfl, fun j t ht => by
        rw [Ybad.params3] at ht
        have hm : t ∈ [22, 22] := by simpa using Array.mem_of_getElem? ht
        have hall : ([22, 22].all fun u => !Ybad.prog.wantsStandIn u) = true := by kernel_rfl
        exact (show Ybad.prog.wantsStandIn t = false by simpa using List.all_eq_true.1 hall t hm)⟩)
    (by kernel_rfl)
#print axioms lawS6048BWholeCard_holds
end Go.Proofs.YbulkdufqDoor

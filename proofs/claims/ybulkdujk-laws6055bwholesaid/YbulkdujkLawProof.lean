/-
  'Rows.LawS6055BWholeSaid': the row's step over the walk.
-/
import Derived.Test.YbulkdujkRows
import Derived.Test.YbulkdujkWalk
import Derived.WalkKit
import Derived.ProofKit
import Derived.OpenShut
import Derived.ShutString
import Derived.ChangeOld
import Derived.Below
import Derived.ChangeMaps5
import Derived.SliceStrings
import Derived.Deep.Grids
namespace Go.Proofs.Ybulkdujk
namespace lawS6055BWhole
open Go.ChangeShapes Go.WideShapes Go.ChangeAt Go.RowKit
open Go.ChangeMaps (open_string shut_string)
set_option linter.unusedVariables false

theorem own : ownKnob Yba.prog.godebug = none := by kernel_rfl
theorem laidOut : laidOutB Yba.prog = true := by kernel_rfl

/-- Cells in a row: the address is plain, its block there. -/
theorem cells_at {w : World} {a : Addr} {n : Nat} {f : Nat → Value} (h : ∀ i, i < n → w.cell? (a.add i) = some (f i)) (hp : 0 < n) :
    ∃ b off, a = ⟨b, off, none⟩ ∧ b < w.heap.size ∧ ∀ j, j < n → w.cell? ⟨b, off + j, none⟩ = some (f j) := by
  obtain ⟨b, off, spot⟩ := a
  have hspot : spot = none := by simpa [Addr.add] using World.cell?_spot (h 0 hp)
  subst hspot
  have hc : ∀ j, j < n → w.cell? ⟨b, off + j, none⟩ = some (f j) := fun j hj => by rw [← Go.WideShapes.add_plain]; exact h j hj
  exact ⟨b, off, rfl, by have := World.block_lt_of_cell? w _ (hc 0 hp); exact this, hc⟩

/-- A slice of n elements that came in: its cells hold f. -/
def IsRow (w : World) (a : Option Addr) (n : Nat) (f : Nat → Value) : Prop :=
  n ≤ maxLen ∧ (0 < n → ∃ b off, a = some ⟨b, off, none⟩ ∧ b < w.heap.size ∧ ∀ j, j < n → w.cell? ⟨b, off + j, none⟩ = some (f j))

theorem walk (kp vp : Option Addr) (n kc m vc : Nat) (ss : List ByteArray) (vs : List Bool) (sel : Int) (probe : ByteArray) (nm : Bool) (w : World)
    (w0 : IsRow w kp n (fun i => .string (ss.getD i ByteArray.empty))) (hks : ∀ i, i < n → (ss.getD i ByteArray.empty).size ≤ maxLen)
    (hvl : vs.length = m) (w1 : IsRow w vp m (fun i => .bool (vs.getD i false))) (hp : probe.size ≤ maxLen) (hs : (Lit.int .u8 sel).wf = true) :
    Calls Yba.prog 3 #[.slice kp n kc, .slice vp m vc, .int .u8 sel, .string probe, .bool nm] w fun e w' => e = .returned (.bool true) ∧ Below w.heap.size w w' := by
  obtain ⟨hs0, hs1⟩ := bounds_u8 hs
  by_cases hbig : 1048576 < n
  · exact law_big kp vp n kc m vc sel probe nm w hbig
  · by_cases hnil : nm = true ∧ n = 0
    · obtain ⟨rfl, rfl⟩ := hnil
      exact law_nil kp vp kc m vc sel probe w hp
    · have hnm : nm = true → 0 < n := fun h => Nat.pos_of_ne_zero fun h0 => hnil ⟨h, h0⟩
      have hm : m ≤ 9223372036854775807 := by have := w1.1; unfold maxLen at this; omega
      obtain ⟨kb, ko, hx, hkc⟩ : ∃ kb ko, (0 < n → kp = some ⟨kb, ko, none⟩ ∧ kb < w.heap.size) ∧ (∀ i, i < n → w.cell? ⟨kb, ko + i, none⟩ = some (.string (ss.getD i ByteArray.empty))) := by
        by_cases h0 : 0 < n
        · obtain ⟨b, off, e, hb, hc⟩ := w0.2 h0
          exact ⟨b, off, fun _ => ⟨e, hb⟩, hc⟩
        · exact ⟨0, 0, fun h => absurd h h0, fun i hi => absurd hi (by omega)⟩
      obtain ⟨vb, vo, hy, hvc⟩ : ∃ vb vo, (0 < m → vp = some ⟨vb, vo, none⟩ ∧ vb < w.heap.size) ∧ (∀ i, i < m → w.cell? ⟨vb, vo + i, none⟩ = some (.bool (vs.getD i false))) := by
        by_cases h0 : 0 < m
        · obtain ⟨b, off, e, hb, hc⟩ := w1.2 h0
          exact ⟨b, off, fun _ => ⟨e, hb⟩, hc⟩
        · exact ⟨0, 0, fun h => absurd h h0, fun i hi => absurd hi (by omega)⟩
      exact law_some kp vp kb ko n kc vb vo m vc ss vs sel probe nm w (by omega) hm hvl hx hy hkc hvc hks hp hs0 hs1 hnm

set_option maxRecDepth 100000 in
theorem lifted (os : Os) (started : os.Started) (H : Type) (enc : TypeId × Value → H) :
    ReturnsInHanded {} Yba.checked os 3 .any (Rows.lawS6055BWholeSpec.pre6 enc Yba.prog Yba.f3 Rows.lawS6055BWholeRow.domain false) (Rows.lawS6055BWholeSpec.post enc Yba.prog Yba.f3 false true false false) := by
  refine returnsInHanded_of_change (C := Yba.checked) own started (by kernel_rfl) Yba.func3
    (ChangeSpec.witness6 (enc := enc) (C := Yba.checked) false ⟨#[], #[.slice none 0 0, .slice none 0 0, .int .u8 0, .string ⟨#[]⟩, .bool false], []⟩ 8 (by kernel_rfl) (by kernel_rfl) (by kernel_rfl) (by kernel_rfl)) ?_
  intro W base args ds gs before hval0 hW hcnd _
  have hval : ∀ (j : Nat) t v, Yba.f3.params[j]? = some t → args[j]? = some v → Value.okWide Yba.prog W .any base t v := hval0
  have hW' := hW
  obtain ⟨p, q, hA0, hV, rfl, hfz, hnd⟩ := hW
  have hA : DataW.TrodAll enc Yba.prog W 0 (fun _ => true) true Yba.f3.params.toList args.toList ds p := hA0
  rw [Yba.params3] at hA hval
  obtain ⟨v0, vs0, d0, ds0, p0, q0, hargs, rfl, rfl, h0, r0⟩ := trodAll_cons hA
  obtain ⟨v1, vs1, d1, ds1, p1, q1, rfl, rfl, rfl, h1, r1⟩ := trodAll_cons r0
  obtain ⟨v2, vs2, d2, ds2, p2, q2, rfl, rfl, rfl, h2, r2⟩ := trodAll_cons r1
  obtain ⟨v3, vs3, d3, ds3, p3, q3, rfl, rfl, rfl, h3, r3⟩ := trodAll_cons r2
  obtain ⟨v4, vs4, d4, ds4, p4, q4, rfl, rfl, rfl, h4, r4⟩ := trodAll_cons r3
  obtain ⟨rfl, rfl, rfl⟩ := trodAll_nil r4
  obtain rfl : args = #[v0, v1, v2, v3, v4] := by cases args; simp_all
  obtain ⟨rfl, rfl⟩ := trodVars_none hV
  obtain ⟨a0, len0, cap0, rfl⟩ := okWide_slice Yba.underlying22 (hval 0 22 v0 rfl rfl)
  obtain ⟨a1, len1, cap1, rfl⟩ := okWide_slice Yba.underlying23 (hval 1 23 v1 rfl rfl)
  have k0 := h0
  have lt0 : ∀ x ∈ p0, x.block < W.heap.size := by obtain ⟨m, hm⟩ := k0; exact DataW.trod_lt m _ _ _ hm
  have k1 := h1
  have lt1 : ∀ x ∈ p1, x.block < W.heap.size := by obtain ⟨m, hm⟩ := k1; exact DataW.trod_lt m _ _ _ hm
  obtain ⟨ss, w0, hks⟩ : ∃ ss : List ByteArray, IsRow W a0 len0 (fun i => .string (ss.getD i ByteArray.empty)) ∧ ∀ i, i < len0 → (ss.getD i ByteArray.empty).size ≤ maxLen := by
    obtain ⟨fuel, hf⟩ := h0
    rcases open_strings Yba.underlying22 Yba.underlying9 (by kernel_rfl) hf with ⟨hcs, _⟩ | ⟨x, l, c, zs, hcs, _, hl, hm, hz, _, hcell, hwz⟩
    · simp [Value.cells] at hcs
      obtain ⟨rfl, rfl, rfl⟩ := hcs
      exact ⟨[], ⟨Nat.zero_le _, fun h => absurd h (Nat.lt_irrefl _)⟩, fun i h => absurd h (Nat.not_lt_zero _)⟩
    · simp [Value.cells] at hcs
      obtain ⟨rfl, rfl, rfl⟩ := hcs
      have hzl : len0 ≤ zs.length := by rw [hz]; split <;> omega
      refine ⟨zs, ⟨by omega, fun hpos => ?_⟩, fun i hi => ?_⟩
      · obtain ⟨b, off, rfl, hb, hc⟩ := cells_at (n := len0) (f := fun i => .string (zs.getD i ByteArray.empty)) (fun i hi => hcell i (by omega)) hpos
        exact ⟨b, off, rfl, hb, hc⟩
      · have hi2 : i < zs.length := by omega
        have e : zs.getD i ByteArray.empty = zs[i] := by simp [List.getD, List.getElem?_eq_getElem hi2]
        rw [e]
        exact hwz _ (List.getElem_mem hi2)
  obtain ⟨vs, hvl, w1⟩ : ∃ vs : List Bool, vs.length = len1 ∧ IsRow W a1 len1 (fun i => .bool (vs.getD i false)) := by
    obtain ⟨fuel, hf⟩ := h1
    rcases Go.Deep.open_bools Yba.underlying23 Yba.underlying4 (by kernel_rfl) hf with ⟨hcs, _⟩ | ⟨x, l, c, B, hcs, _, hl, hm, _, hcell⟩
    · simp [Value.cells] at hcs
      obtain ⟨rfl, rfl, rfl⟩ := hcs
      exact ⟨[], rfl, ⟨Nat.zero_le _, fun h => absurd h (Nat.lt_irrefl _)⟩⟩
    · simp [Value.cells] at hcs
      obtain ⟨rfl, rfl, rfl⟩ := hcs
      refine ⟨(List.range len1).map B, by simp, by omega, fun hpos => ?_⟩
      obtain ⟨b, off, rfl, hb, hc⟩ := cells_at (n := len1) (f := fun i => .bool (B i)) (fun i hi => hcell i (by omega)) hpos
      refine ⟨b, off, rfl, hb, fun j hj => ?_⟩
      rw [hc j hj]
      simp [List.getD, hj]
  obtain ⟨sel, rfl, rfl, rfl, wsel⟩ := open_int Yba.underlying5 (hval 2 5 v2 rfl rfl) h2
  obtain ⟨probe, rfl, rfl, rfl, wprobe⟩ := open_string Yba.underlying9 (hval 3 9 v3 rfl rfl) h3
  obtain ⟨nm, rfl, rfl, rfl⟩ := open_bool Yba.underlying4 (hval 4 4 v4 rfl rfl) h4
  clear hA0 hval0
  refine (walk a0 a1 len0 cap0 len1 cap1 ss vs sel probe nm W w0 hks hvl w1 wprobe wsel).mono fun e W' ⟨he, bel⟩ => ?_
  subst he
  exact ⟨_, rfl, _, _, _, [], _, [], hW', trodAll_mk1 (shut_bool Yba.underlying4 _), (trodAll_cons_mk (Below.trod laidOut (by kernel_rfl) (of_decide_eq_true (by kernel_rfl)) k0 bel lt0) (trodAll_cons_mk (Below.trod laidOut (by kernel_rfl) (of_decide_eq_true (by kernel_rfl)) k1 bel lt1) (trodAll_cons_mk (shut_int Yba.underlying5 wsel) (trodAll_cons_mk (shut_string Yba.underlying9 wprobe) (trodAll_cons_mk (shut_bool Yba.underlying4 _) trodAll_mk0))))), rfl, bel.frame _, fun h => by cases h⟩

theorem over : Rows.lawS6055BWholeRow.holds Yba.pinned (OpenSpec.ofChange Rows.lawS6055BWholeSpec) :=
  OpenClaim.holds_of_wide 3 Yba.f3 rfl rfl rfl rfl rfl rfl rfl ⟨rfl, rfl, rfl, rfl, rfl⟩ rfl rfl rfl rfl rfl (by kernel_rfl) Yba.func3 (by kernel_rfl)
    (of_decide_eq_true (by kernel_rfl)) (by unfold Func.isWrapper; first | (rw [if_pos (by decide +kernel)]; kernel_rfl) | (rw [if_neg (by decide +kernel)]; exact ⟨rfl, rfl⟩))
    (fun os started H enc _ => lifted os started H enc)

end lawS6055BWhole

theorem lawS6055BWhole_holds : Rows.LawS6055BWholeSaid := lawS6055BWhole.over
#print axioms lawS6055BWhole_holds
end Go.Proofs.Ybulkdujk

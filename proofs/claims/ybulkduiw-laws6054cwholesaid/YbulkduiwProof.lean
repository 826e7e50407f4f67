/-
  'Rows.LawS6054CWholeSaid': the row's step over the walk.
-/
import Derived.Test.YbulkduiwRows
import Derived.Test.YbulkduiwLaw
import Derived.WalkKit
import Derived.ProofKit
import Derived.OpenShut
import Derived.ChangeOld
import Derived.Below
import Derived.Deep.Slices
namespace Go.Proofs.Ybulkduiw
namespace lawS6054CWhole
open Go.ChangeShapes Go.WideShapes Go.ChangeAt Go.RowKit
set_option linter.unusedVariables false

theorem own : ownKnob Yba.prog.godebug = none := by kernel_rfl
theorem laidOut : laidOutB Yba.prog = true := by kernel_rfl

theorem trod_float {H : Type} {enc : TypeId × Value → H} {P : Program} {w : World} {base fuel : Nat} {spare : Nat → Bool} {held : Bool} {t : TypeId} {k : FloatKind} {cs : List Value} {x : DataW H × List MemPlace} (ht : P.underlying t = some (.float k))
    (h : DataW.trod enc P w base spare held fuel t cs = some x) : ∃ b, cs = [.float k b] := by
  cases fuel with
  | zero => simp [DataW.trod] at h
  | succ n =>
    unfold DataW.trod at h
    rw [ht] at h
    split at h <;> simp_all

/-- Cells in a row: the address is plain, its block there. -/
theorem cells_at {w : World} {a : Addr} {n : Nat} {f : Nat → Value} (h : ∀ i, i < n → w.cell? (a.add i) = some (f i)) (hp : 0 < n) :
    ∃ b off, a = ⟨b, off, none⟩ ∧ b < w.heap.size ∧ ∀ j, j < n → w.cell? ⟨b, off + j, none⟩ = some (f j) := by
  obtain ⟨b, off, spot⟩ := a
  have hspot : spot = none := by simpa [Addr.add] using World.cell?_spot (h 0 hp)
  subst hspot
  have hc : ∀ j, j < n → w.cell? ⟨b, off + j, none⟩ = some (f j) := fun j hj => by rw [← Go.WideShapes.add_plain]; exact h j hj
  exact ⟨b, off, rfl, by have := World.block_lt_of_cell? w _ (hc 0 hp); exact this, hc⟩

/-- A slice of n floats that came in. -/
def IsRow (w : World) (a : Option Addr) (n : Nat) (xs : List Nat) : Prop :=
  xs.length = n ∧ (0 < n → ∃ b off, a = some ⟨b, off, none⟩ ∧ b < w.heap.size ∧ ∀ j, j < n → w.cell? ⟨b, off + j, none⟩ = some (.float .f64 (xs.getD j 0)))

theorem walk (a : Option Addr) (n cap : Nat) (xs : List Nat) (w : World) (h : IsRow w a n xs) :
    Calls Yba.prog 3 #[.slice a n cap] w fun e w' => e = .returned (.bool true) ∧ Below w.heap.size w w' := by
  by_cases h0 : n = 0
  · subst h0
    exact law_zero a cap w
  · by_cases hb : 2048 < n
    · exact law_big a n cap w hb
    · obtain ⟨b, off, rfl, hbw, hc⟩ := h.2 (by omega)
      exact law_some b off n cap xs h.1 (by omega) (by omega) w hbw hc

set_option maxRecDepth 100000 in
theorem lifted (os : Os) (started : os.Started) (H : Type) (enc : TypeId × Value → H) :
    ReturnsInHanded {} Yba.checked os 3 .any (Rows.lawS6054CWholeSpec.pre6 enc Yba.prog Yba.f3 Rows.lawS6054CWholeRow.domain false) (Rows.lawS6054CWholeSpec.post enc Yba.prog Yba.f3 false true false false) := by
  refine returnsInHanded_of_change (C := Yba.checked) own started (by kernel_rfl) Yba.func3
    (ChangeSpec.witness6 (enc := enc) (C := Yba.checked) false ⟨#[], #[.slice none 0 0], []⟩ 8 (by kernel_rfl) (by kernel_rfl) (by kernel_rfl) (by kernel_rfl)) ?_
  intro W base args ds gs before hval0 hW hcnd _
  have hval : ∀ (j : Nat) t v, Yba.f3.params[j]? = some t → args[j]? = some v → Value.okWide Yba.prog W .any base t v := hval0
  have hW' := hW
  obtain ⟨p, q, hA0, hV, rfl, hfz, hnd⟩ := hW
  have hA : DataW.TrodAll enc Yba.prog W 0 (fun _ => true) true Yba.f3.params.toList args.toList ds p := hA0
  rw [Yba.params3] at hA hval
  obtain ⟨v0, vs0, d0, ds0, p0, q0, hargs, rfl, rfl, h0, r0⟩ := trodAll_cons hA
  obtain ⟨rfl, rfl, rfl⟩ := trodAll_nil r0
  obtain rfl : args = #[v0] := by cases args; simp_all
  obtain ⟨rfl, rfl⟩ := trodVars_none hV
  obtain ⟨a0, len0, cap0, rfl⟩ := okWide_slice Yba.underlying22 (hval 0 22 v0 rfl rfl)
  have k0 := h0
  have lt0 : ∀ x ∈ p0, x.block < W.heap.size := by obtain ⟨m, hm⟩ := k0; exact DataW.trod_lt m _ _ _ hm
  obtain ⟨xs, w0⟩ : ∃ xs : List Nat, IsRow W a0 len0 xs := by
    obtain ⟨fuel, hf⟩ := h0
    rcases Go.Deep.open_slice1 Yba.underlying22 (by kernel_rfl) hf with ⟨hcs, _⟩ | ⟨x, l, c, m, n, V, D, Pl, hcs, _, hl, hm, hmm, _, hx⟩
    · simp [Value.cells] at hcs
      obtain ⟨rfl, rfl, rfl⟩ := hcs
      exact ⟨[], rfl, fun h => absurd h (Nat.lt_irrefl _)⟩
    · simp [Value.cells] at hcs
      obtain ⟨rfl, rfl, rfl⟩ := hcs
      have hzl : len0 ≤ m := by rw [hmm]; split <;> omega
      obtain ⟨B, hB⟩ := Go.Deep.choose_lt (α := Nat) (n := m) (p := fun i b => V i = .float .f64 b) (fun i hi => by
        obtain ⟨b, hb⟩ := trod_float Yba.underlying26 (hx i hi).2
        exact ⟨b, by simpa using hb⟩)
      refine ⟨(List.range len0).map B, by simp, fun hpos => ?_⟩
      obtain ⟨b, off, rfl, hb, hc⟩ := cells_at (n := len0) (f := fun i => .float .f64 (B i)) (fun i hi => by rw [(hx i (by omega)).1, hB i (by omega)]) hpos
      refine ⟨b, off, rfl, hb, fun j hj => ?_⟩
      rw [hc j hj]
      simp [List.getD, hj]
  clear hA0 hval0
  refine (walk a0 len0 cap0 xs W w0).mono fun e W' ⟨he, bel⟩ => ?_
  subst he
  exact ⟨_, rfl, _, _, _, [], _, [], hW', trodAll_mk1 (shut_bool Yba.underlying4 _), (trodAll_cons_mk (Below.trod laidOut (by kernel_rfl) (of_decide_eq_true (by kernel_rfl)) k0 bel lt0) trodAll_mk0), rfl, bel.frame _, fun h => by cases h⟩

theorem over : Rows.lawS6054CWholeRow.holds Yba.pinned (OpenSpec.ofChange Rows.lawS6054CWholeSpec) :=
  OpenClaim.holds_of_wide 3 Yba.f3 rfl rfl rfl rfl rfl rfl rfl ⟨rfl, rfl, rfl, rfl, rfl⟩ rfl rfl rfl rfl rfl (by kernel_rfl) Yba.func3 (by kernel_rfl)
    (of_decide_eq_true (by kernel_rfl)) (by unfold Func.isWrapper; first | (rw [if_pos (by decide +kernel)]; kernel_rfl) | (rw [if_neg (by decide +kernel)]; exact ⟨rfl, rfl⟩))
    (fun os started H enc _ => lifted os started H enc)

end lawS6054CWhole

theorem lawS6054CWhole_holds : Rows.LawS6054CWholeSaid := lawS6054CWhole.over
#print axioms lawS6054CWhole_holds
end Go.Proofs.Ybulkduiw

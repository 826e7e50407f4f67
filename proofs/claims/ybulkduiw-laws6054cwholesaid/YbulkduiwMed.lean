/-
  Median (5).
-/
import Derived.Test.YbulkduiwTop
namespace Go.Proofs.Ybulkduiw
open Go.RowKit

def MedR (xs : List Nat) (n r : Nat) : Prop :=
  (n % 2 = 1 → r = (srt xs).getD (n / 2) 0) ∧ (n % 2 = 0 → ∃ q, AddR ((srt xs).getD (n / 2 - 1) 0) ((srt xs).getD (n / 2) 0) q ∧ DivR q r)

set_option maxRecDepth 100000 in
set_option maxHeartbeats 1000000 in
theorem median_top (b off n cap : Nat) (xs : List Nat) (hl : xs.length = n) (h0 : 0 < n) (hn : n ≤ 2048) (w : World) (hb : b < w.heap.size) (hc : ∀ j, j < n → w.cell? ⟨b, off + j, none⟩ = some (.float .f64 (xs.getD j 0))) :
    Calls Yba.prog 5 #[.slice (some ⟨b, off, none⟩) n cap] w fun e w' => ∃ r, e = .returned (.float .f64 r) ∧ MedR xs n r ∧ Below w.heap.size w w' := by
  have hv := values_f (some ⟨b, off, none⟩) n cap w
  have hB1 : Below w.heap.size w (w.alloc (.cells #[.slice (some ⟨b, off, none⟩) n cap] 22)) := (Below.refl _ w).alloc (Nat.le_refl _) _
  have hs := sorted_f w.heap.size b off cap xs (by omega) (by omega) (w.alloc (.cells #[.slice (some ⟨b, off, none⟩) n cap] 22)) (by simp) (by rw [hl]; exact (Boxed.new w 22 (.slice (some ⟨b, off, none⟩) n cap)).cell) (by simp; omega) (fun j hj => (hB1.cell (p := ⟨b, off + j, none⟩) hb).trans (hc j (by omega)))
  rw [hl] at hs
  have HS : Hid (Calls Yba.prog 7 #[.func (.func 12) #[] #[.pointer (some ⟨w.heap.size, 0, none⟩)]] (w.alloc (.cells #[.slice (some ⟨b, off, none⟩) n cap] 22)) fun e W' => ∃ g cap', e = .returned (.slice (some ⟨g, 0, none⟩) n cap') ∧ (∀ j, j < n → W'.cell? ⟨g, j, none⟩ = some (.float .f64 ((srt xs).getD j 0))) ∧ Below (w.alloc (.cells #[.slice (some ⟨b, off, none⟩) n cap] 22)).heap.size (w.alloc (.cells #[.slice (some ⟨b, off, none⟩) n cap] 22)) W') := hs
  clear hs hc
  have hadd := fun (x y : Nat) (t : TypeId) (w : World) => run_add Yba.prog w t x y
  have hdiv := fun (x : Nat) (t : TypeId) (w : World) => run_div Yba.prog w t x
  go_enter Yba.func5, Yba.ntmps5
  go_wp2_with fail
  refine hv.mono ?_
  rintro e w1 ⟨rfl, hw1⟩
  subst hw1
  go_wp2_with fail
  refine HS.out.mono ?_
  rintro e w2 ⟨g, cap', rfl, hcell, hB2⟩
  have hB : Below w.heap.size w w2 := hB1.trans (hB2.mono (by simp))
  have HCELL : Hid (∀ j, j < n → w2.cell? ⟨g, j, none⟩ = some (.float .f64 ((srt xs).getD j 0))) := hcell
  clear hcell hB2 hB1 HS hv
  obtain ⟨m, hm⟩ : ∃ m : Nat, m = n / 2 := ⟨_, rfl⟩
  have hmi : (n : Int) / 2 = (m : Int) := by omega
  have HM : Hid (m = n / 2) := hm
  have hmn : m < n := by omega
  have hmn' : (m : Int) < (n : Int) := by omega
  have hcm := HCELL.out m hmn
  by_cases hpar : n % 2 = 0
  · have hp : ((n : Int) % 2 == 0) = true := by rw [beq_iff_eq]; omega
    have hm1 : 1 ≤ m := by omega
    have hcm1 := HCELL.out (m - 1) (by omega)
    have HX : Hid (∀ q r, AddR ((srt xs).getD (m - 1) 0) ((srt xs).getD m 0) q → DivR q r → MedR xs n r) := fun q r h1 h2 => ⟨fun h => by omega, fun _ => ⟨q, by rw [← HM.out]; exact h1, h2⟩⟩
    clear hm
    generalize (srt xs).getD (m - 1) 0 = y1 at *
    generalize (srt xs).getD m 0 = y2 at *
    go_wp2_with fail
    go_region
    all_goals
      go_wp2_with fail
      go_ret
      refine ⟨_, rfl, HX.out _ _ (addV_ok y1 y2 _) (divV_ok _ _), ?_⟩
      exact hB.trans ⟨rfl, rfl, rfl, Nat.le_refl _, fun _ _ => rfl⟩
  · have hp : ((n : Int) % 2 == 0) = false := by rw [beq_eq_false_iff_ne]; omega
    have HX : Hid (MedR xs n ((srt xs).getD m 0)) := ⟨fun _ => by rw [HM.out], fun h => by omega⟩
    clear hm
    generalize (srt xs).getD m 0 = y2 at *
    go_wp2_with fail
    go_ret
    exact ⟨y2, rfl, HX.out, hB⟩

end Go.Proofs.Ybulkduiw

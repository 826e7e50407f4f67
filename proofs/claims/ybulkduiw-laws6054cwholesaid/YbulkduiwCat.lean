/-
  zzs6054cless (9) and zzs6054cat (6).
-/
import Derived.Test.YbulkduiwPR
import Derived.Outline
import Derived.LoopTactic
import Derived.Deep.Light
import Derived.Deep.DeepCutAuto
import Derived.BigQuiet
import Derived.WalkSpells
import Derived.CellFam
namespace Go.Proofs.Ybulkduiw
open Go.RowKit

set_option maxHeartbeats 1000000 in
theorem less_f (x y : Nat) (w : World) : Calls Yba.prog 9 #[.float .f64 x, .float .f64 y] w fun e w' => e = .returned (.bool (ltF x y)) ∧ w' = w := by
  have hx : (FloatKind.f64.format.order x x != some .eq) = nanF x := rfl
  have hy : (FloatKind.f64.format.order y y != some .eq) = nanF y := rfl
  have HL : Hid (∀ a b, nanF x = a → nanF y = b → ltF x y = ((a && !b) || FloatKind.f64.format.order x y == some .lt)) := fun a b h1 h2 => by rw [← h1, ← h2]; rfl
  have HN : Hid (nanF y = true → (FloatKind.f64.format.order x y == some .lt) = false) := by
    intro h
    show (ordF x y == some .lt) = false
    rw [nanF_eq] at h
    rw [ordF_eq]
    cases h2 : fk y with
    | none => cases fk x <;> rfl
    | some v => rw [h2] at h; cases h
  have HN2 : Hid (nanF x = true → (FloatKind.f64.format.order x y == some .lt) = false) := by
    intro h
    show (ordF x y == some .lt) = false
    rw [nanF_eq] at h
    rw [ordF_eq]
    cases h2 : fk x with
    | none => rfl
    | some v => rw [h2] at h; cases h
  cases ea : nanF x <;> cases eb : nanF y
  all_goals
    have HL2 := HL.out _ _ ea eb
    rw [ea] at hx
    rw [eb] at hy
    have HL3 : Hid (ltF x y = _) := HL2
    clear HL2 HL
    go_enter Yba.func9, Yba.ntmps9
    go_wp2
    go_ret
    refine ⟨?_, rfl⟩
    rw [HL3.out]
    first | rfl | (rw [HN.out eb]; rfl) | (rw [HN2.out ea]; rfl)

set_option maxRecDepth 100000 in
set_option maxHeartbeats 1000000 in
theorem cat_f (b off n cap k : Nat) (xs : List Nat) (w : World) (hl : xs.length = n) (hn : n ≤ 2048) (hk : k < n) (hc : ∀ j, j < n → w.cell? ⟨b, off + j, none⟩ = some (.float .f64 (xs.getD j 0))) :
    Calls Yba.prog 6 #[.slice (some ⟨b, off, none⟩) n cap, .int .i64 k] w fun e w' => ∃ x, e = .returned (.float .f64 x) ∧ fk x = fk ((srt xs).getD k 0) ∧ w' = w := by
  have HC : Hid (∀ j, j < n → w.cell? ⟨b, off + j, none⟩ = some (.float .f64 (xs.getD j 0))) := hc
  have HEX : Hid (∃ i, i < n ∧ Hit xs k (xs.getD i 0)) := by have := hit_exists (xs := xs) (k := k) (by omega); rw [hl] at this; exact this
  have HKEY : Hid (∀ e, cLt xs e n ≤ k → k < cLe xs e n → fk e = fk ((srt xs).getD k 0)) := fun e h1 h2 => hit_key (by omega) ((hit_iff xs k e).2 (by rw [hl]; exact ⟨h1, h2⟩))
  have HIT : Hid (∀ e, Hit xs k e ↔ cLt xs e n ≤ k ∧ k < cLe xs e n) := fun e => by rw [← hl]; exact hit_iff xs k e
  have HS1 : Hid (∀ e j, j < n → cLt xs e (j + 1) = cLt xs e j + (if ltF (xs.getD j 0) e = true then 1 else 0)) := fun e j h => cLt_succ (by omega)
  have HS2 : Hid (∀ e j, j < n → cLe xs e (j + 1) = cLe xs e j + (if ltF e (xs.getD j 0) = true then 0 else 1)) := fun e j h => cLe_succ (by omega)
  clear hc hl
  have hless := less_f
  go_enter Yba.func6, Yba.ntmps6
  go_wp2
  go_loop [5] (fun i => ∃ q : Nat, q ≤ n ∧ i = .int .i64 q ∧ Hid (∀ j, j < q → ¬ Hit xs k (xs.getD j 0))) (fun i => n - (intOf i).toNat)
  case atStart => exact ⟨0, Nat.zero_le _, rfl, fun j h => absurd h (Nat.not_lt_zero _)⟩
  case round =>
    obtain ⟨q, hq, rfl, HQ⟩ := hrel
    by_cases hlt : q < n
    · have hlt' : (q : Int) < (n : Int) := by omega
      have hcq := HC.out q hlt
      have HQS : Hid (∀ e, xs.getD q 0 = e → ¬ Hit xs k e → ∀ j, j < q + 1 → ¬ Hit xs k (xs.getD j 0)) := fun e he h j hj => by
        rcases Nat.lt_or_ge j q with h' | h'
        · exact HQ.out j h'
        · rw [show j = q by omega, he]; exact h
      have HQ2 : Hid (∀ e, xs.getD q 0 = e → True) := fun _ _ => trivial
      generalize he : xs.getD q 0 = e at hcq
      have HE : Hid (xs.getD q 0 = e) := he
      clear he HQ2
      go_wp2_with fail
      go_loop [7, 8, 9] (fun a c i => ∃ j : Nat, j ≤ n ∧ i = .int .i64 j ∧ a = .int .i64 (cLt xs e j) ∧ c = .int .i64 (cLe xs e j)) (fun _ _ i => n - (intOf i).toNat)
      case atStart => exact ⟨0, Nat.zero_le _, rfl, rfl, rfl⟩
      case round =>
        obtain ⟨j, hj, rfl, rfl, rfl⟩ := hrel
        have ha := cLt_le xs e j
        have hb := cLe_le xs e j
        by_cases hjl : j < n
        · have hjl' : (j : Int) < (n : Int) := by omega
          have hcj := HC.out j hjl
          have h1 := HS1.out e j hjl
          have h2 := HS2.out e j hjl
          generalize xs.getD j 0 = y at hcj h1 h2
          have L1 := fun w => hless y e w
          have L2 := fun w => hless e y w
          generalize ltF y e = p1 at *
          generalize ltF e y = p2 at *
          have H1 : Hid (cLt xs e (j + 1) = cLt xs e j + (if p1 = true then 1 else 0)) := h1
          have H2 : Hid (cLe xs e (j + 1) = cLe xs e j + (if p2 = true then 0 else 1)) := h2
          clear h1 h2
          generalize hA : cLt xs e j = A at *
          generalize hB : cLe xs e j = B at *
          clear hA hB
          have G1 : Hid (∀ w, Calls Yba.prog 9 #[.float .f64 y, .float .f64 e] w fun e w' => e = .returned (.bool p1) ∧ w' = w) := L1
          have G2 : Hid (∀ w, Calls Yba.prog 9 #[.float .f64 e, .float .f64 y] w fun e w' => e = .returned (.bool p2) ∧ w' = w) := L2
          clear L1 L2
          cases p1 <;> cases p2
          all_goals
            go_wp2_with fail
            refine (G1.out _).mono ?_
            rintro e' w' ⟨rfl, rfl⟩
            go_wp2_with fail
            refine (G2.out _).mono ?_
            rintro e' w' ⟨rfl, rfl⟩
            go_wp2_with fail
            go_round
            case rel => exact ⟨j + 1, by omega, by go_num, by rw [H1.out]; go_num, by rw [H2.out]; go_num⟩
            case measure => simp [intOf]; omega
        · have hjn : j = n := by omega
          subst hjn
          have HK2 : Hid (cLt xs e j ≤ k → k < cLe xs e j → fk e = fk ((srt xs).getD k 0)) := HKEY.out e
          have HI2 : Hid (Hit xs k e → cLt xs e j ≤ k ∧ k < cLe xs e j) := (HIT.out e).1
          generalize cLt xs e j = A at *
          generalize cLe xs e j = B at *
          by_cases c1 : A ≤ k
          · have c1' : (A : Int) ≤ (k : Int) := by omega
            by_cases c2 : k < B
            · have c2' : (k : Int) < (B : Int) := by omega
              go_wp2_with fail
              go_ret
              exact ⟨e, rfl, HK2.out c1 c2, rfl⟩
            · have c2' : ¬ (k : Int) < (B : Int) := by omega
              go_wp2_with fail
              go_round
              case rel => exact ⟨q + 1, by omega, by go_num, HQS.out e HE.out (fun h => c2 (HI2.out h).2)⟩
              case measure => simp [intOf]; omega
          · have c1' : ¬ (A : Int) ≤ (k : Int) := by omega
            go_wp2_with fail
            go_round
            case rel => exact ⟨q + 1, by omega, by go_num, HQS.out e HE.out (fun h => c1 (HI2.out h).1)⟩
            case measure => simp [intOf]; omega
    · exfalso
      obtain ⟨i, hi, hh⟩ := HEX.out
      exact HQ.out i (by omega) hh

end Go.Proofs.Ybulkduiw

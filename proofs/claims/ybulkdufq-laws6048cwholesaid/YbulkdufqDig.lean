/-
  Contracts: isDigits (5), zzs6048cmodel (4).
-/
import Derived.Test.YbulkdufqProg
import Derived.WalkKit
import Derived.WalkSpells
import Derived.Outline
import Derived.LoopTactic
import Derived.BigQuiet
import Derived.Deep.QuietTactic
import Derived.Deep.Light
namespace Go.Proofs.Ybulkdufq
open Go.RowKit

def isD (z : Int) : Bool := decide (48 ≤ z) && decide (z ≤ 57)
def digB (l : List Int) : Bool := decide (0 < l.length) && l.all isD

theorem take_snoc (l : List Int) (k : Nat) (h : k < l.length) : l.take (k + 1) = l.take k ++ [l.getD k 0] := by
  rw [List.take_succ_eq_append_getElem h]
  simp [List.getD, List.getElem?_eq_getElem h]

theorem all_next {l : List Int} {k : Nat} (h : k < l.length) (ha : (l.take k).all isD = true) (h0 : 48 ≤ l.getD k 0) (h1 : l.getD k 0 ≤ 57) : (l.take (k + 1)).all isD = true := by
  rw [take_snoc l k h, List.all_append, ha]
  simp only [isD, List.all_cons, List.all_nil, Bool.and_true, Bool.true_and, Bool.and_eq_true, decide_eq_true_eq]
  exact ⟨h0, h1⟩

theorem dig_no {l : List Int} {k : Nat} (h : k < l.length) (hn : l.getD k 0 < 48 ∨ 57 < l.getD k 0) : digB l = false := by
  unfold digB
  have : l.all isD = false := by
    rw [List.all_eq_false]
    refine ⟨l.getD k 0, ?_, ?_⟩
    · rw [List.getD, List.getElem?_eq_getElem h]
      exact List.getElem_mem h
    · intro h
      simp only [isD, Bool.and_eq_true, decide_eq_true_eq] at h
      omega
  rw [this, Bool.and_false]

theorem dig_end {l : List Int} (ha : (l.take l.length).all isD = true) : digB l = decide (0 < l.length) := by
  unfold digB
  rw [List.take_length] at ha
  rw [ha, Bool.and_true]

set_option maxRecDepth 100000 in
set_option maxHeartbeats 400000 in
theorem isDigits_any (g n c : Nat) (l : List Int) (w : World) (hl : l.length = n) (hn : n ≤ 140737488355328) (hc : ∀ i, i < n → w.cell? ⟨g, i, none⟩ = some (.int .u8 (l.getD i 0))) :
    Calls Yba.prog 5 #[.slice (some ⟨g, 0, none⟩) n c] w fun e w' => e = .returned (.bool (digB l)) ∧ w' = w := by
  have HL : Hid (l.length = n) := hl
  clear hl
  go_enter Yba.func5, Yba.ntmps5
  go_wp2
  go_loop [7] (fun i => ∃ k : Nat, k ≤ n ∧ i = .int .i64 k ∧ Hid ((l.take k).all isD = true)) (fun i => n - (intOf i).toNat)
  case atStart => exact ⟨0, Nat.zero_le _, rfl, rfl⟩
  case round =>
    obtain ⟨k, hk, rfl, HA⟩ := hrel
    by_cases hlt : k < n
    · have hck := hc k hlt
      by_cases hd : 48 ≤ l.getD k 0 ∧ l.getD k 0 ≤ 57
      · have HN : Hid ((l.take (k + 1)).all isD = true) := all_next (by rw [HL.out]; exact hlt) HA.out hd.1 hd.2
        generalize l.getD k 0 = z at hck hd
        obtain ⟨hd0, hd1⟩ := hd
        clear hc
        have d1 : decide (57 < z) = false := decide_eq_false (by omega)
        go_wp2
        go_round
        case rel => exact ⟨k + 1, by omega, by go_num, HN⟩
        case measure => simp [intOf]; omega
      · have HN : Hid (digB l = false) := dig_no (k := k) (by rw [HL.out]; exact hlt) (by omega)
        have hd' : l.getD k 0 < 48 ∨ 57 < l.getD k 0 := by omega
        clear hd
        generalize l.getD k 0 = z at hck hd'
        clear hc
        by_cases hz : z < 48
        · go_wp2
          go_ret
          exact ⟨by rw [HN.out]; rfl, rfl⟩
        · have d1 : decide (57 < z) = true := decide_eq_true (by omega)
          go_wp2
          go_ret
          exact ⟨by rw [HN.out]; rfl, rfl⟩
    · have hkn : k = n := by omega
      subst hkn
      have HN : Hid (digB l = decide (0 < l.length)) := dig_end (by rw [HL.out]; exact HA.out)
      go_wp2
      go_ret
      refine ⟨?_, rfl⟩
      rw [HN.out, HL.out]
      rfl

theorem digit_at : ∀ j : Fin 10, ((ByteArray.mk #[48, 49, 50, 51, 52, 53, 54, 55, 56, 57])[j.val]'(by have := j.isLt; exact this)).toNat = 48 + j.val := by decide

def fnd (z : Int) (j : Nat) : Bool := decide (48 ≤ z ∧ z < 48 + j)

set_option maxRecDepth 100000 in
set_option maxHeartbeats 1000000 in
theorem model_any (g n c : Nat) (l : List Int) (w : World) (hl : l.length = n) (hn : n ≤ 140737488355328) (hc : ∀ i, i < n → w.cell? ⟨g, i, none⟩ = some (.int .u8 (l.getD i 0))) :
    Calls Yba.prog 4 #[.slice (some ⟨g, 0, none⟩) n c] w fun e w' => e = .returned (.bool (digB l)) ∧ ∃ q, w' = w.drewN q := by
  have HL : Hid (l.length = n) := hl
  clear hl
  by_cases h0 : n = 0
  · subst h0
    have HN : Hid (digB l = false) := by show digB l = false; unfold digB; rw [HL.out]; rfl
    go_enter Yba.func4, Yba.ntmps4
    go_wp2
    go_ret
    exact ⟨by rw [HN.out]; rfl, 0, rfl⟩
  · have h0' : ((n : Int) == 0) = false := by rw [beq_eq_false_iff_ne]; omega
    go_enter Yba.func4, Yba.ntmps4
    go_wp2
    go_loopw [3] (fun i wr => ∃ k q : Nat, k ≤ n ∧ i = .int .i64 k ∧ wr = w.drewN q ∧ Hid ((l.take k).all isD = true)) (fun i _ => n - (intOf i).toNat)
    case atStart => exact ⟨0, 0, Nat.zero_le _, rfl, rfl, rfl⟩
    case round =>
      obtain ⟨k, q, hk, rfl, rfl, HA⟩ := hrel
      by_cases hlt : k < n
      · have hck := hc k hlt
        have hlt' : (k : Int) < (n : Int) := by omega
        have H1 : Hid (48 ≤ l.getD k 0 → l.getD k 0 ≤ 57 → (l.take (k + 1)).all isD = true) := fun a b => all_next (by rw [HL.out]; exact hlt) HA.out a b
        have H2 : Hid (l.getD k 0 < 48 ∨ 57 < l.getD k 0 → digB l = false) := fun h => dig_no (k := k) (by rw [HL.out]; exact hlt) h
        generalize l.getD k 0 = z at hck H1 H2
        clear hc
        go_wp2
        go_loopw [4, 5] (fun f i wr => ∃ j q : Nat, j ≤ 10 ∧ i = .int .i64 j ∧ wr = w.drewN q ∧ f = .bool (fnd z j)) (fun _ i _ => 10 - (intOf i).toNat)
        case atStart => exact ⟨0, q, Nat.zero_le _, rfl, rfl, by rw [show fnd z 0 = false from decide_eq_false (by omega)]⟩
        case round =>
          obtain ⟨j, q2, hj, rfl, rfl, rfl⟩ := hrel
          by_cases hjl : j < 10
          · have hj' : (j : Int) < 10 := by omega
            have hdj : ∀ h, ((ByteArray.mk #[48, 49, 50, 51, 52, 53, 54, 55, 56, 57])[j]'h).toNat = 48 + j := fun _ => digit_at ⟨j, hjl⟩
            go_wp2
            go_quiet (fail)
            by_cases he : (48 + (j : Int) == z) = true
            · have HF : Hid (fnd z (j + 1) = true) := by show fnd z (j + 1) = true; rw [beq_iff_eq] at he; exact decide_eq_true (by omega)
              go_wp2
              go_roundw
              case rel => exact ⟨j + 1, _, by omega, by go_num, rfl, by rw [HF.out]⟩
              case measure => simp [intOf]; omega
            · have he' : (48 + (j : Int) == z) = false := by simpa using he
              have HF : Hid (fnd z (j + 1) = fnd z j) := by
                show fnd z (j + 1) = fnd z j
                rw [beq_eq_false_iff_ne] at he'
                exact decide_eq_decide.2 (by omega)
              clear he
              go_wp2
              go_roundw
              case rel => exact ⟨j + 1, _, by omega, by go_num, rfl, by rw [HF.out]⟩
              case measure => simp [intOf]; omega
          · have hj10 : j = 10 := by omega
            subst hj10
            by_cases hf : fnd z 10 = true
            · have HF : Hid (48 ≤ z ∧ z < 48 + (10 : Nat)) := by show 48 ≤ z ∧ _; exact of_decide_eq_true hf
              go_wp2
              go_roundw
              case rel => exact ⟨k + 1, q2, by omega, by go_num, rfl, H1.out HF.out.1 (by have := HF.out.2; omega)⟩
              case measure => simp [intOf]; omega
            · have HF : Hid (¬ (48 ≤ z ∧ z < 48 + (10 : Nat))) := fun h => hf (decide_eq_true h)
              have hf' : fnd z 10 = false := by simpa using hf
              have HN : Hid (digB l = false) := H2.out (by have := HF.out; omega)
              clear hf
              go_wp2
              go_ret
              exact ⟨by rw [HN.out]; rfl, _, rfl⟩
      · have hkn : k = n := by omega
        subst hkn
        have HN : Hid (digB l = true) := by show digB l = true; rw [dig_end (by rw [HL.out]; exact HA.out), HL.out]; exact decide_eq_true (by omega)
        go_wp2
        go_ret
        exact ⟨by rw [HN.out]; rfl, _, rfl⟩

end Go.Proofs.Ybulkdufq

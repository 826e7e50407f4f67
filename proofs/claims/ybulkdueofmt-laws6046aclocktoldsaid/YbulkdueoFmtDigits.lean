/-
  The contract of zzs6046adigits (8).
-/
import Derived.Test.YbulkdueoFmtB
import Derived.Test.YbulkdueoFmtTod
namespace Go.Proofs.YbulkdueoFmt
open Go.RowKit

def nums (v : Int) (pad : Bool) : List Int :=
  (if 100 ≤ v then [48 + v / 100] else []) ++ (if 10 ≤ v then [48 + v / 10 % 10] else if pad = true then [48] else []) ++ [48 + v % 10]

theorem one_cell (n : Int) : ∀ u ∈ [Value.int .u8 n], u.oneCell' = true := by
  intro u hu
  simp at hu
  subst hu
  rfl

theorem below_size {w0 w : World} (h : Below w0.heap.size w0 w) (o : Obj) : w0.heap.size ≤ (w.alloc o).heap.size := by
  have := h.size
  simp
  omega

set_option maxRecDepth 100000 in
set_option maxHeartbeats 1000000 in
theorem digits_any (v : Int) (pad : Bool) (w : World) (h0 : 0 ≤ v) (h1 : v ≤ 255) :
    Calls Ybaf.prog 8 #[.int .u8 v, .bool pad] w fun e w' => e = .returned (.string (strOfNums (nums v pad))) ∧ Below w.heap.size w w' := by
  obtain ⟨i0, hi, hz0, hz1, hz2⟩ := info_parts info5
  have hown0 := World.ownsRow_made (base := w.heap.size) (e := 5) (size := 1) w #[] 0 (Nat.le_refl _) (Nat.zero_le _) rfl
  have hb0 : Below w.heap.size w (w.alloc (.cells #[] 5)) := (Below.refl _ _).alloc (Nat.le_refl _) _
  by_cases h100 : 100 ≤ v
  · have h10 : 10 ≤ v := by omega
    have HN : Hid (nums v pad = [48 + v / 100, 48 + v / 10 % 10, 48 + v % 10]) := by show nums v pad = _; unfold nums; rw [if_pos h100, if_pos h10]; rfl
    go_enter Ybaf.func8, Ybaf.ntmps8
    go_upto_region 2 with fail
    generalize hw0 : w.alloc (.cells #[] 5) = w0 at hown0 hb0 ⊢
    generalize hv0 : Value.slice (some (⟨w.heap.size, 0, none⟩ : Addr)) 0 0 = v0 at hown0 ⊢
    clear hw0 hv0
    go_wp2_with (at_builtin; refine wpList_append_own _ rfl (.tmp 9) (.tmp 13) 33 rfl w.heap.size 5 i0 (.int .u8 0) 1 1 Ybaf.underlying33 hi hz0 hz1 hz2 rfl (by decide) _ _ _ rfl (hown0.alloc _) ⟨w0.heap.size, 0, none⟩ 1 1 [_] rfl rfl (cell_one_new _ _ _) (one_cell _) (by unfold maxLen; omega) (by omega) (below_size hb0 _) ?_)
    intro v1 w1 hown1 hgrow1 _
    have hb1 : Below w.heap.size w w1 := (hb0.alloc hb0.size _).grown hgrow1 (by have := hb0.size; simp at this ⊢; omega) (fun j hj => (hown0.lt j hj).1)
    clear hgrow1 hown0
    go_wp2_with (at_builtin; refine wpList_append_own _ rfl (.tmp 17) (.tmp 22) 33 rfl w.heap.size 5 i0 (.int .u8 0) 1 1 Ybaf.underlying33 hi hz0 hz1 hz2 rfl (by decide) _ _ _ rfl (hown1.alloc _) ⟨w1.heap.size, 0, none⟩ 1 1 [_] rfl rfl (cell_one_new _ _ _) (one_cell _) (by unfold maxLen; omega) (by omega) (below_size hb1 _) ?_)
    intro v2 w2 hown2 hgrow2 _
    have hb2 : Below w.heap.size w w2 := (hb1.alloc hb1.size _).grown hgrow2 (by have := hb1.size; simp at this ⊢; omega) (fun j hj => (hown1.lt j hj).1)
    clear hgrow2 hown1
    go_wp2_with (at_builtin; refine wpList_append_own _ rfl (.tmp 28) (.tmp 32) 33 rfl w.heap.size 5 i0 (.int .u8 0) 1 1 Ybaf.underlying33 hi hz0 hz1 hz2 rfl (by decide) _ _ _ rfl (hown2.alloc _) ⟨w2.heap.size, 0, none⟩ 1 1 [_] rfl rfl (cell_one_new _ _ _) (one_cell _) (by unfold maxLen; omega) (by omega) (below_size hb2 _) ?_)
    intro v3 w3 hown3 hgrow3 _
    have hb3 : Below w.heap.size w w3 := (hb2.alloc hb2.size _).grown hgrow3 (by have := hb2.size; simp at this ⊢; omega) (fun j hj => (hown2.lt j hj).1)
    clear hgrow3 hown2
    have hconv := conv_own (zs := [48 + v / 100, 48 + v / 10 % 10, 48 + v % 10]) hown3
    rw [← HN.out] at hconv
    clear hown3
    go_wp2
    go_ret
    exact ⟨rfl, hb3⟩
  · by_cases h10 : 10 ≤ v
    · have HN : Hid (nums v pad = [48 + v / 10 % 10, 48 + v % 10]) := by show nums v pad = _; unfold nums; rw [if_neg h100, if_pos h10]; rfl
      go_enter Ybaf.func8, Ybaf.ntmps8
      go_upto_region 2 with fail
      generalize hw0 : w.alloc (.cells #[] 5) = w0 at hown0 hb0 ⊢
      generalize hv0 : Value.slice (some (⟨w.heap.size, 0, none⟩ : Addr)) 0 0 = v0 at hown0 ⊢
      clear hw0 hv0
      go_wp2_with (at_builtin; refine wpList_append_own _ rfl (.tmp 17) (.tmp 22) 33 rfl w.heap.size 5 i0 (.int .u8 0) 1 1 Ybaf.underlying33 hi hz0 hz1 hz2 rfl (by decide) _ _ _ rfl (hown0.alloc _) ⟨w0.heap.size, 0, none⟩ 1 1 [_] rfl rfl (cell_one_new _ _ _) (one_cell _) (by unfold maxLen; omega) (by omega) (below_size hb0 _) ?_)
      intro v1 w1 hown1 hgrow1 _
      have hb1 : Below w.heap.size w w1 := (hb0.alloc hb0.size _).grown hgrow1 (by have := hb0.size; simp at this ⊢; omega) (fun j hj => (hown0.lt j hj).1)
      clear hgrow1 hown0
      go_wp2_with (at_builtin; refine wpList_append_own _ rfl (.tmp 28) (.tmp 32) 33 rfl w.heap.size 5 i0 (.int .u8 0) 1 1 Ybaf.underlying33 hi hz0 hz1 hz2 rfl (by decide) _ _ _ rfl (hown1.alloc _) ⟨w1.heap.size, 0, none⟩ 1 1 [_] rfl rfl (cell_one_new _ _ _) (one_cell _) (by unfold maxLen; omega) (by omega) (below_size hb1 _) ?_)
      intro v2 w2 hown2 hgrow2 _
      have hb2 : Below w.heap.size w w2 := (hb1.alloc hb1.size _).grown hgrow2 (by have := hb1.size; simp at this ⊢; omega) (fun j hj => (hown1.lt j hj).1)
      clear hgrow2 hown1
      have hconv := conv_own (zs := [48 + v / 10 % 10, 48 + v % 10]) hown2
      rw [← HN.out] at hconv
      clear hown2
      go_wp2
      go_ret
      exact ⟨rfl, hb2⟩
    · cases pad
      · have HN : Hid (nums v false = [48 + v % 10]) := by show nums v false = _; unfold nums; rw [if_neg h100, if_neg h10]; rfl
        go_enter Ybaf.func8, Ybaf.ntmps8
        go_upto_region 2 with fail
        generalize hw0 : w.alloc (.cells #[] 5) = w0 at hown0 hb0 ⊢
        generalize hv0 : Value.slice (some (⟨w.heap.size, 0, none⟩ : Addr)) 0 0 = v0 at hown0 ⊢
        clear hw0 hv0
        go_wp2_with (at_builtin; refine wpList_append_own _ rfl (.tmp 28) (.tmp 32) 33 rfl w.heap.size 5 i0 (.int .u8 0) 1 1 Ybaf.underlying33 hi hz0 hz1 hz2 rfl (by decide) _ _ _ rfl (hown0.alloc _) ⟨w0.heap.size, 0, none⟩ 1 1 [_] rfl rfl (cell_one_new _ _ _) (one_cell _) (by unfold maxLen; omega) (by omega) (below_size hb0 _) ?_)
        intro v1 w1 hown1 hgrow1 _
        have hb1 : Below w.heap.size w w1 := (hb0.alloc hb0.size _).grown hgrow1 (by have := hb0.size; simp at this ⊢; omega) (fun j hj => (hown0.lt j hj).1)
        clear hgrow1 hown0
        have hconv := conv_own (zs := [48 + v % 10]) hown1
        rw [← HN.out] at hconv
        clear hown1
        go_wp2
        go_ret
        exact ⟨rfl, hb1⟩
      · have HN : Hid (nums v true = [48, 48 + v % 10]) := by show nums v true = _; unfold nums; rw [if_neg h100, if_neg h10]; rfl
        go_enter Ybaf.func8, Ybaf.ntmps8
        go_upto_region 2 with fail
        generalize hw0 : w.alloc (.cells #[] 5) = w0 at hown0 hb0 ⊢
        generalize hv0 : Value.slice (some (⟨w.heap.size, 0, none⟩ : Addr)) 0 0 = v0 at hown0 ⊢
        clear hw0 hv0
        go_wp2_with (at_builtin; refine wpList_append_own _ rfl (.tmp 25) (.tmp 26) 33 rfl w.heap.size 5 i0 (.int .u8 0) 1 1 Ybaf.underlying33 hi hz0 hz1 hz2 rfl (by decide) _ _ _ rfl (hown0.alloc _) ⟨w0.heap.size, 0, none⟩ 1 1 [_] rfl rfl (cell_one_new _ _ _) (one_cell _) (by unfold maxLen; omega) (by omega) (below_size hb0 _) ?_)
        intro v1 w1 hown1 hgrow1 _
        have hb1 : Below w.heap.size w w1 := (hb0.alloc hb0.size _).grown hgrow1 (by have := hb0.size; simp at this ⊢; omega) (fun j hj => (hown0.lt j hj).1)
        clear hgrow1 hown0
        go_wp2_with (at_builtin; refine wpList_append_own _ rfl (.tmp 28) (.tmp 32) 33 rfl w.heap.size 5 i0 (.int .u8 0) 1 1 Ybaf.underlying33 hi hz0 hz1 hz2 rfl (by decide) _ _ _ rfl (hown1.alloc _) ⟨w1.heap.size, 0, none⟩ 1 1 [_] rfl rfl (cell_one_new _ _ _) (one_cell _) (by unfold maxLen; omega) (by omega) (below_size hb1 _) ?_)
        intro v2 w2 hown2 hgrow2 _
        have hb2 : Below w.heap.size w w2 := (hb1.alloc hb1.size _).grown hgrow2 (by have := hb1.size; simp at this ⊢; omega) (fun j hj => (hown1.lt j hj).1)
        clear hgrow2 hown1
        have hconv := conv_own (zs := [48, 48 + v % 10]) hown2
        rw [← HN.out] at hconv
        clear hown2
        go_wp2
        go_ret
        exact ⟨rfl, hb2⟩

end Go.Proofs.YbulkdueoFmt

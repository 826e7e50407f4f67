/-
  The contract of zzs6048bdec (5): the decimal numeral.
-/
import Derived.Test.YbulkdufqDoorProg
import Derived.WalkKit
import Derived.WalkSpells
import Derived.Outline
import Derived.LoopTactic
import Derived.BigQuiet
import Derived.Deep.QuietTactic
import Derived.Deep.Light
import Derived.Deep.OwnRows
import Derived.Lib.ItoaLen
import Derived.Lib.ItoaMem
namespace Go.Proofs.YbulkdufqDoor
open Go.RowKit

theorem info5 : (Ybad.prog.info? 5).map (fun i => (i.zero, i.size, i.bytes)) = some (some (.int .u8 0), 1, 1) := by kernel_rfl
theorem size5 : (Ybad.prog.info? 5).map (·.size) = some 1 := by kernel_rfl

/-- The numeral as numbers. -/
def decN (n : Nat) : List Int := (Lib.decDigits n).map fun b => (b.toNat : Int)
def dd (m : Nat) : List Int := if m = 0 then [] else decN m

theorem dd_zero : dd 0 = [] := rfl

theorem decN_small {m : Nat} (h : m < 10) : decN m = [48 + (m : Int)] := by
  unfold decN
  rw [Lib.decDigits, dif_pos h]
  simp
  omega

theorem decN_big {m : Nat} (h : ¬ m < 10) : decN m = decN (m / 10) ++ [48 + ((m % 10 : Nat) : Int)] := by
  unfold decN
  rw [Lib.decDigits, dif_neg h, List.map_append]
  congr 1
  simp
  omega

theorem dd_step {m : Nat} (h : 0 < m) : dd m = dd (m / 10) ++ [48 + ((m % 10 : Nat) : Int)] := by
  unfold dd
  rw [if_neg (by omega)]
  by_cases h10 : m < 10
  · rw [if_pos (by omega), decN_small h10, Nat.mod_eq_of_lt h10]; rfl
  · rw [if_neg (by omega), decN_big h10]

theorem decN_len (n : Nat) (h : n ≤ 1048576) : (decN n).length ≤ 21 := by
  unfold decN
  rw [List.length_map, ← Lib.itoa_nonneg]
  exact Lib.itoa_length_le _ (by omega) (by omega)

theorem decN_zero : decN 0 = [48] := decN_small (by decide)

theorem decN_bd (n : Nat) : ∀ z ∈ decN n, 0 ≤ z ∧ z ≤ 255 := by
  intro z hz
  obtain ⟨b, _, rfl⟩ := List.mem_map.1 hz
  have := b.toNat_lt
  omega

theorem one_cell (n : Int) : ∀ u ∈ [Value.int .u8 n], u.oneCell' = true := by
  intro u hu
  simp at hu
  subst hu
  rfl

theorem below_size {w0 w : World} (h : Below w0.heap.size w0 w) (o : Obj) : w0.heap.size ≤ (w.alloc o).heap.size := by
  have := h.size
  simp
  omega

set_option maxRecDepth 100000 in
set_option maxHeartbeats 1000000 in
theorem dec_any (n : Nat) (w : World) (hn : n ≤ 1048576) :
    Calls Ybad.prog 5 #[.int .i64 n] w fun e w' => ∃ (g L : Nat), e = .returned (.slice (some ⟨g, 0, none⟩) L L) ∧ Hid ((decN n).length = L) ∧ w.heap.size ≤ g ∧ Hid (w'.rowIs g 5 L (fun i => .int .u8 ((decN n).getD i 0))) ∧ Below w.heap.size w w' := by
  obtain ⟨i0, hi, hz0, hz1, hz2⟩ := info_parts info5
  by_cases h0 : n = 0
  · subst h0
    go_enter Ybad.func5, Ybad.ntmps5
    go_wp2
    go_ret
    refine ⟨w.heap.size, 1, rfl, by show _ = _; rw [decN_zero]; rfl, Nat.le_refl _, ?_, (Below.refl _ _).alloc (Nat.le_refl _) _⟩
    exact World.rowIs_alloc _ _ _ _ (fun i hi => by
      have : i = 0 := by simpa using hi
      subst this
      rw [decN_zero]; rfl)
  · have h0' : ((n : Int) == 0) = false := by rw [beq_eq_false_iff_ne]; omega
    have HL := decN_len n hn
    go_enter Ybad.func5, Ybad.ntmps5
    go_wp2
    go_loopw [0, 3] (fun a v wr => ∃ (m : Nat) (ds : List Int), m ≤ 1048576 ∧ a = .int .i64 m ∧ wr.ownsRow w.heap.size 5 1 v ds.length (ds.map (Value.int .u8)) ∧ Hid (dd m ++ ds.reverse = decN n) ∧ Below w.heap.size w wr)
      (fun a _ _ => (intOf a).toNat)
    case atStart => exact ⟨n, [], hn, rfl, World.ownsRow_nil _ _ _ _, by show _ = _; simp [dd, h0], Below.refl _ _⟩
    case round =>
      obtain ⟨m, ds, hm, rfl, hown, HD, hb⟩ := hrel
      have hdl : ds.length ≤ 21 := by
        have := congrArg List.length HD.out
        simp at this
        omega
      by_cases hlt : 0 < m
      · have hlt' : (0 : Int) < (m : Int) := by omega
        have HS := dd_step hlt
        have HX : Hid (dd (m / 10) ++ (ds ++ [48 + ((m % 10 : Nat) : Int)]).reverse = decN n) := by
          show _ = _
          rw [← HD.out, HS]
          simp
        clear HS
        go_wp2_with (at_builtin; refine wpList_append_own _ rfl (.tmp 11) (.tmp 16) 22 rfl w.heap.size 5 i0 (.int .u8 0) 1 1 Ybad.underlying22 hi hz0 hz1 hz2 rfl (by decide) _ _ _ rfl (hown.alloc _) ⟨wr.heap.size, 0, none⟩ 1 1 [_] rfl rfl (cell_one_new _ _ _) (one_cell _) (by unfold maxLen; omega) (by omega) (below_size hb _) ?_)
        intro v' w' hown' hgrow' _
        have hb' : Below w.heap.size w w' := (hb.alloc hb.size _).grown hgrow' (by have := hb.size; simp; omega) (fun j hj => (hown.lt j hj).1)
        clear hgrow' hown
        go_wp2
        go_roundw
        case rel => exact ⟨m / 10, ds ++ [48 + ((m % 10 : Nat) : Int)], by omega, by go_num, by simpa using hown', HX, hb'⟩
        case measure => simp [intOf]; omega
      · have hm0 : m = 0 := by omega
        subst hm0
        have HR : Hid (ds.reverse = decN n) := by have := HD.out; rw [dd_zero, List.nil_append] at this; exact this
        obtain ⟨L, hL⟩ : ∃ L, L = ds.length := ⟨_, rfl⟩
        have hne : 0 < ds.length := by
          have := congrArg List.length HR.out
          simp at this
          unfold decN at this
          rw [List.length_map, Lib.decDigits_length] at this
          have := Lib.nDigits_pos n
          omega
        have HLL : Hid (L = ds.length) := hL
        rw [← hL] at hown hne hdl
        clear hL
        rcases hown.2 with ⟨rfl, h⟩ | ⟨g, cap, cur, rfl, hg, hcur, hnc, hcm, hcs, htk⟩
        · omega
        · have hmk := fun w => run_make_row' (P := Ybad.prog) 22 5 (.int .u8 0) 1 Ybad.underlying22 info5 rfl .i64 .i64 L (by omega) (by omega) w
          have HC : Hid (∀ j, j < L → wr.cell? ⟨g, j, none⟩ = some (.int .u8 (ds.getD j 0))) := by
            intro j hj
            have hj2 : j < ds.length := by rw [← HLL.out]; exact hj
            have h := hown.cells (g := g) rfl j (.int .u8 (ds.getD j 0)) (by simp [List.getElem?_map, List.getElem?_eq_getElem hj2, List.getD])
            rw [Addr.add_lit] at h
            simpa using h
          have hgw : g < wr.heap.size := (hown.lt g rfl).2
          have hbs := hb.size
          have hr0 := World.rowIs_made wr (.int .u8 0) L 5
          have hbA : Below w.heap.size w (wr.alloc (.cells (madeCells #[.int .u8 0] L) 5)) := hb.alloc hb.size _
          have HCA : Hid (∀ j, j < L → (wr.alloc (.cells (madeCells #[.int .u8 0] L) 5)).cell? ⟨g, j, none⟩ = some (.int .u8 (ds.getD j 0))) := by
            intro j hj
            exact (((Below.refl wr.heap.size wr).alloc (Nat.le_refl _) _).cell (p := ⟨g, j, none⟩) hgw).trans (HC.out j hj)
          clear hown htk hcur hg hb HC HD
          go_wp2
          generalize hG : wr.heap.size = G at hgw hbs hr0 ⊢
          go_loopw [25] (fun i wx => ∃ k : Nat, k ≤ L ∧ i = .int .i64 k ∧ wx.rowIs G 5 L (fun j => if j < k then .int .u8 ((decN n).getD j 0) else .int .u8 0) ∧ Hid (∀ j, j < L → wx.cell? ⟨g, j, none⟩ = some (.int .u8 (ds.getD j 0))) ∧ Below w.heap.size w wx)
            (fun i _ => L - (intOf i).toNat)
          case atStart => exact ⟨0, Nat.zero_le _, rfl, hr0.congr (fun j _ => by rw [if_neg (Nat.not_lt_zero _)]), HCA, hbA⟩
          case round =>
            clear hr0 hbA HCA hmk
            obtain ⟨k, hk, rfl, hrow, HC, hb⟩ := hrel
            by_cases hlt : k < L
            · have hlt' : (k : Int) < (L : Int) := by omega
              obtain ⟨p, hp⟩ : ∃ p : Nat, p = L - 1 - k := ⟨_, rfl⟩
              have ep : (L : Int) - 1 - (k : Int) = (p : Int) := by omega
              have hpL : (p : Int) < (L : Int) := by omega
              have hcp := HC.out p (by omega)
              have HV : Hid (ds.getD p 0 = (decN n).getD k 0) := by
                show _ = _
                rw [← HR.out, List.getD, List.getD, List.getElem?_reverse (by rw [← HLL.out]; exact hlt), hp, HLL.out]
              have hcb := hrow.cell hlt
              simp only [Nat.lt_irrefl, if_false] at hcb
              have hfb := hrow.frozen k
              have HST : Hid (∀ x, x = (decN n).getD k 0 → (wr.setCell ⟨G, k, none⟩ (.int .u8 x)).rowIs G 5 L (fun j => if j < k + 1 then .int .u8 ((decN n).getD j 0) else .int .u8 0)) := by
                intro x hx
                refine (hrow.set k (.int .u8 x)).congr (fun j _ => ?_)
                by_cases e : j = k
                · subst e; rw [if_pos rfl, if_pos (by omega), hx]
                · rw [if_neg e]
                  by_cases e2 : j < k
                  · rw [if_pos e2, if_pos (by omega)]
                  · rw [if_neg e2, if_neg (by omega)]
              have HC2 : Hid (∀ x j, j < L → (wr.setCell ⟨G, k, none⟩ x).cell? ⟨g, j, none⟩ = some (.int .u8 (ds.getD j 0))) := by
                intro x j hj
                rw [World.cell?_of_block (w := wr) (Below.heap_setCell _ _ _ _ (by show g ≠ G; omega))]
                exact HC.out j hj
              generalize ds.getD p 0 = z at hcp HV
              clear hrow hp
              go_wp2
              go_roundw
              case rel => exact ⟨k + 1, by omega, by go_num, HST.out _ HV.out, fun j hj => HC2.out _ j hj, hb.setCell hbs _⟩
              case measure => simp [intOf]; omega
            · have hkL : k = L := by omega
              subst hkL
              go_wp2
              go_ret
              exact ⟨G, k, rfl, by show _ = _; rw [← HR.out, List.length_reverse]; exact HLL.out.symm, hbs, hrow.congr (fun j hj => by rw [if_pos hj]), hb⟩

end Go.Proofs.YbulkdufqDoor

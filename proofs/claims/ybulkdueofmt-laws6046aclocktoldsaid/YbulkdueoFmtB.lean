/-
  The walk of LawS6046BWhole (function 5).
-/
import Derived.Test.YbulkdueoFmtFacts
import Derived.Laws.BytesArg
import Derived.Outline
import Derived.LoopTactic
namespace Go.Proofs.YbulkdueoFmt
open Go.Extern.Stop Go.Stop Go.Extern Go.RowKit

theorem info5 : (Ybaf.prog.info? 5).map (fun i => (i.zero, i.size, i.bytes)) = some (some (.int .u8 0), 1, 1) := by kernel_rfl

/-- 'string(b)' of a row of bytes of the call's own. -/
theorem conv_own {w : World} {B : Nat} {v : Value} {n : Nat} {zs : List Int} (hown : w.ownsRow B 5 1 v n (zs.map (Value.int .u8))) :
    (convert 33 9 v).run Ybaf.prog w = .ok (.string (strOfNums zs)) w := by
  have hl : zs.length = n := by simpa using hown.1
  rcases hown.2 with ⟨rfl, rfl⟩ | ⟨g, cap, cur, rfl, _, _, _, _, _, _⟩
  · have e : zs = [] := List.length_eq_zero_iff.1 hl
    subst e
    exact run_convert_bytes_nil w 33 5 Ybaf.underlying33 Ybaf.underlying5 0 0 9 Ybaf.underlying9
  · refine run_convert_bytes_arg w 33 5 Ybaf.underlying33 Ybaf.underlying5 g 0 n cap zs hl (fun i hi => ?_) 9 Ybaf.underlying9
    have h := hown.cells (g := g) rfl i (.int .u8 (zs.getD i 0)) (by simp [List.getElem?_map, List.getElem?_eq_getElem (show i < zs.length by omega), List.getD])
    rw [Addr.add_lit] at h
    simpa using h

theorem strCells_nums (s : ByteArray) : ∃ zs : List Int, zs.length = s.size ∧ Lib.strCells s = zs.map (Value.int .u8) :=
  ⟨s.data.toList.map fun b => (b.toNat : Int), by simp, by simp [Lib.strCells]⟩

set_option maxHeartbeats 1000000 in
set_option maxRecDepth 100000 in
theorem bwalk (F : Interp) (t : ByteArray) (p : Int) (w : World) (hF : F.answers w.tape) (hp0 : 0 ≤ p) (hp1 : p ≤ 65535) (ht : t.size ≤ 140737488351232) :
    Calls Ybaf.prog 5 #[.string t, .int .u16 p] w fun e w' => e = .returned (.bool true) ∧ Below w.heap.size w w' := by
  obtain ⟨i0, hi, hz0, hz1, hz2⟩ := info_parts info5
  obtain ⟨q, hq⟩ : ∃ q : Nat, p % 300 = (q : Int) := ⟨(p % 300).toNat, by omega⟩
  have hq1 : q < 300 := by omega
  go_enter Ybaf.func5, Ybaf.ntmps5
  go_wp2_with (at_make; refine wpList_make_own _ rfl _ _ 33 rfl w.heap.size 5 i0 (.int .u8 0) 1 Ybaf.underlying33 hi hz0 hz1 _ _ _ (t.size + q) rfl rfl (by omega) ?b2 ?b3 (Nat.le_refl _) ?_)
  case b2 => rw [hz2]; omega
  case b3 => unfold maxLen; omega
  intro w0 hown0 hgrow0
  have hb0 : Below w.heap.size w w0 := (Below.refl _ _).grown hgrow0 (Nat.le_refl _) (fun k h => by cases h)
  go_wp2_with (at_builtin; refine Lib.wpList_append_own_string _ rfl _ _ 33 9 rfl w.heap.size 5 i0 Ybaf.underlying33 Ybaf.underlying9 hi hz0 hz1 hz2 _ 0 [] rfl hown0 t rfl ?b4 ?b5 ?b6 ?_)
  case b4 => unfold maxLen; omega
  case b5 => omega
  case b6 => exact hb0.size
  intro v1 w1 hown1 hgrow1 _
  have hb1 : Below w.heap.size w w1 := hb0.grown hgrow1 hb0.size (fun k h => by cases h; exact Nat.le_refl _)
  obtain ⟨zs0, hzl0, hze0⟩ := strCells_nums t
  rw [hze0] at hown1
  clear hown0 hgrow0 hgrow1 hb0 hze0
  go_wp2
  go_loopw [6, 7] (fun v i wr => ∃ (k : Nat) (zs : List Int), k ≤ q ∧ i = .int .i64 k ∧ zs.length = t.size + k ∧ wr.ownsRow w.heap.size 5 1 v (t.size + k) (zs.map (Value.int .u8)) ∧ Below w.heap.size w wr)
    (fun _ i _ => q - (intOf i).toNat)
  case atStart => exact ⟨0, zs0, Nat.zero_le _, rfl, by simpa using hzl0, by simpa using hown1, hb1⟩
  case round =>
    obtain ⟨k, zs, hk, rfl, hzl, hown, hb⟩ := hrel
    by_cases hlt : k < q
    · go_wp2_with (at_builtin; refine wpList_append_own _ rfl _ _ 33 rfl w.heap.size 5 i0 (.int .u8 0) 1 1 Ybaf.underlying33 hi hz0 hz1 hz2 rfl (by decide) _ _ _ rfl (hown.alloc _) ⟨wr.heap.size, 0, none⟩ 1 1 [_] rfl rfl (cell_one_new _ _ _) ?c2 ?c3 ?c4 ?c5 ?_)
      case c2 => intro u hu; simp at hu; subst hu; rfl
      case c3 => unfold maxLen; omega
      case c4 => omega
      case c5 => have := hb.size; simp; omega
      intro v' w' hown' hgrow' _
      have hb' : Below w.heap.size w w' := (hb.alloc hb.size _).grown hgrow' (by have := hb.size; simp; omega) (fun j hj => (hown.lt j hj).1)
      clear hgrow' hown
      go_wp2
      go_roundw
      case rel => exact ⟨k + 1, zs ++ [97 + (k : Int) % 26], by omega, by go_num, by simp; omega, by simpa [Nat.add_assoc] using hown', hb'⟩
      case measure => simp [intOf]; omega
    · have hkq : k = q := by omega
      subst hkq
      have hconv := conv_own hown
      have hS : (strOfNums zs).size ≤ 140737488355328 := by rw [strOfNums_size]; omega
      generalize strOfNums zs = S at hconv hS
      have hbs := hb.size
      clear hown hb1 hown1 hzl hzl0
      by_cases hbig : 1048576 < t.size
      · go_wp2
        go_ret
        exact ⟨rfl, hb⟩
      · go_wp2
        have hbA : Below w.heap.size w (wr.alloc (.cells #[.string t, .string S] 9)) := hb.alloc hbs _
        have hc0 : (wr.alloc (.cells #[.string t, .string S] 9)).cell? ⟨wr.heap.size, 0, none⟩ = some (.string t) := by simp
        have hc1 : (wr.alloc (.cells #[.string t, .string S] 9)).cell? ⟨wr.heap.size, 1, none⟩ = some (.string S) := by simp
        have hsz : (wr.alloc (.cells #[.string t, .string S] 9)).heap.size = wr.heap.size + 1 := by simp
        go_loopw [45] (fun i wx => ∃ j : Nat, j ≤ 2 ∧ i = .int .i64 j ∧ wx.cell? ⟨wr.heap.size, 0, none⟩ = some (.string t) ∧ wx.cell? ⟨wr.heap.size, 1, none⟩ = some (.string S) ∧ wr.heap.size + 1 ≤ wx.heap.size ∧ Below w.heap.size w wx)
          (fun i _ => 2 - (intOf i).toNat)
        case atStart => exact ⟨0, by omega, rfl, hc0, hc1, by rw [hsz]; exact Nat.le_refl _, hbA⟩
        case round =>
          clear hc0 hc1 hbA hsz
          obtain ⟨j, hj, rfl, hc0, hc1, hsz, hbx⟩ := hrel
          have hFx : F.answers wr.tape := by rw [hbx.tape]; exact hF
          match j, hj with
          | 0, _ =>
            by_cases hok : 1 ≤ t.size ∧ t.size ≤ 128
            · obtain ⟨hok1, hok2⟩ := hok
              have hd : decide ((t.size : Int) ≤ 128) = true := decide_eq_true (by omega)
              go_wp2_with (go_at_call 9; refine (pattern_ok _ _ hok1 hok2).mono ?_; rintro e w' ⟨rfl, rfl⟩)
              go_roundw
              case rel => exact ⟨1, by omega, by go_num, hc0, hc1, hsz, hbx⟩
              case measure => simp [intOf]
            · have hbad : t.size < 1 ∨ 128 < t.size := by omega
              clear hok
              have hd : 1 ≤ t.size → decide ((t.size : Int) ≤ 128) = false := fun _ => decide_eq_false (by omega)
              rcases hbad with hbad | hbad
              all_goals
                go_wp2_with (go_at_call 9; refine (pattern_bad F _ _ hFx (by omega)).mono ?_; rintro e w' ⟨⟨a, rfl⟩, hbw⟩)
                go_roundw
                case rel => exact ⟨1, by omega, by go_num, (hbw.cell (by simp; omega)).trans hc0, (hbw.cell (by simp; omega)).trans hc1, Nat.le_trans hsz hbw.size, hbx.trans (hbw.mono hbx.size)⟩
                case measure => simp [intOf]
          | 1, _ =>
            by_cases hok : 1 ≤ S.size ∧ S.size ≤ 128
            · obtain ⟨hok1, hok2⟩ := hok
              have hd : decide ((S.size : Int) ≤ 128) = true := decide_eq_true (by omega)
              go_wp2_with (go_at_call 9; refine (pattern_ok _ _ hok1 hok2).mono ?_; rintro e w' ⟨rfl, rfl⟩)
              go_roundw
              case rel => exact ⟨2, by omega, by go_num, hc0, hc1, hsz, hbx⟩
              case measure => simp [intOf]
            · have hbad : S.size < 1 ∨ 128 < S.size := by omega
              clear hok
              have hd : 1 ≤ S.size → decide ((S.size : Int) ≤ 128) = false := fun _ => decide_eq_false (by omega)
              rcases hbad with hbad | hbad
              all_goals
                go_wp2_with (go_at_call 9; refine (pattern_bad F _ _ hFx (by omega)).mono ?_; rintro e w' ⟨⟨a, rfl⟩, hbw⟩)
                go_roundw
                case rel => exact ⟨2, by omega, by go_num, (hbw.cell (by simp; omega)).trans hc0, (hbw.cell (by simp; omega)).trans hc1, Nat.le_trans hsz hbw.size, hbx.trans (hbw.mono hbx.size)⟩
                case measure => simp [intOf]
          | 2, _ =>
            go_wp2
            go_ret
            exact ⟨rfl, hbx⟩

end Go.Proofs.YbulkdueoFmt

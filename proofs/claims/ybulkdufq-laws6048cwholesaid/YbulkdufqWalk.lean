/-
  The walk of LawS6048CWhole (3).
-/
import Derived.Test.YbulkdufqDig
import Derived.Deep.OwnRows
import Derived.Laws.CopyOwn
import Derived.WalkSmall
namespace Go.Proofs.Ybulkdufq
open Go.RowKit

theorem info5 : (Yba.prog.info? 5).map (fun i => (i.zero, i.size, i.bytes)) = some (some (.int .u8 0), 1, 1) := by kernel_rfl
theorem size5 : (Yba.prog.info? 5).map (·.size) = some 1 := by kernel_rfl

theorem isDigits_nil (w : World) : Calls Yba.prog 5 #[.slice none 0 0] w fun e w' => e = .returned (.bool false) ∧ w' = w := by
  go_enter Yba.func5, Yba.ntmps5
  go_wp2
  go_loop [7] (fun i => i = .int .i64 0) (fun _ => 0)
  case atStart => rfl
  case round =>
    subst hrel
    go_wp2
    go_ret
    exact ⟨rfl, rfl⟩

theorem model_nil (w : World) : Calls Yba.prog 4 #[.slice none 0 0] w fun e w' => e = .returned (.bool false) ∧ w' = w := by
  go_enter Yba.func4, Yba.ntmps4
  go_wp2
  go_ret
  exact ⟨rfl, rfl⟩

set_option maxRecDepth 100000 in
set_option maxHeartbeats 400000 in
theorem law_nil (mix : Bool) (w : World) : Calls Yba.prog 3 #[.slice none 0 0, .bool mix] w fun e w' => e = .returned (.bool true) ∧ Below w.heap.size w w' := by
  have hneq := fun (w : World) (a : Option Addr) (n c : Nat) => run_neq_slice_nil_any (P := Yba.prog) w 22 5 a n c 0 0 Yba.underlying22
  have heql := fun (w : World) (a : Option Addr) (n c : Nat) => Lib.run_eql_slice_nil (P := Yba.prog) w 22 5 a n c 0 0 Yba.underlying22
  go_enter Yba.func3, Yba.ntmps3
  go_wp2_with (first | (go_at_call 4; refine (model_nil _).mono ?_; rintro e w' ⟨rfl, rfl⟩) | (go_at_call 5; refine (isDigits_nil _).mono ?_; rintro e w' ⟨rfl, rfl⟩))
  go_loop [11] (fun i => i = .int .i64 0) (fun _ => 0)
  case atStart => rfl
  case round =>
    subst hrel
    go_wp2
    go_ret
    exact ⟨rfl, Below.refl _ _⟩

def fz (mix : Bool) (z : Int) : Int := if mix = true ∧ z ≤ 200 then 48 + z % 10 else z

set_option maxRecDepth 100000 in
set_option maxHeartbeats 1000000 in
theorem law_some (x : Addr) (b off len cap : Nat) (zs : List Int) (mix : Bool) (w : World) (hlen : len ≤ 1048576) (hz : zs.length = len) (hx : 0 < len → x = ⟨b, off, none⟩ ∧ b < w.heap.size)
    (hc : ∀ i, i < len → w.cell? ⟨b, off + i, none⟩ = some (.int .u8 (zs.getD i 0))) (hwz : ∀ i, i < len → 0 ≤ zs.getD i 0 ∧ zs.getD i 0 ≤ 255) :
    Calls Yba.prog 3 #[.slice (some x) len cap, .bool mix] w fun e w' => e = .returned (.bool true) ∧ Below w.heap.size w w' := by
  have hneq := fun (w : World) (a : Option Addr) (n c : Nat) => run_neq_slice_nil_any (P := Yba.prog) w 22 5 a n c 0 0 Yba.underlying22
  have heql := fun (w : World) (a : Option Addr) (n c : Nat) => Lib.run_eql_slice_nil (P := Yba.prog) w 22 5 a n c 0 0 Yba.underlying22
  have hmk := fun w => run_make_row' (P := Yba.prog) 22 5 (.int .u8 0) 1 Yba.underlying22 info5 rfl .i64 .i64 len (by omega) (by omega) w
  have HX : Hid (0 < len → x = ⟨b, off, none⟩ ∧ b < w.heap.size) := hx
  have HZ : Hid (zs.length = len) := hz
  clear hx
  clear hz
  have hr0 := World.rowIs_made w (.int .u8 0) len 5
  have hb0 : Below w.heap.size w (w.alloc (.cells (madeCells #[.int .u8 0] len) 5)) := (Below.refl _ _).alloc (Nat.le_refl _) _
  go_enter Yba.func3, Yba.ntmps3
  go_wp2
  go_loopw [6] (fun i wr => ∃ k : Nat, k ≤ len ∧ i = .int .i64 k ∧ wr.rowIs w.heap.size 5 len (fun j => if j < k then .int .u8 (fz mix (zs.getD j 0)) else .int .u8 0) ∧ Below w.heap.size w wr)
    (fun i _ => len - (intOf i).toNat)
  case atStart => exact ⟨0, Nat.zero_le _, rfl, hr0.congr (fun j _ => by rw [if_neg (Nat.not_lt_zero _)]), hb0⟩
  case round =>
    clear hr0 hb0
    obtain ⟨k, hk, rfl, hrow, hb⟩ := hrel
    by_cases hlt : k < len
    · have hlt' : (k : Int) < (len : Int) := by omega
      obtain ⟨hx1, hbw⟩ := HX.out (by omega)
      subst hx1
      have hck : wr.cell? ⟨b, off + k, none⟩ = some (.int .u8 (zs.getD k 0)) := (hb.cell (by exact hbw)).trans (hc k hlt)
      have hcb := hrow.cell hlt
      simp only [Nat.lt_irrefl, if_false] at hcb
      have hfb := hrow.frozen k
      have hsz := hb.size
      have HR : Hid (wr.rowIs w.heap.size 5 len (fun j => if j < k then .int .u8 (fz mix (zs.getD j 0)) else .int .u8 0)) := hrow
      obtain ⟨hz0, hz1⟩ := hwz k hlt
      have HST : Hid (∀ x, x = fz mix (zs.getD k 0) → (wr.setCell ⟨w.heap.size, k, none⟩ (.int .u8 x)).rowIs w.heap.size 5 len (fun j => if j < k + 1 then .int .u8 (fz mix (zs.getD j 0)) else .int .u8 0)) := by
        intro x hx
        refine (HR.out.set k (.int .u8 x)).congr (fun j _ => ?_)
        by_cases e : j = k
        · subst e; rw [if_pos rfl, if_pos (by omega), hx]
        · rw [if_neg e]
          by_cases e2 : j < k
          · rw [if_pos e2, if_pos (by omega)]
          · rw [if_neg e2, if_neg (by omega)]
      clear hrow HR
      generalize zs.getD k 0 = z at hck hz0 hz1 HST
      by_cases hm : mix = true
      · subst hm
        by_cases h200 : z ≤ 200
        · have d2 : decide (z ≤ 200) = true := decide_eq_true h200
          go_wp2
          go_roundw
          case rel => exact ⟨k + 1, by omega, by go_num, HST.out _ (by rw [fz, if_pos ⟨rfl, h200⟩]), hb.setCell (Nat.le_refl _) _⟩
          case measure => simp [intOf]; omega
        · have d2 : decide (z ≤ 200) = false := decide_eq_false h200
          go_wp2
          go_roundw
          case rel => exact ⟨k + 1, by omega, by go_num, HST.out _ (by rw [fz, if_neg (by omega)]), hb.setCell (Nat.le_refl _) _⟩
          case measure => simp [intOf]; omega
      · have hm' : mix = false := by simpa using hm
        subst hm'
        go_wp2
        go_roundw
        case rel => exact ⟨k + 1, by omega, by go_num, HST.out _ (by rw [fz, if_neg (by simp)]), hb.setCell (Nat.le_refl _) _⟩
        case measure => simp [intOf]; omega
    · have hkn : k = len := by omega
      subst hkn
      have hsz := hb.size
      have hrow' : wr.rowIs w.heap.size 5 k (fun j => .int .u8 ((zs.map (fz mix)).getD j 0)) := hrow.congr (fun j hj => by
        rw [if_pos hj]
        have : j < zs.length := by rw [HZ.out]; exact hj
        simp [List.getD, List.getElem?_eq_getElem this])
      have HLL : Hid ((zs.map (fz mix)).length = k) := by show _ = _; rw [List.length_map]; exact HZ.out
      obtain ⟨l, hl⟩ : ∃ l, l = zs.map (fz mix) := ⟨_, rfl⟩
      rw [← hl] at hrow' HLL
      have hcur : (madeCells #[Value.int .u8 0] k).toList.length = k := by rw [Array.length_toList, size_madeCells]
      obtain ⟨cur, hcu⟩ : ∃ cur, cur = (madeCells #[Value.int .u8 0] k).toList := ⟨_, rfl⟩
      rw [← hcu] at hcur
      have HCU : Hid (cur.length = k) := hcur
      have hg : (wr.alloc (.cells (madeCells #[Value.int .u8 0] k) 5)).heap[wr.heap.size]? = some (.cells cur.toArray 5 (0, 0)) := by
        rw [hcu, Array.toArray_toList]
        exact heap_alloc_new _ _
      have HG : Hid ((wr.alloc (.cells (madeCells #[Value.int .u8 0] k) 5)).heap[wr.heap.size]? = some (.cells cur.toArray 5 (0, 0))) := hg
      have hbA : Below wr.heap.size wr (wr.alloc (.cells (madeCells #[Value.int .u8 0] k) 5)) := (Below.refl _ _).alloc (Nat.le_refl _) _
      obtain ⟨cs, hcs⟩ : ∃ cs, cs = l.map (Value.int .u8) := ⟨_, rfl⟩
      have HCL : Hid (cs.length = k) := by show _ = _; rw [hcs, List.length_map]; exact HLL.out
      have HSRC : Hid (∀ j v, cs[j]? = some v → (wr.alloc (.cells (madeCells #[Value.int .u8 0] k) 5)).cell? ((⟨w.heap.size, 0, none⟩ : Addr).add j) = some v) := by
        intro j v hj
        have hjl : j < l.length := by
          rcases Nat.lt_or_ge j l.length with h | h
          · exact h
          · rw [hcs, List.getElem?_eq_none (by simpa using h)] at hj; cases hj
        have hv : v = .int .u8 (l.getD j 0) := by
          rw [hcs, List.getElem?_map, List.getElem?_eq_getElem hjl] at hj
          simp [List.getD, List.getElem?_eq_getElem hjl]
          simpa using hj.symm
        rw [Addr.add_lit, Nat.zero_add, hv]
        exact (hrow'.alloc _).cell (by rw [← HLL.out]; exact hjl)
      have HONE : Hid (∀ v ∈ cs, v.oneCell' = true) := by
        intro v hv
        rw [hcs] at hv
        obtain ⟨x, _, rfl⟩ := List.mem_map.1 hv
        rfl
      have HCS : Hid (cs = l.map (Value.int .u8)) := hcs
      have HRB : Hid (wr.rowIs w.heap.size 5 k (fun j => .int .u8 (l.getD j 0))) := hrow'
      clear hcs hcu hl hcur hg hrow hrow' hc
      have HE1 : Hid (cs.length = Nat.min k k) := by show _ = _; rw [HCL.out]; exact (Nat.min_self _).symm
      have HE2 : Hid (0 < cs.length → (some (⟨wr.heap.size, 0, none⟩ : Addr)) = some ⟨wr.heap.size, 0, none⟩ ∧ ∃ ad, some (⟨w.heap.size, 0, none⟩ : Addr) = some ad ∧ ∀ j v, cs[j]? = some v → (wr.alloc (.cells (madeCells #[Value.int .u8 0] k) 5)).cell? (ad.add j) = some v) :=
        fun _ => ⟨rfl, _, rfl, HSRC.out⟩
      have HE3 : Hid (0 + cs.length ≤ cur.length) := by show _ ≤ _; rw [HCL.out, HCU.out]; omega
      go_upto_region 16 with fail
      go_wp2_with (refine wpList_copy_splice rfl (.tmp 47) (.tmp 48) 22 22 rfl 5 Yba.underlying22 size5 _ _ _ _ _ _ rfl rfl wr.heap.size 0 cur 5 HG.out cs HE1.out HE2.out HE3.out HONE.out wr.heap.size wr hbA (Nat.le_refl _) ?_)
      intro w2 HG2 hB2
      have hsz2 := hB2.size
      have HK : Hid (w2.rowIs wr.heap.size 5 k (fun j => .int .u8 (l.getD j 0))) := by
        refine ⟨_, HG2.out, ?_, fun i hi => ?_⟩
        · rw [List.size_toArray, length_splice _ _ _ HE3.out, HCU.out]
        · have hil : i < l.length := by rw [HLL.out]; exact hi
          have e : splice cur 0 cs = cs := by
            unfold splice
            rw [List.drop_of_length_le (by rw [HCL.out, HCU.out]; omega)]
            simp
          rw [e, HCS.out, List.getElem?_toArray, List.getElem?_map, List.getElem?_eq_getElem hil]
          simp [List.getD, List.getElem?_eq_getElem hil]
      have HB : Hid (w2.rowIs w.heap.size 5 k (fun j => .int .u8 (l.getD j 0))) := HRB.out.of_block (hB2.block _ HRB.out.lt)
      have hbw2 : Below w.heap.size w w2 := hb.trans (hB2.mono hsz)
      clear HG2 hB2 HE1 HE2 HE3 HONE HSRC HG hbA HRB HCS HCL HCU hwz hb hmk
      go_wp2_with fail
      refine (model_any w.heap.size k k l w2 HLL.out (by omega) (fun i hi => HB.out.cell hi)).mono ?_
      rintro e w3 ⟨rfl, q, rfl⟩
      go_wp2_with fail
      refine (isDigits_any w.heap.size k k l (w2.drewN q) HLL.out (by omega) (by exact fun i hi => HB.out.cell hi)).mono ?_
      rintro e w4 ⟨rfl, rfl⟩
      go_wp2
      go_loopw [11] (fun i wx => ∃ m q2 : Nat, m ≤ k ∧ i = .int .i64 m ∧ wx = w2.drewN q2) (fun i _ => k - (intOf i).toNat)
      case atStart => exact ⟨0, q, Nat.zero_le _, rfl, rfl⟩
      case round =>
        obtain ⟨m, q2, hm, rfl, rfl⟩ := hrel
        by_cases hml : m < k
        · have hml' : (m : Int) < (k : Int) := by omega
          have c1 := HB.out.cell hml
          have c2 := HK.out.cell hml
          generalize l.getD m 0 = z at c1 c2
          go_wp2
          go_quiet (fail)
          go_wp2
          go_roundw
          case rel => exact ⟨m + 1, _, by omega, by go_num, rfl⟩
          case measure => simp [intOf]; omega
        · go_wp2
          go_ret
          exact ⟨rfl, below_drewN hbw2 _⟩

theorem law_big (x : Addr) (len cap : Nat) (mix : Bool) (w : World) (hlen : 1048576 < len) :
    Calls Yba.prog 3 #[.slice (some x) len cap, .bool mix] w fun e w' => e = .returned (.bool true) ∧ Below w.heap.size w w' := by
  go_enter Yba.func3, Yba.ntmps3
  go_wp2
  go_ret
  exact ⟨rfl, Below.refl _ _⟩

end Go.Proofs.Ybulkdufq

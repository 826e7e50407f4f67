/-
  The walk of LawS6054CWhole (3).
-/
import Derived.Test.YbulkduiwMed
import Derived.Test.YbulkduiwCat
import Derived.Laws.OwnMore
namespace Go.Proofs.Ybulkduiw
open Go.RowKit

theorem bits_call (x : Nat) (w : World) : (callFunc 4 #[.float .f64 x]).run Yba.prog w = .ok (.value (.int .u64 x)) w :=
  (run_callFunc_extern (e := Extern.MathFloatBits.float64bits) Yba.func4 (by kernel_rfl) (by kernel_rfl) (by kernel_rfl) (by kernel_rfl) #[.float .f64 x] w).trans rfl

theorem law_zero (p : Option Addr) (cap : Nat) (w : World) :
    Calls Yba.prog 3 #[.slice p 0 cap] w fun e w' => e = .returned (.bool true) ∧ Below w.heap.size w w' := by
  go_enter Yba.func3, Yba.ntmps3
  go_wp2
  go_ret
  exact ⟨rfl, Below.refl _ _⟩

theorem law_big (p : Option Addr) (n cap : Nat) (w : World) (h : 2048 < n) :
    Calls Yba.prog 3 #[.slice p n cap] w fun e w' => e = .returned (.bool true) ∧ Below w.heap.size w w' := by
  have h1 : ((n : Int) == 0) = false := by rw [beq_eq_false_iff_ne]; omega
  have h2 : (2048 : Int) < (n : Int) := by omega
  go_enter Yba.func3, Yba.ntmps3
  go_wp2
  go_ret
  exact ⟨rfl, Below.refl _ _⟩

theorem info24 : (Yba.prog.info? 24).map (fun i => (i.zero, i.size, i.bytes)) = some (some (.int .u64 0), 1, 8) := by kernel_rfl

/-- The answer behind a compare of two floats whose keys are one. -/
theorem same_eq {x y : Nat} (h : fk x = fk y) : (nanF y = true → nanF x = true) ∧ (nanF y = false → (ordF x y == some .eq) = true) := by
  rw [nanF_eq, nanF_eq, ordF_eq, h]
  refine ⟨fun h => h, fun hn => ?_⟩
  cases e : fk y with
  | none => rw [e] at hn; cases hn
  | some v => simp

/-- The bits' row after q rounds. -/
def row (xs : List Nat) (n q : Nat) : List Value := (List.range n).map fun j => if j < q then .int .u64 (xs.getD j 0 : Nat) else .int .u64 0

theorem row_get (xs : List Nat) {n q j : Nat} (h : j < n) : (row xs n q)[j]? = some (if j < q then .int .u64 (xs.getD j 0 : Nat) else .int .u64 0) := by
  simp [row, h]
theorem row_zero (xs : List Nat) (n : Nat) : List.replicate n (Value.int .u64 0) = row xs n 0 := by
  apply List.ext_getElem?
  intro j
  by_cases h : j < n <;> simp [row, h]
theorem row_set (xs : List Nat) {n q : Nat} (h : q < n) : (row xs n q).set q (.int .u64 (xs.getD q 0 : Nat)) = row xs n (q + 1) := by
  apply List.ext_getElem?
  intro j
  by_cases hj : j < n
  · rw [row_get xs hj, List.getElem?_set, row_get xs hj]
    have hl : (row xs n q).length = n := by simp [row]
    by_cases hq : q = j
    · subst hq
      rw [if_pos rfl, if_pos (by omega), if_pos (by omega)]
    · rw [if_neg hq]
      by_cases h1 : j < q
      · rw [if_pos h1, if_pos (by omega)]
      · rw [if_neg h1, if_neg (by omega)]
  · simp [row, hj]

set_option maxRecDepth 100000 in
set_option maxHeartbeats 2000000 in
theorem law_some (b off n cap : Nat) (xs : List Nat) (hl : xs.length = n) (h0 : 0 < n) (hn : n ≤ 2048) (w : World) (hb : b < w.heap.size) (hc : ∀ j, j < n → w.cell? ⟨b, off + j, none⟩ = some (.float .f64 (xs.getD j 0))) :
    Calls Yba.prog 3 #[.slice (some ⟨b, off, none⟩) n cap] w fun e w' => e = .returned (.bool true) ∧ Below w.heap.size w w' := by
  obtain ⟨i0, hi, hz0, hz1, hz2⟩ := info_parts info24
  obtain ⟨w1, hmk, hown1, hgrow1⟩ := run_make_full (P := Yba.prog) w w.heap.size 23 24 i0 (.int .u64 0) 1 Yba.underlying23 hi hz0 hz1 .i64 .i64 n (by rw [hz2]; omega) (by unfold maxLen; omega) (Nat.le_refl _)
  have hown : w1.ownsRow w.heap.size 24 1 (.slice (some ⟨w.heap.size, 0, none⟩) n n) n (row xs n 0) := by
    have e : (madeCells (Value.int .u64 0).cells (n * 1)).toList = row xs n 0 := by rw [Nat.mul_one, ← row_zero]; exact toList_madeCells_one _ _
    rw [← e]
    exact hown1
  have hB1 : Below w.heap.size w w1 := (Below.refl _ w).grown hgrow1 (Nat.le_refl _) (fun k hk => by cases hk)
  clear hown1 hgrow1 hi hz0 hz1 hz2
  have HC : Hid (∀ j, j < n → w.cell? ⟨b, off + j, none⟩ = some (.float .f64 (xs.getD j 0))) := hc
  clear hc
  have hz : ((n : Int) == 0) = false := by rw [beq_eq_false_iff_ne]; omega
  have hn' : ¬ (2048 : Int) < (n : Int) := by omega
  have hbits := bits_call
  go_enter Yba.func3, Yba.ntmps3
  go_wp2
  go_loopw [5] (fun i wr => ∃ q : Nat, q ≤ n ∧ i = .int .i64 q ∧ wr.ownsRow w.heap.size 24 1 (.slice (some ⟨w.heap.size, 0, none⟩) n n) n (row xs n q) ∧ Below w.heap.size w wr) (fun i _ => n - (intOf i).toNat)
  case atStart => exact ⟨0, Nat.zero_le _, rfl, hown, hB1⟩
  case round =>
    obtain ⟨q, hq, rfl, hown2, hB2⟩ := hrel
    by_cases hlt : q < n
    · have hlt' : (q : Int) < (n : Int) := by omega
      have hcx : wr.cell? ⟨b, off + q, none⟩ = some (.float .f64 (xs.getD q 0)) := (hB2.cell (p := ⟨b, off + q, none⟩) hb).trans (HC.out q hlt)
      have hcb : wr.cell? ⟨w.heap.size, q, none⟩ = some (.int .u64 0) := by
        rw [hown2.cellAt q (by omega), row_get xs hlt, if_neg (Nat.lt_irrefl _)]
      have hfb := hown2.frozenAt q
      obtain ⟨hown3, hgrow3⟩ := hown2.stored q (.int .u64 (xs.getD q 0 : Nat))
      rw [row_set xs hlt] at hown3
      have hB3 := hB2.grown hgrow3 hB2.size (fun k hk => by cases hk; exact Nat.le_refl _)
      have HO3 : Hid ((wr.setCell ⟨w.heap.size, q, none⟩ (.int .u64 (xs.getD q 0 : Nat))).ownsRow w.heap.size 24 1 (.slice (some ⟨w.heap.size, 0, none⟩) n n) n (row xs n (q + 1)) ∧ Below w.heap.size w (wr.setCell ⟨w.heap.size, q, none⟩ (.int .u64 (xs.getD q 0 : Nat)))) := ⟨hown3, hB3⟩
      clear hown3 hgrow3 hB3 hown2 hown
      generalize xs.getD q 0 = x at hcx HO3
      go_wp2
      go_roundw
      case rel => exact ⟨q + 1, by omega, by go_num, HO3.out⟩
      case measure => simp [intOf]; omega
    · have hqn : q = n := by omega
      subst hqn
      clear hlt hown
      have hcw : ∀ j, j < q → wr.cell? ⟨b, off + j, none⟩ = some (.float .f64 (xs.getD j 0)) := fun j hj => (hB2.cell (p := ⟨b, off + j, none⟩) hb).trans (HC.out j hj)
      have hbw : b < wr.heap.size := Nat.lt_of_lt_of_le hb hB2.size
      have hBw : w.heap.size < wr.heap.size := (hown2.lt w.heap.size rfl).2
      have hmed := median_top b off q cap xs hl h0 hn wr hbw hcw
      have hbc : ∀ j, j < q → wr.cell? ⟨w.heap.size, j, none⟩ = some (.int .u64 (xs.getD j 0 : Nat)) := fun j hj => by
        rw [hown2.cellAt j (by omega), row_get xs hj, if_pos hj]
      clear hown2 hmk
      go_upto_region 9 with fail
      go_wp2_with fail
      refine hmed.mono ?_
      rintro e w2 ⟨r, rfl, hr, hBm⟩
      have hB4 : Below w.heap.size w w2 := hB2.trans (hBm.mono hB2.size)
      have H2 : Hid ((∀ j, j < q → w2.cell? ⟨b, off + j, none⟩ = some (.float .f64 (xs.getD j 0))) ∧ (∀ j, j < q → w2.cell? ⟨w.heap.size, j, none⟩ = some (.int .u64 (xs.getD j 0 : Nat)))) :=
        ⟨fun j hj => (hBm.cell (p := ⟨b, off + j, none⟩) hbw).trans (hcw j hj), fun j hj => (hBm.cell (p := ⟨w.heap.size, j, none⟩) hBw).trans (hbc j hj)⟩
      have HR : Hid (MedR xs q r) := hr
      clear hr hcw hbc hmed hBm
      go_wp2_with fail
      go_loopw [7] (fun i wx => ∃ k : Nat, k ≤ q ∧ i = .int .i64 k ∧ Hid ((∀ j, j < q → wx.cell? ⟨b, off + j, none⟩ = some (.float .f64 (xs.getD j 0))) ∧ (∀ j, j < q → wx.cell? ⟨w.heap.size, j, none⟩ = some (.int .u64 (xs.getD j 0 : Nat)))) ∧ Below w.heap.size w wx) (fun i _ => q - (intOf i).toNat)
      case atStart => exact ⟨0, Nat.zero_le _, rfl, H2, hB4⟩
      case round =>
        obtain ⟨k, hk, rfl, H3, hB5⟩ := hrel
        clear H2 hB4 hB2
        by_cases hlt : k < q
        · have hlt' : (k : Int) < (q : Int) := by omega
          have hc1 := H3.out.1 k hlt
          have hc2 := H3.out.2 k hlt
          generalize xs.getD k 0 = x at hc1 hc2
          go_wp2_with fail
          go_quiet (fail)
          go_wp2_with fail
          go_roundw
          case rel => exact ⟨k + 1, by omega, by go_num, H3, hB5.trans ⟨rfl, rfl, rfl, Nat.le_refl _, fun _ _ => rfl⟩⟩
          case measure => simp [intOf]; omega
        · have hkq : k = q := by omega
          subst hkq
          clear hlt
          have hcat := fun m hm => cat_f b off k cap m xs wr hl hn hm H3.out.1
          have HCAT : Hid (∀ m, m < k → Calls Yba.prog 6 #[.slice (some ⟨b, off, none⟩) k cap, .int .i64 m] wr fun e w' => ∃ x, e = .returned (.float .f64 x) ∧ fk x = fk ((srt xs).getD m 0) ∧ w' = wr) := hcat
          clear hcat H3
          obtain ⟨m, hm⟩ : ∃ m : Nat, m = k / 2 := ⟨_, rfl⟩
          have hmi : (k : Int) / 2 = (m : Int) := by omega
          have HM : Hid (m = k / 2) := hm
          have hadd := fun (x y : Nat) (t : TypeId) (w : World) => run_add Yba.prog w t x y
          have hdiv := fun (x : Nat) (t : TypeId) (w : World) => run_div Yba.prog w t x
          by_cases hpar : k % 2 = 1
          · have hp : ((k : Int) % 2 == 1) = true := by rw [beq_iff_eq]; omega
            have hcm := HCAT.out m (by omega)
            have HRR : Hid (r = (srt xs).getD m 0) := by have := HR.out.1 hpar; rw [← hm] at this; exact this
            have HCM : Hid (Calls Yba.prog 6 #[.slice (some ⟨b, off, none⟩) k cap, .int .i64 m] wr fun e w' => ∃ x, e = .returned (.float .f64 x) ∧ fk x = fk ((srt xs).getD m 0) ∧ w' = wr) := hcm
            clear hcm hm
            go_wp2_with fail
            refine HCM.out.mono ?_
            rintro e w3 ⟨x, rfl, hx, rfl⟩
            obtain ⟨q1, q2⟩ := same_eq (x := r) (y := x) (by rw [HRR.out, hx])
            have Q1 : Hid (nanF x = true → nanF r = true) := q1
            have Q2 : Hid (nanF x = false → (ordF r x == some .eq) = true) := q2
            clear q1 q2 hx
            cases hnx : nanF x
            · have ht : (FloatKind.f64.format.order x x != some .eq) = false := hnx
              have hres : (FloatKind.f64.format.order r x == some .eq) = true := Q2.out hnx
              clear hnx
              go_wp2_with fail
              go_ret
              exact ⟨rfl, hB5⟩
            · have ht : (FloatKind.f64.format.order x x != some .eq) = true := hnx
              have hres : (FloatKind.f64.format.order r r != some .eq) = true := Q1.out hnx
              clear hnx
              go_wp2_with fail
              go_ret
              exact ⟨rfl, hB5⟩
          · have hp : ((k : Int) % 2 == 1) = false := by rw [beq_eq_false_iff_ne]; omega
            have hm1 : 1 ≤ m := by omega
            have hmi1 : (m : Int) - 1 = ((m - 1 : Nat) : Int) := by omega
            have HCM1 : Hid (Calls Yba.prog 6 #[.slice (some ⟨b, off, none⟩) k cap, .int .i64 ((m - 1 : Nat) : Int)] wr fun e w' => ∃ x, e = .returned (.float .f64 x) ∧ fk x = fk ((srt xs).getD (m - 1) 0) ∧ w' = wr) := HCAT.out (m - 1) (by omega)
            have HCM2 : Hid (Calls Yba.prog 6 #[.slice (some ⟨b, off, none⟩) k cap, .int .i64 m] wr fun e w' => ∃ x, e = .returned (.float .f64 x) ∧ fk x = fk ((srt xs).getD m 0) ∧ w' = wr) := HCAT.out m (by omega)
            have HRR : Hid (∃ s, AddR ((srt xs).getD (m - 1) 0) ((srt xs).getD m 0) s ∧ DivR s r) := by have := HR.out.2 (by omega); rw [← hm] at this; exact this
            clear hm
            go_wp2_with fail
            refine (by first | exact HCM1.out | (rw [hmi1]; exact HCM1.out) : Calls Yba.prog 6 _ _ _).mono ?_
            rintro e w3 ⟨x, rfl, hx, rfl⟩
            go_wp2_with fail
            refine HCM2.out.mono ?_
            rintro e w3 ⟨y, rfl, hy, rfl⟩
            have HK : Hid (∀ s t, AddR x y s → DivR s t → fk r = fk t) := fun s t h1 h2 => by
              obtain ⟨s', h3, h4⟩ := HRR.out
              exact mean_key hx.symm hy.symm h3 h1 h4 h2
            clear hx hy
            have hkey := HK.out _ _ (addV_ok x y w3) (divV_ok (addV x y w3) (w3.drewN (addM x y)))
            obtain ⟨q1, q2⟩ := same_eq hkey
            have Q1 : Hid (nanF (divV (addV x y w3) (w3.drewN (addM x y))) = true → nanF r = true) := q1
            have Q2 : Hid (nanF (divV (addV x y w3) (w3.drewN (addM x y))) = false → (ordF r (divV (addV x y w3) (w3.drewN (addM x y))) == some .eq) = true) := q2
            clear q1 q2 hkey
            cases hnx : nanF (divV (addV x y w3) (w3.drewN (addM x y)))
            · have ht : (FloatKind.f64.format.order (divV (addV x y w3) (w3.drewN (addM x y))) (divV (addV x y w3) (w3.drewN (addM x y))) != some .eq) = false := hnx
              have hres : (FloatKind.f64.format.order r (divV (addV x y w3) (w3.drewN (addM x y))) == some .eq) = true := Q2.out hnx
              clear hnx
              go_wp2_with fail
              go_ret
              exact ⟨rfl, hB5.trans ⟨rfl, rfl, rfl, Nat.le_refl _, fun _ _ => rfl⟩⟩
            · have ht : (FloatKind.f64.format.order (divV (addV x y w3) (w3.drewN (addM x y))) (divV (addV x y w3) (w3.drewN (addM x y))) != some .eq) = true := hnx
              have hres : (FloatKind.f64.format.order r r != some .eq) = true := Q1.out hnx
              clear hnx
              go_wp2_with fail
              go_ret
              exact ⟨rfl, hB5.trans ⟨rfl, rfl, rfl, Nat.le_refl _, fun _ _ => rfl⟩⟩

end Go.Proofs.Ybulkduiw

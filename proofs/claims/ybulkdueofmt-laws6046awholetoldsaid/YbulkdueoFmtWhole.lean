/-
  The contract of zzs6046amodel (7) and the walk of LawS6046AWhole (3).
-/
import Derived.Test.YbulkdueoFmtAnum
namespace Go.Proofs.YbulkdueoFmt
open Go.Extern.Stop Go.Stop Go.Extern Go.RowKit

theorem anum_num (s : ByteArray) (w : World) (hs : s.size ≤ 140737488355328) :
    Calls Ybaf.prog 13 #[.string s] w fun e w' => ∃ (m : Int) (r : ByteArray), e = .returned (.tuple #[.int .u64 m, .string r]) ∧ 0 ≤ m ∧ m ≤ 18446744073709551615 ∧
      Hid (m = P.numN s.data.toList) ∧ Hid (r.data.toList = P.numR s.data.toList) ∧ Below w.heap.size w w' := by
  refine (anum_any s w hs).mono ?_
  rintro e w1 ⟨r, rfl, hr, hw⟩
  have hb := P.numN_bd s.data.toList
  exact ⟨_, r, rfl, hb.1, hb.2, rfl, hr, below_str hw⟩

/-- What zzs6046amodel leaves. -/
def ModPost (s : ByteArray) (w : World) (e : Ending) (w' : World) : Prop :=
  ((∃ v, P.tod s.data.toList = some v ∧ e = .returned (.tuple #[.int .u64 v, .bool true])) ∨ (P.tod s.data.toList = none ∧ e = .returned (.tuple #[.int .u64 0, .bool false]))) ∧ Below w.heap.size w w'

set_option maxRecDepth 100000 in
set_option maxHeartbeats 2000000 in
theorem model_any (s : ByteArray) (w : World) (hs : s.size ≤ 140737488355328) :
    Calls Ybaf.prog 7 #[.string s] w fun e w' => ModPost s w e w' := by
  go_enter Ybaf.func7, Ybaf.ntmps7
  go_wp2_with fail
  refine (anum_num s _ hs).mono ?_
  rintro e w1 ⟨h, r, rfl, hh0, hh1, HH, HR, hb1⟩
  by_cases hr0 : 0 < r.size
  · have hr0' : ((r.size : Int) == 0) = false := by rw [beq_eq_false_iff_ne]; omega
    have hr1 : (1 : Int) ≤ (r.size : Int) := by omega
    by_cases hc : (r[0].toNat : Int) = 58
    · have HC : Hid (P.hd r.data.toList = true) := by show P.hd r.data.toList = true; rw [hd_of r hr0]; exact decide_eq_true hc
      by_cases h23 : h ≤ 23
      · have d23 : decide (23 < h) = false := decide_eq_false (by omega)
        go_wp2_with fail
        refine (anum_num _ _ (size_next hs HR.out).2).mono ?_
        rintro e w2 ⟨m, r2, rfl, hm0, hm1, HM', HR2', hb2'⟩
        have hb2 := hb1.trans (hb2'.mono hb1.size)
        have HM : Hid (m = P.numN r.data.toList.tail) := by rw [tail_of]; exact HM'
        have HR2 : Hid (r2.data.toList = P.numR r.data.toList.tail) := by rw [tail_of]; exact HR2'
        have HS2 : Hid (r2.size ≤ 140737488355328 ∧ (r2.extract 1 r2.size).size ≤ 140737488355328) := size_next (size_next hs HR.out).2 HR2'.out
        clear HM' HR2' hb2'
        by_cases h59 : m ≤ 59
        · by_cases hz2 : 0 < r2.size
          · have hne := isEmpty_no r2 hz2
            have hr2' : (1 : Int) ≤ (r2.size : Int) := by omega
            have HN2 : Hid (r2.data.toList ≠ []) := by
              obtain ⟨l, el⟩ := cons_of r2 hz2
              show r2.data.toList ≠ []
              rw [el]; simp
            by_cases hc2 : (r2[0].toNat : Int) = 58
            · have HC2 : Hid (P.hd r2.data.toList = true) := by show P.hd r2.data.toList = true; rw [hd_of r2 hz2]; exact decide_eq_true hc2
              go_wp2_with fail
              refine (anum_num _ _ HS2.out.2).mono ?_
              rintro e w3 ⟨q, r3, rfl, hq0, hq1, HQ', HR3', hb3'⟩
              have hb3 := hb2.trans (hb3'.mono hb2.size)
              have HQ : Hid (q = P.numN r2.data.toList.tail) := by rw [tail_of]; exact HQ'
              have HR3 : Hid (r3.data.toList = P.numR r2.data.toList.tail) := by rw [tail_of]; exact HR3'
              clear HQ' HR3' hb3'
              by_cases hz3 : 0 < r3.size
              · have hne3 := isEmpty_no r3 hz3
                have HN3 : Hid (r3.data.toList ≠ []) := by
                  obtain ⟨l, el⟩ := cons_of r3 hz3
                  show r3.data.toList ≠ []
                  rw [el]; simp
                go_wp2
                go_ret2
                exact ⟨.inr ⟨tod_no3 HR.out HR2.out HR3.out HN2.out (.inl HN3.out), rfl⟩, hb3⟩
              · have hne3 := isEmpty_yes r3 hz3
                have HN3 : Hid ([] = P.numR r2.data.toList.tail) := by rw [← HR3.out, nil_of r3 hz3]; rfl
                by_cases hs59 : q ≤ 59
                · have d59 : decide (59 < q) = false := decide_eq_false (by omega)
                  go_wp2
                  go_ret2
                  exact ⟨.inl ⟨_, tod_yes3 HR.out HR2.out HN3.out HC.out (by rw [← HH.out]; exact h23) HC2.out HN2.out (by rw [← HM.out]; exact h59) (by rw [← HQ.out]; exact hs59), by rw [← HH.out, ← HM.out, ← HQ.out]; rfl⟩, hb3⟩
                · have d59 : decide (59 < q) = true := decide_eq_true (by omega)
                  go_wp2
                  go_ret2
                  exact ⟨.inr ⟨tod_no3 HR.out HR2.out HR3.out HN2.out (.inr (by rw [← HQ.out]; omega)), rfl⟩, hb3⟩
            · have HC2 : Hid (P.hd r2.data.toList = false) := by show P.hd r2.data.toList = false; rw [hd_of r2 hz2]; exact decide_eq_false hc2
              have hcb : ((r2[0].toNat : Int) != 58) = true := by simpa using hc2
              go_wp2
              go_ret2
              exact ⟨.inr ⟨tod_no2 HR.out HR2.out (.inl ⟨HN2.out, HC2.out⟩), rfl⟩, hb2⟩
          · have hne := isEmpty_yes r2 hz2
            have HN2 : Hid ([] = P.numR r.data.toList.tail) := by rw [← HR2.out, nil_of r2 hz2]; rfl
            go_wp2
            go_ret2
            exact ⟨.inl ⟨_, tod_yes2 HR.out HN2.out HC.out (by rw [← HH.out]; exact h23) (by rw [← HM.out]; exact h59), by rw [← HH.out, ← HM.out]; rfl⟩, hb2⟩
        · go_wp2
          go_ret2
          exact ⟨.inr ⟨tod_no2 HR.out HR2.out (.inr (by rw [← HM.out]; omega)), rfl⟩, hb2⟩
      · have d23 : decide (23 < h) = true := decide_eq_true (by omega)
        go_wp2
        go_ret2
        exact ⟨.inr ⟨tod_no HR.out (.inr (by rw [← HH.out]; omega)), rfl⟩, hb1⟩
    · have HC : Hid (P.hd r.data.toList = false) := by show P.hd r.data.toList = false; rw [hd_of r hr0]; exact decide_eq_false hc
      have hcb : ((r[0].toNat : Int) != 58) = true := by simpa using hc
      go_wp2
      go_ret2
      exact ⟨.inr ⟨tod_no HR.out (.inl HC.out), rfl⟩, hb1⟩
  · have hr0' : ((r.size : Int) == 0) = true := by rw [beq_iff_eq]; omega
    go_wp2
    go_ret2
    exact ⟨.inr ⟨tod_no HR.out (.inl (hd_none r hr0)), rfl⟩, hb1⟩

set_option maxRecDepth 100000 in
set_option maxHeartbeats 2000000 in
theorem whole_any (F : Interp) (s : ByteArray) (w : World) (hF : F.answers w.tape) (hs : s.size ≤ 140737488355328) :
    Calls Ybaf.prog 3 #[.string s] w fun e w' => e = .returned (.bool true) ∧ Below w.heap.size w w' := by
  by_cases hbig : 1048576 < s.size
  · go_enter Ybaf.func3, Ybaf.ntmps3
    go_wp2
    go_ret
    exact ⟨rfl, Below.refl _ _⟩
  · go_enter Ybaf.func3, Ybaf.ntmps3
    go_wp2_with fail
    refine (tod_any F s _ hF hs).mono ?_
    rintro e w1 ⟨h1, hb1⟩
    rcases h1 with ⟨v, hv, rfl⟩ | ⟨hv, a, rfl⟩
    · have HV : Hid (P.tod s.data.toList = some v) := hv
      clear hv
      go_wp2_with fail
      refine (model_any s _ hs).mono ?_
      rintro e w2 ⟨h2, hb2⟩
      have hb : Below w.heap.size w w2 := hb1.trans (hb2.mono hb1.size)
      rcases h2 with ⟨v2, hv2, rfl⟩ | ⟨hv2, rfl⟩
      · rw [HV.out] at hv2
        cases hv2
        go_wp2
        go_ret
        exact ⟨rfl, hb⟩
      · rw [HV.out] at hv2
        cases hv2
    · have HV : Hid (P.tod s.data.toList = none) := hv
      clear hv
      go_wp2_with fail
      refine (model_any s _ hs).mono ?_
      rintro e w2 ⟨h2, hb2⟩
      have hb : Below w.heap.size w w2 := hb1.trans (hb2.mono hb1.size)
      rcases h2 with ⟨v2, hv2, rfl⟩ | ⟨hv2, rfl⟩
      · rw [HV.out] at hv2
        cases hv2
      · clear hv2
        go_wp2
        go_ret
        exact ⟨rfl, hb⟩

end Go.Proofs.YbulkdueoFmt

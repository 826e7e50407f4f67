/-
  The contract of timeOfDay (6).
-/
import Derived.Test.YbulkdueoFmtFacts
import Derived.Test.YbulkdueoFmtRead
import Derived.WalkSmall
namespace Go.Proofs.YbulkdueoFmt
open Go.Extern.Stop Go.Stop Go.Extern Go.RowKit

/-- What timeOfDay leaves. -/
def TodPost (s : ByteArray) (w : World) (e : Ending) (w' : World) : Prop :=
  ((∃ v, P.tod s.data.toList = some v ∧ e = .returned (.tuple #[.int .u64 v, .nilIface])) ∨ (P.tod s.data.toList = none ∧ ∃ a, e = .returned (.tuple #[.int .u64 0, .iface 49 a]))) ∧ Below w.heap.size w w'

theorem size_next {s r : ByteArray} (hs : s.size ≤ 140737488355328) (hr : r.data.toList = P.numR s.data.toList) : r.size ≤ 140737488355328 ∧ (r.extract 1 r.size).size ≤ 140737488355328 := by
  have h1 := P.numR_len s.data.toList
  rw [← hr, size_of, size_of] at h1
  refine ⟨by omega, ?_⟩
  rw [← size_of, drop_one]
  have := size_of r
  simp
  omega

theorem tail_of (r : ByteArray) : r.data.toList.tail = (r.extract 1 r.size).data.toList := by rw [drop_one, List.drop_one]

theorem tod_no {l r : List UInt8} (hr : r = P.numR l) (h : P.hd r = false ∨ 23 < P.numN l) : P.tod l = none := by
  unfold P.tod
  rw [← hr]
  rcases h with h | h
  · simp [h]
  · rw [if_neg (by omega)]

theorem tod_no2 {l r r2 : List UInt8} (hr : r = P.numR l) (hr2 : r2 = P.numR r.tail) (h : (r2 ≠ [] ∧ P.hd r2 = false) ∨ 59 < P.numN r.tail) : P.tod l = none := by
  unfold P.tod
  rw [← hr, ← hr2]
  split
  · rw [if_neg]
    rcases h with ⟨h1, h2⟩ | h
    · simp [h1, h2]
    · omega
  · rfl

theorem tod_no3 {l r r2 r3 : List UInt8} (hr : r = P.numR l) (hr2 : r2 = P.numR r.tail) (hr3 : r3 = P.numR r2.tail) (hn : r2 ≠ []) (h : r3 ≠ [] ∨ 59 < P.numN r2.tail) : P.tod l = none := by
  unfold P.tod
  rw [← hr, ← hr2, ← hr3]
  rw [if_neg hn]
  have h' : ¬ (r3 = [] ∧ P.numN r2.tail ≤ 59) := by
    rcases h with h | h
    · simp [h]
    · omega
  rw [if_neg h']
  simp

theorem tod_yes2 {l r : List UInt8} (hr : r = P.numR l) (hr2 : [] = P.numR r.tail) (h1 : P.hd r = true) (h2 : P.numN l ≤ 23) (h3 : P.numN r.tail ≤ 59) : P.tod l = some (P.numN l * 3600 + P.numN r.tail * 60) := by
  unfold P.tod
  rw [← hr, ← hr2, if_pos ⟨h1, h2⟩, if_pos ⟨.inl rfl, h3⟩, if_pos rfl]

theorem tod_yes3 {l r r2 : List UInt8} (hr : r = P.numR l) (hr2 : r2 = P.numR r.tail) (hr3 : [] = P.numR r2.tail) (h1 : P.hd r = true) (h2 : P.numN l ≤ 23) (h3 : P.hd r2 = true) (hn : r2 ≠ []) (h4 : P.numN r.tail ≤ 59) (h5 : P.numN r2.tail ≤ 59) :
    P.tod l = some (P.numN l * 3600 + P.numN r.tail * 60 + P.numN r2.tail) := by
  unfold P.tod
  rw [← hr, ← hr2, ← hr3, if_pos ⟨h1, h2⟩, if_pos ⟨.inr h3, h4⟩, if_neg hn, if_pos ⟨rfl, h5⟩]

theorem below_str {w w' : World} (h : ∃ n, w' = w.drewN n) : Below w.heap.size w w' := by
  obtain ⟨n, rfl⟩ := h
  exact below_drewN (Below.refl _ _) n

/-- strtoul, its number under a name. -/
theorem strtoul_num (s : ByteArray) (w : World) (hs : s.size ≤ 140737488355328) :
    Calls Ybaf.prog 10 #[.string s, .bool false] w fun e w' => ∃ (m : Int) (r : ByteArray) (o : Value), e = .returned (.tuple #[.int .u64 m, .string r, o]) ∧ 0 ≤ m ∧ m ≤ 18446744073709551615 ∧
      Hid (m = P.numN s.data.toList) ∧ Hid (r.data.toList = P.numR s.data.toList) ∧ Below w.heap.size w w' := by
  refine (strtoul_any s w hs).mono ?_
  rintro e w1 ⟨r, o, rfl, hr, hw⟩
  have hb := P.numN_bd s.data.toList
  exact ⟨_, r, o, rfl, hb.1, hb.2, rfl, hr, below_str hw⟩

theorem errorf_time (F : Interp) (s : ByteArray) (b : Nat) (w : World) (hF : F.answers w.tape) (hc : w.cell? ⟨b, 0, none⟩ = some (.iface 9 (.string s))) :
    Calls Ybaf.prog 12 #[.string ⟨#[37, 113, 32, 105, 115, 32, 110, 111, 116, 32, 97, 32, 116, 105, 109, 101, 32, 111, 102, 32, 100, 97, 121, 32, 72, 72, 58, 77, 77, 32, 111, 114, 32, 72, 72, 58, 77, 77, 58, 83, 83, 32, 102, 114, 111, 109, 32, 48, 48, 58, 48, 48, 58, 48, 48, 32, 116, 111, 32, 50, 51, 58, 53, 57, 58, 53, 57]⟩, .slice (some ⟨b, 0, none⟩) 1 1] w
      fun e w' => (∃ a, e = .returned (.iface 49 a)) ∧ Below w.heap.size w w' := by
  have hF' := answers_open hF
  go_enter Ybaf.func12, Ybaf.ntmps12
  go_wp2
  go_ret
  exact ⟨⟨_, rfl⟩, ((Below.refl _ _).alloc (Nat.le_refl _) _).drew⟩

theorem below_err {w0 w w' : World} {o : Obj} (h : Below w0.heap.size w0 w) (h2 : Below (w.alloc o).heap.size (w.alloc o) w') : Below w0.heap.size w0 w' :=
  (h.alloc h.size _).trans (h2.mono (by have := h.size; simp; omega))

set_option maxRecDepth 100000 in
set_option maxHeartbeats 2000000 in
theorem tod_any (F : Interp) (s : ByteArray) (w : World) (hF : F.answers w.tape) (hs : s.size ≤ 140737488355328) :
    Calls Ybaf.prog 6 #[.string s] w fun e w' => TodPost s w e w' := by
  go_enter Ybaf.func6, Ybaf.ntmps6
  go_wp2_with fail
  refine (strtoul_num s _ hs).mono ?_
  rintro e w1 ⟨h, r, o, rfl, hh0, hh1, HH, HR, hb1⟩
  have HF1 : Hid (F.answers w1.tape) := by show F.answers w1.tape; rw [hb1.tape]; exact hF
  go_wp2_with fail
  refine (colon_any r _).mono ?_
  rintro e w' ⟨rfl, rfl⟩
  by_cases hcol : P.hd r.data.toList = true
  · by_cases h23 : h ≤ 23
    · have hr0 : 0 < r.size := by
        rcases Nat.lt_or_ge 0 r.size with h | h
        · exact h
        · rw [hd_none r (by omega)] at hcol; cases hcol
      have hr1 : (1 : Int) ≤ (r.size : Int) := by omega
      go_wp2_with fail
      refine (strtoul_num _ _ (size_next hs HR.out).2).mono ?_
      rintro e w2 ⟨m, r2, o2, rfl, hm0, hm1, HM', HR2', hb2'⟩
      have hb2 := hb1.trans (hb2'.mono hb1.size)
      have HF2 : Hid (F.answers w2.tape) := by show F.answers w2.tape; rw [hb2.tape]; exact hF
      have HM : Hid (m = P.numN r.data.toList.tail) := by rw [tail_of]; exact HM'
      have HR2 : Hid (r2.data.toList = P.numR r.data.toList.tail) := by rw [tail_of]; exact HR2'
      have HS2 : Hid (r2.size ≤ 140737488355328 ∧ (r2.extract 1 r2.size).size ≤ 140737488355328) := size_next (size_next hs HR.out).2 HR2'.out
      clear HM' HR2' hb2' HF1
      by_cases hz2 : 0 < r2.size
      · have hne := isEmpty_no r2 hz2
        have HN2 : Hid (r2.data.toList ≠ []) := by
          obtain ⟨l, el⟩ := cons_of r2 hz2
          show r2.data.toList ≠ []
          rw [el]; simp
        by_cases hc2 : (r2[0].toNat : Int) = 58
        · have HC2 : Hid (P.hd r2.data.toList = true) := by show P.hd r2.data.toList = true; rw [hd_of r2 hz2]; exact decide_eq_true hc2
          by_cases h59 : m ≤ 59
          · have hr1' : (1 : Int) ≤ (r2.size : Int) := by omega
            go_wp2_with fail
            refine (strtoul_num _ _ HS2.out.2).mono ?_
            rintro e w3 ⟨q, r3, o3, rfl, hq0, hq1, HQ', HR3', hb3'⟩
            have hb3 := hb2.trans (hb3'.mono hb2.size)
            have HF3 : Hid (F.answers w3.tape) := by show F.answers w3.tape; rw [hb3.tape]; exact hF
            have HQ : Hid (q = P.numN r2.data.toList.tail) := by rw [tail_of]; exact HQ'
            have HR3 : Hid (r3.data.toList = P.numR r2.data.toList.tail) := by rw [tail_of]; exact HR3'
            clear HQ' HR3' hb3' HF2
            by_cases hz3 : 0 < r3.size
            · have hne3 := isEmpty_no r3 hz3
              have HN3 : Hid (r3.data.toList ≠ []) := by
                obtain ⟨l, el⟩ := cons_of r3 hz3
                show r3.data.toList ≠ []
                rw [el]; simp
              go_wp2_with (go_at_call 12; refine (errorf_time F s _ _ (by exact HF3.out) (by simp)).mono ?_; rintro e w' ⟨⟨a, rfl⟩, hbe⟩)
              go_ret2
              exact ⟨.inr ⟨tod_no3 HR.out HR2.out HR3.out HN2.out (.inl HN3.out), _, rfl⟩, below_err hb3 hbe⟩
            · have hne3 := isEmpty_yes r3 hz3
              have HN3 : Hid ([] = P.numR r2.data.toList.tail) := by rw [← HR3.out, nil_of r3 hz3]; rfl
              by_cases hs59 : q ≤ 59
              · go_wp2
                go_ret2
                exact ⟨.inl ⟨_, tod_yes3 HR.out HR2.out HN3.out hcol (by rw [← HH.out]; exact h23) HC2.out HN2.out (by rw [← HM.out]; exact h59) (by rw [← HQ.out]; exact hs59), by rw [← HH.out, ← HM.out, ← HQ.out]; rfl⟩, hb3⟩
              · have hd59 : decide (q ≤ 59) = false := decide_eq_false (by omega)
                go_wp2_with (go_at_call 12; refine (errorf_time F s _ _ (by exact HF3.out) (by simp)).mono ?_; rintro e w' ⟨⟨a, rfl⟩, hbe⟩)
                go_ret2
                exact ⟨.inr ⟨tod_no3 HR.out HR2.out HR3.out HN2.out (.inr (by rw [← HQ.out]; omega)), _, rfl⟩, below_err hb3 hbe⟩
          · go_wp2_with (go_at_call 12; refine (errorf_time F s _ _ (by exact HF2.out) (by simp)).mono ?_; rintro e w' ⟨⟨a, rfl⟩, hbe⟩)
            go_ret2
            exact ⟨.inr ⟨tod_no2 HR.out HR2.out (.inr (by rw [← HM.out]; omega)), _, rfl⟩, below_err hb2 hbe⟩
        · have HC2 : Hid (P.hd r2.data.toList = false) := by show P.hd r2.data.toList = false; rw [hd_of r2 hz2]; exact decide_eq_false hc2
          go_wp2_with (go_at_call 12; refine (errorf_time F s _ _ (by exact HF2.out) (by simp)).mono ?_; rintro e w' ⟨⟨a, rfl⟩, hbe⟩)
          go_ret2
          exact ⟨.inr ⟨tod_no2 HR.out HR2.out (.inl ⟨HN2.out, HC2.out⟩), _, rfl⟩, below_err hb2 hbe⟩
      · have hne := isEmpty_yes r2 hz2
        have HN2 : Hid ([] = P.numR r.data.toList.tail) := by rw [← HR2.out, nil_of r2 hz2]; rfl
        by_cases h59 : m ≤ 59
        · go_wp2
          go_ret2
          exact ⟨.inl ⟨_, tod_yes2 HR.out HN2.out hcol (by rw [← HH.out]; exact h23) (by rw [← HM.out]; exact h59), by rw [← HH.out, ← HM.out]; rfl⟩, hb2⟩
        · go_wp2_with (go_at_call 12; refine (errorf_time F s _ _ (by exact HF2.out) (by simp)).mono ?_; rintro e w' ⟨⟨a, rfl⟩, hbe⟩)
          go_ret2
          exact ⟨.inr ⟨tod_no2 HR.out HR2.out (.inr (by rw [← HM.out]; omega)), _, rfl⟩, below_err hb2 hbe⟩
    · go_wp2_with (go_at_call 12; refine (errorf_time F s _ _ (by exact HF1.out) (by simp)).mono ?_; rintro e w' ⟨⟨a, rfl⟩, hbe⟩)
      go_ret2
      exact ⟨.inr ⟨tod_no HR.out (.inr (by rw [← HH.out]; omega)), _, rfl⟩, below_err hb1 hbe⟩
  · have hcol' : P.hd r.data.toList = false := by simpa using hcol
    clear hcol
    go_wp2_with (go_at_call 12; refine (errorf_time F s _ _ (by exact HF1.out) (by simp)).mono ?_; rintro e w' ⟨⟨a, rfl⟩, hbe⟩)
    go_ret2
    exact ⟨.inr ⟨tod_no HR.out (.inl hcol'), _, rfl⟩, below_err hb1 hbe⟩

end Go.Proofs.YbulkdueoFmt

/-
  The walk of LawS6046AClock (4).
-/
import Derived.Test.YbulkdueoFmtDigits
namespace Go.Proofs.YbulkdueoFmt
open Go.Extern.Stop Go.Stop Go.Extern Go.RowKit

def dg (v : Int) (pad : Bool) : List UInt8 := (nums v pad).map fun n => UInt8.ofNat n.toNat

def dgOk (v : Int) (pad : Bool) : Bool :=
  (dg v pad).all P.isDig && !(dg v pad).isEmpty && decide (P.acc (dg v pad) = (v, false)) && decide ((dg v pad).length ≤ 3)

theorem dgOk_all : ∀ (v : Fin 256) (pad : Bool), dgOk (v.val : Int) pad = true := by decide +kernel

theorem dg_ok (v : Int) (pad : Bool) (h0 : 0 ≤ v) (h1 : v ≤ 255) : (dg v pad).all P.isDig = true ∧ dg v pad ≠ [] ∧ P.acc (dg v pad) = (v, false) ∧ (dg v pad).length ≤ 3 := by
  have h := dgOk_all ⟨v.toNat, by omega⟩ pad
  have e : ((⟨v.toNat, by omega⟩ : Fin 256).val : Int) = v := by simp; omega
  rw [e] at h
  simp only [dgOk, Bool.and_eq_true, decide_eq_true_eq, Bool.not_eq_true', List.isEmpty_eq_false_iff] at h
  exact ⟨h.1.1.1, h.1.1.2, h.1.2, h.2⟩

theorem takeWhile_all {p : UInt8 → Bool} : ∀ (d r : List UInt8), d.all p = true → (∀ c l, r = c :: l → p c = false) → (d ++ r).takeWhile p = d
  | [], r, _, h => by
    cases r with
    | nil => rfl
    | cons c l => simp [h c l rfl]
  | c :: d, r, hd, h => by
    simp only [List.all_cons, Bool.and_eq_true] at hd
    simp [hd.1, takeWhile_all d r hd.2 h]

theorem num_dg (v : Int) (pad : Bool) (r : List UInt8) (h0 : 0 ≤ v) (h1 : v ≤ 255) (hr : r = [] ∨ ∃ l, r = 58 :: l) :
    P.numN (dg v pad ++ r) = v ∧ P.numR (dg v pad ++ r) = r := by
  obtain ⟨ha, hne, hacc, _⟩ := dg_ok v pad h0 h1
  have htw : P.ds (dg v pad ++ r) = dg v pad := by
    refine takeWhile_all _ _ ha fun c l e => ?_
    rcases hr with rfl | ⟨l', rfl⟩
    · cases e
    · cases e; rfl
  obtain ⟨c, d, e⟩ := List.exists_cons_of_ne_nil hne
  have hc : P.isDig c = true := by rw [e] at ha; simp only [List.all_cons, Bool.and_eq_true] at ha; exact ha.1
  have hc2 : 48 ≤ (c.toNat : Int) ∧ (c.toNat : Int) ≤ 57 := by simpa [P.isDig] using hc
  have hsg : P.sg (dg v pad ++ r) = 0 := by
    rw [e]
    simp only [List.cons_append, P.sg]
    rw [if_neg (by omega)]
  have hng : P.ngt (dg v pad ++ r) = false := by
    rw [e]
    simp only [List.cons_append, P.ngt]
    exact decide_eq_false (by omega)
  unfold P.numN P.numR
  rw [hsg, List.drop_zero, htw, if_neg hne, if_neg hne, hacc, hng]
  refine ⟨by simp, ?_⟩
  rw [List.drop_left]

theorem tod2 (h m : Int) (pad : Bool) (h0 : 0 ≤ h) (h1 : h ≤ 255) (m0 : 0 ≤ m) (m1 : m ≤ 255) :
    P.tod (dg h pad ++ 58 :: dg m pad) = if h ≤ 23 ∧ m ≤ 59 then some (h * 3600 + m * 60) else none := by
  have a := num_dg h pad (58 :: dg m pad) h0 h1 (.inr ⟨_, rfl⟩)
  have b := num_dg m pad [] m0 m1 (.inl rfl)
  rw [List.append_nil] at b
  unfold P.tod
  rw [a.1, a.2, List.tail_cons, b.1, b.2]
  have hd : P.hd (58 :: dg m pad) = true := rfl
  rw [hd]
  by_cases c1 : h ≤ 23 <;> by_cases c2 : m ≤ 59 <;> simp [c1, c2]

theorem tod3 (h m s : Int) (pad : Bool) (h0 : 0 ≤ h) (h1 : h ≤ 255) (m0 : 0 ≤ m) (m1 : m ≤ 255) (s0 : 0 ≤ s) (s1 : s ≤ 255) :
    P.tod (dg h pad ++ 58 :: (dg m pad ++ 58 :: dg s pad)) = if h ≤ 23 ∧ m ≤ 59 ∧ s ≤ 59 then some (h * 3600 + m * 60 + s) else none := by
  have a := num_dg h pad (58 :: (dg m pad ++ 58 :: dg s pad)) h0 h1 (.inr ⟨_, rfl⟩)
  have b := num_dg m pad (58 :: dg s pad) m0 m1 (.inr ⟨_, rfl⟩)
  have c := num_dg s pad [] s0 s1 (.inl rfl)
  rw [List.append_nil] at c
  unfold P.tod
  rw [a.1, a.2, List.tail_cons, b.1, b.2, List.tail_cons, c.1, c.2]
  have hd : P.hd (58 :: (dg m pad ++ 58 :: dg s pad)) = true := rfl
  have hd2 : P.hd (58 :: dg s pad) = true := rfl
  rw [hd, hd2]
  by_cases c1 : h ≤ 23 <;> by_cases c2 : m ≤ 59 <;> by_cases c3 : s ≤ 59 <;> simp [c1, c2, c3]

/-- The digits under a name. -/
theorem digits_str (v : Int) (pad : Bool) (w : World) (h0 : 0 ≤ v) (h1 : v ≤ 255) :
    Calls Ybaf.prog 8 #[.int .u8 v, .bool pad] w fun e w' => ∃ S : ByteArray, e = .returned (.string S) ∧ Hid (S.data.toList = dg v pad) ∧ (S.size : Int) ≤ 3 ∧ Below w.heap.size w w' := by
  refine (digits_any v pad w h0 h1).mono ?_
  rintro e w' ⟨rfl, hb⟩
  refine ⟨_, rfl, strOfNums_data _, ?_, hb⟩
  have := (dg_ok v pad h0 h1).2.2.2
  rw [← size_of, strOfNums_data]
  unfold dg at this
  omega

theorem tod_some (F : Interp) (s : ByteArray) (v : Int) (w : World) (hF : F.answers w.tape) (hs : s.size ≤ 140737488355328) (h : P.tod s.data.toList = some v) :
    Calls Ybaf.prog 6 #[.string s] w fun e w' => e = .returned (.tuple #[.int .u64 v, .nilIface]) ∧ Below w.heap.size w w' := by
  refine (tod_any F s w hF hs).mono ?_
  rintro e w' ⟨h1, hb⟩
  refine ⟨?_, hb⟩
  rcases h1 with ⟨v', hv, rfl⟩ | ⟨hv, _⟩
  · rw [h] at hv; cases hv; rfl
  · rw [h] at hv; cases hv

theorem tod_none (F : Interp) (s : ByteArray) (w : World) (hF : F.answers w.tape) (hs : s.size ≤ 140737488355328) (h : P.tod s.data.toList = none) :
    Calls Ybaf.prog 6 #[.string s] w fun e w' => (∃ a, e = .returned (.tuple #[.int .u64 0, .iface 49 a])) ∧ Below w.heap.size w w' := by
  refine (tod_any F s w hF hs).mono ?_
  rintro e w' ⟨h1, hb⟩
  refine ⟨?_, hb⟩
  rcases h1 with ⟨v', hv, _⟩ | ⟨_, a, rfl⟩
  · rw [h] at hv; cases hv
  · exact ⟨a, rfl⟩

theorem append_data (a b : ByteArray) : (a ++ b).data.toList = a.data.toList ++ b.data.toList := by
  rw [ByteArray.data_append]; simp

set_option maxRecDepth 100000 in
set_option maxHeartbeats 2000000 in
theorem clock_no (F : Interp) (h m s : Int) (pad : Bool) (w : World) (hF : F.answers w.tape) (h0 : 0 ≤ h) (h1 : h ≤ 255) (m0 : 0 ≤ m) (m1 : m ≤ 255) :
    Calls Ybaf.prog 4 #[.int .u8 h, .int .u8 m, .int .u8 s, .bool false, .bool pad] w fun e w' => e = .returned (.bool true) ∧ Below w.heap.size w w' := by
  go_enter Ybaf.func4, Ybaf.ntmps4
  go_wp2_with fail
  refine (digits_str h pad _ h0 h1).mono ?_
  rintro e w1 ⟨A, rfl, HA, hA3, hb1⟩
  go_wp2_with fail
  refine (digits_str m pad _ m0 m1).mono ?_
  rintro e w2 ⟨B, rfl, HB, hB3, hb2⟩
  have hb2' := hb1.trans (hb2.mono hb1.size)
  have HF2 : Hid (F.answers w2.tape) := by show F.answers w2.tape; rw [hb2'.tape]; exact hF
  have HT : Hid ((A ++ ByteArray.mk #[58] ++ B).data.toList = dg h pad ++ 58 :: dg m pad) := by
    show (A ++ ByteArray.mk #[58] ++ B).data.toList = _
    rw [append_data, append_data, HA.out, HB.out]; simp
  have HS : Hid ((A ++ ByteArray.mk #[58] ++ B).size ≤ 140737488355328) := by
    show (A ++ ByteArray.mk #[58] ++ B).size ≤ _
    rw [ByteArray.size_append, ByteArray.size_append]
    have : (ByteArray.mk #[58]).size = 1 := rfl
    omega
  have HD : Hid (P.tod (A ++ ByteArray.mk #[58] ++ B).data.toList = if h ≤ 23 ∧ m ≤ 59 then some (h * 3600 + m * 60) else none) := by
    show P.tod _ = _
    rw [HT.out, tod2 h m pad h0 h1 m0 m1]
  clear hb1 hb2
  by_cases c1 : h ≤ 23
  · by_cases c2 : m ≤ 59
    · have d2 : decide (m ≤ 59) = true := decide_eq_true c2
      have HV : Hid (P.tod (A ++ ByteArray.mk #[58] ++ B).data.toList = some (h * 3600 + m * 60)) := by show P.tod _ = _; rw [HD.out, if_pos ⟨c1, c2⟩]
      go_wp2_with fail
      refine (tod_some F (A ++ ByteArray.mk #[58] ++ B) (h * 3600 + m * 60) _ (by exact HF2.out) (by exact HS.out) (by exact HV.out)).mono ?_
      rintro e w' ⟨rfl, hbe⟩
      go_wp2_with fail
      go_ret
      exact ⟨rfl, hb2'.trans (hbe.mono hb2'.size)⟩
    · have d2 : decide (m ≤ 59) = false := decide_eq_false c2
      have HV : Hid (P.tod (A ++ ByteArray.mk #[58] ++ B).data.toList = none) := by show P.tod _ = _; rw [HD.out, if_neg (by omega)]
      go_wp2_with fail
      refine (tod_none F (A ++ ByteArray.mk #[58] ++ B) _ (by exact HF2.out) (by exact HS.out) (by exact HV.out)).mono ?_
      rintro e w' ⟨⟨a, rfl⟩, hbe⟩
      go_wp2_with fail
      go_ret
      exact ⟨rfl, hb2'.trans (hbe.mono hb2'.size)⟩
  · have d1 : decide (h ≤ 23) = false := decide_eq_false c1
    have HV : Hid (P.tod (A ++ ByteArray.mk #[58] ++ B).data.toList = none) := by show P.tod _ = _; rw [HD.out, if_neg (by omega)]
    go_wp2_with fail
    refine (tod_none F (A ++ ByteArray.mk #[58] ++ B) _ (by exact HF2.out) (by exact HS.out) (by exact HV.out)).mono ?_
    rintro e w' ⟨⟨a, rfl⟩, hbe⟩
    go_wp2_with fail
    go_ret
    exact ⟨rfl, hb2'.trans (hbe.mono hb2'.size)⟩

set_option maxRecDepth 100000 in
set_option maxHeartbeats 2000000 in
theorem clock_yes (F : Interp) (h m s : Int) (pad : Bool) (w : World) (hF : F.answers w.tape) (h0 : 0 ≤ h) (h1 : h ≤ 255) (m0 : 0 ≤ m) (m1 : m ≤ 255) (s0 : 0 ≤ s) (s1 : s ≤ 255) :
    Calls Ybaf.prog 4 #[.int .u8 h, .int .u8 m, .int .u8 s, .bool true, .bool pad] w fun e w' => e = .returned (.bool true) ∧ Below w.heap.size w w' := by
  go_enter Ybaf.func4, Ybaf.ntmps4
  go_wp2_with fail
  refine (digits_str h pad _ h0 h1).mono ?_
  rintro e w1 ⟨A, rfl, HA, hA3, hb1⟩
  go_wp2_with fail
  refine (digits_str m pad _ m0 m1).mono ?_
  rintro e w2 ⟨B, rfl, HB, hB3, hb2⟩
  have hb2' := hb1.trans (hb2.mono hb1.size)
  clear hb1 hb2
  by_cases c1 : h ≤ 23
  · by_cases c2 : m ≤ 59
    · have d2 : decide (m ≤ 59) = true := decide_eq_true c2
      by_cases c3 : s ≤ 59
      · have d3 : decide (s ≤ 59) = true := decide_eq_true c3
        go_wp2_with fail
        refine (digits_str s pad _ s0 s1).mono ?_
        rintro e w3 ⟨C, rfl, HC, hC3, hb3⟩
        have hb3' := hb2'.trans (hb3.mono hb2'.size)
        have HF3 : Hid (F.answers w3.tape) := by show F.answers w3.tape; rw [hb3'.tape]; exact hF
        have HT : Hid ((A ++ ByteArray.mk #[58] ++ B ++ ByteArray.mk #[58] ++ C).data.toList = dg h pad ++ 58 :: (dg m pad ++ 58 :: dg s pad)) := by
          show (A ++ ByteArray.mk #[58] ++ B ++ ByteArray.mk #[58] ++ C).data.toList = _
          rw [append_data, append_data, append_data, append_data, HA.out, HB.out, HC.out]; simp
        have HS : Hid ((A ++ ByteArray.mk #[58] ++ B ++ ByteArray.mk #[58] ++ C).size ≤ 140737488355328) := by
          show (A ++ ByteArray.mk #[58] ++ B ++ ByteArray.mk #[58] ++ C).size ≤ _
          rw [ByteArray.size_append, ByteArray.size_append, ByteArray.size_append, ByteArray.size_append]
          have : (ByteArray.mk #[58]).size = 1 := rfl
          omega
        have HD : Hid (P.tod (A ++ ByteArray.mk #[58] ++ B ++ ByteArray.mk #[58] ++ C).data.toList = if h ≤ 23 ∧ m ≤ 59 ∧ s ≤ 59 then some (h * 3600 + m * 60 + s) else none) := by
          show P.tod _ = _
          rw [HT.out, tod3 h m s pad h0 h1 m0 m1 s0 s1]
        clear hb3
        have HV : Hid (P.tod (A ++ ByteArray.mk #[58] ++ B ++ ByteArray.mk #[58] ++ C).data.toList = some (h * 3600 + m * 60 + s)) := by show P.tod _ = _; rw [HD.out, if_pos ⟨c1, c2, c3⟩]
        go_wp2_with fail
        refine (tod_some F (A ++ ByteArray.mk #[58] ++ B ++ ByteArray.mk #[58] ++ C) (h * 3600 + m * 60 + s) _ (by exact HF3.out) (by exact HS.out) (by exact HV.out)).mono ?_
        rintro e w' ⟨rfl, hbe⟩
        go_wp2_with fail
        go_ret
        exact ⟨rfl, hb3'.trans (hbe.mono hb3'.size)⟩
      · have d3 : decide (s ≤ 59) = false := decide_eq_false c3
        go_wp2_with fail
        refine (digits_str s pad _ s0 s1).mono ?_
        rintro e w3 ⟨C, rfl, HC, hC3, hb3⟩
        have hb3' := hb2'.trans (hb3.mono hb2'.size)
        have HF3 : Hid (F.answers w3.tape) := by show F.answers w3.tape; rw [hb3'.tape]; exact hF
        have HT : Hid ((A ++ ByteArray.mk #[58] ++ B ++ ByteArray.mk #[58] ++ C).data.toList = dg h pad ++ 58 :: (dg m pad ++ 58 :: dg s pad)) := by
          show (A ++ ByteArray.mk #[58] ++ B ++ ByteArray.mk #[58] ++ C).data.toList = _
          rw [append_data, append_data, append_data, append_data, HA.out, HB.out, HC.out]; simp
        have HS : Hid ((A ++ ByteArray.mk #[58] ++ B ++ ByteArray.mk #[58] ++ C).size ≤ 140737488355328) := by
          show (A ++ ByteArray.mk #[58] ++ B ++ ByteArray.mk #[58] ++ C).size ≤ _
          rw [ByteArray.size_append, ByteArray.size_append, ByteArray.size_append, ByteArray.size_append]
          have : (ByteArray.mk #[58]).size = 1 := rfl
          omega
        have HD : Hid (P.tod (A ++ ByteArray.mk #[58] ++ B ++ ByteArray.mk #[58] ++ C).data.toList = if h ≤ 23 ∧ m ≤ 59 ∧ s ≤ 59 then some (h * 3600 + m * 60 + s) else none) := by
          show P.tod _ = _
          rw [HT.out, tod3 h m s pad h0 h1 m0 m1 s0 s1]
        clear hb3
        have HV : Hid (P.tod (A ++ ByteArray.mk #[58] ++ B ++ ByteArray.mk #[58] ++ C).data.toList = none) := by show P.tod _ = _; rw [HD.out, if_neg (by omega)]
        go_wp2_with fail
        refine (tod_none F (A ++ ByteArray.mk #[58] ++ B ++ ByteArray.mk #[58] ++ C) _ (by exact HF3.out) (by exact HS.out) (by exact HV.out)).mono ?_
        rintro e w' ⟨⟨a, rfl⟩, hbe⟩
        go_wp2_with fail
        go_ret
        exact ⟨rfl, hb3'.trans (hbe.mono hb3'.size)⟩
    · have d2 : decide (m ≤ 59) = false := decide_eq_false c2
      go_wp2_with fail
      refine (digits_str s pad _ s0 s1).mono ?_
      rintro e w3 ⟨C, rfl, HC, hC3, hb3⟩
      have hb3' := hb2'.trans (hb3.mono hb2'.size)
      have HF3 : Hid (F.answers w3.tape) := by show F.answers w3.tape; rw [hb3'.tape]; exact hF
      have HT : Hid ((A ++ ByteArray.mk #[58] ++ B ++ ByteArray.mk #[58] ++ C).data.toList = dg h pad ++ 58 :: (dg m pad ++ 58 :: dg s pad)) := by
        show (A ++ ByteArray.mk #[58] ++ B ++ ByteArray.mk #[58] ++ C).data.toList = _
        rw [append_data, append_data, append_data, append_data, HA.out, HB.out, HC.out]; simp
      have HS : Hid ((A ++ ByteArray.mk #[58] ++ B ++ ByteArray.mk #[58] ++ C).size ≤ 140737488355328) := by
        show (A ++ ByteArray.mk #[58] ++ B ++ ByteArray.mk #[58] ++ C).size ≤ _
        rw [ByteArray.size_append, ByteArray.size_append, ByteArray.size_append, ByteArray.size_append]
        have : (ByteArray.mk #[58]).size = 1 := rfl
        omega
      have HD : Hid (P.tod (A ++ ByteArray.mk #[58] ++ B ++ ByteArray.mk #[58] ++ C).data.toList = if h ≤ 23 ∧ m ≤ 59 ∧ s ≤ 59 then some (h * 3600 + m * 60 + s) else none) := by
        show P.tod _ = _
        rw [HT.out, tod3 h m s pad h0 h1 m0 m1 s0 s1]
      clear hb3
      have HV : Hid (P.tod (A ++ ByteArray.mk #[58] ++ B ++ ByteArray.mk #[58] ++ C).data.toList = none) := by show P.tod _ = _; rw [HD.out, if_neg (by omega)]
      go_wp2_with fail
      refine (tod_none F (A ++ ByteArray.mk #[58] ++ B ++ ByteArray.mk #[58] ++ C) _ (by exact HF3.out) (by exact HS.out) (by exact HV.out)).mono ?_
      rintro e w' ⟨⟨a, rfl⟩, hbe⟩
      go_wp2_with fail
      go_ret
      exact ⟨rfl, hb3'.trans (hbe.mono hb3'.size)⟩
  · have d1 : decide (h ≤ 23) = false := decide_eq_false c1
    go_wp2_with fail
    refine (digits_str s pad _ s0 s1).mono ?_
    rintro e w3 ⟨C, rfl, HC, hC3, hb3⟩
    have hb3' := hb2'.trans (hb3.mono hb2'.size)
    have HF3 : Hid (F.answers w3.tape) := by show F.answers w3.tape; rw [hb3'.tape]; exact hF
    have HT : Hid ((A ++ ByteArray.mk #[58] ++ B ++ ByteArray.mk #[58] ++ C).data.toList = dg h pad ++ 58 :: (dg m pad ++ 58 :: dg s pad)) := by
      show (A ++ ByteArray.mk #[58] ++ B ++ ByteArray.mk #[58] ++ C).data.toList = _
      rw [append_data, append_data, append_data, append_data, HA.out, HB.out, HC.out]; simp
    have HS : Hid ((A ++ ByteArray.mk #[58] ++ B ++ ByteArray.mk #[58] ++ C).size ≤ 140737488355328) := by
      show (A ++ ByteArray.mk #[58] ++ B ++ ByteArray.mk #[58] ++ C).size ≤ _
      rw [ByteArray.size_append, ByteArray.size_append, ByteArray.size_append, ByteArray.size_append]
      have : (ByteArray.mk #[58]).size = 1 := rfl
      omega
    have HD : Hid (P.tod (A ++ ByteArray.mk #[58] ++ B ++ ByteArray.mk #[58] ++ C).data.toList = if h ≤ 23 ∧ m ≤ 59 ∧ s ≤ 59 then some (h * 3600 + m * 60 + s) else none) := by
      show P.tod _ = _
      rw [HT.out, tod3 h m s pad h0 h1 m0 m1 s0 s1]
    clear hb3
    have HV : Hid (P.tod (A ++ ByteArray.mk #[58] ++ B ++ ByteArray.mk #[58] ++ C).data.toList = none) := by show P.tod _ = _; rw [HD.out, if_neg (by omega)]
    go_wp2_with fail
    refine (tod_none F (A ++ ByteArray.mk #[58] ++ B ++ ByteArray.mk #[58] ++ C) _ (by exact HF3.out) (by exact HS.out) (by exact HV.out)).mono ?_
    rintro e w' ⟨⟨a, rfl⟩, hbe⟩
    go_wp2_with fail
    go_ret
    exact ⟨rfl, hb3'.trans (hbe.mono hb3'.size)⟩

end Go.Proofs.YbulkdueoFmt

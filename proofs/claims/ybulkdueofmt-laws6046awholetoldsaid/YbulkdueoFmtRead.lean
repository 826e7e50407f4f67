/-
  Contracts: digitValue (14), HasPrefix at a colon (11), strtoul at base 10 (10).
-/
import Derived.Test.YbulkdueoFmtProg
import Derived.Test.YbulkdueoFmtPlain
import Derived.WalkKit
import Derived.WalkSpells
import Derived.Outline
import Derived.LoopTactic
import Derived.BigQuiet
import Derived.Deep.QuietTactic
import Derived.Lib.Strings
import Derived.Deep.DeepCutAuto
import Derived.Deep.Light
namespace Go.Proofs.YbulkdueoFmt
open Go.RowKit

theorem dv_dig (n : Int) (w : World) (h1 : 48 ≤ n) (h2 : n ≤ 57) :
    Calls Ybaf.prog 14 #[.int .u8 n] w fun e w' => e = .returned (.int .u64 (n - 48)) ∧ w' = w := by
  go_enter Ybaf.func14, Ybaf.ntmps14
  go_wp2
  go_ret
  exact ⟨rfl, rfl⟩

set_option maxHeartbeats 400000 in
theorem dv_not (n : Int) (w : World) (h0 : 0 ≤ n) (h1 : n ≤ 255) (h : n < 48 ∨ 57 < n) :
    Calls Ybaf.prog 14 #[.int .u8 n] w fun e w' => (∃ d : Int, 10 ≤ d ∧ e = .returned (.int .u64 d)) ∧ w' = w := by
  rcases h with h | h
  · go_enter Ybaf.func14, Ybaf.ntmps14
    go_wp2
    all_goals
      go_ret
      first
        | exact ⟨⟨_, by omega, rfl⟩, rfl⟩
        | exact ⟨⟨99, by decide, rfl⟩, rfl⟩
  · go_enter Ybaf.func14, Ybaf.ntmps14
    go_wp2
    all_goals
      go_ret
      first
        | exact ⟨⟨_, by omega, rfl⟩, rfl⟩
        | exact ⟨⟨99, by decide, rfl⟩, rfl⟩

theorem size_of (s : ByteArray) : s.data.toList.length = s.size := by rw [Array.length_toList]; rfl

theorem cons_of (s : ByteArray) (h : 0 < s.size) : ∃ l, s.data.toList = s[0] :: l := by
  have hl := size_of s
  cases e : s.data.toList with
  | nil => rw [e] at hl; simp at hl; omega
  | cons c l =>
    refine ⟨l, ?_⟩
    have : s[0] = c := by
      have h2 : s.data.toList[0]'(by rw [hl]; exact h) = c := by simp [e]
      rw [← h2]; rfl
    rw [this]

theorem nil_of (s : ByteArray) (h : ¬ 0 < s.size) : s.data.toList = [] := List.length_eq_zero_iff.1 (by rw [size_of]; omega)

theorem isEmpty_yes (s : ByteArray) (h : ¬ 0 < s.size) : s.toList.isEmpty = true := by rw [Lib.toList_data, nil_of s h]; rfl
theorem isEmpty_no (s : ByteArray) (h : 0 < s.size) : s.toList.isEmpty = false := by
  obtain ⟨l, e⟩ := cons_of s h
  rw [Lib.toList_data, e]; rfl

theorem hd_of (r : ByteArray) (h : 0 < r.size) : P.hd r.data.toList = decide ((r[0].toNat : Int) = 58) := by
  obtain ⟨l, e⟩ := cons_of r h
  rw [e]; rfl

theorem hd_none (r : ByteArray) (h : ¬ 0 < r.size) : P.hd r.data.toList = false := by rw [nil_of r h]; rfl

theorem hd_extract (r : ByteArray) (h : 1 ≤ r.size) : ((r.extract 0 1).toList == [58]) = P.hd r.data.toList := by
  obtain ⟨l, e⟩ := cons_of r h
  have e2 : (r.extract 0 1).toList = [r[0]] := by
    rw [Lib.toList_data, Lib.extract_data, e]
    rfl
  rw [e2, e]
  simp only [P.hd]
  generalize r[0] = c
  by_cases hc : c = 58
  · subst hc; rfl
  · have : ¬ (c.toNat : Int) = 58 := fun h => hc (by apply UInt8.toNat.inj; simp; omega)
    simp [hc, this]

theorem colon_any (r : ByteArray) (w : World) :
    Calls Ybaf.prog 11 #[.string r, .string ⟨#[58]⟩] w fun e w' => e = .returned (.bool (P.hd r.data.toList)) ∧ w' = w := by
  by_cases h1 : 1 ≤ r.size
  · have e := hd_extract r h1
    have H : Hid (((r.extract 0 1).toList == [58]) = P.hd r.data.toList) := e
    clear e
    go_enter Ybaf.func11, Ybaf.ntmps11
    go_wp2
    go_ret
    refine ⟨?_, rfl⟩
    rw [← H.out]
    rfl
  · have H : Hid (P.hd r.data.toList = false) := hd_none r (by omega)
    go_enter Ybaf.func11, Ybaf.ntmps11
    go_wp2
    go_ret
    refine ⟨?_, rfl⟩
    rw [H.out]
    rfl

theorem sg_pos (s : ByteArray) (h : 0 < s.size) (hc : (s[0].toNat : Int) = 43 ∨ (s[0].toNat : Int) = 45) : P.sg s.data.toList = 1 := by
  obtain ⟨l, e⟩ := cons_of s h
  rw [e]
  simp only [P.sg]
  rw [if_pos (by omega)]

theorem sg_neg (s : ByteArray) (h : 0 < s.size) (h1 : ¬ (s[0].toNat : Int) = 43) (h2 : ¬ (s[0].toNat : Int) = 45) : P.sg s.data.toList = 0 := by
  obtain ⟨l, e⟩ := cons_of s h
  rw [e]
  simp only [P.sg]
  rw [if_neg (by omega)]

theorem sg_zero (l : List UInt8) (h : ¬ P.sg l = 1) : P.sg l = 0 := by
  cases l with
  | nil => rfl
  | cons c l =>
    simp only [P.sg] at h ⊢
    split at h
    · exact absurd rfl h
    · rename_i hc; rw [if_neg hc]

theorem ngt_no (l : List UInt8) (h : ¬ P.sg l = 1) : P.ngt l = false := by
  cases l with
  | nil => rfl
  | cons c l =>
    simp only [P.sg] at h
    split at h
    · exact absurd rfl h
    · rename_i hc
      simp only [P.ngt]
      exact decide_eq_false (by omega)

theorem ngt_eq (s : ByteArray) (h : 0 < s.size) : ((s[0].toNat : Int) == 45) = P.ngt s.data.toList := by
  obtain ⟨l, e⟩ := cons_of s h
  rw [e]
  rfl

theorem drop_one (s : ByteArray) : (s.extract 1 s.size).data.toList = s.data.toList.drop 1 := by
  rw [Lib.extract_data]
  apply List.take_of_length_le
  have := size_of s
  simp

theorem take_snoc (s : ByteArray) (k : Nat) (h : k < s.size) : s.data.toList.take (k + 1) = s.data.toList.take k ++ [s[k]] := by
  rw [List.take_succ_eq_append_getElem (by simpa using h)]; rfl

theorem acc_yes {t : ByteArray} {k : Nat} (hk : k < t.size) {N : Int} (hA : P.acc (t.data.toList.take k) = (N, true)) :
    P.acc (t.data.toList.take (k + 1)) = (IntKind.u64.wrap (IntKind.u64.wrap (N * 10) + ((t[k].toNat : Int) - 48)), true) := by
  rw [take_snoc t k hk, P.acc_snoc, hA]
  simp only [P.step, IntKind.wrap_u64, Bool.true_or]
  congr 1
  omega

theorem acc_no {t : ByteArray} {k : Nat} (hk : k < t.size) {N : Int} (hA : P.acc (t.data.toList.take k) = (N, false)) :
    P.acc (t.data.toList.take (k + 1)) = (IntKind.u64.wrap (IntKind.u64.wrap (N * 10) + ((t[k].toNat : Int) - 48)), decide ((18446744073709551615 - ((t[k].toNat : Int) - 48)) / 10 < N)) := by
  rw [take_snoc t k hk, P.acc_snoc, hA]
  simp only [P.step, IntKind.wrap_u64, Bool.false_or]
  congr 1
  · omega
  · exact decide_eq_decide.2 (by omega)

theorem dig_next {t : ByteArray} {k : Nat} (hk : k < t.size) (h0 : 48 ≤ (t[k].toNat : Int)) (h1 : (t[k].toNat : Int) ≤ 57)
    (hD : ∀ j (h : j < t.data.toList.length), j < k → P.isDig t.data.toList[j] = true) : ∀ j (h : j < t.data.toList.length), j < k + 1 → P.isDig t.data.toList[j] = true := by
  intro j h hj
  by_cases e : j = k
  · subst e
    have : t.data.toList[j] = t[j] := rfl
    rw [this, P.isDig]
    simp [h0, h1]
  · exact hD j h (by omega)

/-- At the loop's end the digits that open t are its first k bytes. -/
theorem ds_end {t : ByteArray} {k : Nat} (hk : k ≤ t.size) (hD : ∀ j (h : j < t.data.toList.length), j < k → P.isDig t.data.toList[j] = true)
    (hn : ∀ h : k < t.size, (t[k].toNat : Int) < 48 ∨ 57 < (t[k].toNat : Int)) : P.ds t.data.toList = t.data.toList.take k := by
  refine P.ds_take _ _ (by rw [size_of]; exact hk) hD fun h => ?_
  have := hn (by rw [size_of] at h; exact h)
  have e : t.data.toList[k] = t[k]'(by rw [size_of] at h; exact h) := rfl
  rw [e, P.isDig]
  simp
  omega

theorem drop_k (t : ByteArray) (k : Nat) : (t.extract k t.size).data.toList = t.data.toList.drop k := by
  rw [Lib.extract_data]
  apply List.take_of_length_le
  have := size_of t
  simp

theorem end_zero {s t : ByteArray} (hT : t.data.toList = s.data.toList.drop (P.sg s.data.toList)) (hd : P.ds t.data.toList = t.data.toList.take 0) :
    P.numN s.data.toList = 0 ∧ P.numR s.data.toList = s.data.toList := by
  unfold P.numN P.numR
  rw [← hT, hd]
  simp

theorem end_some {s t : ByteArray} {k : Nat} {N : Int} {O ng : Bool} (hT : t.data.toList = s.data.toList.drop (P.sg s.data.toList)) (hg : ng = P.ngt s.data.toList) (hk : k ≤ t.size) (hk0 : ¬ k = 0)
    (hA : P.acc (t.data.toList.take k) = (N, O)) (hd : P.ds t.data.toList = t.data.toList.take k) :
    P.numN s.data.toList = (if O = true then 18446744073709551615 else if ng = true then IntKind.u64.wrap (-N) else N) ∧ P.numR s.data.toList = (t.extract k t.size).data.toList := by
  have hl := size_of t
  have hne : ¬ t.data.toList.take k = [] := by
    intro h
    have h2 : (t.data.toList.take k).length = k := by rw [List.length_take, hl]; omega
    rw [h] at h2
    simp at h2
    omega
  unfold P.numN P.numR
  rw [← hT, hd, if_neg hne, if_neg hne, hA, drop_k, ← hg, IntKind.wrap_u64, Int.zero_sub]
  refine ⟨rfl, ?_⟩
  rw [List.length_take, Nat.min_eq_left (by omega)]

/-- What strtoul leaves. -/
def StrPost (s : ByteArray) (w : World) (e : Ending) (w' : World) : Prop :=
  ∃ (r : ByteArray) (o : Value), e = .returned (.tuple #[.int .u64 (P.numN s.data.toList), .string r, o]) ∧ r.data.toList = P.numR s.data.toList ∧ ∃ n, w' = w.drewN n

set_option maxRecDepth 100000 in
set_option maxHeartbeats 1000000 in
/-- strtoul at base 10. -/
theorem strtoul_any (s : ByteArray) (w : World) (hs : s.size ≤ 140737488355328) :
    Calls Ybaf.prog 10 #[.string s, .bool false] w fun e w' => StrPost s w e w' := by
  go_enter Ybaf.func10, Ybaf.ntmps10
  go_upto_region 2 with fail
  go_cut [24] (fun s24 wx => s24 = .bool (decide (P.sg s.data.toList = 1)) ∧ w = wx)
  case first =>
    by_cases h0 : 0 < s.size
    · obtain ⟨l, el⟩ := cons_of s h0
      have em := isEmpty_no s h0
      have H : Hid (s.data.toList = s[0] :: l) := el
      clear el
      by_cases c43 : (s[0].toNat : Int) = 43
      · go_wp2_with fail
        go_meet
        case rel => exact ⟨by rw [sg_pos s h0 (.inl c43)]; rfl, rfl⟩
      · by_cases c45 : (s[0].toNat : Int) = 45
        · go_wp2_with fail
          go_meet
          case rel => exact ⟨by rw [sg_pos s h0 (.inr c45)]; rfl, rfl⟩
        · go_wp2_with fail
          go_meet
          case rel => exact ⟨by rw [sg_neg s h0 c43 c45]; simp [c43, c45], rfl⟩
    · have em := isEmpty_yes s h0
      go_wp2_with fail
      go_meet
      case rel => exact ⟨by rw [nil_of s h0]; rfl, rfl⟩
  case rest =>
  obtain ⟨rfl, rfl⟩ := hcut
  go_upto_if 24 with fail
  go_cut [7, 8] (fun s7 s8 wx => ∃ (t : ByteArray) (ng : Bool), s7 = .string t ∧ s8 = .bool ng ∧ t.data.toList = s.data.toList.drop (P.sg s.data.toList) ∧ ng = P.ngt s.data.toList ∧ ∃ n, w.drewN n = wx)
  case first =>
    by_cases hsg : P.sg s.data.toList = 1
    · have h0 : 0 < s.size := by
        rcases Nat.lt_or_ge 0 s.size with h | h
        · exact h
        · rw [nil_of s (by omega)] at hsg; simp [P.sg] at hsg
      have hi0 : (0 : Int) < (s.size : Int) := by omega
      have hi1 : (1 : Int) ≤ (s.size : Int) := by omega
      have H : Hid (P.sg s.data.toList = 1) := hsg
      have hd : decide (P.sg s.data.toList = 1) = true := by simp [hsg]
      clear hsg
      go_wp2_with fail
      go_quiet (fail)
      go_wp2_with fail
      go_meet
      case rel =>
        go_light
        exact ⟨_, _, rfl, rfl, by rw [H.out, drop_one], ngt_eq s h0, _, rfl⟩
    · have hd : decide (P.sg s.data.toList = 1) = false := by simp [hsg]
      have H : Hid (¬ P.sg s.data.toList = 1) := hsg
      clear hsg
      go_wp2_with fail
      go_meet
      case rel =>
        exact ⟨_, _, rfl, rfl, by rw [sg_zero _ H.out]; rfl, (ngt_no _ H.out).symm, 0, rfl⟩
  case rest =>
  obtain ⟨t, ng, rfl, rfl, ht, hng, nd, rfl⟩ := hcut
  have HT : Hid (t.data.toList = s.data.toList.drop (P.sg s.data.toList)) := ht
  have HG : Hid (ng = P.ngt s.data.toList) := hng
  clear ht hng
  go_wp2_with fail
  have hts : t.size ≤ 140737488355328 := by
    have h1 := size_of t
    have h2 := size_of s
    have h3 := HT.out
    rw [h3] at h1
    simp at h1
    omega
  go_loop [4, 6, 10] (fun n o i => ∃ (k : Nat) (N : Int) (O : Bool), k ≤ t.size ∧ i = .int .i64 k ∧ n = .int .u64 N ∧ o = .bool O ∧ Hid (P.acc (t.data.toList.take k) = (N, O)) ∧ Hid (∀ j (h : j < t.data.toList.length), j < k → P.isDig t.data.toList[j] = true))
    (fun _ _ i => t.size - (intOf i).toNat)
  case atStart => exact ⟨0, 0, false, Nat.zero_le _, rfl, rfl, rfl, rfl, fun _ _ h => absurd h (Nat.not_lt_zero _)⟩
  case round =>
    obtain ⟨k, N, O, hk, rfl, rfl, rfl, HA, HD⟩ := hrel
    have hN : 0 ≤ N ∧ N ≤ 18446744073709551615 := by have := P.acc_bd (t.data.toList.take k); rw [HA.out] at this; exact this
    obtain ⟨hN0, hN1⟩ := hN
    by_cases hlt : k < t.size
    · have hlt' : (k : Int) < (t.size : Int) := by omega
      by_cases hdig : 48 ≤ (t[k].toNat : Int) ∧ (t[k].toNat : Int) ≤ 57
      · obtain ⟨hd0, hd1⟩ := hdig
        cases O with
        | true =>
          go_wp2_with (go_at_call 14; refine (dv_dig _ _ hd0 hd1).mono ?_; rintro e w' ⟨rfl, rfl⟩)
          go_round
          case rel => go_light; exact ⟨k + 1, _, _, by omega, by go_num, rfl, rfl, acc_yes hlt HA.out, dig_next hlt hd0 hd1 HD.out⟩
          case measure => simp [intOf]; omega
        | false =>
          go_wp2_with (go_at_call 14; refine (dv_dig _ _ hd0 hd1).mono ?_; rintro e w' ⟨rfl, rfl⟩)
          go_round
          case rel => go_light; exact ⟨k + 1, _, _, by omega, by go_num, rfl, rfl, acc_no hlt HA.out, dig_next hlt hd0 hd1 HD.out⟩
          case measure => simp [intOf]; omega
      · have hnd : (t[k].toNat : Int) < 48 ∨ 57 < (t[k].toNat : Int) := by omega
        have h255 : (t[k].toNat : Int) ≤ 255 := by have := t[k].toNat_lt; omega
        have HE : Hid (P.ds t.data.toList = t.data.toList.take k) := ds_end hk HD.out (fun _ => hnd)
        have hkI : (k : Int) ≤ (t.size : Int) := by omega
        by_cases hk0 : k = 0
        · subst hk0
          go_wp2_with (go_at_call 14; refine (dv_not _ _ (by omega) h255 hnd).mono ?_; rintro e w' ⟨⟨d, hd10, rfl⟩, rfl⟩)
          go_ret3
          have hz := end_zero HT.out HE.out
          exact ⟨s, .bool false, by rw [hz.1]; rfl, hz.2.symm, nd, rfl⟩
        · have hkb : ((k : Int) == 0) = false := by simp; omega
          cases O
          all_goals cases ng
          all_goals
            go_wp2_with (go_at_call 14; refine (dv_not _ _ (by omega) h255 hnd).mono ?_; rintro e w' ⟨⟨d, hd10, rfl⟩, rfl⟩)
            go_quiet (fail)
            go_wp2
            go_ret3
            have hz := end_some HT.out HG.out hk hk0 HA.out HE.out
            go_light
            exact ⟨t.extract k t.size, _, by rw [hz.1]; rfl, hz.2.symm, nd + nq, World.drewN_drewN ..⟩
    · have HE : Hid (P.ds t.data.toList = t.data.toList.take k) := ds_end hk HD.out (fun h => absurd h hlt)
      have hkI : (k : Int) ≤ (t.size : Int) := by omega
      by_cases hk0 : k = 0
      · subst hk0
        go_wp2
        go_ret3
        have hz := end_zero HT.out HE.out
        exact ⟨s, .bool false, by rw [hz.1]; rfl, hz.2.symm, nd, rfl⟩
      · have hkb : ((k : Int) == 0) = false := by simp; omega
        cases O
        all_goals cases ng
        all_goals
          go_wp2
          go_quiet (fail)
          go_wp2
          go_ret3
          have hz := end_some HT.out HG.out hk hk0 HA.out HE.out
          go_light
          exact ⟨t.extract k t.size, _, by rw [hz.1]; rfl, hz.2.symm, nd + nq, World.drewN_drewN ..⟩

end Go.Proofs.YbulkdueoFmt

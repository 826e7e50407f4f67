/-
  The contract of zzs6046anum (13).
-/
import Derived.Test.YbulkdueoFmtNum
namespace Go.Proofs.YbulkdueoFmt
open Go.RowKit

theorem l_take {s : ByteArray} {i j : Nat} (hi : i ≤ j) (hj : j < s.size) : (s.data.toList.drop i).take (j + 1 - i) = (s.data.toList.drop i).take (j - i) ++ [s[j]] := by
  have hl := size_of s
  have e : j + 1 - i = (j - i) + 1 := by omega
  rw [e, List.take_succ_eq_append_getElem (by rw [List.length_drop]; omega)]
  congr 2
  rw [List.getElem_drop]
  have : s.data.toList[i + (j - i)]'(by omega) = s.data.toList[j]'(by omega) := by congr 1; omega
  rw [this]
  rfl

theorem l_acc {s : ByteArray} {i j : Nat} (hi : i ≤ j) (hj : j < s.size) {N S C hi' lo : Int} {O : Bool} (hA : P.acc ((s.data.toList.drop i).take (j - i)) = (N, O))
    (hlo : lo = N * 10 % 18446744073709551616) (hS : S = (lo + ((s[j].toNat : Int) - 48)) % 18446744073709551616) (hC : C = (lo + ((s[j].toNat : Int) - 48)) / 18446744073709551616) (hh : hi' = N * 10 / 18446744073709551616)
    (h0 : 0 ≤ N) (h1 : 48 ≤ (s[j].toNat : Int)) :
    P.acc ((s.data.toList.drop i).take (j + 1 - i)) = (S, O || decide (¬ hi' = 0 ∨ ¬ C = 0)) := by
  rw [l_take hi hj, P.acc_snoc, hA]
  simp only [P.step]
  congr 1
  · omega
  · congr 1
    exact decide_eq_decide.2 (by omega)

theorem l_dig {s : ByteArray} {i j : Nat} (hi : i ≤ j) (hj : j < s.size) (h0 : 48 ≤ (s[j].toNat : Int)) (h1 : (s[j].toNat : Int) ≤ 57)
    (hD : ∀ k (h : k < (s.data.toList.drop i).length), k < j - i → P.isDig (s.data.toList.drop i)[k] = true) : ∀ k (h : k < (s.data.toList.drop i).length), k < j + 1 - i → P.isDig (s.data.toList.drop i)[k] = true := by
  intro k h hk
  by_cases e : k = j - i
  · subst e
    rw [List.getElem_drop]
    have : s.data.toList[i + (j - i)]'(by rw [List.length_drop] at h; omega) = s[j] := by
      have e2 : s.data.toList[i + (j - i)]'(by rw [List.length_drop] at h; omega) = s.data.toList[j]'(by rw [size_of]; exact hj) := by congr 1; omega
      rw [e2]; rfl
    rw [this, P.isDig]
    simp [h0, h1]
  · exact hD k h (by omega)

theorem l_ds {s : ByteArray} {i j : Nat} (hi : i ≤ j) (hj : j ≤ s.size)
    (hD : ∀ k (h : k < (s.data.toList.drop i).length), k < j - i → P.isDig (s.data.toList.drop i)[k] = true)
    (hn : ∀ h : j < s.size, (s[j].toNat : Int) < 48 ∨ 57 < (s[j].toNat : Int)) : P.ds (s.data.toList.drop i) = (s.data.toList.drop i).take (j - i) := by
  have hl := size_of s
  refine P.ds_take _ _ (by rw [List.length_drop]; omega) hD fun h => ?_
  have hj' : j < s.size := by rw [List.length_drop] at h; omega
  have := hn hj'
  rw [List.getElem_drop]
  have e2 : s.data.toList[i + (j - i)]'(by omega) = s.data.toList[j]'(by omega) := by congr 1; omega
  have e3 : s.data.toList[j]'(by omega) = s[j] := rfl
  rw [e2, e3, P.isDig]
  simp
  omega

theorem l_zero {l : List UInt8} (hd : P.ds (l.drop (P.sg l)) = (l.drop (P.sg l)).take 0) : P.numN l = 0 ∧ P.numR l = l := by
  unfold P.numN P.numR
  rw [hd]
  simp

theorem l_some {l : List UInt8} {k : Nat} {N : Int} {O ng : Bool} (hg : ng = P.ngt l) (hk : k ≤ (l.drop (P.sg l)).length) (hk0 : ¬ k = 0)
    (hA : P.acc ((l.drop (P.sg l)).take k) = (N, O)) (hd : P.ds (l.drop (P.sg l)) = (l.drop (P.sg l)).take k) :
    P.numN l = (if O = true then 18446744073709551615 else if ng = true then IntKind.u64.wrap (-N) else N) ∧ P.numR l = l.drop (P.sg l + k) := by
  have h2 : ((l.drop (P.sg l)).take k).length = k := by rw [List.length_take]; omega
  have hne : ¬ (l.drop (P.sg l)).take k = [] := by
    intro h
    rw [h] at h2
    simp at h2
    omega
  unfold P.numN P.numR
  rw [hd, if_neg hne, if_neg hne, hA, ← hg, IntKind.wrap_u64, Int.zero_sub]
  refine ⟨rfl, ?_⟩
  rw [h2, List.drop_drop]

/-- What zzs6046anum leaves. -/
def NumPost (s : ByteArray) (w : World) (e : Ending) (w' : World) : Prop :=
  ∃ (r : ByteArray), e = .returned (.tuple #[.int .u64 (P.numN s.data.toList), .string r]) ∧ r.data.toList = P.numR s.data.toList ∧ ∃ n, w' = w.drewN n

set_option maxRecDepth 100000 in
set_option maxHeartbeats 1000000 in
theorem anum_any (s : ByteArray) (w : World) (hs : s.size ≤ 140737488355328) :
    Calls Ybaf.prog 13 #[.string s] w fun e w' => NumPost s w e w' := by
  go_enter Ybaf.func13, Ybaf.ntmps13
  go_upto_region 3 with fail
  go_cut [25] (fun s25 wx => s25 = .bool (decide (P.sg s.data.toList = 1)) ∧ w = wx)
  case first =>
    by_cases h0 : 0 < s.size
    · have h0' : (0 : Int) < (s.size : Int) := by omega
      by_cases c43 : (s[0].toNat : Int) = 43
      · go_wp2_with fail
        go_meet
        case rel => exact ⟨by rw [sg_pos s h0 (.inl c43)]; rfl, rfl⟩
      · by_cases c45 : (s[0].toNat : Int) = 45
        · go_wp2_with fail
          go_meet
          case rel => exact ⟨by rw [sg_pos s h0 (.inr c45)]; rfl, rfl⟩
        · go_wp2_with fail
          go_meet
          case rel => exact ⟨by rw [sg_neg s h0 c43 c45]; simp [c43, c45], rfl⟩
    · go_wp2_with fail
      go_meet
      case rel => exact ⟨by rw [nil_of s h0]; rfl, rfl⟩
  case rest =>
  obtain ⟨rfl, rfl⟩ := hcut
  go_upto_if 25 with fail
  go_cut [4, 5] (fun s4 s5 wx => ∃ (i : Nat) (ng : Bool), s4 = .int .i64 i ∧ s5 = .bool ng ∧ i = P.sg s.data.toList ∧ i ≤ s.size ∧ ng = P.ngt s.data.toList ∧ w = wx)
  case first =>
    by_cases hsg : P.sg s.data.toList = 1
    · have h0 : 0 < s.size := by
        rcases Nat.lt_or_ge 0 s.size with h | h
        · exact h
        · rw [nil_of s (by omega)] at hsg; simp [P.sg] at hsg
      have hi0 : (0 : Int) < (s.size : Int) := by omega
      have H : Hid (P.sg s.data.toList = 1) := hsg
      have hd : decide (P.sg s.data.toList = 1) = true := by simp [hsg]
      clear hsg
      go_wp2_with fail
      go_meet
      case rel => exact ⟨1, _, rfl, rfl, H.out.symm, h0, ngt_eq s h0, rfl⟩
    · have hd : decide (P.sg s.data.toList = 1) = false := by simp [hsg]
      have H : Hid (¬ P.sg s.data.toList = 1) := hsg
      clear hsg
      go_wp2_with fail
      go_meet
      case rel => exact ⟨0, _, rfl, rfl, (sg_zero _ H.out).symm, Nat.zero_le _, (ngt_no _ H.out).symm, rfl⟩
  case rest =>
  obtain ⟨i, ng, rfl, rfl, hi, his, hng, rfl⟩ := hcut
  have HI : Hid (i = P.sg s.data.toList) := hi
  have HG : Hid (ng = P.ngt s.data.toList) := hng
  clear hi hng
  go_wp2_with fail
  go_loop [6, 7, 8] (fun jj n o => ∃ (j : Nat) (N : Int) (O : Bool), i ≤ j ∧ j ≤ s.size ∧ jj = .int .i64 j ∧ n = .int .u64 N ∧ o = .bool O ∧ Hid (P.acc ((s.data.toList.drop i).take (j - i)) = (N, O)) ∧ Hid (∀ k (h : k < (s.data.toList.drop i).length), k < j - i → P.isDig (s.data.toList.drop i)[k] = true))
    (fun jj _ _ => s.size - (intOf jj).toNat)
  case atStart => exact ⟨i, 0, false, Nat.le_refl _, his, rfl, rfl, rfl, by show P.acc _ = _; rw [Nat.sub_self]; rfl, fun _ _ h => absurd h (by omega)⟩
  case round =>
    obtain ⟨j, N, O, hij, hjs, rfl, rfl, rfl, HA, HD⟩ := hrel
    have hN : 0 ≤ N ∧ N ≤ 18446744073709551615 := by have := P.acc_bd ((s.data.toList.drop i).take (j - i)); rw [HA.out] at this; exact this
    obtain ⟨hN0, hN1⟩ := hN
    by_cases hlt : j < s.size
    · have hlt' : (j : Int) < (s.size : Int) := by omega
      by_cases hdig : 48 ≤ (s[j].toNat : Int) ∧ (s[j].toNat : Int) ≤ 57
      · obtain ⟨hd0, hd1⟩ := hdig
        go_wp2_with fail
        refine (mul10 N _ hN0 hN1).mono ?_
        rintro e w' ⟨h', lo, rfl, hh0, hlo0, HH, HL, rfl⟩
        obtain ⟨S, C, hadd, hC0, HS, HC⟩ := add_is lo ((s[j].toNat : Int) - 48) hlo0 (by omega)
        have HX : Hid (P.acc ((s.data.toList.drop i).take (j + 1 - i)) = (S, O || decide (¬ h' = 0 ∨ ¬ C = 0))) := l_acc hij hlt HA.out HL.out HS.out HC.out HH.out hN0 hd0
        have HY : Hid (∀ k (h : k < (s.data.toList.drop i).length), k < j + 1 - i → P.isDig (s.data.toList.drop i)[k] = true) := l_dig hij hlt hd0 hd1 HD.out
        by_cases ch : h' = 0
        · by_cases cc : C = 0
          · have HZ : Hid (P.acc ((s.data.toList.drop i).take (j + 1 - i)) = (S, O)) := by show P.acc _ = _; rw [HX.out]; simp [ch, cc]
            clear HX
            go_wp2_with fail
            go_round
            case rel => go_light; exact ⟨j + 1, _, _, by omega, by omega, by go_num, rfl, rfl, HZ, HY⟩
            case measure => simp [intOf]; omega
          · have HZ : Hid (P.acc ((s.data.toList.drop i).take (j + 1 - i)) = (S, true)) := by show P.acc _ = _; rw [HX.out]; simp [cc]
            have hcc : (C != 0) = true := by simpa using cc
            clear HX
            go_wp2_with fail
            go_round
            case rel => go_light; exact ⟨j + 1, _, _, by omega, by omega, by go_num, rfl, rfl, HZ, HY⟩
            case measure => simp [intOf]; omega
        · have HZ : Hid (P.acc ((s.data.toList.drop i).take (j + 1 - i)) = (S, true)) := by show P.acc _ = _; rw [HX.out]; simp [ch]
          clear HX
          go_wp2_with fail
          go_round
          case rel => go_light; exact ⟨j + 1, _, _, by omega, by omega, by go_num, rfl, rfl, HZ, HY⟩
          case measure => simp [intOf]; omega
      · have hnd : (s[j].toNat : Int) < 48 ∨ 57 < (s[j].toNat : Int) := by omega
        have HE : Hid (P.ds (s.data.toList.drop i) = (s.data.toList.drop i).take (j - i)) := l_ds hij hjs HD.out (fun _ => hnd)
        clear hdig
        rcases hnd with hnd | hnd
        all_goals
          have hkI : (j : Int) ≤ (s.size : Int) := by omega
          by_cases hk0 : j = i
          · subst hk0
            go_wp2
            go_ret2
            have hz := l_zero (by rw [← HI.out]; rw [HE.out, Nat.sub_self])
            exact ⟨s, by rw [hz.1]; rfl, hz.2.symm, 0, rfl⟩
          · have hkb : ((j : Int) == (i : Int)) = false := by simp; omega
            have HLEN : Hid (j - i ≤ (s.data.toList.drop i).length) := by show _ ≤ _; rw [List.length_drop, size_of]; omega
            have hz : Hid (P.numN s.data.toList = (if O = true then 18446744073709551615 else if ng = true then IntKind.u64.wrap (-N) else N) ∧ P.numR s.data.toList = (s.extract j s.size).data.toList) := by
              have h := l_some (l := s.data.toList) (k := j - i) (N := N) (O := O) HG.out (by rw [← HI.out]; exact HLEN.out) (by omega) (by rw [← HI.out]; exact HA.out) (by rw [← HI.out]; exact HE.out)
              refine ⟨h.1, ?_⟩
              rw [h.2, drop_k, ← HI.out]
              congr 1
              omega
            cases O
            all_goals cases ng
            all_goals
              go_wp2
              go_quiet (fail)
              go_wp2
              go_ret2
              go_light
              exact ⟨s.extract j s.size, by rw [hz.out.1]; rfl, hz.out.2.symm, _, rfl⟩
    · have HE : Hid (P.ds (s.data.toList.drop i) = (s.data.toList.drop i).take (j - i)) := l_ds hij hjs HD.out (fun h => absurd h hlt)
      have hkI : (j : Int) ≤ (s.size : Int) := by omega
      by_cases hk0 : j = i
      · subst hk0
        go_wp2
        go_ret2
        have hz := l_zero (by rw [← HI.out]; rw [HE.out, Nat.sub_self])
        exact ⟨s, by rw [hz.1]; rfl, hz.2.symm, 0, rfl⟩
      · have hkb : ((j : Int) == (i : Int)) = false := by simp; omega
        have HLEN : Hid (j - i ≤ (s.data.toList.drop i).length) := by show _ ≤ _; rw [List.length_drop, size_of]; omega
        have hz : Hid (P.numN s.data.toList = (if O = true then 18446744073709551615 else if ng = true then IntKind.u64.wrap (-N) else N) ∧ P.numR s.data.toList = (s.extract j s.size).data.toList) := by
          have h := l_some (l := s.data.toList) (k := j - i) (N := N) (O := O) HG.out (by rw [← HI.out]; exact HLEN.out) (by omega) (by rw [← HI.out]; exact HA.out) (by rw [← HI.out]; exact HE.out)
          refine ⟨h.1, ?_⟩
          rw [h.2, drop_k, ← HI.out]
          congr 1
          omega
        cases O
        all_goals cases ng
        all_goals
          go_wp2
          go_quiet (fail)
          go_wp2
          go_ret2
          go_light
          exact ⟨s.extract j s.size, by rw [hz.out.1]; rfl, hz.out.2.symm, _, rfl⟩

end Go.Proofs.YbulkdueoFmt

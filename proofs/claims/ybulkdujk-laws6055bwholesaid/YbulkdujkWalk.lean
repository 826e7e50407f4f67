/-
  The walk of LawS6055BWhole (3).
-/
import Derived.Test.YbulkdujkPlain
import Derived.Deep.DeepCutAuto
import Derived.BigQuiet
import Derived.Deep.QuietTactic
namespace Go.Proofs.Ybulkdujk
open Go.RowKit Go.WideMaps Go.Maps

theorem toList_inj {a b : ByteArray} (h : a.toList = b.toList) : a = b := by
  rw [ByteArray.toList_eq, ByteArray.toList_eq] at h
  exact Go.WideShapes.bytes_inj h

theorem law_big (kp vp : Option Addr) (n kc m vc : Nat) (sel : Int) (probe : ByteArray) (nm : Bool) (w : World) (h : 1048576 < n) :
    Calls Yba.prog 3 #[.slice kp n kc, .slice vp m vc, .int .u8 sel, .string probe, .bool nm] w fun e w' => e = .returned (.bool true) ∧ Below w.heap.size w w' := by
  go_enter Yba.func3, Yba.ntmps3
  go_wp2
  go_ret
  exact ⟨rfl, Below.refl _ _⟩

set_option maxRecDepth 100000 in
set_option maxHeartbeats 1000000 in
theorem law_nil (kp vp : Option Addr) (kc m vc : Nat) (sel : Int) (probe : ByteArray) (w : World) (hp : probe.size ≤ maxLen) :
    Calls Yba.prog 3 #[.slice kp 0 kc, .slice vp m vc, .int .u8 sel, .string probe, .bool true] w fun e w' => e = .returned (.bool true) ∧ Below w.heap.size w w' := by
  have hlen := fun (w : World) (ty : TypeId) => Maps.len_nil (P := Yba.prog) (w := w) Yba.underlying25 ty
  have hlook := fun (w : World) => Maps.look_nil (P := Yba.prog) (w := w) true law Yba.underlying25 (zero4 w) (key_ok hp)
  have htr := fun (w : World) => truth_run (.map none) probe false false w (hlook w)
  have HTR : Hid (∀ w, Calls Yba.prog 4 #[.map none, .string probe] w fun e w' => e = .returned (.int .i8 1) ∧ w' = w) := htr
  clear htr hlook
  by_cases hsel : sel % 2 = 0
  all_goals
    first
      | have hs2 : (sel % 2 == 0) = true := by simpa using hsel
      | have hs2 : (sel % 2 == 0) = false := by simpa using hsel
    go_enter Yba.func3, Yba.ntmps3
    go_wp2
    go_loop [37] (fun i => i = .int .i64 0) (fun _ => 0)
    case atStart => rfl
    case round =>
      subst hrel
      go_upto_region 12 with fail
      go_cut [63] (fun s63 wx => s63 = .bool false ∧ w = wx)
      case first =>
        go_wp2_with fail
        all_goals
          go_meet
          case rel => exact ⟨rfl, rfl⟩
      case rest =>
      obtain ⟨rfl, rfl⟩ := hcut
      go_wp2_with fail
      go_loop [15, 75] (fun s i => s = .int .i8 1 ∧ i = .int .i64 0) (fun _ _ => 0)
      case atStart => exact ⟨rfl, rfl⟩
      case round =>
        obtain ⟨rfl, rfl⟩ := hrel
        go_wp2_with fail
        refine (HTR.out _).mono ?_
        rintro e w' ⟨rfl, rfl⟩
        go_wp2
        go_loop [108] (fun i => i = .int .i64 0) (fun _ => 0)
        case atStart => rfl
        case round =>
          subst hrel
          go_wp2
          go_ret
          exact ⟨rfl, Below.refl _ _⟩

set_option maxRecDepth 100000 in
set_option maxHeartbeats 1000000 in
theorem law_some (kp vp : Option Addr) (kb ko n kc vb vo m vc : Nat) (ss : List ByteArray) (vs : List Bool) (sel : Int) (probe : ByteArray) (nm : Bool) (w : World) (hn : n ≤ 1048576) (hm : m ≤ 9223372036854775807)
    (hvl : vs.length = m) (hx : 0 < n → kp = some ⟨kb, ko, none⟩ ∧ kb < w.heap.size) (hy : 0 < m → vp = some ⟨vb, vo, none⟩ ∧ vb < w.heap.size)
    (hkc : ∀ i, i < n → w.cell? ⟨kb, ko + i, none⟩ = some (.string (ss.getD i ByteArray.empty))) (hvc : ∀ i, i < m → w.cell? ⟨vb, vo + i, none⟩ = some (.bool (vs.getD i false)))
    (hks : ∀ i, i < n → (ss.getD i ByteArray.empty).size ≤ maxLen) (hp : probe.size ≤ maxLen) (hs0 : 0 ≤ sel) (hs1 : sel ≤ 255) (hnm : nm = true → 0 < n) :
    Calls Yba.prog 3 #[.slice kp n kc, .slice vp m vc, .int .u8 sel, .string probe, .bool nm] w fun e w' => e = .returned (.bool true) ∧ Below w.heap.size w w' := by
  have hmm := @run_makeMap Yba.prog
  have HX : Hid (0 < n → kp = some ⟨kb, ko, none⟩ ∧ kb < w.heap.size) := hx
  have HY : Hid (0 < m → vp = some ⟨vb, vo, none⟩ ∧ vb < w.heap.size) := hy
  have HKC : Hid (∀ i, i < n → w.cell? ⟨kb, ko + i, none⟩ = some (.string (ss.getD i ByteArray.empty))) := hkc
  have HVC : Hid (∀ i, i < m → w.cell? ⟨vb, vo + i, none⟩ = some (.bool (vs.getD i false))) := hvc
  have HKS : Hid (∀ i, i < n → (ss.getD i ByteArray.empty).size ≤ maxLen) := hks
  have HVL : Hid (vs.length = m) := hvl
  clear hx hy hkc hvc hks hvl
  have key : ∀ b : Bool, nm = b → (b = true → ((n : Int) == 0) = false) := by
    intro b hb hbt
    have := hnm (by rw [hb]; exact hbt)
    rw [beq_eq_false_iff_ne]; omega
  have hz : nm = true → ((n : Int) == 0) = false := fun h => key nm rfl h
  clear key hnm
  cases nm
  all_goals
    first
      | have hz' := hz rfl
      | skip
    clear hz
    go_enter Yba.func3, Yba.ntmps3
    go_wp2
    go_loopw [37] (fun i wr => ∃ k : Nat, k ≤ n ∧ i = .int .i64 k ∧ wr.ownsMap Yba.prog 9 (plainElem Yba.prog 4) w.heap.size k (Dm ss vs k) ∧ Below w.heap.size w wr) (fun i _ => n - (intOf i).toNat)
    case atStart => exact ⟨0, Nat.zero_le _, rfl, World.ownsMap_made _ _ _ _, (Below.refl _ _).alloc (Nat.le_refl _) _⟩
    case round =>
      obtain ⟨k, hk, rfl, hown, hb⟩ := hrel
      by_cases hlt : k < n
      · have hlt' : (k : Int) < (n : Int) := by omega
        obtain ⟨hx1, hkb⟩ := HX.out (by omega)
        subst hx1
        have hck : wr.cell? ⟨kb, ko + k, none⟩ = some (.string (ss.getD k ByteArray.empty)) := (hb.cell (by exact hkb)).trans (HKC.out k hlt)
        have hkk := key_ok (HKS.out k hlt)
        have HDN : Hid (∀ b, b = vs.getD k false → Dm ss vs (k + 1) = (Dm ss vs k).put (kl (ss.getD k ByteArray.empty)) (.lit (.bool b))) := by intro b hbv; rw [hbv]; rfl
        generalize ss.getD k ByteArray.empty = s at hck hkk HDN
        by_cases hkm : k < m
        · have hkm' : (k : Int) < (m : Int) := by omega
          obtain ⟨hy1, hvb⟩ := HY.out (by omega)
          subst hy1
          have hcv : wr.cell? ⟨vb, vo + k, none⟩ = some (.bool (vs.getD k false)) := (hb.cell (by exact hvb)).trans (HVC.out k hkm)
          have HD2 : Hid (Dm ss vs (k + 1) = (Dm ss vs k).put (kl s) (.lit (.bool (vs.getD k false)))) := HDN.out _ rfl
          generalize vs.getD k false = b at hcv HD2
          clear HDN
          go_wp2_with (at_mapUpdate; refine wpList_mapUpdate_own _ rfl _ _ _ 25 rfl 9 4 law Yba.underlying25 _ w.heap.size k _ rfl hown (by unfold maxLen; omega) _ _ _ rfl rfl hkk _ [] (plainElem_bool Yba.underlying4 b) ?_)
          intro w1 hown1 hgrow1
          have hb1 : Below w.heap.size w w1 := hb.grown hgrow1 hb.size (fun j hj => by cases hj; exact Nat.le_refl _)
          have hown1' : w1.ownsMap Yba.prog 9 (plainElem Yba.prog 4) w.heap.size (k + 1) (Dm ss vs (k + 1)) := by rw [HD2.out]; exact hown1
          clear hown1 hgrow1 hown
          go_wp2
          go_roundw
          case rel => exact ⟨k + 1, by omega, by go_num, hown1', hb1⟩
          case measure => simp [intOf]; omega
        · have HD2 : Hid (Dm ss vs (k + 1) = (Dm ss vs k).put (kl s) (.lit (.bool false))) := HDN.out _ (by rw [List.getD, List.getElem?_eq_none (by rw [HVL.out]; omega)]; rfl)
          clear HDN
          go_wp2_with (at_mapUpdate; refine wpList_mapUpdate_own _ rfl _ _ _ 25 rfl 9 4 law Yba.underlying25 _ w.heap.size k _ rfl hown (by unfold maxLen; omega) _ _ _ rfl rfl hkk _ [] (plainElem_bool Yba.underlying4 false) ?_)
          intro w1 hown1 hgrow1
          have hb1 : Below w.heap.size w w1 := hb.grown hgrow1 hb.size (fun j hj => by cases hj; exact Nat.le_refl _)
          have hown1' : w1.ownsMap Yba.prog 9 (plainElem Yba.prog 4) w.heap.size (k + 1) (Dm ss vs (k + 1)) := by rw [HD2.out]; exact hown1
          clear hown1 hgrow1 hown
          go_wp2
          go_roundw
          case rel => exact ⟨k + 1, by omega, by go_num, hown1', hb1⟩
          case measure => simp [intOf]; omega
      · have hkn : k = n := by omega
        subst hkn
        clear hlt
        go_upto_region 12 with fail
        go_cut [63] (fun s63 wx => ∃ c : Bool, s63 = .bool c ∧ (c = true → 0 < k) ∧ wr = wx)
        case first =>
          by_cases hsel : sel % 2 = 0
          · have hs2 : (sel % 2 == 0) = true := by simpa using hsel
            by_cases hk0 : 0 < k
            · have hk0' : (0 : Int) < (k : Int) := by omega
              go_wp2_with fail
              go_meet
              case rel => exact ⟨_, rfl, fun _ => hk0, rfl⟩
            · have hk0' : ¬ (0 : Int) < (k : Int) := by omega
              go_wp2_with fail
              go_meet
              case rel => exact ⟨_, rfl, fun h => absurd h (by simp), rfl⟩
          · have hs2 : (sel % 2 == 0) = false := by simpa using hsel
            go_wp2_with fail
            go_meet
            case rel => exact ⟨_, rfl, fun h => absurd h (by simp), rfl⟩
        case rest =>
        obtain ⟨c, rfl, hc, rfl⟩ := hcut
        have HC : Hid (c = true → 0 < k) := hc
        clear hc
        go_upto_if 63 with fail
        go_cut [14] (fun s14 wx => ∃ it : ByteArray, s14 = .string it ∧ it.size ≤ maxLen ∧ wr = wx)
        case first =>
          cases c
          · go_wp2_with fail
            go_meet
            case rel => exact ⟨probe, rfl, hp, rfl⟩
          · have hk0 := HC.out rfl
            obtain ⟨hx1, hkb⟩ := HX.out (by omega)
            subst hx1
            have hk0' : (0 : Int) < (k : Int) := by omega
            have hq0 : 0 ≤ sel / 2 := by omega
            have hq1 : sel / 2 ≤ 127 := by omega
            have hr0 : 0 ≤ sel / 2 % (k : Int) := Int.emod_nonneg _ (by omega)
            have hr1 : sel / 2 % (k : Int) < k := Int.emod_lt_of_pos _ hk0'
            obtain ⟨q, hq⟩ : ∃ q : Nat, sel / 2 % (k : Int) = q := ⟨(sel / 2 % (k : Int)).toNat, by omega⟩
            have hqk : q < k := by omega
            have hck : wr.cell? ⟨kb, ko + q, none⟩ = some (.string (ss.getD q ByteArray.empty)) := (hb.cell (by exact hkb)).trans (HKC.out q hqk)
            have hkz := HKS.out q hqk
            generalize ss.getD q ByteArray.empty = s at hck hkz
            have hqk' : (q : Int) < (k : Int) := by omega
            go_wp2_with fail
            go_meet
            case rel => exact ⟨s, rfl, hkz, rfl⟩
        case rest =>
        obtain ⟨it, rfl, hit, rfl⟩ := hcut
        go_wp2_with fail
        go_loop [15, 75] (fun s i => ∃ j : Nat, j ≤ k ∧ i = .int .i64 j ∧ s = .int .i8 (wantOf (st ss vs it j))) (fun _ i => k - (intOf i).toNat)
        case atStart => exact ⟨0, Nat.zero_le _, rfl, rfl⟩
        case round =>
          obtain ⟨j, hj, rfl, rfl⟩ := hrel
          by_cases hlt : j < k
          · have hlt' : (j : Int) < (k : Int) := by omega
            obtain ⟨hx1, hkb⟩ := HX.out (by omega)
            subst hx1
            have hck : wr.cell? ⟨kb, ko + j, none⟩ = some (.string (ss.getD j ByteArray.empty)) := (hb.cell (by exact hkb)).trans (HKC.out j hlt)
            have HDN : Hid (wantOf (st ss vs it (j + 1)) = wantOf (if ss.getD j ByteArray.empty = it then some (vs.getD j false) else st ss vs it j)) := rfl
            generalize ss.getD j ByteArray.empty = s at hck HDN
            generalize hW : wantOf (st ss vs it j) = W at *
            have HW : Hid (wantOf (st ss vs it j) = W) := hW
            clear hW
            by_cases hse : s = it
            · subst hse
              have hbt : (s.toList == s.toList) = true := by simp
              by_cases hkm : j < m
              · have hkm' : (j : Int) < (m : Int) := by omega
                obtain ⟨hy1, hvb⟩ := HY.out (by omega)
                subst hy1
                have hcv : wr.cell? ⟨vb, vo + j, none⟩ = some (.bool (vs.getD j false)) := (hb.cell (by exact hvb)).trans (HVC.out j hkm)
                generalize vs.getD j false = b at hcv HDN
                cases b
                all_goals
                  go_wp2_with fail
                  go_round
                  case rel => exact ⟨j + 1, by omega, by go_num, by rw [HDN.out, if_pos rfl]; rfl⟩
                  case measure => simp [intOf]; omega
              · have hkm' : ¬ (j : Int) < (m : Int) := by omega
                go_wp2_with fail
                go_round
                case rel => exact ⟨j + 1, by omega, by go_num, by rw [HDN.out, if_pos rfl, show vs.getD j false = false by rw [List.getD, List.getElem?_eq_none (by rw [HVL.out]; omega)]; rfl]; rfl⟩
                case measure => simp [intOf]; omega
            · have hbf : (s.toList == it.toList) = false := by rw [beq_eq_false_iff_ne]; exact fun h => hse (toList_inj h)
              go_wp2_with fail
              go_round
              case rel => exact ⟨j + 1, by omega, by go_num, by rw [HDN.out, if_neg hse, HW.out]⟩
              case measure => simp [intOf]; omega
          · have hjk : j = k := by omega
            subst hjk
            clear hlt
            have hlen := World.ownsMap.len hown Yba.underlying25
            obtain ⟨x, hrun, hat⟩ := look_run hown hit
            have htr := truth_run _ it x _ wr hrun
            have hwant : (if Maps.has (Dm ss vs j) (kl it) = true then some x else none) = st ss vs it j := by
              rw [has_Dm]
              cases hst : st ss vs it j with
              | none => rfl
              | some b => rw [at_Dm ss vs it b j hst] at hat; simp at hat; simp [hat]
            rw [hwant] at htr
            have HTR : Hid (Calls Yba.prog 4 #[.map (some w.heap.size), .string it] wr fun e w' => e = .returned (.int .i8 (wantOf (st ss vs it j))) ∧ w' = wr) := htr
            have HRUN : Hid (∀ i : Nat, i < j → ∃ x : Bool, (Instr.lookup 25 (.map (some w.heap.size)) (.string (ss.getD i ByteArray.empty)) true).run Yba.prog wr = .ok (.tuple #[.bool x, .bool true]) wr) := by
              intro i hi
              obtain ⟨x, hr, _⟩ := look_run hown (HKS.out i hi)
              rw [has_Dm, st_mem ss vs _ j i hi rfl] at hr
              exact ⟨x, hr⟩
            clear hrun hat htr hwant hown
            generalize wantOf (st ss vs it j) = W at *
            generalize Maps.size (Dm ss vs j) = Z at *
            go_wp2_with fail
            refine HTR.out.mono ?_
            rintro e w' ⟨rfl, rfl⟩
            go_wp2_with fail
            go_loop [108] (fun i => ∃ q : Nat, q ≤ j ∧ i = .int .i64 q) (fun i => j - (intOf i).toNat)
            case atStart => exact ⟨0, Nat.zero_le _, rfl⟩
            case round =>
              obtain ⟨q, hq, rfl⟩ := hrel
              by_cases hlt : q < j
              · have hlt' : (q : Int) < (j : Int) := by omega
                obtain ⟨hx1, hkb⟩ := HX.out (by omega)
                subst hx1
                have hck : w'.cell? ⟨kb, ko + q, none⟩ = some (.string (ss.getD q ByteArray.empty)) := (hb.cell (by exact hkb)).trans (HKC.out q hlt)
                obtain ⟨x, hrun⟩ := HRUN.out q hlt
                generalize ss.getD q ByteArray.empty = s at hck hrun
                go_wp2_with fail
                go_round
                case rel => exact ⟨q + 1, by omega, by go_num⟩
                case measure => simp [intOf]; omega
              · go_wp2_with fail
                go_ret
                exact ⟨rfl, hb⟩

end Go.Proofs.Ybulkdujk

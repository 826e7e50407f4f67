/-
  The contract of appendFrame (4).
-/
import Derived.Test.YbulkdufqDoorArg
import Derived.Test.YbulkdufqDoorShelf
namespace Go.Proofs.YbulkdufqDoor
open Go.RowKit

theorem Arg.new (w : World) (zs : List Int) (hz : ∀ z ∈ zs, 0 ≤ z ∧ z ≤ 255) : Arg (w.alloc (.cells (zs.map (Value.int .u8)).toArray 5)) (some ⟨w.heap.size, 0, none⟩) zs.length zs.length zs := by
  refine ⟨rfl, fun h => (by cases h), fun ad had j v hj => ?_, hz⟩
  cases had
  rw [Addr.add_lit, Nat.zero_add]
  have := World.rowIs_alloc w (zs.map (Value.int .u8)).toArray 5 (fun i => ((zs.map (Value.int .u8))[i]?).getD undef) (fun i hi => by
    rw [List.getElem?_toArray]
    have : i < (zs.map (Value.int .u8)).length := by simpa using hi
    rw [List.getElem?_eq_getElem this]; rfl)
  have hjl : j < (zs.map (Value.int .u8)).length := by
    rcases Nat.lt_or_ge j (zs.map (Value.int .u8)).length with h | h
    · exact h
    · rw [List.getElem?_eq_none h] at hj; cases hj
  have hc := this.cell (i := j) (by simpa using hjl)
  rw [hj] at hc
  exact hc

def hdr : List Int := [56, 61, 70, 73, 88, 46, 52, 46, 52, 1, 57, 61]
/-- What stands ahead of the check sum. -/
def top (zs : List Int) : List Int := hdr ++ decN zs.length ++ [1] ++ zs
def sm (l : List Int) : Int := l.foldl (· + ·) 0
def tl (S : Int) : List Int := [49, 48, 61, 48 + S / 100, 48 + S / 10 % 10, 48 + S % 10, 1]
def frm (zs : List Int) : List Int := top zs ++ tl (sm (top zs) % 256)

theorem sm_snoc (l : List Int) (x : Int) : sm (l ++ [x]) = sm l + x := by simp [sm]

theorem hdr_cells : Lib.strCells ⟨#[56, 61, 70, 73, 88, 46, 52, 46, 52, 1, 57, 61]⟩ = hdr.map (Value.int .u8) := rfl

theorem itoa_cells (m : Nat) : Lib.byteCells (Lib.itoa (m : Int)) = (decN m).map (Value.int .u8) := by
  rw [Lib.itoa_nonneg]
  unfold Lib.byteCells decN
  rw [List.map_map]
  rfl

theorem itoa_len (m : Nat) : (Lib.itoa (m : Int)).length = (decN m).length := by
  rw [Lib.itoa_nonneg]
  unfold decN
  rw [List.length_map]

theorem top_bd {zs : List Int} (h : ∀ z ∈ zs, 0 ≤ z ∧ z ≤ 255) : ∀ z ∈ top zs, 0 ≤ z ∧ z ≤ 255 := by
  intro z hz
  unfold top at hz
  simp only [List.mem_append] at hz
  rcases hz with ((hz | hz) | hz) | hz
  · have : ∀ z ∈ hdr, 0 ≤ z ∧ z ≤ 255 := by decide
    exact this z hz
  · exact decN_bd _ z hz
  · simp at hz; omega
  · exact h z hz

set_option maxRecDepth 100000 in
set_option maxHeartbeats 1000000 in
theorem frame_any (g nb : Nat) (xs : List Int) (sp : Option Addr) (m c : Nat) (zs : List Int) (w : World) (hl : xs.length = nb) (hc : ∀ j, j < nb → w.cell? ⟨g, j, none⟩ = some (.int .u8 (xs.getD j 0)))
    (hnm : nb + m ≤ 1048576) (harg : Arg w sp m c zs) (htab : Lib.TabIs Ybad.prog w "internal/strconv.uint64pow10" .u64 Lib.pow10Tab) :
    Calls Ybad.prog 4 #[.slice (some ⟨g, 0, none⟩) nb nb, .slice sp m c] w fun e w' => ∃ v', e = .returned v' ∧ w'.ownsRow w.heap.size 5 1 v' (nb + (top zs).length + 7) ((xs ++ frm zs).map (Value.int .u8)) ∧ Below w.heap.size w w' := by
  have HL : Hid (xs.length = nb) := hl
  have HZ : Hid (zs.length = m) := harg.1
  have HC : Hid (∀ j, j < nb → w.cell? ⟨g, j, none⟩ = some (.int .u8 (xs.getD j 0))) := hc
  have HT : Hid (Lib.TabBelow Ybad.prog w.heap.size w "internal/strconv.uint64pow10" .u64 Lib.pow10Tab) := Lib.tabBelow_of_tabIs htab
  have HDL := decN_len m (by omega)
  have HA : Hid (Arg w sp m c zs) := harg
  clear hl hc htab harg
  go_enter Ybad.func4, Ybad.ntmps4
  go_wp2_with (at_builtin; refine wpList_append_fresh rfl (.tmp 11) _ rfl g nb xs rfl HL.out HC.out _ rfl (by decide) (by show nb + 12 ≤ _; omega) ?_)
  intro v1 w1 hown1 hb1
  rw [hdr_cells, ← List.map_append] at hown1
  have hown1' : w1.ownsRow w.heap.size 5 1 v1 (nb + 12) ((xs ++ hdr).map (Value.int .u8)) := hown1
  clear hown1
  go_wp2_with fail
  refine (Ybad.strconv_AppendInt_10 w.heap.size (nb + 12) (m : Int) (by omega) (by omega) v1 _ w1 hown1' hb1.size (by omega) (HT.out.on hb1)).mono ?_
  rintro e w2 ⟨v2, rfl, hown2, hb2, _⟩
  rw [itoa_cells, itoa_len, ← List.map_append] at hown2
  have hb2' := hb1.trans hb2
  clear hown1' hb1 hb2
  go_wp2_with (at_builtin; refine wpList_append_in rfl (.tmp 17) (.tmp 18) rfl w.heap.size _ _ _ rfl (hown2.alloc _) _ 1 1 [1] rfl (Arg.new w2 [1] (by decide)) (by omega) (below_size hb2' _) ?_)
  intro v3 w3 hown3 hb3
  have hb3' : Below w.heap.size w w3 := (hb2'.alloc hb2'.size _).trans hb3
  have hown3' : w3.ownsRow w.heap.size 5 1 v3 (nb + 12 + (decN m).length + 1) ((xs ++ hdr ++ decN m ++ [1]).map (Value.int .u8)) := by simpa using hown3
  clear hown2 hb2' hb3 hown3
  have HA3 : Hid (Arg w3 sp m c zs) := HA.out.on (Nat.le_refl _) hb3'
  go_wp2_with (at_builtin; refine wpList_append_in rfl (.tmp 20) (.tmp 21) rfl w.heap.size _ _ _ rfl hown3' sp m c zs rfl HA3.out (by omega) hb3'.size ?_)
  intro v4 w4 hown4 hb4
  have hb4' : Below w.heap.size w w4 := hb3'.trans hb4
  have HTOP : Hid (xs ++ hdr ++ decN m ++ [1] ++ zs = xs ++ top zs) := by show _ = _; unfold top; rw [HZ.out]; simp
  have HTL : Hid ((top zs).length = 12 + (decN m).length + 1 + m) := by show _ = _; unfold top; rw [HZ.out]; simp [hdr, HZ.out]; omega
  have hown4' : w4.ownsRow w.heap.size 5 1 v4 (nb + 12 + (decN m).length + 1 + m) ((xs ++ top zs).map (Value.int .u8)) := by rw [← HTOP.out]; simpa using hown4
  clear hown4
  have hown4 := hown4'
  clear hown4'
  have HBD : Hid (∀ z ∈ top zs, 0 ≤ z ∧ z ≤ 255) := top_bd HA.out.2.2.2
  clear hown3' hb3' hb4 HTOP HA3
  obtain ⟨N, hN⟩ : ∃ N, N = nb + 12 + (decN m).length + 1 + m := ⟨_, rfl⟩
  rw [← hN] at hown4
  have hN1 : nb + 12 ≤ N := by omega
  have hN2 : N ≤ 2000000 := by omega
  have HN : Hid (N = nb + 12 + (decN m).length + 1 + m) := hN
  have HTN : Hid ((top zs).length = N - nb) := by show _ = _; rw [HTL.out, hN]; omega
  clear hN
  rcases hown4.2 with ⟨rfl, h⟩ | ⟨g4, cap, cur, rfl, hg4, hcur, hnc, hcm, hcs, htk⟩
  · omega
  · have HCL : Hid (∀ j, j < N - nb → w4.cell? ⟨g4, nb + j, none⟩ = some (.int .u8 ((top zs).getD j 0))) := by
      intro j hj
      have hj2 : j < (top zs).length := by rw [HTN.out]; exact hj
      have h := hown4.cells (g := g4) rfl (nb + j) (.int .u8 ((top zs).getD j 0)) (by
        rw [List.getElem?_map, List.getElem?_append_right (by rw [HL.out]; omega), HL.out, Nat.add_sub_cancel_left, List.getElem?_eq_getElem hj2]
        simp [List.getD, List.getElem?_eq_getElem hj2])
      rw [Addr.add_lit] at h
      simpa using h
    have HO : Hid (w4.ownsRow w.heap.size 5 1 (.slice (some ⟨g4, 0, none⟩) N cap) N ((xs ++ top zs).map (Value.int .u8))) := hown4
    have hncap : ¬ cap = nb := by omega
    have hn1 : (nb : Int) ≤ (N : Int) := by omega
    have hn2 : (N : Int) ≤ (cap : Int) := by omega
    unfold maxLen at hcm
    clear hown4 hcur hcs htk hg4
    go_wp2
    generalize hM : N - nb = M at HCL HTN ⊢
    have HM : Hid (N - nb = M) := hM
    have hM2 : M ≤ 2000000 := by omega
    clear hM
    go_loop [6, 27] (fun s i => ∃ (k : Nat) (S : Int), k ≤ M ∧ i = .int .i64 k ∧ s = .int .u8 S ∧ 0 ≤ S ∧ S ≤ 255 ∧ Hid (S = sm ((top zs).take k) % 256)) (fun _ i => M - (intOf i).toNat)
    case atStart => exact ⟨0, 0, Nat.zero_le _, rfl, rfl, by decide, by decide, rfl⟩
    case round =>
      obtain ⟨k, S, hk, rfl, rfl, hS0, hS1, HS⟩ := hrel
      by_cases hlt : k < M
      · have hlt' : (k : Int) < (M : Int) := by omega
        have hck := HCL.out k hlt
        have hkt : k < (top zs).length := by rw [HTN.out]; exact hlt
        have hz : 0 ≤ (top zs).getD k 0 ∧ (top zs).getD k 0 ≤ 255 := by
          refine HBD.out _ ?_
          rw [List.getD, List.getElem?_eq_getElem hkt]
          exact List.getElem_mem hkt
        have HNX : Hid ((top zs).take (k + 1) = (top zs).take k ++ [(top zs).getD k 0]) := by
          show _ = _
          rw [List.take_succ_eq_append_getElem hkt, List.getD, List.getElem?_eq_getElem hkt]
          rfl
        have HSX : Hid ((S + (top zs).getD k 0) % 256 = sm ((top zs).take (k + 1)) % 256) := by
          show _ = _
          rw [HNX.out, sm_snoc, HS.out]
          omega
        obtain ⟨hz0, hz1⟩ := hz
        clear HNX hkt
        generalize (top zs).getD k 0 = z at hck hz0 hz1 HSX
        go_wp2
        go_round
        case rel => exact ⟨k + 1, _, by omega, by go_num, rfl, by omega, by omega, HSX⟩
        case measure => simp [intOf]; omega
      · have hkM : k = M := by omega
        subst hkM
        have HSF : Hid (S = sm (top zs) % 256) := by
          show _ = _
          rw [HS.out, List.take_of_length_le (by rw [HTN.out]; omega)]
        have HFR : Hid (xs ++ top zs ++ tl S = xs ++ frm zs) := by show _ = _; unfold frm; rw [HSF.out, List.append_assoc]
        have htl : ∀ z ∈ tl S, 0 ≤ z ∧ z ≤ 255 := by
          intro z hz
          unfold tl at hz
          simp only [List.mem_cons, List.not_mem_nil, or_false] at hz
          omega
        have HOA := fun o => HO.out.alloc o
        go_wp2_with (at_builtin; refine wpList_append_in rfl (.tmp 35) (.tmp 46) rfl w.heap.size _ _ _ rfl (HO.out.alloc _) _ 7 7 (tl S) rfl (Arg.new w4 (tl S) htl) (by omega) (below_size hb4' _) ?_)
        intro v5 w5 hown5 hb5
        have hb5' : Below w.heap.size w w5 := (hb4'.alloc hb4'.size _).trans hb5
        have hown5' : w5.ownsRow w.heap.size 5 1 v5 (N + 7) ((xs ++ frm zs).map (Value.int .u8)) := by rw [← HFR.out]; simpa using hown5
        have e : nb + (top zs).length + 7 = N + 7 := by rw [HTN.out]; have := HM.out; omega
        clear hown5 hb5
        go_wp2
        go_ret
        refine ⟨v5, rfl, ?_, hb5'⟩
        rw [e]
        exact hown5'

end Go.Proofs.YbulkdufqDoor

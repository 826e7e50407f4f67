/-
  The walk of LawS6048BWhole (3), first part: what is copied.
-/
import Derived.Test.YbulkdufqDoorFrame
import Derived.Laws.CopyOwn
namespace Go.Proofs.YbulkdufqDoor
open Go.RowKit

theorem equal_yes (v1 v2 : Value) (S : ByteArray) (w : World) (h1 : (convert 22 9 v1).run Ybad.prog w = .ok (.string S) w) (h2 : (convert 22 9 v2).run Ybad.prog w = .ok (.string S) w) :
    Calls Ybad.prog 6 #[v1, v2] w fun e w' => e = .returned (.bool true) ∧ w' = w := by
  go_enter Ybad.func6, Ybad.ntmps6
  go_wp2
  go_ret
  exact ⟨rfl, rfl⟩

/-- What is owned stays owned where nothing below the heap's end turns. -/
theorem own_below {w w' : World} {B n : Nat} {v : Value} {xs : List Value} (h : w.ownsRow B 5 1 v n xs) (hb : Below w.heap.size w w') : w'.ownsRow B 5 1 v n xs := by
  obtain ⟨h1, h2⟩ := h
  refine ⟨h1, ?_⟩
  rcases h2 with h2 | ⟨g, cap, cur, hv, hg, hcur, r⟩
  · exact .inl h2
  · refine .inr ⟨g, cap, cur, hv, hg, ?_, r⟩
    rw [hb.block g (Array.getElem?_eq_some_iff.1 hcur).1]
    exact hcur

theorem row_below {w w' : World} {g n B : Nat} {f : Nat → Value} (h : w.rowIs g 5 n f) (hB : g < B) (hb : Below B w w') : w'.rowIs g 5 n f := h.of_block (hb.block g hB)

theorem row_arg {w : World} {g n : Nat} {zs : List Int} (h : w.rowIs g 5 n (fun i => .int .u8 (zs.getD i 0))) (hl : zs.length = n) (hz : ∀ z ∈ zs, 0 ≤ z ∧ z ≤ 255) : Arg w (some ⟨g, 0, none⟩) n n zs := by
  refine ⟨hl, fun h => (by cases h), fun ad had j v hj => ?_, hz⟩
  cases had
  have hjl : j < zs.length := by
    rcases Nat.lt_or_ge j zs.length with h | h
    · exact h
    · rw [List.getElem?_eq_none (by simpa using h)] at hj; cases hj
  rw [Addr.add_lit, Nat.zero_add, h.cell (by omega)]
  rw [List.getElem?_map, List.getElem?_eq_getElem hjl] at hj
  simp only [List.getD, List.getElem?_eq_getElem hjl, Option.getD_some]
  simpa using hj

theorem own_arg {w : World} {B n : Nat} {v : Value} {zs : List Int} (h : w.ownsRow B 5 1 v n (zs.map (Value.int .u8))) (hz : ∀ z ∈ zs, 0 ≤ z ∧ z ≤ 255) : ∃ sp c, v = .slice sp n c ∧ Arg w sp n c zs := by
  have hl : zs.length = n := by simpa using h.1
  rcases h.2 with ⟨rfl, rfl⟩ | ⟨g, cap, cur, rfl, _, _, _, _, _, _⟩
  · exact ⟨none, 0, rfl, hl, fun _ => ⟨rfl, rfl⟩, fun ad had => (by cases had), hz⟩
  · exact ⟨_, cap, rfl, hl, fun h => (by cases h), fun ad had j v hj => by cases had; exact h.cells (g := g) rfl j v hj, hz⟩

/-- 'x := make([]byte, len(s)); copy(x, s)': the copy's row. -/
theorem copy_row {w2 : World} {g n : Nat} {zs : List Int} (hl : zs.length = n) (h : w2.heap[g]? = some (.cells (splice (madeCells #[Value.int .u8 0] n).toList 0 (zs.map (Value.int .u8))).toArray 5 (0, 0))) :
    w2.rowIs g 5 n (fun i => .int .u8 (zs.getD i 0)) := by
  have hc : (madeCells #[Value.int .u8 0] n).toList.length = n := by rw [Array.length_toList, size_madeCells]
  have hcs : (zs.map (Value.int .u8)).length = n := by rw [List.length_map, hl]
  refine ⟨_, h, ?_, fun i hi => ?_⟩
  · rw [List.size_toArray, length_splice _ _ _ (by rw [hc, hcs]; omega), hc]
  · have e : splice (madeCells #[Value.int .u8 0] n).toList 0 (zs.map (Value.int .u8)) = zs.map (Value.int .u8) := by
      unfold splice
      rw [List.drop_of_length_le (by rw [hc, hcs]; omega)]
      simp
    have hil : i < zs.length := by omega
    rw [e, List.getElem?_toArray, List.getElem?_map, List.getElem?_eq_getElem hil]
    simp [List.getD, List.getElem?_eq_getElem hil]

theorem wpList_copy_in {w : World} {ops : Array Oper} {rest : List Oper} {o : Oper} {a : Act} {Q : Exit → Act → World → Prop} (hgd : o.guard = none) (d s : Operand)
    (ho : o.op = .call { callee := .builtin .copy, args := #[d, s], argTypes := #[22, 22] })
    (g n : Nat) (hd : a.eval d = .slice (some ⟨g, 0, none⟩) n n) (sp : Option Addr) (c : Nat) (zs : List Int) (hs : a.eval s = .slice sp n c) (harg : Arg w sp n c zs)
    (hg : w.heap[g]? = some (.cells (madeCells #[Value.int .u8 0] n) 5 (0, 0)))
    (h : ∀ w', Hid (w'.rowIs g 5 n (fun i => .int .u8 (zs.getD i 0))) → Below g w w' → wpList Ybad.prog ops Q rest (a.put o.dst (goInt n)) w') :
    wpList Ybad.prog ops Q (o :: rest) a w := by
  have hcs : (zs.map (Value.int .u8)).length = n := by rw [List.length_map]; exact harg.1
  refine wpList_copy_splice hgd d s 22 22 ho 5 Ybad.underlying22 size5 _ _ _ _ _ _ hd hs g 0 (madeCells #[Value.int .u8 0] n).toList 5 (by rw [Array.toArray_toList]; exact hg) (zs.map (Value.int .u8)) (by rw [hcs]; exact (Nat.min_self _).symm) ?_ (by rw [hcs, Array.length_toList, size_madeCells]; omega) (ints_one zs) g w (Below.refl _ _) (Nat.le_refl _) ?_
  · intro hpos
    refine ⟨rfl, ?_⟩
    cases sp with
    | none =>
      have := (harg.2.1 rfl).1
      omega
    | some ad => exact ⟨ad, rfl, harg.2.2.1 ad rfl⟩
  · intro w' HG hb
    rw [hcs]
    exact h w' (copy_row harg.1 HG.out) hb

set_option maxRecDepth 100000 in
set_option maxHeartbeats 1000000 in
theorem law_any (sp0 sp1 : Option Addr) (m0 c0 m1 c1 : Nat) (z0 z1 : List Int) (w : World) (hA0 : Arg w sp0 m0 c0 z0) (hA1 : Arg w sp1 m1 c1 z1) (hm : m0 + m1 ≤ 1048576)
    (htab : Lib.TabIs Ybad.prog w "internal/strconv.uint64pow10" .u64 Lib.pow10Tab) :
    Calls Ybad.prog 3 #[.slice sp0 m0 c0, .slice sp1 m1 c1] w fun e w' => e = .returned (.bool true) ∧ Below w.heap.size w w' := by
  have hmk0 := fun w => run_make_row' (P := Ybad.prog) 22 5 (.int .u8 0) 1 Ybad.underlying22 info5 rfl .i64 .i64 m0 (by omega) (by omega) w
  have hmk1 := fun w => run_make_row' (P := Ybad.prog) 22 5 (.int .u8 0) 1 Ybad.underlying22 info5 rfl .i64 .i64 m1 (by omega) (by omega) w
  obtain ⟨i0, hi, hz0, hz1, hz2⟩ := info_parts info5
  have HA0 : Hid (Arg w sp0 m0 c0 z0) := hA0
  have HA1 : Hid (Arg w sp1 m1 c1 z1) := hA1
  have HT : Hid (Lib.TabBelow Ybad.prog w.heap.size w "internal/strconv.uint64pow10" .u64 Lib.pow10Tab) := Lib.tabBelow_of_tabIs htab
  have HZ0 : Hid (z0.length = m0) := hA0.1
  have HZ1 : Hid (z1.length = m1) := hA1.1
  clear hA0 hA1 htab
  have HM0 : Hid (Arg (w.alloc (.cells (madeCells #[Value.int .u8 0] m0) 5)) sp0 m0 c0 z0) := HA0.out.on (Nat.le_refl _) ((Below.refl _ _).alloc (Nat.le_refl _) _)
  go_enter Ybad.func3, Ybad.ntmps3
  go_upto_region 4 with fail
  go_wp2_with (refine wpList_copy_in rfl (.tmp 24) (.tmp 25) rfl w.heap.size m0 rfl sp0 c0 z0 rfl HM0.out (heap_alloc_new w _) ?_)
  intro w2 HB hb2
  have hb2' : Below w.heap.size w w2 := ((Below.refl _ _).alloc (Nat.le_refl _) _).trans hb2
  have HM1 : Hid (Arg (w2.alloc (.cells (madeCells #[Value.int .u8 0] m1) 5)) sp1 m1 c1 z1) := HA1.out.on (Nat.le_refl _) (hb2'.alloc hb2'.size _)
  have hlt2 := HB.out.lt
  clear hb2 HM0
  go_upto_region 6 with fail
  go_wp2_with (refine wpList_copy_in rfl (.tmp 30) (.tmp 31) rfl w2.heap.size m1 rfl sp1 c1 z1 rfl HM1.out (heap_alloc_new w2 _) ?_)
  intro w3 HC hb3
  have hb3' : Below w2.heap.size w2 w3 := ((Below.refl _ _).alloc (Nat.le_refl _) _).trans hb3
  have HB3 : Hid (w3.rowIs w.heap.size 5 m0 (fun i => .int .u8 (z0.getD i 0))) := row_below HB.out hlt2 hb3'
  have hbw3 : Below w.heap.size w w3 := hb2'.trans (hb3'.mono hb2'.size)
  have hlt3 := HC.out.lt
  have hs3 := hb3'.size
  clear hb3 hb3' HM1 HB hmk0 hmk1
  go_wp2_with fail
  refine (frame_any w.heap.size m0 z0 sp1 m1 c1 z1 w3 HZ0.out (fun j hj => HB3.out.cell hj) hm (HA1.out.on (Nat.le_refl _) hbw3) (HT.out w3 hbw3)).mono ?_
  rintro e w4 ⟨v4, rfl, hown4, hb4⟩
  have HO4 : Hid (w4.ownsRow w3.heap.size 5 1 v4 (m0 + (top z1).length + 7) ((z0 ++ frm z1).map (Value.int .u8))) := hown4
  have HB4 : Hid (w4.rowIs w.heap.size 5 m0 (fun i => .int .u8 (z0.getD i 0))) := row_below HB3.out (by omega) hb4
  have HC4 : Hid (w4.rowIs w2.heap.size 5 m1 (fun i => .int .u8 (z1.getD i 0))) := row_below HC.out hlt3 hb4
  have hbw4 : Below w.heap.size w w4 := hbw3.trans (hb4.mono hbw3.size)
  have hs4 := hb4.size
  clear hown4 hb4 HB3 HC hbw3 HT
  have HBZ : Hid (∀ z ∈ z1, 0 ≤ z ∧ z ≤ 255) := HA1.out.2.2.2
  have HBZ0 : Hid (∀ z ∈ z0, 0 ≤ z ∧ z ≤ 255) := HA0.out.2.2.2
  have HDL := decN_len m1 (by omega)
  go_wp2_with (at_builtin; refine Lib.wpList_append_own_string _ rfl (.tmp 36) _ 22 9 rfl w4.heap.size 5 i0 Ybad.underlying22 Ybad.underlying9 hi hz0 hz1 hz2 _ 0 [] rfl (World.ownsRow_nil _ _ _ _) _ rfl (by decide) (by decide) (Nat.le_refl _) ?_)
  intro v5 w5 hown5 hgrow5 _
  have hb5 : Below w4.heap.size w4 w5 := (Below.refl _ _).grown hgrow5 (Nat.le_refl _) (fun j hj => by cases hj)
  have hown5' : w5.ownsRow w4.heap.size 5 1 v5 10 ([56, 61, 70, 73, 88, 46, 52, 46, 52, 1].map (Value.int .u8)) := hown5
  clear hown5 hgrow5
  go_wp2_with (at_builtin; refine wpList_append_in rfl (.tmp 38) (.tmp 39) rfl w4.heap.size _ _ _ rfl (hown5'.alloc _) _ 2 2 [57, 61] rfl (Arg.new w5 [57, 61] (by decide)) (by omega) (below_size hb5 _) ?_)
  intro v6 w6 hown6 hb6
  have hb6' : Below w4.heap.size w4 w6 := (hb5.alloc hb5.size _).trans hb6
  have hown6' : w6.ownsRow w4.heap.size 5 1 v6 12 (hdr.map (Value.int .u8)) := hown6
  clear hown6 hb6 hown5' hb5
  go_wp2_with fail
  refine (dec_any m1 w6 (by omega)).mono ?_
  rintro e w7 ⟨g7, L, rfl, HL7, hg7, HR7, hb7⟩
  have hown7 := own_below hown6' hb7
  have hb7' : Below w4.heap.size w4 w7 := hb6'.trans (hb7.mono hb6'.size)
  have HA7 : Hid (Arg w7 (some ⟨g7, 0, none⟩) L L (decN m1)) := row_arg HR7.out HL7.out (decN_bd m1)
  have hL21 : L ≤ 21 := by rw [← HL7.out]; exact HDL
  clear hown6' hb6' hb7 HR7
  go_wp2_with (at_builtin; refine wpList_append_in rfl (.tmp 41) (.tmp 44) rfl w4.heap.size _ _ _ rfl hown7 _ L L (decN m1) rfl HA7.out (by omega) hb7'.size ?_)
  intro v8 w8 hown8 hb8
  have hb8' : Below w4.heap.size w4 w8 := hb7'.trans hb8
  have hown8' : w8.ownsRow w4.heap.size 5 1 v8 (12 + L) ((hdr ++ decN m1).map (Value.int .u8)) := by simpa using hown8
  clear hown8 hb8 hown7 hb7' HA7
  go_wp2_with (at_builtin; refine wpList_append_in rfl (.tmp 46) (.tmp 47) rfl w4.heap.size _ _ _ rfl (hown8'.alloc _) _ 1 1 [1] rfl (Arg.new w8 [1] (by decide)) (by omega) (below_size hb8' _) ?_)
  intro v9 w9 hown9 hb9
  have hb9' : Below w4.heap.size w4 w9 := (hb8'.alloc hb8'.size _).trans hb9
  have hown9' : w9.ownsRow w4.heap.size 5 1 v9 (12 + L + 1) ((hdr ++ decN m1 ++ [1]).map (Value.int .u8)) := by simpa using hown9
  clear hown9 hb9 hown8' hb8'
  have HA9 : Hid (Arg w9 (some ⟨w2.heap.size, 0, none⟩) m1 m1 z1) := row_arg (row_below HC4.out (by omega) hb9') HZ1.out HBZ.out
  go_wp2_with (at_builtin; refine wpList_append_in rfl (.tmp 49) (.tmp 50) rfl w4.heap.size _ _ _ rfl hown9' _ m1 m1 z1 rfl HA9.out (by omega) hb9'.size ?_)
  intro v10 w10 hown10 hb10
  have hb10' : Below w4.heap.size w4 w10 := hb9'.trans hb10
  have hown10' : w10.ownsRow w4.heap.size 5 1 v10 (12 + L + 1 + m1) ((top z1).map (Value.int .u8)) := by
    have e : top z1 = hdr ++ decN m1 ++ [1] ++ z1 := by unfold top; rw [HZ1.out]
    rw [e]; simpa using hown10
  clear hown10 hb10 hown9' hb9' HA9
  obtain ⟨N, hN⟩ : ∃ N, N = 12 + L + 1 + m1 := ⟨_, rfl⟩
  rw [← hN] at hown10'
  have hN1 : 12 ≤ N := by omega
  have hN2 : N ≤ 2000000 := by omega
  have HN : Hid (N = 12 + L + 1 + m1) := hN
  have HTN : Hid ((top z1).length = N) := by have := hown10'.1; show _ = _; simpa using this
  have HBD : Hid (∀ z ∈ top z1, 0 ≤ z ∧ z ≤ 255) := top_bd HBZ.out
  clear hN
  rcases hown10'.2 with ⟨rfl, h⟩ | ⟨g10, cap, cur, rfl, hg10, hcur, hnc, hcm, hcs, htk⟩
  · omega
  · have HCL : Hid (∀ j, j < N → w10.cell? ⟨g10, j, none⟩ = some (.int .u8 ((top z1).getD j 0))) := by
      intro j hj
      have hj2 : j < (top z1).length := by rw [HTN.out]; exact hj
      have h := hown10'.cells (g := g10) rfl j (.int .u8 ((top z1).getD j 0)) (by
        rw [List.getElem?_map, List.getElem?_eq_getElem hj2]
        simp [List.getD, List.getElem?_eq_getElem hj2])
      rw [Addr.add_lit] at h
      simpa using h
    have HO : Hid (w10.ownsRow w4.heap.size 5 1 (.slice (some ⟨g10, 0, none⟩) N cap) N ((top z1).map (Value.int .u8))) := hown10'
    clear hown10' hcur hcs htk hg10
    go_wp2
    go_loop [9, 54] (fun s i => ∃ (k : Nat) (S : Int), k ≤ N ∧ i = .int .i64 k ∧ s = .int .i64 S ∧ 0 ≤ S ∧ S ≤ 255 * (k : Int) ∧ Hid (S = sm ((top z1).take k))) (fun _ i => N - (intOf i).toNat)
    case atStart => exact ⟨0, 0, Nat.zero_le _, rfl, rfl, by decide, by decide, rfl⟩
    case round =>
      obtain ⟨k, S, hk, rfl, rfl, hS0, hS1, HS⟩ := hrel
      by_cases hlt : k < N
      · have hlt' : (k : Int) < (N : Int) := by omega
        have hck := HCL.out k hlt
        have hkt : k < (top z1).length := by rw [HTN.out]; exact hlt
        have hz : 0 ≤ (top z1).getD k 0 ∧ (top z1).getD k 0 ≤ 255 := by
          refine HBD.out _ ?_
          rw [List.getD, List.getElem?_eq_getElem hkt]
          exact List.getElem_mem hkt
        have HSX : Hid (S + (top z1).getD k 0 = sm ((top z1).take (k + 1))) := by
          show _ = _
          rw [List.take_succ_eq_append_getElem hkt, sm_snoc, HS.out, List.getD, List.getElem?_eq_getElem hkt]
          rfl
        obtain ⟨hz0', hz1'⟩ := hz
        clear hkt
        generalize (top z1).getD k 0 = z at hck hz0' hz1' HSX
        go_wp2
        go_round
        case rel => exact ⟨k + 1, _, by omega, by go_num, rfl, by omega, by omega, HSX⟩
        case measure => simp [intOf]; omega
      · have hkN : k = N := by omega
        subst hkN
        have HSF : Hid (S = sm (top z1)) := by
          show _ = _
          rw [HS.out, List.take_of_length_le (by rw [HTN.out]; omega)]
        obtain ⟨R, hR⟩ : ∃ R, R = S % 256 := ⟨_, rfl⟩
        have hR0 : 0 ≤ R := by omega
        have hR1 : R ≤ 255 := by omega
        have HRS : Hid (R = sm (top z1) % 256) := by show _ = _; rw [hR, HSF.out]
        have eR : S % 256 = R := hR.symm
        clear hR HS
        go_wp2
        clear eR
        go_loop [9, 12] (fun s h => ∃ a b : Int, s = .int .i64 a ∧ h = .int .i64 b ∧ 0 ≤ a ∧ a ≤ 255 ∧ 0 ≤ b ∧ b ≤ 2 ∧ Hid (a + 100 * b = R)) (fun s _ => (intOf s).toNat)
        case atStart => exact ⟨R, 0, rfl, rfl, hR0, hR1, by decide, by decide, by show _ = _; omega⟩
        case round =>
          obtain ⟨a, b, rfl, rfl, ha0, ha1, hb0, hb1, HAB⟩ := hrel
          have hab := HAB.out
          by_cases h100 : 100 ≤ a
          · have hb3 : b + 1 ≤ 2 := by omega
            have HAB' : Hid (a - 100 + 100 * (b + 1) = R) := by show _ = _; omega
            clear hab
            go_wp2
            go_round
            case rel => exact ⟨_, _, rfl, rfl, by omega, by omega, by omega, by omega, HAB'⟩
            case measure => simp [intOf]; omega
          · have HB1 : Hid (b = R / 100) := by show _ = _; omega
            have HB2 : Hid (a = R % 100) := by show _ = _; omega
            have ha99 : a ≤ 99 := by omega
            clear hab HAB h100
            go_wp2
            go_loop [9, 13] (fun s h => ∃ x y : Int, s = .int .i64 x ∧ h = .int .i64 y ∧ 0 ≤ x ∧ x ≤ 99 ∧ 0 ≤ y ∧ y ≤ 9 ∧ Hid (x + 10 * y = a)) (fun s _ => (intOf s).toNat)
            case atStart => exact ⟨a, 0, rfl, rfl, ha0, ha99, by decide, by decide, by show _ = _; omega⟩
            case round =>
              obtain ⟨x, y, rfl, rfl, hx0, hx1, hy0, hy1, HXY⟩ := hrel
              have hxy := HXY.out
              by_cases h10 : 10 ≤ x
              · have hy3 : y + 1 ≤ 9 := by omega
                have HXY' : Hid (x - 10 + 10 * (y + 1) = a) := by show _ = _; omega
                clear hxy
                go_wp2
                go_round
                case rel => exact ⟨_, _, rfl, rfl, by omega, by omega, by omega, by omega, HXY'⟩
                case measure => simp [intOf]; omega
              · have HTL : Hid ([49, 48, 61, 48 + b, 48 + y, 48 + x, 1] = tl R) := by
                  show _ = _
                  have h1 := HB1.out
                  have h2 := HB2.out
                  unfold tl
                  have e1 : y = R / 10 % 10 := by omega
                  have e2 : x = R % 10 := by omega
                  rw [← h1, ← e1, ← e2]
                have hx9 : x ≤ 9 := by omega
                have htl : ∀ z ∈ [49, 48, 61, 48 + b, 48 + y, 48 + x, 1], 0 ≤ z ∧ z ≤ 255 := by
                  intro z hz
                  simp only [List.mem_cons, List.not_mem_nil, or_false] at hz
                  omega
                have HTLB : Hid (∀ z ∈ [49, 48, 61, 48 + b, 48 + y, 48 + x, 1], 0 ≤ z ∧ z ≤ 255) := htl
                clear hxy HXY h10 htl
                go_wp2_with (at_builtin; refine wpList_append_in rfl (.tmp 77) (.tmp 87) rfl w4.heap.size _ _ _ rfl (HO.out.alloc _) _ 7 7 [49, 48, 61, 48 + b, 48 + y, 48 + x, 1] rfl (Arg.new w10 _ HTLB.out) (by omega) (below_size hb10' _) ?_)
                intro v11 w11 hown11 hb11
                have hb11' : Below w4.heap.size w4 w11 := (hb10'.alloc hb10'.size _).trans hb11
                have hown11' : w11.ownsRow w4.heap.size 5 1 v11 (k + 7) ((frm z1).map (Value.int .u8)) := by
                  have e : frm z1 = top z1 ++ [49, 48, 61, 48 + b, 48 + y, 48 + x, 1] := by unfold frm; rw [← HRS.out, HTL.out]
                  rw [e]; simpa using hown11
                clear hown11 hb11 HO hb10'
                have HFB : Hid (∀ z ∈ frm z1, 0 ≤ z ∧ z ≤ 255) := by
                  have e : frm z1 = top z1 ++ [49, 48, 61, 48 + b, 48 + y, 48 + x, 1] := by unfold frm; rw [← HRS.out, HTL.out]
                  show ∀ z ∈ frm z1, _
                  intro z hz
                  rw [e, List.mem_append] at hz
                  rcases hz with hz | hz
                  · exact HBD.out z hz
                  · exact HTLB.out z hz
                obtain ⟨sp11, c11, rfl, hA11⟩ := own_arg hown11' HFB.out
                have HA11 : Hid (Arg w11 sp11 (k + 7) c11 (frm z1)) := hA11
                have hbw11 : Below w.heap.size w w11 := hbw4.trans (hb11'.mono hbw4.size)
                clear hA11 hown11' HTLB HTL HFB
                go_wp2_with (at_make; refine wpList_make_own _ rfl _ _ 22 rfl w11.heap.size 5 i0 (.int .u8 0) 1 Ybad.underlying22 hi hz0 hz1 _ _ _ (m0 + (k + 7)) rfl rfl (by omega) (by rw [hz2]; omega) (by unfold maxLen; omega) (Nat.le_refl _) ?_)
                intro w12 hown12 hgrow12
                have hb12 : Below w11.heap.size w11 w12 := (Below.refl _ _).grown hgrow12 (Nat.le_refl _) (fun j hj => by cases hj)
                have hown12' : w12.ownsRow w11.heap.size 5 1 (.slice (some ⟨w11.heap.size, 0, none⟩) 0 (m0 + (k + 7))) 0 (([] : List Int).map (Value.int .u8)) := hown12
                have HA12 : Hid (Arg w12 sp0 m0 c0 z0) := HA0.out.on (Nat.le_refl _) (hbw11.trans (hb12.mono hbw11.size))
                clear hown12 hgrow12
                go_wp2_with (at_builtin; refine wpList_append_in rfl (.tmp 95) (.tmp 96) rfl w11.heap.size _ _ _ rfl hown12' sp0 m0 c0 z0 rfl HA12.out (by omega) hb12.size ?_)
                intro v13 w13 hown13 hb13
                have hb13' : Below w11.heap.size w11 w13 := hb12.trans hb13
                have hown13' : w13.ownsRow w11.heap.size 5 1 v13 m0 (z0.map (Value.int .u8)) := by simpa using hown13
                have HA13 : Hid (Arg w13 sp11 (k + 7) c11 (frm z1)) := HA11.out.on (Nat.le_refl _) hb13'
                clear hown13 hb13 hown12' hb12 HA12
                go_wp2_with (at_builtin; refine wpList_append_in rfl (.tmp 98) (.tmp 99) rfl w11.heap.size _ _ _ rfl hown13' sp11 (k + 7) c11 (frm z1) rfl HA13.out (by omega) hb13'.size ?_)
                intro v14 w14 hown14 hb14
                have hb14' : Below w11.heap.size w11 w14 := hb13'.trans hb14
                have hown14' : w14.ownsRow w11.heap.size 5 1 v14 (m0 + (k + 7)) ((z0 ++ frm z1).map (Value.int .u8)) := by simpa using hown14
                have hb4f : Below w4.heap.size w4 w14 := hb11'.trans (hb14'.mono hb11'.size)
                have hbwf : Below w.heap.size w w14 := hbw4.trans (hb4f.mono hbw4.size)
                have C1 : Hid ((convert 22 9 v4).run Ybad.prog w14 = .ok (.string (strOfNums (z0 ++ frm z1))) w14) := conv_own (own_below HO4.out hb4f)
                have C2 : Hid ((convert 22 9 v14).run Ybad.prog w14 = .ok (.string (strOfNums (z0 ++ frm z1))) w14) := conv_own hown14'
                have C3 : Hid ((convert 22 9 (.slice sp1 m1 c1)).run Ybad.prog w14 = .ok (.string (strOfNums z1)) w14) := (HA1.out.on (Nat.le_refl _) hbwf).conv
                have C4 : Hid ((convert 22 9 (.slice (some ⟨w2.heap.size, 0, none⟩) m1 m1)).run Ybad.prog w14 = .ok (.string (strOfNums z1)) w14) := (row_arg (row_below HC4.out (by omega) hb4f) HZ1.out HBZ.out).conv
                have C5 : Hid ((convert 22 9 (.slice (some ⟨w.heap.size, 0, none⟩) m0 m0)).run Ybad.prog w14 = .ok (.string (strOfNums z0)) w14) := (row_arg (row_below HB4.out (by omega) hb4f) HZ0.out HBZ0.out).conv
                have C6 : Hid ((convert 22 9 (.slice sp0 m0 c0)).run Ybad.prog w14 = .ok (.string (strOfNums z0)) w14) := (HA0.out.on (Nat.le_refl _) hbwf).conv
                clear hown14 hb14 hown13' hb13' HA13 hown14' hb14' hb4f HA11 HB4 HC4 HO4 hb11' hbw11
                go_wp2_with fail
                refine (equal_yes v4 v14 _ w14 C1.out C2.out).mono ?_
                rintro e w15 ⟨rfl, rfl⟩
                go_wp2_with fail
                refine (equal_yes _ _ _ _ C3.out C4.out).mono ?_
                rintro e w16 ⟨rfl, rfl⟩
                go_wp2_with fail
                refine (equal_yes _ _ _ _ C5.out C6.out).mono ?_
                rintro e w17 ⟨rfl, rfl⟩
                go_wp2
                go_ret
                exact ⟨rfl, hbwf⟩

end Go.Proofs.YbulkdufqDoor

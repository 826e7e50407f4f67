/-
  Small laws for the walks of appendFrame and of the law.
-/
import Derived.Test.YbulkdufqDoorDec
import Derived.Laws.AppendOwnNone
import Derived.Laws.BytesArg
import Derived.Lib.AppendStr
namespace Go.Proofs.YbulkdufqDoor
open Go.RowKit

/-- A slice of bytes that came in: nil, or a row whose first m cells are zs. -/
def Arg (w : World) (sp : Option Addr) (m c : Nat) (zs : List Int) : Prop :=
  zs.length = m ∧ (sp = none → m = 0 ∧ c = 0) ∧ (∀ ad, sp = some ad → ∀ j v, (zs.map (Value.int .u8))[j]? = some v → w.cell? (ad.add j) = some v) ∧ (∀ z ∈ zs, 0 ≤ z ∧ z ≤ 255)

theorem Arg.on {w w' : World} {sp : Option Addr} {m c : Nat} {zs : List Int} (h : Arg w sp m c zs) {B : Nat} (hB : w.heap.size ≤ B) (hb : Below B w w') : Arg w' sp m c zs := by
  refine ⟨h.1, h.2.1, fun ad had j v hj => ?_, h.2.2.2⟩
  have hc := h.2.2.1 ad had j v hj
  exact (hb.cell (Nat.lt_of_lt_of_le (World.block_lt_of_cell? w _ hc) hB)).trans hc

theorem Arg.conv {w : World} {sp : Option Addr} {m c : Nat} {zs : List Int} (h : Arg w sp m c zs) : (convert 22 9 (.slice sp m c)).run Ybad.prog w = .ok (.string (strOfNums zs)) w := by
  obtain ⟨hl, hn, hs, _⟩ := h
  cases sp with
  | none =>
    obtain ⟨rfl, rfl⟩ := hn rfl
    have e : zs = [] := List.length_eq_zero_iff.1 hl
    subst e
    exact run_convert_bytes_nil w 22 5 Ybad.underlying22 Ybad.underlying5 0 0 9 Ybad.underlying9
  | some ad =>
    rw [run_convert_bytes_string w 22 9 5 _ m c Ybad.underlying22 Ybad.underlying5 Ybad.underlying9]
    have hld := run_loadCells_list (P := Ybad.prog) w ad (zs.map (Value.int .u8)) (hs ad rfl)
    rw [List.length_map, hl] at hld
    rw [run_bytesToString w ad m c zs hld, foldl_push_bytes]
    simp [strOfNums, ByteArray.empty, ByteArray.emptyWithCapacity]
    rfl

/-- 'string(b)' of a row of bytes of the call's own. -/
theorem conv_own {w : World} {B : Nat} {v : Value} {n : Nat} {zs : List Int} (hown : w.ownsRow B 5 1 v n (zs.map (Value.int .u8))) :
    (convert 22 9 v).run Ybad.prog w = .ok (.string (strOfNums zs)) w := by
  have hl : zs.length = n := by simpa using hown.1
  rcases hown.2 with ⟨rfl, rfl⟩ | ⟨g, cap, cur, rfl, _, _, _, _, _, _⟩
  · have e : zs = [] := List.length_eq_zero_iff.1 hl
    subst e
    exact run_convert_bytes_nil w 22 5 Ybad.underlying22 Ybad.underlying5 0 0 9 Ybad.underlying9
  · refine run_convert_bytes_arg w 22 5 Ybad.underlying22 Ybad.underlying5 g 0 n cap zs hl (fun i hi => ?_) 9 Ybad.underlying9
    have h := hown.cells (g := g) rfl i (.int .u8 (zs.getD i 0)) (by simp [List.getElem?_map, List.getElem?_eq_getElem (show i < zs.length by omega), List.getD])
    rw [Addr.add_lit] at h
    simpa using h

theorem ints_one (zs : List Int) : ∀ u ∈ zs.map (Value.int .u8), u.oneCell' = true := by
  intro u hu
  obtain ⟨x, _, rfl⟩ := List.mem_map.1 hu
  rfl

/-- 'append(v, x...)', v of the call's own, x whatever came in. -/
theorem wpList_append_in {w : World} {ops : Array Oper} {rest : List Oper} {o : Oper} {a : Act} {Q : Exit → Act → World → Prop} (hgd : o.guard = none) (s x : Operand)
    (ho : o.op = .call { callee := .builtin .append, args := #[s, x], argTypes := #[22, 22] })
    (B : Nat) (v : Value) (n : Nat) (xs : List Int) (hs : a.eval s = v) (hown : w.ownsRow B 5 1 v n (xs.map (Value.int .u8)))
    (sp : Option Addr) (m c : Nat) (zs : List Int) (hx : a.eval x = .slice sp m c) (harg : Arg w sp m c zs) (hlim : n + m ≤ 140737488355328) (hB : B ≤ w.heap.size)
    (h : ∀ v' w', w'.ownsRow B 5 1 v' (n + m) ((xs ++ zs).map (Value.int .u8)) → Below B w w' → wpList Ybad.prog ops Q rest (a.put o.dst v') w') : wpList Ybad.prog ops Q (o :: rest) a w := by
  obtain ⟨i0, hi, hz0, hz1, hz2⟩ := info_parts info5
  obtain ⟨hl, hn, hsrc, _⟩ := harg
  cases sp with
  | none =>
    obtain ⟨rfl, rfl⟩ := hn rfl
    have e : zs = [] := List.length_eq_zero_iff.1 hl
    subst e
    exact wpList_append_own_none hgd s x 22 ho B 5 i0 1 Ybad.underlying22 hi v n _ hs hown hx (h v w (by simpa using hown) (Below.refl _ _))
  | some ad =>
    refine wpList_append_own _ hgd s x 22 ho B 5 i0 (.int .u8 0) 1 1 Ybad.underlying22 hi hz0 hz1 hz2 rfl (by decide) v n _ hs hown ad m c (zs.map (Value.int .u8)) hx (by simpa using hl) (hsrc ad rfl) (ints_one zs) (by unfold maxLen; omega) (by omega) hB ?_
    intro v' w' hown' hgrow' _
    exact h v' w' (by simpa using hown') ((Below.refl _ _).grown hgrow' hB (fun j hj => (hown.lt j hj).1))

/-- 'append(b, const...)' at a slice without spare room: a new row, nothing that was there turns. -/
theorem wpList_append_fresh {w : World} {ops : Array Oper} {rest : List Oper} {o : Oper} {a : Act} {Q : Exit → Act → World → Prop} (hgd : o.guard = none) (s x : Operand)
    (ho : o.op = .call { callee := .builtin .append, args := #[s, x], argTypes := #[22, 9] })
    (g nb : Nat) (xs : List Int) (hs : a.eval s = .slice (some ⟨g, 0, none⟩) nb nb) (hl : xs.length = nb) (hc : ∀ j, j < nb → w.cell? ⟨g, j, none⟩ = some (.int .u8 (xs.getD j 0)))
    (t : ByteArray) (hx : a.eval x = .string t) (ht : 0 < t.size) (hlim : nb + t.size ≤ 140737488355328)
    (h : ∀ v' w', w'.ownsRow w.heap.size 5 1 v' (nb + t.size) (xs.map (Value.int .u8) ++ Lib.strCells t) → Below w.heap.size w w' → wpList Ybad.prog ops Q rest (a.put o.dst v') w') : wpList Ybad.prog ops Q (o :: rest) a w := by
  obtain ⟨i0, hi, hz0, hz1, hz2⟩ := info_parts info5
  have hold : ∀ j v, (xs.map (Value.int .u8))[j]? = some v → w.cell? ((⟨g, 0, none⟩ : Addr).add j) = some v := by
    intro j v hj
    have hjl : j < xs.length := by
      rcases Nat.lt_or_ge j xs.length with h | h
      · exact h
      · rw [List.getElem?_eq_none (by simpa using h)] at hj; cases hj
    rw [List.getElem?_map, List.getElem?_eq_getElem hjl] at hj
    rw [Addr.add_lit, Nat.zero_add, hc j (by omega)]
    simp only [List.getD, List.getElem?_eq_getElem hjl, Option.getD_some]
    simpa using hj
  have hrun := Lib.run_append_grow_string (P := Ybad.prog) w 22 9 o.type 5 i0 (.int .u8 0) Ybad.underlying22 Ybad.underlying9 hi hz0 ⟨g, 0, none⟩ nb nb (xs.map (Value.int .u8)) (by rw [hz1]; simpa using hl) hold t (by omega) (by omega) (by rw [hz2]; exact growslice_fits (by omega) (by omega))
  refine wpList_plain hgd fun K hK => ?_
  unfold Oper.wp execOp
  simp only [ho, resolve, invoke, builtin, Sem.run_bind, Sem.run_pure, Result.andThen_ok, List.map_toArray, List.map_cons, List.map_nil, hs, hx, hrun]
  refine hK _ _ (h _ _ ⟨?_, .inr ⟨w.heap.size, grownCap w (nb + t.size) nb 5, _, rfl, Nat.le_refl _, heap_alloc_new w.drew _, grownCap_ge _ _ _ _, grownCap_le_maxLen _ _ _ _ (by unfold maxLen; omega), ?_, ?_⟩⟩ ?_)
  · rw [List.length_append, Lib.strCells_length, List.length_map, hl, Nat.mul_one]
  · have h1 := grownCap_ge w (nb + t.size) nb 5
    rw [Array.size_append, Array.size_append, List.size_toArray, List.size_toArray, List.length_map, hl, Lib.strCells_length, size_zeroCells]
    have e : (Value.int .u8 0).cells.size = 1 := rfl
    rw [e]
    omega
  · rw [Array.toList_append, Array.toList_append]
    show List.take _ ((xs.map (Value.int .u8) ++ Lib.strCells t) ++ _) = _
    rw [show (nb + t.size) * 1 = (xs.map (Value.int .u8) ++ Lib.strCells t).length by rw [List.length_append, Lib.strCells_length, List.length_map, hl, Nat.mul_one]]
    exact List.take_left
  · exact ((Below.refl _ _).drew).alloc (Nat.le_refl _) _

end Go.Proofs.YbulkdufqDoor

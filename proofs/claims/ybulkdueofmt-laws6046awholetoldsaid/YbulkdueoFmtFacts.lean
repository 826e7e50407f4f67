/-
  The closed facts for a walk over fmt's stopped front 'fmt.errorf' at this dump, after the worked example Derived/Test/CheckFmt.lean; and the contracts of 'pattern' (function 9).
-/
import Derived.Test.YbulkdueoFmtProg
import Derived.Stop.CallBack
import Derived.Stop.IfaceNil
import GoSem.ClaimData
import Derived.WalkKit
import Derived.WalkSpells
import Derived.Lib.AppendStr
import Derived.Lib.Strings
namespace Go.Proofs.YbulkdueoFmt
open Go.Extern.Stop Go.Stop Go.Extern Go.RowKit

@[go_sem] theorem fcall16 (args : Array Value) (w : World) : (callFunc 16 args).run Ybaf.prog w = ((FmtStop.errorf #[9, 44] #[24] args).run Ybaf.prog w).andThen fun v w' => .ok (.value v) w' :=
  run_callFunc_extern Ybaf.func16 (by kernel_rfl) (by kernel_rfl) (by kernel_rfl) (by kernel_rfl) args w

@[go_sem] theorem fguard (name : String) (w : World) : (FmtStop.guard name).run Ybaf.prog w = .ok () w := by kernel_rfl

-- the text is %d bytes long, 2 operands
@[go_sem] theorem fmt0 : FmtStop.printed? ⟨#[116, 104, 101, 32, 116, 101, 120, 116, 32, 105, 115, 32, 37, 100, 32, 98, 121, 116, 101, 115, 32, 108, 111, 110, 103, 58, 32, 119, 97, 110, 116, 32, 49, 32, 116, 111, 32, 37, 100]⟩ 2 = some [(0, 100, false), (1, 100, false)] := by kernel_rfl
@[go_sem] theorem fmt0r (w : World) : (FmtDoors.printed ⟨#[116, 104, 101, 32, 116, 101, 120, 116, 32, 105, 115, 32, 37, 100, 32, 98, 121, 116, 101, 115, 32, 108, 111, 110, 103, 58, 32, 119, 97, 110, 116, 32, 49, 32, 116, 111, 32, 37, 100]⟩ 2).run Ybaf.prog w = .ok [(0, 100, false), (1, 100, false)] w := by kernel_rfl
-- q is not a time of day, 1 operand
@[go_sem] theorem fmt1 : FmtStop.printed? ⟨#[37, 113, 32, 105, 115, 32, 110, 111, 116, 32, 97, 32, 116, 105, 109, 101, 32, 111, 102, 32, 100, 97, 121, 32, 72, 72, 58, 77, 77, 32, 111, 114, 32, 72, 72, 58, 77, 77, 58, 83, 83, 32, 102, 114, 111, 109, 32, 48, 48, 58, 48, 48, 58, 48, 48, 32, 116, 111, 32, 50, 51, 58, 53, 57, 58, 53, 57]⟩ 1 = some [(0, 113, false)] := by kernel_rfl
@[go_sem] theorem fmt1r (w : World) : (FmtDoors.printed ⟨#[37, 113, 32, 105, 115, 32, 110, 111, 116, 32, 97, 32, 116, 105, 109, 101, 32, 111, 102, 32, 100, 97, 121, 32, 72, 72, 58, 77, 77, 32, 111, 114, 32, 72, 72, 58, 77, 77, 58, 83, 83, 32, 102, 114, 111, 109, 32, 48, 48, 58, 48, 48, 58, 48, 48, 32, 116, 111, 32, 50, 51, 58, 53, 57, 58, 53, 57]⟩ 1).run Ybaf.prog w = .ok [(0, 113, false)] w := by kernel_rfl

def shape9 : List UInt8 := [12, 6, 0, 0, 0, 0, 0, 0, 0, 115, 116, 114, 105, 110, 103]
@[go_sem] theorem op9_113w (name : String) (x : ByteArray) (w : World) : (FmtStop.operand name true 113 false (.iface 9 (.string x))).run Ybaf.prog w = .ok (shape9, FmtStop.pack x.data.toList) w := by kernel_rfl
def shape3 : List UInt8 := [5, 3, 0, 0, 0, 0, 0, 0, 0, 105, 110, 116]
@[go_sem] theorem op3_100w (name : String) (x : Int) (w : World) : (FmtStop.operand name true 100 false (.iface 3 (.int .i64 x))).run Ybaf.prog w = .ok (shape3, Go.Extern.Stop.digits 8 (x % 2 ^ 64).toNat) w := by kernel_rfl

@[go_sem] theorem ptr49 (w : World) : (FmtStop.ptrTo "errors.errorString").run Ybaf.prog w = .ok 49 w := by kernel_rfl
@[go_sem] theorem elem49 (w : World) : (elemOf 49).run Ybaf.prog w = .ok 51 w := by kernel_rfl
@[go_sem] theorem isError49' (w : World) : (FmtDoors.textMethod 49 "Error").run Ybaf.prog w = .ok true w := by kernel_rfl

theorem empty_of (s : ByteArray) : s.toList.isEmpty = decide (s.size < 1) := by
  rw [Lib.toList_data]
  have e : s.data.toList.length = s.size := by rw [Array.length_toList]; rfl
  rw [← e]
  cases s.data.toList <;> simp

/-- 'pattern' at a text that it takes. -/
theorem pattern_ok (s : ByteArray) (w : World) (h1 : 1 ≤ s.size) (h2 : s.size ≤ 128) :
    Calls Ybaf.prog 9 #[.string s] w fun e w' => e = .returned .nilIface ∧ w' = w := by
  have h3 : s.toList.isEmpty = false := by rw [empty_of]; exact decide_eq_false (by omega)
  go_enter Ybaf.func9, Ybaf.ntmps9
  go_wp2
  go_ret
  exact ⟨rfl, rfl⟩

/-- 'pattern' at a text that it refuses. -/
theorem pattern_bad (F : Interp) (s : ByteArray) (w : World) (hF : F.answers w.tape) (h : s.size < 1 ∨ 128 < s.size) :
    Calls Ybaf.prog 9 #[.string s] w fun e w' => (∃ a, e = .returned (.iface 49 a)) ∧ Below w.heap.size w w' := by
  have hF' := answers_open hF
  have h3 : s.toList.isEmpty = false ∧ 128 < s.size ∨ s.toList.isEmpty = true := by
    rw [empty_of]
    by_cases h1 : s.size < 1
    · exact .inr (by simpa using h1)
    · exact .inl ⟨by simpa using h1, by omega⟩
  clear h
  rcases h3 with ⟨h3, h4⟩ | h3
  · go_enter Ybaf.func9, Ybaf.ntmps9
    go_wp2
    go_ret
    exact ⟨⟨_, rfl⟩, (((Below.refl _ _).alloc (Nat.le_refl _) _).alloc (by simp) _).drew⟩
  · go_enter Ybaf.func9, Ybaf.ntmps9
    go_wp2
    go_ret
    exact ⟨⟨_, rfl⟩, (((Below.refl _ _).alloc (Nat.le_refl _) _).alloc (by simp) _).drew⟩

end Go.Proofs.YbulkdueoFmt

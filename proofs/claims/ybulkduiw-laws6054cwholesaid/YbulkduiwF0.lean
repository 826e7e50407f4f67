/-
  cmp.isNaN (32) and cmp.Less (22) at float64.
-/
import Derived.Test.YbulkduiwProg
import Derived.Lib.Walk
import Derived.Sort.Row
import Derived.Laws.Cover2
import Derived.Sort.Walk0
import Derived.Below
import Derived.WalkKit
namespace Go.Proofs.Ybulkduiw
open Go.RowKit Go.Sort

/-- A store of a float: the kit has the like for the other kinds. -/
@[go_sem] theorem run_store_float (P : Program) (w : World) (a : Addr) (m : Mode) (k : FloatKind) (n : Nat) : (store a (.float k n) m).run P w = stored P w a (.float k n) m := run_store P w a _ m rfl

/-- How two words of float64 stand to each other. -/
def ordF (x y : Nat) : Option Ordering := FloatKind.f64.format.order x y
def nanF (x : Nat) : Bool := ordF x x != some .eq
/-- cmp.Less at float64: a NaN is less than what is none; else '<'. -/
def ltF (x y : Nat) : Bool := (nanF x && !nanF y) || ordF x y == some .lt

set_option maxHeartbeats 1000000 in
theorem cmp_isNaN_f (x : Nat) (w : World) : Calls Yba.prog 32 #[.float .f64 x] w fun e w' => e = .returned (.bool (nanF x)) ∧ w' = w := by
  go_enter Yba.func32, Yba.ntmps32
  go_wp2
  go_ret
  exact ⟨rfl, rfl⟩

set_option maxHeartbeats 1000000 in
theorem cmp_Less_f (x y : Nat) (w : World) : Calls Yba.prog 22 #[.float .f64 x, .float .f64 y] w fun e w' => e = .returned (.bool (ltF x y)) ∧ w' = w := by
  have hx := cmp_isNaN_f x
  have hy := cmp_isNaN_f y
  have HL : Hid (∀ a b, nanF x = a → nanF y = b → ltF x y = ((a && !b) || FloatKind.f64.format.order x y == some .lt)) := fun a b h1 h2 => by rw [← h1, ← h2]; rfl
  generalize nanF x = a at *
  generalize nanF y = b at *
  have HL2 : Hid (ltF x y = ((a && !b) || FloatKind.f64.format.order x y == some .lt)) := HL.out a b rfl rfl
  clear HL
  cases a <;> cases b
  all_goals
    go_enter Yba.func22, Yba.ntmps22
    go_wp2_with (go_at_call 32; refine (by first | exact hx _ | exact hy _ : Calls Yba.prog 32 _ _ _).mono ?_; rintro e w' ⟨rfl, rfl⟩)
    go_ret
    refine ⟨?_, rfl⟩
    rw [HL2.out]
    rfl

end Go.Proofs.Ybulkduiw

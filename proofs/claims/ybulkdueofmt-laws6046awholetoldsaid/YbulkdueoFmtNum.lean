/-
  Contracts: math/bits.Mul64 (18), Add64 (19), zzs6046anum (13).
-/
import Derived.Test.YbulkdueoFmtTod
import Derived.Lib.Mul64
import Derived.Laws.Externs
import Derived.Laws.Bits64b
namespace Go.Proofs.YbulkdueoFmt
open Go.RowKit Go.Lib

namespace M
theorem maskN (a : Nat) (ha : a < 18446744073709551616) : bits .and .u64 (a : Int) 4294967295 = ((a % 4294967296 : Nat) : Int) := by
  have h := bits_and_u64_nat a 4294967295 ha (by omega)
  have e : a &&& 4294967295 = a % 4294967296 := Nat.and_two_pow_sub_one_eq_mod a 32
  rw [e] at h
  exact h
theorem divN (a : Nat) : (a : Int) / 4294967296 = ((a / 4294967296 : Nat) : Int) := by omega
theorem mulN (a b : Nat) : (a : Int) * (b : Int) = ((a * b : Nat) : Int) := (Int.natCast_mul a b).symm
theorem addN (a b : Nat) : (a : Int) + (b : Int) = ((a + b : Nat) : Int) := (Int.natCast_add a b).symm
theorem wrapN (a : Nat) (ha : a < 18446744073709551616) : IntKind.u64.wrap (a : Int) = (a : Int) := by rw [IntKind.wrap_u64]; omega
theorem wrapM (a : Nat) : IntKind.u64.wrap (a : Int) = ((a % 18446744073709551616 : Nat) : Int) := by rw [IntKind.wrap_u64]; omega
end M

set_option maxHeartbeats 1000000 in
theorem mul64_any (x y : Nat) (hx : x < 18446744073709551616) (hy : y < 18446744073709551616) (w : World) :
    Calls Ybaf.prog 18 #[.int .u64 x, .int .u64 y] w fun e w' => e = .returned (.tuple #[.int .u64 ((x * y / 18446744073709551616 : Nat) : Int), .int .u64 ((x * y % 18446744073709551616 : Nat) : Int)]) ∧ w' = w := by
  obtain ⟨bd, bt, bw, hhi⟩ := Lib.mul64_hi x y hx hy
  have ba := Lib.half_mul_le (a := x / 4294967296) (b := y / 4294967296) (by omega) (by omega)
  have bb := Lib.half_mul_le (a := x / 4294967296) (b := y % 4294967296) (by omega) (by omega)
  have bc := Lib.half_mul_le (a := x % 4294967296) (b := y / 4294967296) (by omega) (by omega)
  have ba' : x / 4294967296 * (y / 4294967296) < 18446744073709551616 := by omega
  have bb' : x / 4294967296 * (y % 4294967296) < 18446744073709551616 := by omega
  have bc' : x % 4294967296 * (y / 4294967296) < 18446744073709551616 := by omega
  have bh1 : x / 4294967296 * (y / 4294967296) + (x / 4294967296 * (y % 4294967296) + x % 4294967296 * (y % 4294967296) / 4294967296) / 4294967296 < 18446744073709551616 := by omega
  have bh : x / 4294967296 * (y / 4294967296) + (x / 4294967296 * (y % 4294967296) + x % 4294967296 * (y % 4294967296) / 4294967296) / 4294967296 + ((x / 4294967296 * (y % 4294967296) + x % 4294967296 * (y % 4294967296) / 4294967296) % 4294967296 + x % 4294967296 * (y / 4294967296)) / 4294967296 < 18446744073709551616 := by omega
  go_enter Ybaf.func18, Ybaf.ntmps18
  go_wp2
  simp only [M.maskN x hx, M.maskN y hy, M.divN, M.mulN, M.addN, M.wrapN _ bd, M.wrapN _ bb', M.wrapN _ bt, M.maskN _ bt, M.wrapN _ bc', M.wrapN _ bw, M.wrapN _ ba', M.wrapN _ bh1, M.wrapN _ bh, M.wrapM (x * y)]
  rw [hhi]
  go_ret2
  exact ⟨rfl, rfl⟩

theorem mul10 (N : Int) (w : World) (h0 : 0 ≤ N) (h1 : N ≤ 18446744073709551615) :
    Calls Ybaf.prog 18 #[.int .u64 N, .int .u64 10] w fun e w' => ∃ hi lo : Int, e = .returned (.tuple #[.int .u64 hi, .int .u64 lo]) ∧ 0 ≤ hi ∧ 0 ≤ lo ∧ Hid (hi = N * 10 / 18446744073709551616) ∧ Hid (lo = N * 10 % 18446744073709551616) ∧ w' = w := by
  obtain ⟨x, rfl⟩ := Int.eq_ofNat_of_zero_le h0
  refine (mul64_any x 10 (by omega) (by decide) w).mono ?_
  rintro e w' ⟨rfl, rfl⟩
  exact ⟨_, _, rfl, by omega, by omega, by show _ = _; omega, by show _ = _; omega, rfl⟩

theorem add_call (args : Array Value) (w : World) : (callFunc 19 args).run Ybaf.prog w = ((add64Entry args).run Ybaf.prog w).andThen fun v w' => .ok (.value v) w' :=
  run_callFunc_extern Ybaf.func19 (by kernel_rfl) (by kernel_rfl) (by kernel_rfl) (by kernel_rfl) args w

theorem add_is (x y : Int) (hx : 0 ≤ x) (hy : 0 ≤ y) : ∃ S C : Int, (∀ w, (callFunc 19 #[.int .u64 x, .int .u64 y, .int .u64 0]).run Ybaf.prog w = .ok (.value (.tuple #[.int .u64 S, .int .u64 C])) w) ∧
    0 ≤ C ∧ Hid (S = (x + y) % 18446744073709551616) ∧ Hid (C = (x + y) / 18446744073709551616) := by
  refine ⟨_, _, fun w => ?_, ?_, rfl, rfl⟩
  · rw [add_call, run_add64 x y 0 hx hy (by decide) (by decide) w]
    simp [Result.andThen]
  · omega

end Go.Proofs.YbulkdueoFmt

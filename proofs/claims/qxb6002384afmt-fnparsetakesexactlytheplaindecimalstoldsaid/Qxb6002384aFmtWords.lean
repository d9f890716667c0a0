/-
  Words: bits.Mul, bits.Add, mulAddWWW_g, pow, maxPow, walked. THE VALUES ARE NOT TOLD: only that each call returns words and turns nothing (maxPow at 10: a power that is not 0, a count of at least 1).
-/
import Derived.Test.Qxb6002384aFmtReader
namespace Go.Proofs.Qxb6002384aFmt
open Go.RowKit

set_option maxHeartbeats 1000000 in
theorem mul64_any (x y : Int) (w : World) :
    Calls Tryf.prog 63 #[.int .u64 x, .int .u64 y] w fun e w' => (∃ a b : Int, e = .returned (.tuple #[.int .u64 a, .int .u64 b])) ∧ w' = w := by
  go_enter Tryf.func63, Tryf.ntmps63
  go_wp2
  go_ret2
  exact ⟨⟨_, _, rfl⟩, rfl⟩

set_option maxHeartbeats 1000000 in
theorem mul_any (x y : Int) (w : World) :
    Calls Tryf.prog 60 #[.int .u64 x, .int .u64 y] w fun e w' => (∃ a b : Int, e = .returned (.tuple #[.int .u64 a, .int .u64 b])) ∧ w' = w := by
  go_enter Tryf.func60, Tryf.ntmps60
  go_wp2_with (go_at_call 63; refine (mul64_any _ _ _).mono ?_; rintro e w' ⟨⟨a, b, rfl⟩, rfl⟩)
  go_ret2
  exact ⟨⟨_, _, rfl⟩, rfl⟩

theorem run_add64_any {P : Program} (x y : Int) (w : World) : ∃ a b : Int, (add64Entry #[.int .u64 x, .int .u64 y, .int .u64 0]).run P w = .ok (.tuple #[.int .u64 a, .int .u64 b]) w := ⟨_, _, rfl⟩

set_option maxHeartbeats 1000000 in
theorem add_any (x y : Int) (w : World) :
    Calls Tryf.prog 61 #[.int .u64 x, .int .u64 y, .int .u64 0] w fun e w' => (∃ a b : Int, e = .returned (.tuple #[.int .u64 a, .int .u64 b])) ∧ w' = w := by
  obtain ⟨a, b, hab⟩ := run_add64_any (P := Tryf.prog) x y w
  have hx : (callFunc 65 #[.int .u64 x, .int .u64 y, .int .u64 0]).run Tryf.prog w = .ok (.value (.tuple #[.int .u64 a, .int .u64 b])) w := by
    rw [run_callFunc_extern Tryf.func65 (by kernel_rfl) (by kernel_rfl) (by kernel_rfl) (e := add64Entry) (by kernel_rfl), hab]
    rfl
  clear hab
  go_enter Tryf.func61, Tryf.ntmps61
  go_wp2
  go_ret2
  exact ⟨⟨_, _, rfl⟩, rfl⟩

set_option maxHeartbeats 1000000 in
theorem mulAddWWW_any (x y c : Int) (w : World) :
    Calls Tryf.prog 56 #[.int .u64 x, .int .u64 y, .int .u64 c] w fun e w' => (∃ a b : Int, e = .returned (.tuple #[.int .u64 a, .int .u64 b])) ∧ w' = w := by
  go_enter Tryf.func56, Tryf.ntmps56
  go_wp2_with (first | (go_at_call 60; refine (mul_any _ _ _).mono ?_; rintro e w' ⟨⟨a, b, rfl⟩, rfl⟩) | (go_at_call 61; refine (add_any _ _ _).mono ?_; rintro e w' ⟨⟨a2, b2, rfl⟩, rfl⟩))
  go_ret2
  exact ⟨⟨_, _, rfl⟩, rfl⟩

set_option maxHeartbeats 1000000 in
theorem pow_any (x : Int) (n : Nat) (w : World) (hn : n ≤ 1048576) :
    Calls Tryf.prog 50 #[.int .u64 x, .int .i64 n] w fun e w' => (∃ a : Int, e = .returned (.int .u64 a)) ∧ w' = w := by
  go_enter Tryf.func50, Tryf.ntmps50
  go_wp2
  go_loop [0, 1, 4] (fun vx vn vp => ∃ (x p : Int) (k : Nat), k ≤ 1048576 ∧ vx = .int .u64 x ∧ vn = .int .i64 k ∧ vp = .int .u64 p) (fun _ vn _ => (intOf vn).toNat)
  case atStart => exact ⟨x, 1, n, hn, rfl, rfl, rfl⟩
  case round =>
    obtain ⟨x, p, k, hk, rfl, rfl, rfl⟩ := hrel
    by_cases h0 : 0 < k
    · go_wp2
      all_goals
        go_round
        case rel => exact ⟨_, _, k / 2, by omega, rfl, by go_num, rfl⟩
        case measure => simp [intOf]; omega
    · go_wp2
      go_ret
      exact ⟨⟨_, rfl⟩, rfl⟩

set_option maxHeartbeats 1000000 in
theorem maxPow_ten (w : World) :
    Calls Tryf.prog 48 #[.int .u64 10] w fun e w' => (∃ p n : Int, e = .returned (.tuple #[.int .u64 p, .int .i64 n]) ∧ 1 ≤ p ∧ 1 ≤ n) ∧ w' = w := by
  go_enter Tryf.func48, Tryf.ntmps48
  go_wp2
  go_loop [2, 3] (fun vp vn => ∃ p n : Int, vp = .int .u64 p ∧ vn = .int .i64 n ∧ 1 ≤ n ∧ n ≤ p ∧ p ≤ 18446744073709551610) (fun vp _ => (18446744073709551610 - intOf vp).toNat)
  case atStart => exact ⟨10, 1, rfl, rfl, by omega, by omega, by omega⟩
  case round =>
    obtain ⟨p, n, rfl, rfl, h1, h2, h3⟩ := hrel
    by_cases hle : p ≤ 1844674407370955161
    · go_wp2
      go_round
      case rel => exact ⟨p * 10, n + 1, by go_num, by go_num, by omega, by omega, by omega⟩
      case measure => simp [intOf]; omega
    · go_wp2
      go_ret2
      exact ⟨⟨p, n, rfl, by omega, h1⟩, rfl⟩
end Go.Proofs.Qxb6002384aFmt

import Derived.Test.YbulkdekgRows
import Derived.WalkKit
import Derived.Deep.QuietTactic
import Derived.BigQuiet
import Derived.Shelf.Bits.Mul64
namespace Go.Proofs.Ybulkdekg
open Go.RowKit Go.ChangeShapes

theorem ret_int {k : IntKind} {a b : Int} (h : a = b) : Ending.returned (.int k a) = .returned (.int k b) := by rw [h]
theorem gcd_step (p q : Nat) : Nat.gcd q (p % q) = Nat.gcd p q := by rw [Nat.gcd_comm p q, Nat.gcd_rec q p, Nat.gcd_comm]

set_option maxHeartbeats 400000 in
theorem gcd26 (a b : Nat) (ha : a < 4611686018427387904) (hb : b < 4611686018427387904) (w : World) :
    Calls Yba.prog 26 #[.int .i64 a, .int .i64 b] w fun e w' => e = .returned (.int .i64 (Nat.gcd a b)) ∧ ∃ n, w' = w.drewN n := by
  go_enter Yba.func26, Yba.ntmps26
  go_wp2
  go_loopw [0, 1] (fun x y wr => ∃ p q : Nat, x = .int .i64 p ∧ y = .int .i64 q ∧ p < 4611686018427387904 ∧ q < 4611686018427387904 ∧ Hid (Nat.gcd p q = Nat.gcd a b) ∧ ∃ n, wr = w.drewN n)
    (fun _ y _ => (intOf y).toNat)
  case atStart => exact ⟨a, b, rfl, rfl, ha, hb, rfl, 0, rfl⟩
  case round =>
    obtain ⟨p, q, rfl, rfl, hp, hq, hg, n, rfl⟩ := hrel
    by_cases h0 : q = 0
    · subst h0
      go_wp2
      go_ret
      exact ⟨ret_int (by have := hg.out; simp at this; rw [this]), n, rfl⟩
    · have h1 : 1 ≤ q := by omega
      have hm : p % q < q := Nat.mod_lt _ h1
      go_wp2
      go_quiet (fail)
      go_wp2
      go_roundw
      case rel => exact ⟨q, p % q, rfl, by go_num, hq, by omega, (by rw [← hg.out]; exact gcd_step p q), _, World.drewN_drewN _ _ _⟩
      case measure => simp [intOf]; omega

set_option maxHeartbeats 400000 in
theorem gcd21 (a b : Nat) (ha : a < 4611686018427387904) (hb : b < 4611686018427387904) (w : World) :
    Calls Yba.prog 21 #[.int .i64 a, .int .i64 b] w fun e w' => e = .returned (.int .i64 (Nat.gcd a b)) ∧ ∃ n, w' = w.drewN n := by
  go_enter Yba.func21, Yba.ntmps21
  go_wp2
  go_loopw [0, 1] (fun x y wr => ∃ p q : Nat, x = .int .i64 p ∧ y = .int .i64 q ∧ p < 4611686018427387904 ∧ q < 4611686018427387904 ∧ Hid (Nat.gcd p q = Nat.gcd a b) ∧ ∃ n, wr = w.drewN n)
    (fun _ y _ => (intOf y).toNat)
  case atStart => exact ⟨a, b, rfl, rfl, ha, hb, rfl, 0, rfl⟩
  case round =>
    obtain ⟨p, q, rfl, rfl, hp, hq, hg, n, rfl⟩ := hrel
    by_cases h0 : q = 0
    · subst h0
      go_wp2
      go_ret
      exact ⟨ret_int (by have := hg.out; simp at this; rw [this]), n, rfl⟩
    · have h1 : 1 ≤ q := by omega
      have hm : p % q < q := Nat.mod_lt _ h1
      go_wp2
      go_quiet (fail)
      go_wp2
      go_roundw
      case rel => exact ⟨q, p % q, rfl, by go_num, hq, by omega, (by rw [← hg.out]; exact gcd_step p q), _, World.drewN_drewN _ _ _⟩
      case measure => simp [intOf]; omega

set_option maxHeartbeats 1000000 in
theorem mul33 (x y : Nat) (hx : x < 18446744073709551616) (hy : y < 18446744073709551616) (w : World) :
    Calls Yba.prog 33 #[.int .u64 x, .int .u64 y] w fun e w' => e = .returned (.tuple #[.int .u64 ((x * y / 18446744073709551616 : Nat) : Int), .int .u64 ((x * y % 18446744073709551616 : Nat) : Int)]) ∧ w' = w := by
  obtain ⟨bd, bt, bw, hhi⟩ := Lib.mul64_hi x y hx hy
  have ba := Lib.half_mul_le (a := x / 4294967296) (b := y / 4294967296) (by omega) (by omega)
  have bb := Lib.half_mul_le (a := x / 4294967296) (b := y % 4294967296) (by omega) (by omega)
  have bc := Lib.half_mul_le (a := x % 4294967296) (b := y / 4294967296) (by omega) (by omega)
  have ba' : x / 4294967296 * (y / 4294967296) < 18446744073709551616 := by omega
  have bb' : x / 4294967296 * (y % 4294967296) < 18446744073709551616 := by omega
  have bc' : x % 4294967296 * (y / 4294967296) < 18446744073709551616 := by omega
  have bh1 : x / 4294967296 * (y / 4294967296) + (x / 4294967296 * (y % 4294967296) + x % 4294967296 * (y % 4294967296) / 4294967296) / 4294967296 < 18446744073709551616 := by omega
  have bh : x / 4294967296 * (y / 4294967296) + (x / 4294967296 * (y % 4294967296) + x % 4294967296 * (y % 4294967296) / 4294967296) / 4294967296 + ((x / 4294967296 * (y % 4294967296) + x % 4294967296 * (y % 4294967296) / 4294967296) % 4294967296 + x % 4294967296 * (y / 4294967296)) / 4294967296 < 18446744073709551616 := by omega
  go_enter Yba.func33, Yba.ntmps33
  go_wp2
  simp only [Mul64.maskN x hx, Mul64.maskN y hy, Mul64.divN, Mul64.mulN, Mul64.addN, Mul64.wrapN _ bd, Mul64.wrapN _ bb', Mul64.wrapN _ bt, Mul64.maskN _ bt, Mul64.wrapN _ bc', Mul64.wrapN _ bw, Mul64.wrapN _ ba', Mul64.wrapN _ bh1, Mul64.wrapN _ bh, Mul64.wrapM (x * y)]
  rw [hhi]
  go_ret2
  exact ⟨rfl, rfl⟩
end Go.Proofs.Ybulkdekg

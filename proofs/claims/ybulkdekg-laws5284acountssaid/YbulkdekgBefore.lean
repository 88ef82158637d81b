import Derived.Test.YbulkdekgGcd
import Derived.Test.YbulkdekgPlain
namespace Go.Proofs.Ybulkdekg
open Go.RowKit Go.ChangeShapes

theorem mul33s (x y : Int) (hx : 0 ≤ x) (hy : 0 ≤ y) (hx2 : x < 18446744073709551616) (hy2 : y < 18446744073709551616) (hxy : x * y < 18446744073709551616) (w : World) :
    Calls Yba.prog 33 #[.int .u64 x, .int .u64 y] w fun e w' => e = .returned (.tuple #[.int .u64 0, .int .u64 (x * y)]) ∧ w' = w := by
  obtain ⟨a, rfl⟩ := Int.eq_ofNat_of_zero_le hx
  obtain ⟨b, rfl⟩ := Int.eq_ofNat_of_zero_le hy
  have h : a * b < 18446744073709551616 := by
    have : ((a * b : Nat) : Int) < 18446744073709551616 := by rw [Int.natCast_mul]; exact hxy
    omega
  have e1 : a * b / 18446744073709551616 = 0 := Nat.div_eq_of_lt h
  have e2 : a * b % 18446744073709551616 = a * b := Nat.mod_eq_of_lt h
  refine (mul33 a b (by omega) (by omega) w).mono ?_
  rintro e w' ⟨rfl, rfl⟩
  rw [e1, e2, Int.natCast_mul]
  exact ⟨rfl, rfl⟩

def Tn.val (a : Tn) : Value := .agg #[.int .u32 a.node, .int .u64 a.k, .int .u64 a.wt]
def Tn.box (a : Tn) : Obj := .cells #[.int .u32 a.node, .int .u64 a.k, .int .u64 a.wt] 68

theorem cross_bd {k v : Nat} (hk : k < 2147483648) (hv : v < 2147483648) : (2 * k - 1) * v < 18446744073709551616 := by
  have : (2 * k - 1) * v ≤ 4294967296 * 2147483648 := Nat.mul_le_mul (by omega) (by omega)
  omega

theorem ret_bool {a b : Bool} (h : a = b) : Ending.returned (.bool a) = .returned (.bool b) := by rw [h]

set_option maxHeartbeats 400000 in
theorem before32 (a b : Tn) (ha : a.ok) (hb : b.ok) (w : World) :
    Calls Yba.prog 32 #[.agg #[.int .u32 a.node, .int .u64 a.k, .int .u64 a.wt], .agg #[.int .u32 b.node, .int .u64 b.k, .int .u64 b.wt]] w fun e w' => e = .returned (.bool (bef a b)) ∧ w' = (w.alloc a.box).alloc b.box := by
  obtain ⟨a0, a1, a2, a3, a4⟩ := ha
  obtain ⟨b0, b1, b2, b3, b4⟩ := hb
  have c1 := cross_bd a2 b4
  have c2 := cross_bd b2 a4
  obtain ⟨n, k, v⟩ := a
  obtain ⟨m, l, u⟩ := b
  simp only at *
  obtain ⟨p, hp⟩ : ∃ p, p = (2 * k - 1) * u := ⟨_, rfl⟩
  obtain ⟨q, hq⟩ : ∃ q, q = (2 * l - 1) * v := ⟨_, rfl⟩
  have e1 : (2 * (k : Int) - 1) * (u : Int) = (p : Int) := by rw [hp, Int.natCast_mul]; congr 1; omega
  have e2 : (2 * (l : Int) - 1) * (v : Int) = (q : Int) := by rw [hq, Int.natCast_mul]; congr 1; omega
  have HB : Hid (bef ⟨n, k, v⟩ ⟨m, l, u⟩ = (decide (p < q) || (decide (p = q) && decide (n < m)))) := by unfold Hid bef; simp only [hp, hq]
  rw [← hp] at c1
  rw [← hq] at c2
  have E1 : Hid ((2 * (k : Int) - 1) * (u : Int) = (p : Int)) := e1
  have E2 : Hid ((2 * (l : Int) - 1) * (v : Int) = (q : Int)) := e2
  clear e1 e2 hp hq
  rw [HB.out]
  go_enter Yba.func32, Yba.ntmps32
  go_wp2_with fail
  refine (mul33s _ _ (by omega) (by omega) (by omega) (by omega) (by rw [E1.out]; omega) _).mono ?_
  rintro e w' ⟨rfl, rfl⟩
  rw [E1.out]
  go_wp2_with fail
  refine (mul33s _ _ (by omega) (by omega) (by omega) (by omega) (by rw [E2.out]; omega) _).mono ?_
  rintro e w' ⟨rfl, rfl⟩
  rw [E2.out]
  by_cases hpq : p = q
  · subst hpq
    go_wp2
    go_ret
    exact ⟨ret_bool (by simp), rfl⟩
  · go_wp2
    go_ret
    exact ⟨ret_bool (by simp [hpq]), rfl⟩
end Go.Proofs.Ybulkdekg

import Derived.Test.YbulkdeliRows
import Derived.WalkKit
import Derived.WalkSpells
import Derived.WalkLawsBesides
import Derived.Deep.QuietTactic
import Derived.BigQuiet
import Derived.LaidEql
namespace Go.Proofs.Ybulkdeli
open Go.RowKit Go.ChangeShapes

structure Rc where
  s : Int
  n : Int
  f : Int
def encR (x : Rc) : List Value := [.int .i64 x.s, .int .i32 x.n, .int .i64 x.f, .int .i64 (x.f + 1)]
def Rc.box (x : Rc) : Obj := .cells #[.int .i64 x.s, .int .i32 x.n, .int .i64 x.f, .int .i64 (x.f + 1)] 29
def cmpI (x y : Int) : Int := if x < y then -1 else if y < x then 1 else 0
def cmpK (s n s' n' : Int) : Int := if s = s' then cmpI n n' else cmpI s s'
def cfR (x y : Rc) : Int := if x.s = y.s ∧ x.n = y.n then cmpI x.f y.f else cmpK x.s x.n y.s y.n
def ltR (x y : Rc) : Bool := decide (x.s < y.s ∨ x.s = y.s ∧ (x.n < y.n ∨ x.n = y.n ∧ x.f < y.f))

set_option maxHeartbeats 400000 in
theorem nan24 (x : Int) (w : World) : Calls Yba.prog 24 #[.int .i64 x] w fun e w' => e = .returned (.bool false) ∧ w' = w := by
  go_enter Yba.func24, Yba.ntmps24
  go_wp2
  go_ret
  exact ⟨rfl, rfl⟩
set_option maxHeartbeats 400000 in
theorem nan35 (x : Int) (w : World) : Calls Yba.prog 35 #[.int .i64 x] w fun e w' => e = .returned (.bool false) ∧ w' = w := by
  go_enter Yba.func35, Yba.ntmps35
  go_wp2
  go_ret
  exact ⟨rfl, rfl⟩
set_option maxHeartbeats 400000 in
theorem nan36 (x : Int) (w : World) : Calls Yba.prog 36 #[.int .i32 x] w fun e w' => e = .returned (.bool false) ∧ w' = w := by
  go_enter Yba.func36, Yba.ntmps36
  go_wp2
  go_ret
  exact ⟨rfl, rfl⟩

set_option maxHeartbeats 400000 in
theorem cmp16 (x y : Int) (w : World) : Calls Yba.prog 16 #[.int .i64 x, .int .i64 y] w fun e w' => e = .returned (.int .i64 (cmpI x y)) ∧ w' = w := by
  unfold cmpI
  rcases Int.lt_trichotomy x y with h | h | h
  · have h1 : decide (x < y) = true := by simp [h]
    rw [if_pos h]
    go_enter Yba.func16, Yba.ntmps16
    go_wp2_with (go_at_call 24; refine (nan24 _ _).mono ?_; rintro e w' ⟨rfl, rfl⟩)
    go_ret
    exact ⟨rfl, rfl⟩
  · have h1 : decide (x < y) = false := by simp; omega
    have h2 : decide (x > y) = false := by simp; omega
    rw [if_neg (by omega), if_neg (by omega)]
    go_enter Yba.func16, Yba.ntmps16
    go_wp2_with (go_at_call 24; refine (nan24 _ _).mono ?_; rintro e w' ⟨rfl, rfl⟩)
    go_ret
    exact ⟨rfl, rfl⟩
  · have h1 : decide (x < y) = false := by simp; omega
    have h2 : decide (x > y) = true := by simp; omega
    rw [if_neg (by omega), if_pos h]
    go_enter Yba.func16, Yba.ntmps16
    go_wp2_with (go_at_call 24; refine (nan24 _ _).mono ?_; rintro e w' ⟨rfl, rfl⟩)
    go_ret
    exact ⟨rfl, rfl⟩
set_option maxHeartbeats 400000 in
theorem cmp22 (x y : Int) (w : World) : Calls Yba.prog 22 #[.int .i64 x, .int .i64 y] w fun e w' => e = .returned (.int .i64 (cmpI x y)) ∧ w' = w := by
  unfold cmpI
  rcases Int.lt_trichotomy x y with h | h | h
  · have h1 : decide (x < y) = true := by simp [h]
    rw [if_pos h]
    go_enter Yba.func22, Yba.ntmps22
    go_wp2_with (go_at_call 35; refine (nan35 _ _).mono ?_; rintro e w' ⟨rfl, rfl⟩)
    go_ret
    exact ⟨rfl, rfl⟩
  · have h1 : decide (x < y) = false := by simp; omega
    have h2 : decide (x > y) = false := by simp; omega
    rw [if_neg (by omega), if_neg (by omega)]
    go_enter Yba.func22, Yba.ntmps22
    go_wp2_with (go_at_call 35; refine (nan35 _ _).mono ?_; rintro e w' ⟨rfl, rfl⟩)
    go_ret
    exact ⟨rfl, rfl⟩
  · have h1 : decide (x < y) = false := by simp; omega
    have h2 : decide (x > y) = true := by simp; omega
    rw [if_neg (by omega), if_pos h]
    go_enter Yba.func22, Yba.ntmps22
    go_wp2_with (go_at_call 35; refine (nan35 _ _).mono ?_; rintro e w' ⟨rfl, rfl⟩)
    go_ret
    exact ⟨rfl, rfl⟩
set_option maxHeartbeats 400000 in
theorem cmp23 (x y : Int) (w : World) : Calls Yba.prog 23 #[.int .i32 x, .int .i32 y] w fun e w' => e = .returned (.int .i64 (cmpI x y)) ∧ w' = w := by
  unfold cmpI
  rcases Int.lt_trichotomy x y with h | h | h
  · have h1 : decide (x < y) = true := by simp [h]
    rw [if_pos h]
    go_enter Yba.func23, Yba.ntmps23
    go_wp2_with (go_at_call 36; refine (nan36 _ _).mono ?_; rintro e w' ⟨rfl, rfl⟩)
    go_ret
    exact ⟨rfl, rfl⟩
  · have h1 : decide (x < y) = false := by simp; omega
    have h2 : decide (x > y) = false := by simp; omega
    rw [if_neg (by omega), if_neg (by omega)]
    go_enter Yba.func23, Yba.ntmps23
    go_wp2_with (go_at_call 36; refine (nan36 _ _).mono ?_; rintro e w' ⟨rfl, rfl⟩)
    go_ret
    exact ⟨rfl, rfl⟩
  · have h1 : decide (x < y) = false := by simp; omega
    have h2 : decide (x > y) = true := by simp; omega
    rw [if_neg (by omega), if_pos h]
    go_enter Yba.func23, Yba.ntmps23
    go_wp2_with (go_at_call 36; refine (nan36 _ _).mono ?_; rintro e w' ⟨rfl, rfl⟩)
    go_ret
    exact ⟨rfl, rfl⟩
theorem cmpI_zero {x y : Int} : cmpI x y = 0 ↔ x = y := by
  unfold cmpI
  split
  · omega
  · split <;> omega
theorem cell_two {w : World} {g : Nat} {t : TypeId} {v0 v1 : Value} (h : w.heap[g]? = some (.cells #[v0, v1] t (0, 0))) :
    w.cell? ⟨g, 0, none⟩ = some v0 ∧ w.cell? ⟨g, 1, none⟩ = some v1 := by
  refine ⟨?_, ?_⟩ <;> (rw [cell_of_row w g _ _ t (0, 0) h]; rfl)
theorem cell_four' {w : World} {g : Nat} {t : TypeId} {v0 v1 v2 v3 : Value} (h : w.heap[g]? = some (.cells #[v0, v1, v2, v3] t (0, 0))) :
    w.cell? ⟨g, 0, none⟩ = some v0 ∧ w.cell? ⟨g, 1, none⟩ = some v1 ∧ w.cell? ⟨g, 2, none⟩ = some v2 ∧ w.cell? ⟨g, 3, none⟩ = some v3 := by
  refine ⟨?_, ?_, ?_, ?_⟩ <;> (rw [cell_of_row w g _ _ t (0, 0) h]; rfl)
set_option maxHeartbeats 800000 in
theorem cmp15 (s n s' n' : Int) (w : World) : Calls Yba.prog 15 #[.agg #[.int .i64 s, .int .i32 n], .agg #[.int .i64 s', .int .i32 n']] w fun e w' => e = .returned (.int .i64 (cmpK s n s' n')) ∧ w' = (w.alloc (.cells #[.int .i64 s, .int .i32 n] 27)).alloc (.cells #[.int .i64 s', .int .i32 n'] 27) := by
  have hk : cmpK s n s' n' = if cmpI s s' = 0 then cmpI n n' else cmpI s s' := by unfold cmpK; simp [cmpI_zero]
  rw [hk]
  clear hk
  have c1 := fun W => cmp22 s s' W
  have c2 := fun W => cmp23 n n' W
  generalize cmpI s s' = r at c1 ⊢
  generalize cmpI n n' = q at c2 ⊢
  obtain ⟨v, hv⟩ : ∃ v, v = if r = 0 then q else r := ⟨_, rfl⟩
  rw [← hv]
  obtain ⟨W, hW⟩ : ∃ W, W = (w.alloc (.cells #[.int .i64 s, .int .i32 n] 27)).alloc (.cells #[.int .i64 s', .int .i32 n'] 27) := ⟨_, rfl⟩
  have h0 : W.heap[w.heap.size]? = some (.cells #[.int .i64 s, .int .i32 n] 27 (0, 0)) := by rw [hW, Below.heap_alloc _ _ _ (by simp), heap_alloc_new]
  have h1 : W.heap[w.heap.size + 1]? = some (.cells #[.int .i64 s', .int .i32 n'] 27 (0, 0)) := by rw [hW]; have := heap_alloc_new (w.alloc (.cells #[.int .i64 s, .int .i32 n] 27)) (.cells #[.int .i64 s', .int .i32 n'] 27); simpa using this
  obtain ⟨a0, a1⟩ := cell_two h0
  obtain ⟨b0, b1⟩ := cell_two h1
  go_enter Yba.func15, Yba.ntmps15
  go_wp2_with fail
  rw [← hW]
  have HW : Hid (W = (w.alloc (.cells #[.int .i64 s, .int .i32 n] 27)).alloc (.cells #[.int .i64 s', .int .i32 n'] 27)) := hW
  clear h0 h1 hW
  refine (c1 W).mono ?_
  rintro e w' ⟨rfl, hw'⟩
  subst hw'
  by_cases h : r = 0
  · subst h
    rw [if_pos rfl] at hv
    go_wp2_with fail
    refine (c2 _).mono ?_
    rintro e w'' ⟨rfl, hw''⟩
    subst hw''
    go_wp2
    go_ret
    exact ⟨by rw [hv]; rfl, HW⟩
  · have hr : (r == 0) = false := by rw [beq_eq_false_iff_ne]; exact h
    rw [if_neg h] at hv
    clear h
    go_wp2
    go_ret
    exact ⟨by rw [hv]; rfl, HW⟩
theorem cmpK_zero {s n s' n' : Int} : cmpK s n s' n' = 0 ↔ s = s' ∧ n = n' := by
  unfold cmpK
  split
  · rw [cmpI_zero]; simp [*]
  · rw [cmpI_zero]; simp [*]
set_option maxHeartbeats 800000 in
theorem clos14 (x y : Rc) (w : World) : Calls Yba.prog 14 #[.agg #[.int .i64 x.s, .int .i32 x.n, .int .i64 x.f, .int .i64 (x.f + 1)], .agg #[.int .i64 y.s, .int .i32 y.n, .int .i64 y.f, .int .i64 (y.f + 1)]] w fun e w' => e = .returned (.int .i64 (cfR x y)) ∧ w' = (((w.alloc x.box).alloc y.box).alloc (.cells #[.int .i64 x.s, .int .i32 x.n] 27)).alloc (.cells #[.int .i64 y.s, .int .i32 y.n] 27) := by
  have hk : cfR x y = if cmpK x.s x.n y.s y.n = 0 then cmpI x.f y.f else cmpK x.s x.n y.s y.n := by unfold cfR; simp [cmpK_zero]
  rw [hk]
  clear hk
  have c1 := fun W => cmp15 x.s x.n y.s y.n W
  have c2 := fun W => cmp16 x.f y.f W
  generalize cmpK x.s x.n y.s y.n = r at c1 ⊢
  generalize cmpI x.f y.f = q at c2 ⊢
  obtain ⟨v, hv⟩ : ∃ v, v = if r = 0 then q else r := ⟨_, rfl⟩
  rw [← hv]
  obtain ⟨W, hW⟩ : ∃ W, W = (w.alloc x.box).alloc y.box := ⟨_, rfl⟩
  have h0 : W.heap[w.heap.size]? = some x.box := by rw [hW, Below.heap_alloc _ _ _ (by simp), heap_alloc_new]
  have h1 : W.heap[w.heap.size + 1]? = some y.box := by rw [hW]; have := heap_alloc_new (w.alloc x.box) y.box; simpa using this
  have hz : w.heap.size + 2 = W.heap.size := by rw [hW]; simp
  obtain ⟨a0, a1, a2, a3⟩ := cell_four' h0
  obtain ⟨b0, b1, b2, b3⟩ := cell_four' h1
  rw [← hW]
  go_enter Yba.func14, Yba.ntmps14
  go_wp2_with fail
  rw [show (w.alloc (.cells #[.int .i64 x.s, .int .i32 x.n, .int .i64 x.f, .int .i64 (x.f + 1)] 29)).alloc (.cells #[.int .i64 y.s, .int .i32 y.n, .int .i64 y.f, .int .i64 (y.f + 1)] 29) = W from hW.symm]
  refine (c1 W).mono ?_
  rintro e w' ⟨rfl, hw'⟩
  have hb : Below W.heap.size W w' := by rw [hw']; exact ((Below.refl _ _).alloc (Nat.le_refl _) _).alloc (by simp) _
  obtain ⟨a0, a1, a2, a3⟩ := cell_four' ((hb.block _ (by omega)).trans h0)
  obtain ⟨b0, b1, b2, b3⟩ := cell_four' ((hb.block _ (by omega)).trans h1)
  have HW : Hid (w' = (W.alloc (.cells #[.int .i64 x.s, .int .i32 x.n] 27)).alloc (.cells #[.int .i64 y.s, .int .i32 y.n] 27)) := hw'
  clear h0 h1 hz hb hW hw'
  by_cases h : r = 0
  · subst h
    rw [if_pos rfl] at hv
    go_wp2_with fail
    refine (c2 _).mono ?_
    rintro e w'' ⟨rfl, hw''⟩
    subst hw''
    go_wp2
    go_ret
    exact ⟨by rw [hv]; rfl, HW⟩
  · have hr : (r == 0) = false := by rw [beq_eq_false_iff_ne]; exact h
    rw [if_neg h] at hv
    clear h
    go_wp2
    go_ret
    exact ⟨by rw [hv]; rfl, HW⟩
set_option maxHeartbeats 800000 in
theorem less6 (x y : Rc) (w : World) : Calls Yba.prog 6 #[.agg #[.int .i64 x.s, .int .i32 x.n, .int .i64 x.f, .int .i64 (x.f + 1)], .agg #[.int .i64 y.s, .int .i32 y.n, .int .i64 y.f, .int .i64 (y.f + 1)]] w fun e w' => e = .returned (.bool (ltR x y)) ∧ w' = (w.alloc x.box).alloc y.box := by
  unfold ltR
  by_cases h : x.s = y.s
  · by_cases h2 : x.n = y.n
    · have e : decide (x.s < y.s ∨ x.s = y.s ∧ (x.n < y.n ∨ x.n = y.n ∧ x.f < y.f)) = decide (x.f < y.f) := by simp [h, h2]
      rw [e]
      have d1 : (x.s == y.s) = true := by simp [h]
      have d2 : (x.n == y.n) = true := by simp [h2]
      clear h h2 e
      go_enter Yba.func6, Yba.ntmps6
      go_wp2
      go_ret
      exact ⟨rfl, rfl⟩
    · have e : decide (x.s < y.s ∨ x.s = y.s ∧ (x.n < y.n ∨ x.n = y.n ∧ x.f < y.f)) = decide (x.n < y.n) := by simp [h, h2]
      rw [e]
      have d1 : (x.s == y.s) = true := by simp [h]
      have d2 : (x.n == y.n) = false := by simp [h2]
      clear h h2 e
      go_enter Yba.func6, Yba.ntmps6
      go_wp2
      go_ret
      exact ⟨rfl, rfl⟩
  · have e : decide (x.s < y.s ∨ x.s = y.s ∧ (x.n < y.n ∨ x.n = y.n ∧ x.f < y.f)) = decide (x.s < y.s) := by simp [h]
    rw [e]
    have d1 : (x.s == y.s) = false := by simp [h]
    clear h e
    go_enter Yba.func6, Yba.ntmps6
    go_wp2
    go_ret
    exact ⟨rfl, rfl⟩
end Go.Proofs.Ybulkdeli

import Derived.Test.YbulkdeliEq29
import Derived.Sort.LotA
namespace Go.Proofs.Ybulkdeli
open Go.RowKit Go.ChangeShapes Go.Sort

theorem ltR_iff {x y : Rc} : ltR x y = true ↔ x.s < y.s ∨ x.s = y.s ∧ (x.n < y.n ∨ x.n = y.n ∧ x.f < y.f) := by unfold ltR; simp
theorem ltR_not {x y : Rc} : ltR x y = false ↔ ¬ (x.s < y.s ∨ x.s = y.s ∧ (x.n < y.n ∨ x.n = y.n ∧ x.f < y.f)) := by unfold ltR; simp
theorem swoR : SWO ltR := ⟨fun x => by rw [ltR_not]; omega, fun x y z h1 h2 => by rw [ltR_iff] at *; omega, fun x y z h1 h2 => by rw [ltR_not] at *; omega⟩
theorem totR : ∀ x y, ltR x y = false → ltR y x = false → x = y := by
  intro x y h1 h2
  rw [ltR_not] at h1 h2
  cases x
  cases y
  simp at *
  omega
/-- the one sorted row -/
def sortedR (Q : List Rc) : List Rc := Q.mergeSort fun x y => !ltR y x
theorem sortedR_of [Inhabited Rc] {d0 d : Array Rc} (hp : PermIn 0 d0.size d0 d) (hs : SortedIn ltR 0 d0.size d) : d.toList = sortedR d0.toList := sorted_unique_holds swoR totR d0 d hp hs
theorem ins_start [Inhabited Rc] {i : Nat} {d : Array Rc} (h : SortedIn ltR 0 i d) : Ins ltR 0 i i d :=
  ⟨fun p q _ hpq hq hp hne => h p q (Nat.zero_le _) hpq (by omega), fun q h1 h2 => by omega⟩
theorem arr_at [Inhabited Rc] {d : Array Rc} {i : Nat} (h : i < d.size) : d.toList[i]? = some d[i]! := by
  rw [getElem!_pos d i h]; simp [h]
theorem swp_list [Inhabited Rc] {d : Array Rc} {i j : Nat} : (swp d i j).toList = (d.toList.set i d[j]!).set j d[i]! := by simp [swp]

/-- four cells at each place of a row -/
def RH (w : World) (b : Nat) (Q : List Rc) : Prop := ∀ i x, Q[i]? = some x →
    w.cell? ⟨b, i * 4, none⟩ = some (.int .i64 x.s) ∧ w.cell? ⟨b, i * 4 + 1, none⟩ = some (.int .i32 x.n) ∧ w.cell? ⟨b, i * 4 + 2, none⟩ = some (.int .i64 x.f) ∧ w.cell? ⟨b, i * 4 + 3, none⟩ = some (.int .i64 (x.f + 1))
/-- what sortRun does -/
def SortSpec : Prop := ∀ (gs b : Nat) (v0 v1 v2 v4 v5 v6 v7 : Value) (Q : List Rc) (w : World), w.heap[gs]? = some (.cells #[v0, v1, v2, .slice (some ⟨b, 0, none⟩) Q.length Q.length, v4, v5, v6, v7] 38 (0, 0)) → RAt w b Q → Q.length ≤ 1024 →
    Calls Yba.prog 7 #[.pointer (some ⟨gs, 0, none⟩)] w fun e w' => e = .returned (.tuple #[]) ∧ RH w' b (sortedR Q) ∧ w.grownBy w' (some b)

structure It where
  s : Int
  n : Int
  t : Int
def ItAt (w : World) (a : Option Addr) (len : Nat) (its : List It) : Prop :=
  its.length = len ∧ ∀ i x, its[i]? = some x → 0 ≤ x.t ∧ x.t < 256 ∧ ∃ b off, a = some ⟨b, off, none⟩ ∧ b < w.heap.size ∧ w.cell? ⟨b, off + i * 3, none⟩ = some (.int .i64 x.s) ∧ w.cell? ⟨b, off + i * 3 + 1, none⟩ = some (.int .i32 x.n) ∧ w.cell? ⟨b, off + i * 3 + 2, none⟩ = some (.int .u8 x.t)
end Go.Proofs.Ybulkdeli

import Derived.Test.YbulkdeliCmp
import Derived.Deep.RegionWith
import Derived.RegionTactic
import Derived.Deep.RegionHeld3
import Derived.StillTactics
import Derived.Laws.Pointers
import Derived.Laws.CopyOwn
import Derived.Laws.StructEq
namespace Go.Proofs.Ybulkdeli
open Go.RowKit Go.ChangeShapes

/-! ### a row of records in memory -/
def rcells (Q : List Rc) : List Value := Q.flatMap encR
def RAt (w : World) (b : Nat) (Q : List Rc) : Prop := w.heap[b]? = some (.cells (rcells Q).toArray 29 (0, 0))

theorem rcells_cons (a : Rc) (Q : List Rc) : rcells (a :: Q) = .int .i64 a.s :: .int .i32 a.n :: .int .i64 a.f :: .int .i64 (a.f + 1) :: rcells Q := rfl
theorem rcells_snoc (Q : List Rc) (x : Rc) : rcells (Q ++ [x]) = rcells Q ++ [.int .i64 x.s, .int .i32 x.n, .int .i64 x.f, .int .i64 (x.f + 1)] := by simp [rcells, encR]
theorem rcells_len (Q : List Rc) : (rcells Q).length = Q.length * 4 := by
  induction Q with
  | nil => rfl
  | cons a Q ih => rw [rcells_cons]; simp only [List.length_cons, ih]; omega
theorem rcells_one (Q : List Rc) : ∀ v ∈ rcells Q, v.oneCell' = true := by
  intro v hv
  obtain ⟨x, _, h⟩ := List.mem_flatMap.1 hv
  simp [encR] at h
  rcases h with rfl | rfl | rfl | rfl <;> rfl
theorem rcells_at (Q : List Rc) : ∀ (i : Nat) (x : Rc), Q[i]? = some x → (rcells Q)[i * 4]? = some (.int .i64 x.s) ∧ (rcells Q)[i * 4 + 1]? = some (.int .i32 x.n) ∧ (rcells Q)[i * 4 + 2]? = some (.int .i64 x.f) ∧ (rcells Q)[i * 4 + 3]? = some (.int .i64 (x.f + 1)) := by
  induction Q with
  | nil => intro i x h; simp at h
  | cons a Q ih =>
    intro i x h
    rw [rcells_cons]
    cases i with
    | zero => simp at h; subst h; exact ⟨rfl, rfl, rfl, rfl⟩
    | succ i =>
      have h' : Q[i]? = some x := by simpa using h
      obtain ⟨p0, p1, p2, p3⟩ := ih i x h'
      have e0 : (i + 1) * 4 = i * 4 + 4 := by omega
      rw [e0]
      exact ⟨p0, p1, p2, p3⟩
theorem rcells_set (Q : List Rc) : ∀ (i : Nat) (x : Rc), i < Q.length → ((((rcells Q).set (i * 4) (.int .i64 x.s)).set (i * 4 + 1) (.int .i32 x.n)).set (i * 4 + 2) (.int .i64 x.f)).set (i * 4 + 3) (.int .i64 (x.f + 1)) = rcells (Q.set i x) := by
  induction Q with
  | nil => intro i x h; simp at h
  | cons a Q ih =>
    intro i x h
    rw [rcells_cons]
    cases i with
    | zero => rfl
    | succ i =>
      have q := ih i x (by simpa using h)
      have e0 : (i + 1) * 4 = i * 4 + 4 := by omega
      rw [e0]
      simp only [List.set_cons_succ]
      rw [q]
      rfl
section
variable {w w' : World} {b : Nat} {Q : List Rc}
theorem RAt.cells (h : RAt w b Q) {i : Nat} {x : Rc} (hi : Q[i]? = some x) :
    w.cell? ⟨b, i * 4, none⟩ = some (.int .i64 x.s) ∧ w.cell? ⟨b, i * 4 + 1, none⟩ = some (.int .i32 x.n) ∧ w.cell? ⟨b, i * 4 + 2, none⟩ = some (.int .i64 x.f) ∧ w.cell? ⟨b, i * 4 + 3, none⟩ = some (.int .i64 (x.f + 1)) := by
  obtain ⟨p0, p1, p2, p3⟩ := rcells_at Q i x hi
  refine ⟨?_, ?_, ?_, ?_⟩
  · rw [cell_of_row w b _ _ 29 (0, 0) h]; simpa using p0
  · rw [cell_of_row w b _ _ 29 (0, 0) h]; simpa using p1
  · rw [cell_of_row w b _ _ 29 (0, 0) h]; simpa using p2
  · rw [cell_of_row w b _ _ 29 (0, 0) h]; simpa using p3
theorem RAt.free (h : RAt w b Q) : ∀ o, w.frozen? ⟨b, o, none⟩ = false := by
  intro o
  simp only [World.frozen?]
  rw [show w.heap[b]? = _ from h]
  simp
theorem RAt.lt (h : RAt w b Q) : b < w.heap.size := (Array.getElem?_eq_some_iff.1 h).1
theorem RAt.of_block (h : RAt w b Q) (e : w'.heap[b]? = w.heap[b]?) : RAt w' b Q := e.trans h
theorem RAt.drew (h : RAt w b Q) : RAt w.drew b Q := h
theorem RAt.put (h : RAt w b Q) {i : Nat} (hi : i < Q.length) (x : Rc) :
    RAt ((((w.setCell ⟨b, i * 4, none⟩ (.int .i64 x.s)).setCell ⟨b, i * 4 + 1, none⟩ (.int .i32 x.n)).setCell ⟨b, i * 4 + 2, none⟩ (.int .i64 x.f)).setCell ⟨b, i * 4 + 3, none⟩ (.int .i64 (x.f + 1))) b (Q.set i x) := by
  have h1 := heap_setCell_same w b (i * 4) _ 29 (.int .i64 x.s) h
  have h2 := heap_setCell_same _ b (i * 4 + 1) _ 29 (.int .i32 x.n) h1
  have h3 := heap_setCell_same _ b (i * 4 + 2) _ 29 (.int .i64 x.f) h2
  have h4 := heap_setCell_same _ b (i * 4 + 3) _ 29 (.int .i64 (x.f + 1)) h3
  unfold RAt
  rw [h4, ← rcells_set Q i x hi]
  simp
theorem RAt.grown {row : Option Nat} (h : RAt w b Q) (hg : w.grownBy w' row) (hne : some b ≠ row) : RAt w' b Q := h.of_block (hg.block b h.lt hne)
end

/-! ### how a world has grown -/
theorem grown_trans {w w1 w2 : World} {row : Option Nat} (h : w.grownBy w1 row) (k : w1.grownBy w2 row) : w.grownBy w2 row :=
  ⟨k.os.trans h.os, k.tape.trans h.tape, k.output.trans h.output, Nat.le_trans h.size k.size, fun i hi hne => (k.block i (Nat.lt_of_lt_of_le hi h.size) hne).trans (h.block i hi hne)⟩
theorem grown_drew (w : World) (row : Option Nat) : w.grownBy w.drew row := ⟨rfl, rfl, rfl, Nat.le_refl _, fun _ _ _ => rfl⟩
theorem grown_drewN (w : World) (n : Nat) (row : Option Nat) : w.grownBy (w.drewN n) row := ⟨rfl, rfl, rfl, Nat.le_refl _, fun _ _ _ => rfl⟩
theorem grown_setCell (w : World) (b o : Nat) (v : Value) : w.grownBy (w.setCell ⟨b, o, none⟩ v) (some b) :=
  ⟨rfl, rfl, rfl, by simp [World.setCell], fun k _ hne => heap_setCell_other w _ k v (fun e => hne (by simp [e]))⟩
theorem grown_alloc (w : World) (o : Obj) (row : Option Nat) : w.grownBy (w.alloc o) row := World.grownBy_alloc w o row
theorem grown_put4 (w : World) (b i j k l : Nat) (u v x y : Value) : w.grownBy ((((w.setCell ⟨b, i, none⟩ u).setCell ⟨b, j, none⟩ v).setCell ⟨b, k, none⟩ x).setCell ⟨b, l, none⟩ y) (some b) :=
  grown_trans (grown_trans (grown_trans (grown_setCell _ _ _ _) (grown_setCell _ _ _ _)) (grown_setCell _ _ _ _)) (grown_setCell _ _ _ _)
theorem grown_setRow (w : World) (g : Nat) (cs : Array Value) : w.grownBy (w.setRow g cs) (some g) :=
  ⟨rfl, rfl, rfl, by simp [World.setRow], fun k _ hne => setRow_other w g k cs (fun e => hne (by simp [e]))⟩

/-! ### 'copy' over a whole row whose elements are k cells -/
theorem run_copy_full {P : Program} (w : World) (dT sT ty elem : TypeId) (g n cap : Nat) (a : Addr) (sCap : Nat) (cur : Array Value) (t : TypeId) (cs : List Value) (k : Nat)
    (hu : P.underlying dT = some (.slice elem)) (hs : (P.info? elem).map (·.size) = some k)
    (hg : w.heap[g]? = some (.cells cur t (0, 0))) (hn : cs.length = n * k)
    (hsrc : ∀ j v, cs[j]? = some v → w.cell? (a.add j) = some v) (hfit : cur.size = n * k) (h1 : ∀ v ∈ cs, v.oneCell' = true) :
    (Builtin.copy_ #[dT, sT] ty #[.slice (some ⟨g, 0, none⟩) n cap, .slice (some a) n sCap]).run P w = .ok (goInt n) (w.setRow g cs.toArray) := by
  have hl := run_loadCells_list (P := P) w a cs hsrc
  have hst := run_storeCells_at P g 0 t cs 0 cur w hg (by simpa using by omega) h1
  have hd : cur.toList.drop cs.length = [] := List.drop_eq_nil_of_le (by rw [Array.length_toList]; omega)
  simp [hd] at hst
  cases hq : P.info? elem with
  | none => simp [hq] at hs
  | some i =>
    have hi : i.size = k := by simpa [hq] using hs
    simp [Builtin.copy_, run_underlying hu, Builtin.lenOf, Builtin.firstCells, sizeOf, typeInfo, hq, hi, ← hn, hl, hst]
theorem wpList_copy_full {P : Program} {w : World} {ops : Array Oper} {rest : List Oper} {o : Oper} {a : Act} {Q : Exit → Act → World → Prop} (hgd : o.guard = none) (d s : Operand) (dT sT : TypeId)
    (ho : o.op = .call { callee := .builtin .copy, args := #[d, s], argTypes := #[dT, sT] }) (elem : TypeId) (k : Nat) (hu : P.underlying dT = some (.slice elem)) (hsz : (P.info? elem).map (·.size) = some k)
    (g n cap : Nat) (ad : Addr) (sCap : Nat) (hd : a.eval d = .slice (some ⟨g, 0, none⟩) n cap) (hs : a.eval s = .slice (some ad) n sCap)
    (cur : Array Value) (t : TypeId) (hg : w.heap[g]? = some (.cells cur t (0, 0))) (cs : List Value) (hn : cs.length = n * k)
    (hsrc : ∀ j v, cs[j]? = some v → w.cell? (ad.add j) = some v) (hfit : cur.size = n * k) (h1 : ∀ v ∈ cs, v.oneCell' = true)
    (h : wpList P ops Q rest (a.put o.dst (goInt n)) (w.setRow g cs.toArray)) : wpList P ops Q (o :: rest) a w := by
  refine wpList_plain hgd fun K hK => ?_
  have hrun := run_copy_full (P := P) w dT sT o.type elem g n cap ad sCap cur t cs k hu hsz hg hn hsrc hfit h1
  unfold Oper.wp
  simp [execOp, ho, resolve, invoke, builtin, hd, hs, hrun, Result.andThen]
  exact hK _ _ h

theorem RAt_of_own {w : World} {b base n : Nat} {Q : List Rc} (h : w.ownsRow base 29 4 (.slice (some ⟨b, 0, none⟩) n n) n (rcells Q)) : RAt w b Q ∧ base ≤ b ∧ Q.length = n := by
  have hl := h.1
  rw [rcells_len] at hl
  rcases h.2 with ⟨h', _⟩ | ⟨g', cap', cur, h', hb, hg, _, _, hcs, htake⟩
  · simp at h'
  · simp only [Value.slice.injEq, Option.some.injEq, Addr.mk.injEq, and_true, true_and] at h'
    obtain ⟨rfl, rfl⟩ := h'
    refine ⟨?_, hb, by omega⟩
    unfold RAt
    rw [hg, ← htake, List.take_of_length_le (by rw [Array.length_toList, hcs]; exact Nat.le_refl _)]
theorem own_block {w : World} {b base n cap : Nat} {t : TypeId} {k : Nat} {cs : List Value} (h : w.ownsRow base t k (.slice (some ⟨b, 0, none⟩) n cap) n cs) : ∃ cur : Array Value, w.heap[b]? = some (.cells cur t (0, 0)) ∧ cur.size = cap * k ∧ base ≤ b := by
  rcases h.2 with ⟨h', _⟩ | ⟨g', cap', cur, h', hb, hg, _, _, hcs, htake⟩
  · simp at h'
  · simp only [Value.slice.injEq, Option.some.injEq, Addr.mk.injEq, and_true, true_and] at h'
    obtain ⟨rfl, rfl⟩ := h'
    exact ⟨cur, hg, hcs, hb⟩
theorem four_new (w : World) (t : TypeId) (a b c d : Value) : ∀ j u, [a, b, c, d][j]? = some u → (w.alloc (.cells #[a, b, c, d] t)).cell? ((⟨w.heap.size, 0, none⟩ : Addr).add j) = some u := by
  intro j u h
  rw [Addr.add_lit, cell_of_row _ w.heap.size _ #[a, b, c, d] t (0, 0) (heap_alloc_new w _)]
  simpa using h
theorem four_one (a b c d : Value) (h1 : a.oneCell' = true) (h2 : b.oneCell' = true) (h3 : c.oneCell' = true) (h4 : d.oneCell' = true) : ∀ u ∈ [a, b, c, d], u.oneCell' = true := by
  intro u hu
  simp at hu
  rcases hu with rfl | rfl | rfl | rfl <;> assumption
theorem app_rel {w : World} {B n b : Nat} {Q : List Rc} {x : Rc} (h : w.ownsRow B 29 4 (.slice (some ⟨b, 0, none⟩) (Q.length + 1) n) (Q.length + 1) (rcells Q ++ [.int .i64 x.s, .int .i32 x.n, .int .i64 x.f, .int .i64 (x.f + 1)])) :
    Value.slice (some ⟨b, 0, none⟩) (Q.length + 1) n = .slice (some ⟨b, 0, none⟩) (Q ++ [x]).length n ∧ w.ownsRow B 29 4 (.slice (some ⟨b, 0, none⟩) (Q ++ [x]).length n) (Q ++ [x]).length (rcells (Q ++ [x])) := by
  have e : (Q ++ [x]).length = Q.length + 1 := by simp
  rw [e, rcells_snoc]
  exact ⟨rfl, h⟩
theorem Yba.info29 : (Yba.prog.info? 29).map (fun i => (i.zero, i.size, i.bytes)) = some (some (.agg #[.int .i64 0, .int .i32 0, .int .i64 0, .int .i64 0]), 4, 32) := by kernel_rfl
end Go.Proofs.Ybulkdeli

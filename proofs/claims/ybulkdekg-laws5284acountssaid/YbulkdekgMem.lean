import Derived.Test.YbulkdekgSift
namespace Go.Proofs.Ybulkdekg
open Go.RowKit Go.ChangeShapes

/-! ### a row of numbers in a block of its own -/
def IAt (w : World) (b : Nat) (t : TypeId) (k : IntKind) (xs : List Int) : Prop := w.heap[b]? = some (.cells (xs.map (Value.int k)).toArray t (0, 0))
section
variable {w : World} {b : Nat} {t : TypeId} {k : IntKind} {xs : List Int}
theorem IAt.cell (h : IAt w b t k xs) {i : Nat} {x : Int} (hx : xs[i]? = some x) : w.cell? ⟨b, i, none⟩ = some (.int k x) := by
  rw [cell_of_row w b _ _ t (0, 0) h]; simp [hx]
theorem IAt.free (h : IAt w b t k xs) : ∀ o, w.frozen? ⟨b, o, none⟩ = false := by
  intro o
  simp only [World.frozen?]
  rw [show w.heap[b]? = _ from h]
  simp
theorem IAt.lt (h : IAt w b t k xs) : b < w.heap.size := (Array.getElem?_eq_some_iff.1 h).1
theorem IAt.of_block {w' : World} (h : IAt w b t k xs) (e : w'.heap[b]? = w.heap[b]?) : IAt w' b t k xs := e.trans h
theorem IAt.drew (h : IAt w b t k xs) : IAt w.drew b t k xs := h
theorem IAt.drewN (h : IAt w b t k xs) (n : Nat) : IAt (w.drewN n) b t k xs := h
theorem IAt.put (h : IAt w b t k xs) (i : Nat) (x : Int) : IAt (w.setCell ⟨b, i, none⟩ (.int k x)) b t k (xs.set i x) := by
  have h1 := heap_setCell_same w b i _ t (.int k x) h
  unfold IAt
  rw [h1, List.map_set]
  simp
theorem IAt.grown {w' : World} {row : Option Nat} (h : IAt w b t k xs) (hg : w.grownBy w' row) (hne : some b ≠ row) : IAt w' b t k xs := h.of_block (hg.block b h.lt hne)
theorem IAt.below {w' : World} {B : Nat} (h : IAt w b t k xs) (hg : Below B w w') (hb : b < B) : IAt w' b t k xs := h.of_block (hg.block b hb)
theorem IAt.setCell (h : IAt w b t k xs) {c : Nat} (hne : b ≠ c) (o : Nat) (v : Value) : IAt (w.setCell ⟨c, o, none⟩ v) b t k xs := h.of_block (heap_setCell_other w _ b v hne)
end
section
variable {w : World} {b : Nat} {Q : List Tn} {rest : List Value}
theorem QAt.grown {w' : World} {row : Option Nat} (h : QAt w b Q rest) (hg : w.grownBy w' row) (hne : some b ≠ row) : QAt w' b Q rest := h.of_block (hg.block b h.lt hne)
theorem QAt.setCell (h : QAt w b Q rest) {c : Nat} (hne : b ≠ c) (o : Nat) (v : Value) : QAt (w.setCell ⟨c, o, none⟩ v) b Q rest := h.of_block (heap_setCell_other w _ b v hne)
end

/-- what 'make([]T, n)' of numbers leaves -/
theorem made_row {w : World} {base b n : Nat} {t : TypeId} {k : IntKind} (h : w.ownsRow base t 1 (.slice (some ⟨b, 0, none⟩) n n) n (madeCells (Value.int k 0).cells (n * 1)).toList) : IAt w b t k (List.replicate n 0) := by
  rcases h.2 with ⟨h', _⟩ | ⟨g', cap', cur, h', _, hg, _, _, hcs, htake⟩
  · simp at h'
  · simp only [Value.slice.injEq, Option.some.injEq, Addr.mk.injEq, and_true, true_and] at h'
    obtain ⟨rfl, rfl⟩ := h'
    unfold IAt
    rw [hg]
    have e1 : cur.toList.take (n * 1) = cur.toList := List.take_of_length_le (by rw [Array.length_toList, hcs]; exact Nat.le_refl _)
    have e2 : (Value.int k 0).cells = #[Value.int k 0] := rfl
    rw [e1, e2, toList_madeCells_one, Nat.mul_one] at htake
    have : cur = ((List.replicate n (0 : Int)).map (Value.int k)).toArray := by
      apply Array.toList_inj.1
      rw [htake]
      simp
    rw [this]

theorem own_of_QAt {w : World} {b cap base : Nat} {Q : List Tn} {rest : List Value} (h : QAt w b Q rest) (hl : (tcells Q ++ rest).length = cap * 3) (hc : Q.length ≤ cap) (hm : cap ≤ maxLen) (hb : base ≤ b) :
    w.ownsRow base 68 3 (.slice (some ⟨b, 0, none⟩) Q.length cap) Q.length (tcells Q) :=
  ⟨tcells_len Q, .inr ⟨b, cap, _, rfl, hb, h, hc, hm, by simpa using hl, by simp [← tcells_len Q]⟩⟩
theorem QAt_of_own {w : World} {b cap base n : Nat} {Q : List Tn} (h : w.ownsRow base 68 3 (.slice (some ⟨b, 0, none⟩) n cap) n (tcells Q)) :
    ∃ rest, QAt w b Q rest ∧ (tcells Q ++ rest).length = cap * 3 ∧ base ≤ b ∧ Q.length = n := by
  have hl := h.1
  rw [tcells_len] at hl
  rcases h.2 with ⟨h', _⟩ | ⟨g', cap', cur, h', hb, hg, _, _, hcs, htake⟩
  · simp at h'
  · simp only [Value.slice.injEq, Option.some.injEq, Addr.mk.injEq, and_true, true_and] at h'
    obtain ⟨rfl, rfl⟩ := h'
    refine ⟨cur.toList.drop (n * 3), ?_, ?_, hb, by omega⟩
    · unfold QAt
      rw [hg, ← htake, List.take_append_drop]
    · rw [← htake, List.take_append_drop, Array.length_toList, hcs]

theorem Yba.info3 : (Yba.prog.info? 3).map (fun i => (i.zero, i.size, i.bytes)) = some (some (.int .i64 0), 1, 8) := by kernel_rfl
theorem Yba.info68 : (Yba.prog.info? 68).map (fun i => (i.zero, i.size, i.bytes)) = some (some (.agg #[.int .u32 0, .int .u64 0, .int .u64 0]), 3, 24) := by kernel_rfl
theorem Yba.info47 : (Yba.prog.info? 47).map (fun i => (i.zero, i.size, i.bytes)) = some (some (.int .u32 0), 1, 4) := by kernel_rfl
theorem Yba.info36 : (Yba.prog.info? 36).map (fun i => (i.zero, i.size, i.bytes)) = some (some (.int .u64 0), 1, 8) := by kernel_rfl
end Go.Proofs.Ybulkdekg

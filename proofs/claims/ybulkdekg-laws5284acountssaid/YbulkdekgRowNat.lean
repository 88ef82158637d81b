import Derived.Test.YbulkdekgPeriod
import Derived.OpenShut
namespace Go.Proofs.Ybulkdekg
open Go.RowKit Go.ChangeShapes

/-- a row of bytes that came in, not empty: its elements as natural numbers -/
theorem row_nat {w : World} {x : Addr} {zs : List Int} (len : Nat) (hpos : 0 < len) (hl : len ≤ zs.length) (hc : ∀ i, i < zs.length → w.cell? (x.add i) = some (.int .u8 (zs.getD i 0))) (hw : ∀ n ∈ zs, (Lit.int .u8 n).wf = true) :
    ∃ (b off : Nat) (us : List Nat), x = ⟨b, off, none⟩ ∧ us.length = len ∧ (∀ u ∈ us, u < 256) ∧ (∀ (k u : Nat), us[k]? = some u → w.cell? ⟨b, off + k, none⟩ = some (.int .u8 u)) ∧ b < w.heap.size := by
  obtain ⟨b, off, spot⟩ := x
  have hspot : spot = none := by simpa [Addr.add] using World.cell?_spot (hc 0 (by omega))
  subst hspot
  have hpos' : ∀ z ∈ zs, 0 ≤ z ∧ z ≤ 255 := fun z hz => bounds_u8 (hw z hz)
  refine ⟨b, off, (zs.take len).map Int.toNat, rfl, by simp; omega, fun u hu => ?_, fun k u hu => ?_, ?_⟩
  · obtain ⟨z, hz, rfl⟩ := List.mem_map.1 hu
    have := hpos' z (List.mem_of_mem_take hz)
    omega
  · have hk : k < len := by have := (List.getElem?_eq_some_iff.1 hu).1; simp at this; omega
    have h1 := hc k (by omega)
    rw [Addr.add_lit] at h1
    rw [h1]
    obtain ⟨z, hz⟩ : ∃ z, zs[k]? = some z := ⟨_, List.getElem?_eq_getElem (by omega)⟩
    have h2 := hpos' z (List.mem_of_getElem? hz)
    simp [hk, hz] at hu
    subst hu
    rw [List.getD_eq_getElem?_getD, hz]
    simp; omega
  · exact World.block_lt_of_cell? w _ (hc 0 (by omega))
end Go.Proofs.Ybulkdekg

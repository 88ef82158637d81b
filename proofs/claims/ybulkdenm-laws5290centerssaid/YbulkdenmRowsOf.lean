import Derived.Test.YbulkdenmSeriesPlain
import Derived.SliceStrings
import Derived.ProofKit
import Derived.OpenShut
namespace Go.Proofs.Ybulkdenm
open Go.ChangeShapes Go.WideShapes Go.ChangeAt Go.RowKit

theorem srow_nil (w : World) (a : Option Addr) : SRow w a 0 [] := ⟨rfl, fun i x h => by simp at h⟩
theorem irow_nil (w : World) (a : Option Addr) : IRow w a 0 [] := ⟨rfl, fun i x h => by simp at h⟩
theorem opened_strings {H : Type} {enc : TypeId × Value → H} {w : World} {fuel : Nat} {a : Option Addr} {n cap : Nat} {x : DataW H × List MemPlace} (h : DataW.trod enc Yba.prog w 0 (fun _ => true) true fuel 23 (Value.slice a n cap).cells.toList = some x) :
    (∃ ss, SRow w a n ss) ∧ n ≤ 9223372036854775807 := by
  rcases open_strings Yba.underlying23 Yba.underlying9 (by kernel_rfl) h with ⟨hcs, _⟩ | ⟨ad, len, cap', ss, hcs, _, hl, hm, hlen, _, hcell, hsz⟩
  · simp [Value.cells] at hcs
    obtain ⟨rfl, rfl, rfl⟩ := hcs
    exact ⟨⟨[], srow_nil _ _⟩, by omega⟩
  · simp [Value.cells] at hcs
    obtain ⟨rfl, rfl, rfl⟩ := hcs
    simp only [if_true] at hlen
    refine ⟨?_, by unfold maxLen at hm; omega⟩
    rcases Nat.eq_zero_or_pos n with h0 | hpos
    · subst h0; exact ⟨[], srow_nil _ _⟩
    obtain ⟨b, off, spot⟩ := ad
    have hspot : spot = none := by simpa [Addr.add] using World.cell?_spot (hcell 0 (by omega))
    subst hspot
    refine ⟨ss.take n, by rw [List.length_take]; omega, fun i s hi => ?_⟩
    have hlt : i < n := by have := (List.getElem?_eq_some_iff.1 hi).1; rw [List.length_take] at this; omega
    have hi' : ss[i]? = some s := by rw [List.getElem?_take] at hi; simpa [hlt] using hi
    have hc := hcell i (by omega)
    rw [Addr.add_lit, List.getD_eq_getElem?_getD, hi'] at hc
    exact ⟨hsz s (List.mem_of_getElem? hi'), b, off, rfl, World.block_lt_of_cell? w _ hc, hc⟩
theorem opened_ints {H : Type} {enc : TypeId × Value → H} {w : World} {fuel : Nat} {a : Option Addr} {n cap : Nat} {x : DataW H × List MemPlace} (h : DataW.trod enc Yba.prog w 0 (fun _ => true) true fuel 22 (Value.slice a n cap).cells.toList = some x) :
    (∃ zs, IRow w a n zs) ∧ n ≤ 9223372036854775807 := by
  rcases open_ints Yba.underlying22 Yba.underlying2 (by kernel_rfl) h with ⟨hcs, _⟩ | ⟨ad, len, cap', zs, hcs, _, hl, hm, hlen, _, hcell, hwz⟩
  · simp [Value.cells] at hcs
    obtain ⟨rfl, rfl, rfl⟩ := hcs
    exact ⟨⟨[], irow_nil _ _⟩, by omega⟩
  · simp [Value.cells] at hcs
    obtain ⟨rfl, rfl, rfl⟩ := hcs
    simp only [if_true] at hlen
    refine ⟨?_, by unfold maxLen at hm; omega⟩
    rcases Nat.eq_zero_or_pos n with h0 | hpos
    · subst h0; exact ⟨[], irow_nil _ _⟩
    obtain ⟨b, off, spot⟩ := ad
    have hspot : spot = none := by simpa [Addr.add] using World.cell?_spot (hcell 0 (by omega))
    subst hspot
    refine ⟨zs.take n, by rw [List.length_take]; omega, fun i s hi => ?_⟩
    have hlt : i < n := by have := (List.getElem?_eq_some_iff.1 hi).1; rw [List.length_take] at this; omega
    have hi' : zs[i]? = some s := by rw [List.getElem?_take] at hi; simpa [hlt] using hi
    have hc := hcell i (by omega)
    rw [Addr.add_lit, List.getD_eq_getElem?_getD, hi'] at hc
    exact ⟨b, off, rfl, World.block_lt_of_cell? w _ hc, hc⟩
end Go.Proofs.Ybulkdenm

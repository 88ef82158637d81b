import Derived.Test.YbulkdeliOrderPlain
import Derived.Test.YbulkdeliShelf
namespace Go.Proofs.Ybulkdeli
open Go.RowKit Go.ChangeShapes Go.Shelf Go.Lib Go.Sort

theorem ltR_of : ltOf cfR = ltR := by
  funext x y
  unfold ltOf ltR cfR cmpK cmpI
  rw [decide_eq_decide]
  by_cases h1 : x.s = y.s
  · by_cases h2 : x.n = y.n
    · simp only [h1, h2, and_self, if_true]
      by_cases h3 : x.f < y.f
      · simp [h3]
      · by_cases h4 : y.f < x.f <;> simp [h3, h4]
    · simp only [h1, h2, and_false, if_false, if_true]
      by_cases h3 : x.n < y.n
      · simp [h3]
      · by_cases h4 : y.n < x.n <;> simp [h3, h4]
  · simp only [h1, false_and, if_false]
    by_cases h3 : x.s < y.s
    · simp [h3]
    · by_cases h4 : y.s < x.s <;> simp [h3, h4]
theorem lays14 [Inhabited Rc] (blk off size : Nat) (w : World) : CmpLays Yba.prog 14 #[] encR 4 cfR blk off size w :=
  fun _ _ _ _ x y => (clos14 x y _).mono fun _ _ ⟨he, hw⟩ => ⟨he, 0, #[x.box] ++ #[y.box] ++ #[.cells #[.int .i64 x.s, .int .i32 x.n] 27] ++ #[.cells #[.int .i64 y.s, .int .i32 y.n] 27], hw.trans (by rw [alloc_eq_grow, alloc_eq_grow, alloc_eq_grow, alloc_eq_grow, grow_grow, grow_grow, grow_grow]; rfl)⟩
theorem flatR [Inhabited Rc] (d : Array Rc) : flatK encR 4 d = (rcells d.toList).toArray := by
  refine ext_get! (by simp [rcells_len]) fun t ht => ?_
  have ht' : t < d.size * 4 := by simpa using ht
  rw [get_flatK _ _ _ _ ht']
  have hi : t / 4 < d.size := by omega
  obtain ⟨p0, p1, p2, p3⟩ := rcells_at d.toList (t / 4) _ (arr_at hi)
  have hm : t = t / 4 * 4 + t % 4 := by omega
  have key : (rcells d.toList)[t]? = some (encR d[t / 4]!)[t % 4]! := by
    have h4 : t % 4 < 4 := Nat.mod_lt _ (by omega)
    conv => lhs; rw [hm]
    match h : t % 4, h4 with
    | 0, _ => exact p0
    | 1, _ => exact p1
    | 2, _ => exact p2
    | 3, _ => exact p3
  have k2 : (rcells d.toList)[t]! = (encR d[t / 4]!)[t % 4]! := by
    rw [List.getElem!_eq_getElem?_getD, key]; rfl
  rw [← k2]
  simp
theorem holdsR [Inhabited Rc] {w : World} {b : Nat} {d : Array Rc} (h : RAt w b d.toList) : HoldsK encR 4 w b 0 d := by
  intro j hj
  rw [flatR] at hj ⊢
  have hj' : j < (rcells d.toList).length := by simpa using hj
  refine ⟨?_, by rw [Nat.zero_add]; exact h.free _⟩
  rw [Nat.zero_add, cell_of_row w b _ _ 29 (0, 0) h]
  simp [hj']
theorem RH_of [Inhabited Rc] {w : World} {b : Nat} {d : Array Rc} (h : HoldsK encR 4 w b 0 d) : RH w b d.toList := by
  intro i x hx
  have hi : i < d.size := by have := (List.getElem?_eq_some_iff.1 hx).1; simpa using this
  have hd : d[i]! = x := by rw [arr_at hi] at hx; simpa using hx
  have c := fun c hc => (h.cell (i := i) (c := c) hi hc).1
  simp only [hd, Nat.zero_add] at c
  exact ⟨c 0 (by omega), c 1 (by omega), c 2 (by omega), c 3 (by omega)⟩
theorem grown_sorted [Inhabited Rc] {w : World} {b n : Nat} {os : Array Obj} (d : Array Rc) : w.grownBy (sortWorldK encR 4 w b 0 n d os) (some b) := by
  unfold sortWorldK putRowK
  refine ⟨rfl, rfl, rfl, by simp, fun k hk hne => ?_⟩
  rw [heap_grow_old _ _ (by simpa using hk)]
  have : b ≠ k := fun e => hne (by rw [e])
  simp [putRow, mapBlock, Sort.ahead, Array.getElem?_modify, this]
set_option maxHeartbeats 1000000 in
theorem sort7 : SortSpec := by
  haveI : Inhabited Rc := ⟨⟨0, 0, 0⟩⟩
  intro gs b v0 v1 v2 v4 v5 v6 v7 Q w hbox hR hn
  have eg : ∀ args w, (callFunc 14 args).run Yba.prog w = .ok (.enter 14 args) w := enters_of Yba.func14 (by kernel_rfl) rfl
  have hH : HoldsK encR 4 w b 0 Q.toArray := holdsR (d := Q.toArray) (by simpa using hR)
  have hcon := AnyQ.slices_SortFunc Yba.sortR 4 Yba.isAgg29 Yba.sizeOf29 encR (fun _ => rfl) (fun x v hv => by simp [encR] at hv; rcases hv with rfl | rfl | rfl | rfl <;> rfl) cfR (by rw [ltR_of]; exact swoR) 14 #[] b 0 Q.toArray.size Q.toArray w eg (lays14 b 0 _ w) hH hR.lt (by simp; omega)
  change Calls Yba.prog 13 _ _ _ at hcon
  rw [ltR_of] at hcon
  simp only [List.size_toArray] at hcon
  have c3 : w.cell? ⟨gs, 3, none⟩ = some (.slice (some ⟨b, 0, none⟩) Q.length Q.length) := by rw [cell_of_row w gs _ _ 38 (0, 0) hbox]; rfl
  have HR : Hid (HoldsK encR 4 w b 0 Q.toArray) := hH
  have hlt := hR.lt
  clear hH hR hbox
  go_enter Yba.func7, Yba.ntmps7
  go_wp2_with (go_at_call 13; refine hcon.mono ?_; rintro e w' ⟨rfl, d', n, os, hp, hs, rfl⟩)
  go_end0
  refine ⟨rfl, ?_, grown_sorted _⟩
  have hsz : d'.size = Q.toArray.size := hp.1
  have e : d'.toList = sortedR Q := by have := sortedR_of (d0 := Q.toArray) (by simpa using hp) (by simpa using hs); simpa using this
  rw [← e]
  exact RH_of (holdsK_sortWorldK encR 4 w b 0 n Q.toArray d' os hlt HR.out hsz)
end Go.Proofs.Ybulkdeli

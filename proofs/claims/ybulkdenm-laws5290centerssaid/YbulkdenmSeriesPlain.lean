import Derived.Test.YbulkdenmAdd
namespace Go.Proofs.Ybulkdenm
open Go.RowKit Go.ChangeShapes Go.Maps

theorem ptr_neq_same {P : Program} (w : World) {t te : TypeId} {j : TypeInfo} (a : Addr) (hp : P.underlying t = some (.pointer te)) (hte : P.info? te = some j) (hsz : j.size ≠ 0) :
    (binOp .neq t (.pointer (some a)) (.pointer (some a))).run P w = .ok (.bool false) w := by
  have h : ∀ d : Nat, (Op.equalIn (d + 1) t (.pointer (some a)) (.pointer (some a))).run P w = .ok true w := fun d => by
    simp [Op.equalIn, run_underlying hp, sizeOf, typeInfo, hte, hsz, run_sameAddr_same w]
  simp only [binOp]
  simp [Op.equal, Op.maxDepth, h 9999]
theorem ptr_eql_same {P : Program} (w : World) {t te : TypeId} {j : TypeInfo} (a : Addr) (hp : P.underlying t = some (.pointer te)) (hte : P.info? te = some j) (hsz : j.size ≠ 0) :
    (binOp .eql t (.pointer (some a)) (.pointer (some a))).run P w = .ok (.bool true) w := by
  have h : ∀ d : Nat, (Op.equalIn (d + 1) t (.pointer (some a)) (.pointer (some a))).run P w = .ok true w := fun d => by
    simp [Op.equalIn, run_underlying hp, sizeOf, typeInfo, hte, hsz, run_sameAddr_same w]
  simp only [binOp]
  simp [Op.equal, Op.maxDepth, h 9999]
theorem size53 : (Yba.prog.info? 53).map (fun i => decide (i.size ≠ 0)) = some true := by kernel_rfl
theorem size65 : (Yba.prog.info? 65).map (fun i => decide (i.size ≠ 0)) = some true := by kernel_rfl
theorem info_pos {P : Program} {t : TypeId} (h : (P.info? t).map (fun i => decide (i.size ≠ 0)) = some true) : ∃ j, P.info? t = some j ∧ j.size ≠ 0 := by
  obtain ⟨j, hj, hz⟩ := Option.map_eq_some_iff.1 h
  exact ⟨j, hj, by simpa using hz⟩
theorem neq46_same (g : Nat) (w : World) : (binOp .neq 46 (.pointer (some ⟨g, 0, none⟩)) (.pointer (some ⟨g, 0, none⟩))).run Yba.prog w = .ok (.bool false) w := by
  obtain ⟨j, hj, hz⟩ := info_pos size53
  exact ptr_neq_same w _ Yba.underlying46 hj hz
theorem eql50_same (g : Nat) (w : World) : (binOp .eql 50 (.pointer (some ⟨g, 0, none⟩)) (.pointer (some ⟨g, 0, none⟩))).run Yba.prog w = .ok (.bool true) w := by
  obtain ⟨j, hj, hz⟩ := info_pos size65
  exact ptr_eql_same w _ Yba.underlying50 hj hz

/-! ### the arguments' rows -/
def SRow (w : World) (a : Option Addr) (n : Nat) (ss : List ByteArray) : Prop :=
  ss.length = n ∧ ∀ i s, ss[i]? = some s → s.size ≤ maxLen ∧ ∃ b off, a = some ⟨b, off, none⟩ ∧ b < w.heap.size ∧ w.cell? ⟨b, off + i, none⟩ = some (.string s)
def IRow (w : World) (a : Option Addr) (n : Nat) (zs : List Int) : Prop :=
  zs.length = n ∧ ∀ i z, zs[i]? = some z → ∃ b off, a = some ⟨b, off, none⟩ ∧ b < w.heap.size ∧ w.cell? ⟨b, off + i, none⟩ = some (.int .i64 z)
theorem SRow.at {w w' : World} {B : Nat} {a : Option Addr} {n : Nat} {ss : List ByteArray} (h : SRow w a n ss) (hb : Below B w w') (hB : w.heap.size ≤ B) {i : Nat} (hi : i < n) :
    ∃ s b off, ss[i]? = some s ∧ s.size ≤ maxLen ∧ a = some ⟨b, off, none⟩ ∧ w'.cell? ⟨b, off + i, none⟩ = some (.string s) := by
  obtain ⟨s, hs⟩ : ∃ s, ss[i]? = some s := ⟨_, List.getElem?_eq_getElem (by rw [h.1]; exact hi)⟩
  obtain ⟨h1, b, off, h2, h3, h4⟩ := h.2 i s hs
  exact ⟨s, b, off, hs, h1, h2, (World.cell?_of_block (w := w) (hb.block b (by omega))).trans h4⟩
theorem IRow.at {w w' : World} {B : Nat} {a : Option Addr} {n : Nat} {zs : List Int} (h : IRow w a n zs) (hb : Below B w w') (hB : w.heap.size ≤ B) {i : Nat} (hi : i < n) :
    ∃ z b off, zs[i]? = some z ∧ a = some ⟨b, off, none⟩ ∧ w'.cell? ⟨b, off + i, none⟩ = some (.int .i64 z) := by
  obtain ⟨z, hz⟩ : ∃ z, zs[i]? = some z := ⟨_, List.getElem?_eq_getElem (by rw [h.1]; exact hi)⟩
  obtain ⟨b, off, h2, h3, h4⟩ := h.2 i z hz
  exact ⟨z, b, off, hz, h2, (World.cell?_of_block (w := w) (hb.block b (by omega))).trans h4⟩

/-! ### which refund a key names -/
def ptrs (G : List Nat) : List Value := G.map fun g => .pointer (some ⟨g, 0, none⟩)
theorem ptrs_len (G : List Nat) : (ptrs G).length = G.length := by simp [ptrs]
theorem ptrs_snoc (G : List Nat) (g : Nat) : ptrs (G ++ [g]) = ptrs G ++ [.pointer (some ⟨g, 0, none⟩)] := by simp [ptrs]
theorem ptrs_at {G : List Nat} {i g : Nat} (h : G[i]? = some g) : (ptrs G)[i]? = some (.pointer (some ⟨g, 0, none⟩)) := by simp [ptrs, h]
def Names (p : ByteArray) (ss : List ByteArray) (G : List Nat) (D : DataW Unit) : Prop :=
  ∀ j s g, ss[j]? = some s → G[j]? = some g → (∀ t, j < t → t < G.length → ss[t]? ≠ some s) → D.atKey (klp p s) nilD = ptD g
theorem names_nil (p : ByteArray) (ss : List ByteArray) : Names p ss [] (.map []) := fun j s g _ h => by simp at h
theorem names_put {p : ByteArray} {ss : List ByteArray} {G : List Nat} {D : DataW Unit} {s0 : ByteArray} {g0 : Nat} (h : Names p ss G D) (hD : IsMap D) (hp : p.size ≤ maxLen) (hss : ∀ s ∈ ss, s.size ≤ maxLen) (hs : ss[G.length]? = some s0) :
    Names p ss (G ++ [g0]) (D.put (klp p s0) (ptD g0)) := by
  intro j s g hj hg hlast
  have hs0 := hss s0 (List.mem_of_getElem? hs)
  have hs1 := hss s (List.mem_of_getElem? hj)
  have hlt : j < G.length + 1 := by have := (List.getElem?_eq_some_iff.1 hg).1; simpa using this
  by_cases hjl : j = G.length
  · subst hjl
    rw [hs] at hj
    cases hj
    have : g = g0 := by simpa using hg.symm
    subst this
    exact atKey_put_same hD (klp_key hp hs0) _ _
  · have hjG : j < G.length := by omega
    have hg' : G[j]? = some g := by rw [List.getElem?_append_left hjG] at hg; exact hg
    have hne : s ≠ s0 := fun e => hlast G.length hjG (by simp) (by rw [e]; exact hs)
    rw [atKey_put_other (fun q => hne (klp_inj hp hs1 hs0 q))]
    exact h j s g hj hg' fun t h1 h2 => hlast t h1 (by simp; omega)
theorem bytes_eq {a b : ByteArray} (h : a.toList = b.toList) : a = b := by
  rw [ByteArray.toList_eq, ByteArray.toList_eq] at h
  exact ByteArray.ext (Array.toList_inj.1 h)
end Go.Proofs.Ybulkdenm

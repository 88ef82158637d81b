import Derived.Test.YbulkdekgMapOps
namespace Go.Proofs.Ybulkdekg
open Go.RowKit Go.ChangeShapes Go.Maps

def cnt (x : Pr) (l : List Pr) : Nat := (l.filter (fun y => decide (y = x))).length
def isIn (x : Pr) (l : List Pr) : Bool := l.any (fun y => decide (y = x))
def addM (acc : List Pr) (x : Pr) : List Pr := if isIn x acc = true then acc else acc ++ [x]
def dist (l : List Pr) : List Pr := l.foldl addM []

theorem dist_snoc (l : List Pr) (x : Pr) : dist (l ++ [x]) = addM (dist l) x := by simp [dist, List.foldl_append]
theorem cnt_snoc_same (l : List Pr) (x : Pr) : cnt x (l ++ [x]) = cnt x l + 1 := by simp [cnt, List.filter_append]
theorem cnt_snoc_other {l : List Pr} {x y : Pr} (h : x ≠ y) : cnt y (l ++ [x]) = cnt y l := by simp [cnt, List.filter_append, h]
theorem isIn_snoc (l : List Pr) (x y : Pr) : isIn y (l ++ [x]) = (isIn y l || decide (x = y)) := by simp [isIn, List.any_append]
theorem isIn_addM (l : List Pr) (x y : Pr) : isIn y (addM l x) = (isIn y l || decide (x = y)) := by
  unfold addM
  split
  · rename_i h
    by_cases e : x = y
    · subst e; simp [h]
    · simp [e]
  · exact isIn_snoc l x y
theorem cnt_le (x : Pr) (l : List Pr) : cnt x l ≤ l.length := List.length_filter_le _ _

structure MapOk (D : DataW Unit) (mv : List Pr) : Prop where
  tidy : Tidy D
  has : ∀ x : Pr, x.fits → Maps.has D (klp x) = isIn x (dist mv)
  size : Maps.size D = (dist mv).length
  val : ∀ x : Pr, x.fits → D.atKey (klp x) (.lit (.int .i64 0)) = .lit (.int .i64 (cnt x mv))

theorem mapOk_nil : MapOk (.map []) [] := ⟨tidy_empty, fun _ _ => rfl, rfl, fun _ _ => rfl⟩
theorem mapOk_put {D : DataW Unit} {mv : List Pr} {x : Pr} (h : MapOk D mv) (hx : x.fits) : MapOk (D.put (klp x) (.lit (.int .i64 ((cnt x mv : Int) + 1)))) (mv ++ [x]) := by
  refine ⟨h.tidy.put (klp_key hx) _, fun y hy => ?_, ?_, fun y hy => ?_⟩
  · rw [dist_snoc, isIn_addM]
    by_cases e : x = y
    · subst e; rw [has_put_same h.tidy.isMap (klp_key hx)]; simp
    · rw [has_put_other (fun q => e (klp_inj hy hx q).symm), h.has y hy]; simp [e]
  · rw [size_put h.tidy, h.has x hx, h.size, dist_snoc]
    unfold addM
    cases isIn x (dist mv) <;> simp
  · by_cases e : x = y
    · subst e
      rw [atKey_put_same h.tidy.isMap (klp_key hx), cnt_snoc_same]
      simp
    · rw [atKey_put_other (fun q => e (klp_inj hy hx q).symm), h.val y hy, cnt_snoc_other e]

/-! ### the moves of a list of keys -/
def mvOf (sb sa : List ByteArray) (us : List Nat) : Pr := (pickS sb (fnvN us), pickS sa (fnvN us))
def mvs (sb sa : List ByteArray) (U : List (List Nat)) : List Pr := (U.map (mvOf sb sa)).filter (fun x => x.1.toList != x.2.toList)
theorem mvs_yes {sb sa : List ByteArray} {U : List (List Nat)} {k : Nat} {us : List Nat} (h : U[k]? = some us) (hb : ((mvOf sb sa us).1.toList != (mvOf sb sa us).2.toList) = true) : mvs sb sa (U.take (k + 1)) = mvs sb sa (U.take k) ++ [mvOf sb sa us] := by
  unfold mvs
  rw [List.take_add_one, h]
  simp [List.filter_append, hb]
theorem mvs_no {sb sa : List ByteArray} {U : List (List Nat)} {k : Nat} {us : List Nat} (h : U[k]? = some us) (hb : ((mvOf sb sa us).1.toList != (mvOf sb sa us).2.toList) = false) : mvs sb sa (U.take (k + 1)) = mvs sb sa (U.take k) := by
  unfold mvs
  rw [List.take_add_one, h]
  simp [List.filter_append, hb]
theorem mvs_le (sb sa : List ByteArray) (U : List (List Nat)) : (mvs sb sa U).length ≤ U.length := by
  unfold mvs
  have := List.length_filter_le (fun x : Pr => x.1.toList != x.2.toList) (U.map (mvOf sb sa))
  simpa using this
def Small (ss : List ByteArray) : Prop := ∀ s ∈ ss, s.size ≤ 1
theorem small_names (us : List Nat) : Small (us.map nameB) := by
  intro s hs
  obtain ⟨u, _, rfl⟩ := List.mem_map.1 hs
  unfold nameB
  split
  · decide
  · split
    · decide
    · split <;> decide
theorem pick_small {ss : List ByteArray} (h : Small ss) (x : Nat) : (pickS ss x).size ≤ 1 := by
  unfold pickS
  split
  · decide
  · rw [List.getD_eq_getElem?_getD]
    cases e : ss[x % ss.length]? with
    | none => decide
    | some s => exact h s (List.mem_of_getElem? e)
theorem mvOf_fits {sb sa : List ByteArray} (h1 : Small sb) (h2 : Small sa) (us : List Nat) : (mvOf sb sa us).fits := by
  have a := pick_small h1 (fnvN us)
  have b := pick_small h2 (fnvN us)
  exact ⟨Nat.le_trans a (by unfold maxLen; omega), Nat.le_trans b (by unfold maxLen; omega)⟩

/-! ### the keys in memory -/
def KeysAt (B0 : Nat) (w : World) (a0 : Option Addr) (nk : Nat) (V : Nat → Value) (U : List (List Nat)) : Prop :=
  U.length = nk ∧ ∀ (r : Nat) (us : List Nat), U[r]? = some us → (∃ kb ko, a0 = some ⟨kb, ko, none⟩ ∧ kb < B0 ∧ w.cell? ⟨kb, ko + r, none⟩ = some (V r)) ∧
    ∃ a len cap, V r = .slice a len cap ∧ len ≤ 9223372036854775807 ∧ us.length = len ∧ (∀ u ∈ us, u < 256) ∧ ∀ (k u : Nat), us[k]? = some u → ∃ b off, a = some ⟨b, off, none⟩ ∧ b < B0 ∧ w.cell? ⟨b, off + k, none⟩ = some (.int .u8 u)
theorem KeysAt.keep {B0 : Nat} {w w' : World} {a0 : Option Addr} {nk : Nat} {V : Nat → Value} {U : List (List Nat)} (h : KeysAt B0 w a0 nk V U) (hk : ∀ k, k < B0 → w'.heap[k]? = w.heap[k]?) : KeysAt B0 w' a0 nk V U := by
  refine ⟨h.1, fun r us hr => ?_⟩
  obtain ⟨⟨kb, ko, e, hlt, hc⟩, a, len, cap, h1, h2, h3, h4, h5⟩ := h.2 r us hr
  refine ⟨⟨kb, ko, e, hlt, (World.cell?_of_block (w := w) (hk kb hlt)).trans hc⟩, a, len, cap, h1, h2, h3, h4, fun k u hu => ?_⟩
  obtain ⟨b, off, e1, hlt1, hc1⟩ := h5 k u hu
  exact ⟨b, off, e1, hlt1, (World.cell?_of_block (w := w) (hk b hlt1)).trans hc1⟩
theorem KeysAt.row {B0 : Nat} {w : World} {a0 : Option Addr} {nk : Nat} {V : Nat → Value} {U : List (List Nat)} (h : KeysAt B0 w a0 nk V U) {r : Nat} {us : List Nat} (hr : U[r]? = some us) (hs : B0 ≤ w.heap.size) :
    (∃ kb ko, a0 = some ⟨kb, ko, none⟩ ∧ kb < B0 ∧ w.cell? ⟨kb, ko + r, none⟩ = some (V r)) ∧ ∃ a len cap, V r = .slice a len cap ∧ len ≤ 9223372036854775807 ∧ BRow w a len us := by
  obtain ⟨h0, a, len, cap, h1, h2, h3, h4, h5⟩ := h.2 r us hr
  refine ⟨h0, a, len, cap, h1, h2, h3, h4, fun k u hu => ?_⟩
  obtain ⟨b, off, e, hlt, hc⟩ := h5 k u hu
  exact ⟨b, off, e, by omega, hc⟩
end Go.Proofs.Ybulkdekg

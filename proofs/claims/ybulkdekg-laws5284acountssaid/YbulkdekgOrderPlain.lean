import Derived.Test.YbulkdekgPlain
namespace Go.Proofs.Ybulkdekg
def gAll (ws : List Nat) : Nat := ws.foldl Nat.gcd 0
def wtOf (ws : List Nat) (i : Nat) : Nat := ws.getD i 0
def wtG (ws : List Nat) (i : Nat) : Nat := ws.getD i 0 / gAll ws
def perAt (ws : List Nat) (L i : Nat) : Nat := min (sumTo (wtG ws) i) L

theorem gcd_take_succ {ws : List Nat} {i x : Nat} (h : ws[i]? = some x) : gAll (ws.take (i + 1)) = Nat.gcd (gAll (ws.take i)) x := by
  unfold gAll; rw [List.take_add_one, h]; simp
theorem gAll_le : ∀ (ws : List Nat) (a B : Nat), a ≤ B → (∀ x ∈ ws, x ≤ B) → ws.foldl Nat.gcd a ≤ B
  | [], _, _, h, _ => h
  | x :: ws, a, B, h, hx => by
    simp only [List.foldl_cons]
    refine gAll_le ws _ B ?_ (fun y hy => hx y (by simp [hy]))
    rcases Nat.eq_zero_or_pos a with e | e
    · subst e; rw [Nat.gcd_zero_left]; exact hx x (by simp)
    · exact Nat.le_trans (Nat.le_of_dvd e (Nat.gcd_dvd_left a x)) h
theorem gAll_dvd : ∀ (ws : List Nat) (a : Nat), ws.foldl Nat.gcd a ∣ a ∧ ∀ x ∈ ws, ws.foldl Nat.gcd a ∣ x
  | [], a => ⟨Nat.dvd_refl _, by simp⟩
  | x :: ws, a => by
    obtain ⟨h1, h2⟩ := gAll_dvd ws (Nat.gcd a x)
    refine ⟨Nat.dvd_trans h1 (Nat.gcd_dvd_left a x), fun y hy => ?_⟩
    rcases List.mem_cons.1 hy with rfl | hy
    · exact Nat.dvd_trans h1 (Nat.gcd_dvd_right a y)
    · exact h2 y hy
theorem gAll_pos {ws : List Nat} {x : Nat} (hx : x ∈ ws) (h0 : x ≠ 0) : 0 < gAll ws := by
  have := (gAll_dvd ws 0).2 x hx
  rcases Nat.eq_zero_or_pos (gAll ws) with e | e
  · unfold gAll at e; rw [e] at this; exact absurd (Nat.eq_zero_of_zero_dvd this) h0
  · exact e
theorem gAll_mul {ws : List Nat} {i : Nat} (hi : i < ws.length) : wtOf ws i = gAll ws * wtG ws i := by
  unfold wtOf wtG
  have : ws.getD i 0 ∈ ws := by rw [List.getD_eq_getElem?_getD, List.getElem?_eq_getElem hi]; simp
  exact (Nat.mul_div_cancel' ((gAll_dvd ws 0).2 _ this)).symm
theorem gAll_zero {ws : List Nat} (h : gAll ws = 0) : ∀ i, wtG ws i = 0 := by
  intro i; unfold wtG; rw [h]; simp
theorem wtG_pos {ws : List Nat} {i x : Nat} (h : ws[i]? = some x) (h0 : x ≠ 0) : 0 < wtG ws i := by
  have hm : x ∈ ws := List.mem_of_getElem? h
  have := gAll_pos hm h0
  unfold wtG
  rw [List.getD_eq_getElem?_getD, h]
  exact Nat.div_pos (Nat.le_of_dvd (Nat.pos_of_ne_zero h0) ((gAll_dvd ws 0).2 x hm)) this
theorem wtG_at {ws : List Nat} {i x : Nat} (h : ws[i]? = some x) : wtG ws i = x / gAll ws := by
  unfold wtG; rw [List.getD_eq_getElem?_getD, h]; rfl
theorem wtG_le {ws : List Nat} {i x : Nat} (h : ws[i]? = some x) : wtG ws i ≤ x := by rw [wtG_at h]; exact Nat.div_le_self _ _

theorem wtG_lt {ws : List Nat} {B : Nat} (h : ∀ x ∈ ws, x < B) (i : Nat) : wtG ws i < B + 1 := by
  cases e : ws[i]? with
  | none => unfold wtG; rw [List.getD_eq_getElem?_getD, e]; simp
  | some x => have := wtG_le e; have := h x (List.mem_of_getElem? e); omega

theorem good_nonempty {wt : Nat → Nat} {n : Nat} {kk : Nat → Nat} {Q : List Tn} (h : Good wt n kk Q) (hs : 0 < sumTo wt n) : ∃ x, Q[0]? = some x := by
  obtain ⟨i, hi, hp⟩ := sumTo_lt (f := fun _ => 0) (g := wt) (n := n) (by rw [sumTo_zero]; exact hs)
  obtain ⟨x, hx, _⟩ := h.all i hi hp
  exact ⟨_, List.getElem?_eq_getElem (List.length_pos_of_mem hx)⟩

theorem perAt_zero (ws : List Nat) (L : Nat) : perAt ws L 0 = 0 := by simp [perAt, sumTo]
theorem perAt_skip {ws : List Nat} {L i : Nat} (h : ws[i]? = some 0) : perAt ws L (i + 1) = perAt ws L i := by
  simp [perAt, sumTo, wtG_at h]
theorem perAt_le (ws : List Nat) (L i : Nat) : perAt ws L i ≤ L := by unfold perAt; omega
theorem perAt_step {ws : List Nat} {L i x : Nat} (h : ws[i]? = some x) : perAt ws L (i + 1) = perAt ws L i + min (x / gAll ws) (L - perAt ws L i) := by
  simp only [perAt, sumTo, wtG_at h]
  generalize x / gAll ws = q
  omega
theorem perAt_step1 {ws : List Nat} {L i x : Nat} (h : ws[i]? = some x) (hle : x / gAll ws ≤ L - perAt ws L i) : perAt ws L (i + 1) = perAt ws L i + x / gAll ws := by
  rw [perAt_step h, Nat.min_eq_left hle]
theorem perAt_step2 {ws : List Nat} {L i x : Nat} (h : ws[i]? = some x) (hle : L - perAt ws L i ≤ x / gAll ws) : perAt ws L (i + 1) = L := by
  have := perAt_le ws L i
  rw [perAt_step h, Nat.min_eq_right hle]; omega
end Go.Proofs.Ybulkdekg

import Derived.Test.YbulkdekgRows
import Derived.Test.YbulkdekgACounts
import Derived.Test.YbulkdekgRowNat
import Derived.Deep.Matrix
import Derived.WalkKit
import Derived.ProofKit
import Derived.OpenShut
import Derived.ShutString
import Derived.ChangeOld
import Derived.Below
namespace Go.Proofs.Ybulkdekg.lawS5284ACounts
open Go.ChangeShapes Go.WideShapes Go.ChangeAt Go.RowKit
open Go.ChangeMaps (open_string shut_string)
set_option linter.unusedVariables false

theorem own : ownKnob Yba.prog.godebug = none := by kernel_rfl
theorem laidOut : laidOutB Yba.prog = true := by kernel_rfl

theorem big0 (a0 a1 a2 : Option Addr) (l0 c0 l1 c1 nk c2 : Nat) (w : World) (h : 1024 < l0) (hl : l0 ≤ 9223372036854775807) :
    Calls Yba.prog 3 #[.slice a0 l0 c0, .slice a1 l1 c1, .slice a2 nk c2] w fun e w' => e = .returned (.bool true) ∧ Below w.heap.size w w' := by
  have g0 : decide ((1024 : Int) < (l0 : Int)) = true := decide_eq_true (by omega)
  go_enter Yba.func3, Yba.ntmps3
  go_wp2
  go_ret
  exact ⟨rfl, Below.refl _ _⟩
theorem big1 (a0 a1 a2 : Option Addr) (l0 c0 l1 c1 nk c2 : Nat) (w : World) (h0 : l0 ≤ 1024) (h : 1024 < l1) (hl : l1 ≤ 9223372036854775807) :
    Calls Yba.prog 3 #[.slice a0 l0 c0, .slice a1 l1 c1, .slice a2 nk c2] w fun e w' => e = .returned (.bool true) ∧ Below w.heap.size w w' := by
  have g0 : decide ((1024 : Int) < (l0 : Int)) = false := decide_eq_false (by omega)
  have g1 : decide ((1024 : Int) < (l1 : Int)) = true := decide_eq_true (by omega)
  go_enter Yba.func3, Yba.ntmps3
  go_wp2
  go_ret
  exact ⟨rfl, Below.refl _ _⟩
theorem big2 (a0 a1 a2 : Option Addr) (l0 c0 l1 c1 nk c2 : Nat) (w : World) (h0 : l0 ≤ 1024) (h1 : l1 ≤ 1024) (h : 1024 < nk) (hl : nk ≤ 9223372036854775807) :
    Calls Yba.prog 3 #[.slice a0 l0 c0, .slice a1 l1 c1, .slice a2 nk c2] w fun e w' => e = .returned (.bool true) ∧ Below w.heap.size w w' := by
  have g0 : decide ((1024 : Int) < (l0 : Int)) = false := decide_eq_false (by omega)
  have g1 : decide ((1024 : Int) < (l1 : Int)) = false := decide_eq_false (by omega)
  have g2 : decide ((1024 : Int) < (nk : Int)) = true := decide_eq_true (by omega)
  go_enter Yba.func3, Yba.ntmps3
  go_wp2
  go_ret
  exact ⟨rfl, Below.refl _ _⟩

theorem brow_nil (w : World) (a : Option Addr) : BRow w a 0 [] := ⟨rfl, by simp, fun k u h => by simp at h⟩
theorem brow_some {w : World} {x : Addr} {zs : List Int} (len : Nat) (hl : len ≤ zs.length) (hc : ∀ i, i < zs.length → w.cell? (x.add i) = some (.int .u8 (zs.getD i 0))) (hw : ∀ n ∈ zs, (Lit.int .u8 n).wf = true) : ∃ us, BRow w (some x) len us := by
  rcases Nat.eq_zero_or_pos len with h0 | hpos
  · subst h0; exact ⟨[], brow_nil _ _⟩
  · obtain ⟨b, off, us, rfl, g1, g2, g3, g4⟩ := row_nat len hpos hl hc hw
    exact ⟨us, g1, g2, fun k u hu => ⟨b, off, rfl, g4, g3 k u hu⟩⟩
theorem keys_nil (B : Nat) (w : World) (a : Option Addr) (V : Nat → Value) : KeysAt B w a 0 V [] := ⟨rfl, fun r us h => by simp at h⟩

/-- what the walk is told of the three arguments -/
theorem walk (a0 a1 a2 : Option Addr) (l0 c0 l1 c1 nk c2 : Nat) (w : World) (h0 : ∃ us, BRow w a0 l0 us) (h1 : ∃ us, BRow w a1 l1 us) (hk : ∃ V U, KeysAt w.heap.size w a2 nk V U) (m0 : l0 ≤ 9223372036854775807) (m1 : l1 ≤ 9223372036854775807) (m2 : nk ≤ 9223372036854775807) :
    Calls Yba.prog 3 #[.slice a0 l0 c0, .slice a1 l1 c1, .slice a2 nk c2] w fun e w' => e = .returned (.bool true) ∧ Below w.heap.size w w' := by
  obtain ⟨us0, h0⟩ := h0
  obtain ⟨us1, h1⟩ := h1
  obtain ⟨V, U, hk⟩ := hk
  rcases Nat.lt_or_ge 1024 l0 with b0 | b0
  · exact big0 _ _ _ _ _ _ _ _ _ w b0 m0
  · rcases Nat.lt_or_ge 1024 l1 with b1 | b1
    · exact big1 _ _ _ _ _ _ _ _ _ w b0 b1 m1
    · rcases Nat.lt_or_ge 1024 nk with b2 | b2
      · exact big2 _ _ _ _ _ _ _ _ _ w b0 b1 b2 m2
      · exact acounts3 a0 a1 a2 l0 c0 l1 c1 nk c2 us0 us1 V U w h0 h1 hk b0 b1 b2

theorem keys_some {w : World} {a : Addr} {len cap : Nat} {A : Nat → Option Addr} {L C : Nat → Nat} {Z : Nat → List Int} (hl : len ≤ cap)
    (h : ∀ r, r < cap → w.cell? (a.add r) = some (.slice (A r) (L r) (C r)) ∧ L r ≤ C r ∧ C r ≤ maxLen ∧ (Z r).length = C r ∧ (∀ n ∈ Z r, (Lit.int .u8 n).wf = true) ∧ (A r = none → C r = 0) ∧
        ∀ a', A r = some a' → 0 ≤ a'.block ∧ ∀ c, c < C r → w.cell? (a'.add c) = some (.int .u8 ((Z r).getD c 0))) : ∃ V U, KeysAt w.heap.size w (some a) len V U := by
  rcases Nat.eq_zero_or_pos len with h0 | hpos
  · subst h0; exact ⟨fun _ => undef, [], keys_nil _ _ _ _⟩
  obtain ⟨b, off, spot⟩ := a
  have hspot : spot = none := by simpa [Addr.add] using World.cell?_spot (h 0 (by omega)).1
  subst hspot
  have each : ∀ r, r < len → ∃ us : List Nat, BRow w (A r) (L r) us := by
    intro r hr
    obtain ⟨_, r1, r2, r3, r4, r5, r6⟩ := h r (by omega)
    cases hA : A r with
    | none =>
      have := r5 hA
      have e : L r = 0 := by omega
      rw [e]
      exact ⟨[], brow_nil _ _⟩
    | some a' => exact brow_some (L r) (by omega) (fun i hi => (r6 a' hA).2 i (by omega)) r4
  obtain ⟨f, hf⟩ := Deep.choose_lt each
  refine ⟨fun r => .slice (A r) (L r) (C r), (List.range len).map f, by simp, fun r us hr => ?_⟩
  have hlt : r < len := by have := (List.getElem?_eq_some_iff.1 hr).1; simpa using this
  have hus : f r = us := by simpa [hlt] using hr
  obtain ⟨q0, r1, r2, _⟩ := h r (by omega)
  rw [Addr.add_lit] at q0
  refine ⟨⟨b, off, rfl, World.block_lt_of_cell? w _ q0, q0⟩, A r, L r, C r, rfl, by unfold maxLen at r2; omega, ?_⟩
  rw [← hus]
  obtain ⟨e1, e2, e3⟩ := hf r hlt
  exact ⟨e1, e2, e3⟩

set_option maxRecDepth 100000 in
theorem lifted (os : Os) (started : os.Started) (H : Type) (enc : TypeId × Value → H) :
    ReturnsInHanded {} Yba.checked os 3 .any (Rows.lawS5284ACountsSpec.pre6 enc Yba.prog Yba.f3 Rows.lawS5284ACountsRow.domain false) (Rows.lawS5284ACountsSpec.post enc Yba.prog Yba.f3 false true false false) := by
  refine returnsInHanded_of_change (C := Yba.checked) own started (by kernel_rfl) Yba.func3
    (ChangeSpec.witness6 (enc := enc) (C := Yba.checked) false ⟨#[], #[.slice none 0 0, .slice none 0 0, .slice none 0 0], []⟩ 8 (by kernel_rfl) (by kernel_rfl) (by kernel_rfl) (by kernel_rfl)) ?_
  intro W base args ds gs before hval0 hW hcnd _
  have hval : ∀ (j : Nat) t v, Yba.f3.params[j]? = some t → args[j]? = some v → Value.okWide Yba.prog W .any base t v := hval0
  have hW' := hW
  obtain ⟨p, q, hA0, hV, rfl, hfz, hnd⟩ := hW
  have hA : DataW.TrodAll enc Yba.prog W 0 (fun _ => true) true Yba.f3.params.toList args.toList ds p := hA0
  rw [Yba.params3] at hA hval
  obtain ⟨v0, vs0, d0, ds0, p0, q0, hargs, rfl, rfl, h0, r0⟩ := trodAll_cons hA
  obtain ⟨v1, vs1, d1, ds1, p1, q1, rfl, rfl, rfl, h1, r1⟩ := trodAll_cons r0
  obtain ⟨v2, vs2, d2, ds2, p2, q2, rfl, rfl, rfl, h2, r2⟩ := trodAll_cons r1
  obtain ⟨rfl, rfl, rfl⟩ := trodAll_nil r2
  obtain rfl : args = #[v0, v1, v2] := by cases args; simp_all
  obtain ⟨rfl, rfl⟩ := trodVars_none hV
  obtain ⟨a0, len0, cap0, rfl⟩ := okWide_slice Yba.underlying22 (hval 0 22 v0 rfl rfl)
  obtain ⟨a1, len1, cap1, rfl⟩ := okWide_slice Yba.underlying22 (hval 1 22 v1 rfl rfl)
  obtain ⟨a2, len2, cap2, rfl⟩ := okWide_slice Yba.underlying23 (hval 2 23 v2 rfl rfl)
  have k0 := h0
  have k1 := h1
  have k2 := h2
  have lt0 : ∀ x ∈ p0, x.block < W.heap.size := by obtain ⟨m, hm⟩ := k0; exact DataW.trod_lt m _ _ _ hm
  have lt1 : ∀ x ∈ p1, x.block < W.heap.size := by obtain ⟨m, hm⟩ := k1; exact DataW.trod_lt m _ _ _ hm
  have lt2 : ∀ x ∈ p2, x.block < W.heap.size := by obtain ⟨m, hm⟩ := k2; exact DataW.trod_lt m _ _ _ hm
  have w0 : (∃ us, BRow W a0 len0 us) ∧ len0 ≤ 9223372036854775807 := by
    obtain ⟨fuel, hf⟩ := h0
    rcases open_ints Yba.underlying22 Yba.underlying5 (by kernel_rfl) hf with ⟨hcs, _⟩ | ⟨x, l, c, zs, hcs, _, hl, hm, hz, _, hcell, hwz⟩
    · simp [Value.cells] at hcs
      obtain ⟨rfl, rfl, rfl⟩ := hcs
      exact ⟨⟨[], brow_nil _ _⟩, by omega⟩
    · simp [Value.cells] at hcs
      obtain ⟨rfl, rfl, rfl⟩ := hcs
      simp only [if_true] at hz
      exact ⟨brow_some _ (by omega) hcell hwz, by unfold maxLen at hm; omega⟩
  have w1 : (∃ us, BRow W a1 len1 us) ∧ len1 ≤ 9223372036854775807 := by
    obtain ⟨fuel, hf⟩ := h1
    rcases open_ints Yba.underlying22 Yba.underlying5 (by kernel_rfl) hf with ⟨hcs, _⟩ | ⟨x, l, c, zs, hcs, _, hl, hm, hz, _, hcell, hwz⟩
    · simp [Value.cells] at hcs
      obtain ⟨rfl, rfl, rfl⟩ := hcs
      exact ⟨⟨[], brow_nil _ _⟩, by omega⟩
    · simp [Value.cells] at hcs
      obtain ⟨rfl, rfl, rfl⟩ := hcs
      simp only [if_true] at hz
      exact ⟨brow_some _ (by omega) hcell hwz, by unfold maxLen at hm; omega⟩
  have w2 : (∃ V U, KeysAt W.heap.size W a2 len2 V U) ∧ len2 ≤ 9223372036854775807 := by
    obtain ⟨fuel, hf⟩ := h2
    rcases Deep.open_int_rows Yba.underlying23 Yba.underlying22 Yba.underlying5 (by kernel_rfl) (by kernel_rfl) hf with ⟨hcs, _⟩ | ⟨x, l, c, A, L, C, Z, hcs, _, hl, hm, _, heach⟩
    · simp [Value.cells] at hcs
      obtain ⟨rfl, rfl, rfl⟩ := hcs
      exact ⟨⟨fun _ => undef, [], keys_nil _ _ _ _⟩, by omega⟩
    · simp [Value.cells] at hcs
      obtain ⟨rfl, rfl, rfl⟩ := hcs
      exact ⟨keys_some hl heach, by unfold maxLen at hm; omega⟩
  clear hA0 hval0
  refine (walk a0 a1 a2 len0 cap0 len1 cap1 len2 cap2 W w0.1 w1.1 w2.1 w0.2 w1.2 w2.2).mono fun e W' ⟨he, bel⟩ => ?_
  subst he
  exact ⟨_, rfl, _, _, _, [], _, [], hW', trodAll_mk1 (shut_bool Yba.underlying4 _), (trodAll_cons_mk (Below.trod laidOut (by kernel_rfl) (of_decide_eq_true (by kernel_rfl)) k0 bel lt0) (trodAll_cons_mk (Below.trod laidOut (by kernel_rfl) (of_decide_eq_true (by kernel_rfl)) k1 bel lt1) (trodAll_cons_mk (Below.trod laidOut (by kernel_rfl) (of_decide_eq_true (by kernel_rfl)) k2 bel lt2) trodAll_mk0))), rfl, bel.frame _, fun h => by cases h⟩

theorem over : Rows.lawS5284ACountsRow.holds Yba.pinned (OpenSpec.ofChange Rows.lawS5284ACountsSpec) :=
  OpenClaim.holds_of_wide 3 Yba.f3 rfl rfl rfl rfl rfl rfl rfl ⟨rfl, rfl, rfl, rfl, rfl⟩ rfl rfl rfl rfl rfl (by kernel_rfl) Yba.func3 (by kernel_rfl)
    (of_decide_eq_true (by kernel_rfl)) (by unfold Func.isWrapper; first | (rw [if_pos (by decide +kernel)]; kernel_rfl) | (rw [if_neg (by decide +kernel)]; exact ⟨rfl, rfl⟩))
    (fun os started H enc _ => lifted os started H enc)

theorem proved : Rows.LawS5284ACountsSaid := over
end Go.Proofs.Ybulkdekg.lawS5284ACounts

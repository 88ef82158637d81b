import Derived.Test.YbulkdenmRows
import Derived.Test.YbulkdenmSeries
import Derived.Test.YbulkdenmRowsOf
import Derived.SliceStrings
import Derived.WalkKit
import Derived.ProofKit
import Derived.OpenShut
import Derived.ShutString
import Derived.ChangeOld
import Derived.Below
namespace Go.Proofs.Ybulkdenm.lawS5290CSeries
open Go.ChangeShapes Go.WideShapes Go.ChangeAt Go.RowKit
open Go.ChangeMaps (open_string shut_string)
set_option linter.unusedVariables false

set_option maxRecDepth 100000 in
theorem own : ownKnob Yba.prog.godebug = none := by kernel_rfl

set_option maxRecDepth 100000 in
theorem big (p : ByteArray) (a0 a1 : Option Addr) (n c0 k c1 : Nat) (w : World) (h : 1024 < n) (hl : n ≤ 9223372036854775807) :
    Calls Yba.prog 4 #[.string p, .slice a0 n c0, .slice a1 k c1] w fun e w' => e = .returned (.bool true) ∧ Below w.heap.size w w' := by
  have g0 : decide ((1024 : Int) < (n : Int)) = true := decide_eq_true (by omega)
  go_enter Yba.func4, Yba.ntmps4
  go_wp2
  go_ret
  exact ⟨rfl, Below.refl _ _⟩
theorem walk (p : ByteArray) (a0 a1 : Option Addr) (n c0 k c1 : Nat) (w : World) (hp : p.size ≤ maxLen) (hS : ∃ ss, SRow w a0 n ss) (hI : ∃ zs, IRow w a1 k zs) (hn : n ≤ 9223372036854775807) (hk : k ≤ 9223372036854775807) :
    Calls Yba.prog 4 #[.string p, .slice a0 n c0, .slice a1 k c1] w fun e w' => e = .returned (.bool true) ∧ Below w.heap.size w w' := by
  obtain ⟨ss, hS⟩ := hS
  obtain ⟨zs, hI⟩ := hI
  rcases Nat.lt_or_ge 1024 n with b | b
  · exact big _ _ _ _ _ _ _ w b hn
  · exact series4 p a0 a1 n c0 k c1 ss zs w hp hS hI b hk

set_option maxRecDepth 100000 in
theorem lifted (os : Os) (started : os.Started) (H : Type) (enc : TypeId × Value → H) :
    ReturnsInHanded {} Yba.checked os 4 .any (Rows.lawS5290CSeriesSpec.pre6 enc Yba.prog Yba.f4 Rows.lawS5290CSeriesRow.domain false) (Rows.lawS5290CSeriesSpec.post enc Yba.prog Yba.f4 false true false false) := by
  refine returnsInHanded_of_change (C := Yba.checked) own started (by kernel_rfl) Yba.func4
    (ChangeSpec.witness6 (enc := enc) (C := Yba.checked) false ⟨#[], #[.string ByteArray.empty, .slice none 0 0, .slice none 0 0], []⟩ 8 (by kernel_rfl) (by kernel_rfl) (by kernel_rfl) (by kernel_rfl)) ?_
  intro W base args ds gs before hval0 hW hcnd _
  have hval : ∀ (j : Nat) t v, Yba.f4.params[j]? = some t → args[j]? = some v → Value.okWide Yba.prog W .any base t v := hval0
  have hW' := hW
  obtain ⟨p, q, hA0, hV, rfl, hfz, hnd⟩ := hW
  have hA : DataW.TrodAll enc Yba.prog W 0 (fun _ => true) true Yba.f4.params.toList args.toList ds p := hA0
  rw [Yba.params4] at hA hval
  obtain ⟨v0, vs0, d0, ds0, p0, q0, hargs, rfl, rfl, h0, r0⟩ := trodAll_cons hA
  obtain ⟨v1, vs1, d1, ds1, p1, q1, rfl, rfl, rfl, h1, r1⟩ := trodAll_cons r0
  obtain ⟨v2, vs2, d2, ds2, p2, q2, rfl, rfl, rfl, h2, r2⟩ := trodAll_cons r1
  obtain ⟨rfl, rfl, rfl⟩ := trodAll_nil r2
  obtain rfl : args = #[v0, v1, v2] := by cases args; simp_all
  obtain ⟨rfl, rfl⟩ := trodVars_none hV
  obtain ⟨a0, rfl, rfl, rfl, w0⟩ := open_string Yba.underlying9 (hval 0 9 v0 rfl rfl) h0
  obtain ⟨a1, len1, cap1, rfl⟩ := okWide_slice Yba.underlying23 (hval 1 23 v1 rfl rfl)
  obtain ⟨a2, len2, cap2, rfl⟩ := okWide_slice Yba.underlying22 (hval 2 22 v2 rfl rfl)
  have k1 := h1
  have k2 := h2
  have lt1 : ∀ x ∈ p1, x.block < W.heap.size := by obtain ⟨m, hm⟩ := k1; exact DataW.trod_lt m _ _ _ hm
  have lt2 : ∀ x ∈ p2, x.block < W.heap.size := by obtain ⟨m, hm⟩ := k2; exact DataW.trod_lt m _ _ _ hm
  have w1 : (∃ ss, SRow W a1 len1 ss) ∧ len1 ≤ 9223372036854775807 := by obtain ⟨fuel, hf⟩ := h1; exact opened_strings hf
  have w2 : (∃ zs, IRow W a2 len2 zs) ∧ len2 ≤ 9223372036854775807 := by obtain ⟨fuel, hf⟩ := h2; exact opened_ints hf
  clear hA0 hval0
  refine (walk a0 a1 a2 len1 cap1 len2 cap2 W w0 w1.1 w2.1 w1.2 w2.2).mono fun e W' ⟨he, bel⟩ => ?_
  subst he
  exact ⟨_, rfl, _, _, _, [], _, [], hW', trodAll_mk1 (shut_bool Yba.underlying4 _), (trodAll_cons_mk (shut_string Yba.underlying9 w0) (trodAll_cons_mk (Below.trod Yba.laidOut (by kernel_rfl) (of_decide_eq_true (by kernel_rfl)) k1 bel lt1) (trodAll_cons_mk (Below.trod Yba.laidOut (by kernel_rfl) (of_decide_eq_true (by kernel_rfl)) k2 bel lt2) trodAll_mk0))), rfl, bel.frame _, fun h => by cases h⟩

set_option maxRecDepth 100000 in
theorem over : Rows.lawS5290CSeriesRow.holds Yba.pinned (OpenSpec.ofChange Rows.lawS5290CSeriesSpec) :=
  OpenClaim.holds_of_wide 4 Yba.f4 rfl rfl rfl rfl rfl rfl rfl ⟨rfl, rfl, rfl, rfl, rfl⟩ rfl rfl rfl rfl rfl (by kernel_rfl) Yba.func4 (by kernel_rfl)
    (of_decide_eq_true (by kernel_rfl)) (by unfold Func.isWrapper; first | (rw [if_pos (by decide +kernel)]; kernel_rfl) | (rw [if_neg (by decide +kernel)]; exact ⟨rfl, rfl⟩))
    (fun os started H enc _ => lifted os started H enc)

theorem proved : Rows.LawS5290CSeriesSaid := over
end Go.Proofs.Ybulkdenm.lawS5290CSeries

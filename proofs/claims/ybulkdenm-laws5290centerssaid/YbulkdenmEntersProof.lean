import Derived.Test.YbulkdenmRows
import Derived.Test.YbulkdenmEnters
import Derived.Test.YbulkdenmRowsOf
import Derived.SliceStrings
import Derived.WalkKit
import Derived.ProofKit
import Derived.OpenShut
import Derived.ShutString
import Derived.ChangeOld
import Derived.Below
namespace Go.Proofs.Ybulkdenm.lawS5290CEnters
open Go.ChangeShapes Go.WideShapes Go.ChangeAt Go.RowKit
open Go.ChangeMaps (open_string shut_string)
set_option linter.unusedVariables false

set_option maxRecDepth 100000 in
theorem own : ownKnob Yba.prog.godebug = none := by kernel_rfl

set_option maxRecDepth 100000 in
theorem big4 (p id : ByteArray) (amt held : Int) (a4 a5 : Option Addr) (kp c4 n c5 : Nat) (w : World) (h : 1024 < kp) (hl : kp ≤ 9223372036854775807) :
    Calls Yba.prog 3 #[.string p, .string id, .int .i64 amt, .int .i64 held, .slice a4 kp c4, .slice a5 n c5] w fun e w' => e = .returned (.bool true) ∧ Below w.heap.size w w' := by
  have g0 : decide ((1024 : Int) < (kp : Int)) = true := decide_eq_true (by omega)
  go_enter Yba.func3, Yba.ntmps3
  go_wp2
  go_ret
  exact ⟨rfl, Below.refl _ _⟩
set_option maxRecDepth 100000 in
theorem big5 (p id : ByteArray) (amt held : Int) (a4 a5 : Option Addr) (kp c4 n c5 : Nat) (w : World) (h0 : kp ≤ 1024) (h : 1024 < n) (hl : n ≤ 9223372036854775807) :
    Calls Yba.prog 3 #[.string p, .string id, .int .i64 amt, .int .i64 held, .slice a4 kp c4, .slice a5 n c5] w fun e w' => e = .returned (.bool true) ∧ Below w.heap.size w w' := by
  have g0 : decide ((1024 : Int) < (kp : Int)) = false := decide_eq_false (by omega)
  have g1 : decide ((1024 : Int) < (n : Int)) = true := decide_eq_true (by omega)
  go_enter Yba.func3, Yba.ntmps3
  go_wp2
  go_ret
  exact ⟨rfl, Below.refl _ _⟩
theorem walk (p id : ByteArray) (amt held : Int) (a4 a5 : Option Addr) (kp c4 n c5 : Nat) (w : World) (hp : p.size ≤ maxLen) (hid : id.size ≤ maxLen) (hI : ∃ zs, IRow w a4 kp zs) (hS : ∃ ss, SRow w a5 n ss) (hk : kp ≤ 9223372036854775807) (hn : n ≤ 9223372036854775807) :
    Calls Yba.prog 3 #[.string p, .string id, .int .i64 amt, .int .i64 held, .slice a4 kp c4, .slice a5 n c5] w fun e w' => e = .returned (.bool true) ∧ Below w.heap.size w w' := by
  obtain ⟨ss, hS⟩ := hS
  obtain ⟨zs, hI⟩ := hI
  rcases Nat.lt_or_ge 1024 kp with b | b
  · exact big4 _ _ _ _ _ _ _ _ _ _ w b hk
  · rcases Nat.lt_or_ge 1024 n with b' | b'
    · exact big5 _ _ _ _ _ _ _ _ _ _ w b b' hn
    · exact enters3 p id amt held a4 a5 kp c4 n c5 ss zs w hp hid hS hI b' b

set_option maxRecDepth 100000 in
theorem lifted (os : Os) (started : os.Started) (H : Type) (enc : TypeId × Value → H) :
    ReturnsInHanded {} Yba.checked os 3 .any (Rows.lawS5290CEntersSpec.pre6 enc Yba.prog Yba.f3 Rows.lawS5290CEntersRow.domain false) (Rows.lawS5290CEntersSpec.post enc Yba.prog Yba.f3 false true false false) := by
  refine returnsInHanded_of_change (C := Yba.checked) own started (by kernel_rfl) Yba.func3
    (ChangeSpec.witness6 (enc := enc) (C := Yba.checked) false ⟨#[], #[.string ByteArray.empty, .string ByteArray.empty, .int .i64 0, .int .i64 0, .slice none 0 0, .slice none 0 0], []⟩ 8 (by kernel_rfl) (by kernel_rfl) (by kernel_rfl) (by kernel_rfl)) ?_
  intro W base args ds gs before hval0 hW hcnd _
  have hval : ∀ (j : Nat) t v, Yba.f3.params[j]? = some t → args[j]? = some v → Value.okWide Yba.prog W .any base t v := hval0
  have hW' := hW
  obtain ⟨p, q, hA0, hV, rfl, hfz, hnd⟩ := hW
  have hA : DataW.TrodAll enc Yba.prog W 0 (fun _ => true) true Yba.f3.params.toList args.toList ds p := hA0
  rw [Yba.params3] at hA hval
  obtain ⟨v0, vs0, d0, ds0, p0, q0, hargs, rfl, rfl, h0, r0⟩ := trodAll_cons hA
  obtain ⟨v1, vs1, d1, ds1, p1, q1, rfl, rfl, rfl, h1, r1⟩ := trodAll_cons r0
  obtain ⟨v2, vs2, d2, ds2, p2, q2, rfl, rfl, rfl, h2, r2⟩ := trodAll_cons r1
  obtain ⟨v3, vs3, d3, ds3, p3, q3, rfl, rfl, rfl, h3, r3⟩ := trodAll_cons r2
  obtain ⟨v4, vs4, d4, ds4, p4, q4, rfl, rfl, rfl, h4, r4⟩ := trodAll_cons r3
  obtain ⟨v5, vs5, d5, ds5, p5, q5, rfl, rfl, rfl, h5, r5⟩ := trodAll_cons r4
  obtain ⟨rfl, rfl, rfl⟩ := trodAll_nil r5
  obtain rfl : args = #[v0, v1, v2, v3, v4, v5] := by cases args; simp_all
  obtain ⟨rfl, rfl⟩ := trodVars_none hV
  obtain ⟨a0, rfl, rfl, rfl, w0⟩ := open_string Yba.underlying9 (hval 0 9 v0 rfl rfl) h0
  obtain ⟨a1, rfl, rfl, rfl, w1⟩ := open_string Yba.underlying9 (hval 1 9 v1 rfl rfl) h1
  obtain ⟨a2, rfl, rfl, rfl, w2⟩ := open_int Yba.underlying2 (hval 2 2 v2 rfl rfl) h2
  obtain ⟨a3, rfl, rfl, rfl, w3⟩ := open_int Yba.underlying2 (hval 3 2 v3 rfl rfl) h3
  obtain ⟨a4, len4, cap4, rfl⟩ := okWide_slice Yba.underlying22 (hval 4 22 v4 rfl rfl)
  obtain ⟨a5, len5, cap5, rfl⟩ := okWide_slice Yba.underlying23 (hval 5 23 v5 rfl rfl)
  have k4 := h4
  have k5 := h5
  have lt4 : ∀ x ∈ p4, x.block < W.heap.size := by obtain ⟨m, hm⟩ := k4; exact DataW.trod_lt m _ _ _ hm
  have lt5 : ∀ x ∈ p5, x.block < W.heap.size := by obtain ⟨m, hm⟩ := k5; exact DataW.trod_lt m _ _ _ hm
  have w4 : (∃ zs, IRow W a4 len4 zs) ∧ len4 ≤ 9223372036854775807 := by obtain ⟨fuel, hf⟩ := h4; exact opened_ints hf
  have w5 : (∃ ss, SRow W a5 len5 ss) ∧ len5 ≤ 9223372036854775807 := by obtain ⟨fuel, hf⟩ := h5; exact opened_strings hf
  clear hA0 hval0
  refine (walk a0 a1 a2 a3 a4 a5 len4 cap4 len5 cap5 W w0 w1 w4.1 w5.1 w4.2 w5.2).mono fun e W' ⟨he, bel⟩ => ?_
  subst he
  exact ⟨_, rfl, _, _, _, [], _, [], hW', trodAll_mk1 (shut_bool Yba.underlying4 _), (trodAll_cons_mk (shut_string Yba.underlying9 w0) (trodAll_cons_mk (shut_string Yba.underlying9 w1) (trodAll_cons_mk (shut_int Yba.underlying2 w2) (trodAll_cons_mk (shut_int Yba.underlying2 w3) (trodAll_cons_mk (Below.trod Yba.laidOut (by kernel_rfl) (of_decide_eq_true (by kernel_rfl)) k4 bel lt4) (trodAll_cons_mk (Below.trod Yba.laidOut (by kernel_rfl) (of_decide_eq_true (by kernel_rfl)) k5 bel lt5) trodAll_mk0)))))), rfl, bel.frame _, fun h => by cases h⟩

set_option maxRecDepth 100000 in
theorem over : Rows.lawS5290CEntersRow.holds Yba.pinned (OpenSpec.ofChange Rows.lawS5290CEntersSpec) :=
  OpenClaim.holds_of_wide 3 Yba.f3 rfl rfl rfl rfl rfl rfl rfl ⟨rfl, rfl, rfl, rfl, rfl⟩ rfl rfl rfl rfl rfl (by kernel_rfl) Yba.func3 (by kernel_rfl)
    (of_decide_eq_true (by kernel_rfl)) (by unfold Func.isWrapper; first | (rw [if_pos (by decide +kernel)]; kernel_rfl) | (rw [if_neg (by decide +kernel)]; exact ⟨rfl, rfl⟩))
    (fun os started H enc _ => lifted os started H enc)

theorem proved : Rows.LawS5290CEntersSaid := over
end Go.Proofs.Ybulkdenm.lawS5290CEnters

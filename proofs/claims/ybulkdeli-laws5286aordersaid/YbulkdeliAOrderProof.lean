import Derived.Test.YbulkdeliRows
import Derived.Test.YbulkdeliAOrder
import Derived.Deep.Slices
import Derived.WalkKit
import Derived.ProofKit
import Derived.OpenShut
import Derived.ShutString
import Derived.ChangeOld
import Derived.Below
namespace Go.Proofs.Ybulkdeli.lawS5286AOrder
open Go.ChangeShapes Go.WideShapes Go.ChangeAt Go.RowKit
open Go.ChangeMaps (open_string shut_string)
set_option linter.unusedVariables false

theorem own : ownKnob Yba.prog.godebug = none := by kernel_rfl
theorem laidOut : laidOutB Yba.prog = true := by kernel_rfl

set_option maxRecDepth 100000 in
theorem big (a : Option Addr) (n cap : Nat) (w : World) (h : 1024 < n) (hl : n ≤ 9223372036854775807) :
    Calls Yba.prog 3 #[.slice a n cap] w fun e w' => e = .returned (.bool true) ∧ Below w.heap.size w w' := by
  have g0 : decide ((1024 : Int) < (n : Int)) = true := decide_eq_true (by omega)
  go_enter Yba.func3, Yba.ntmps3
  go_wp2
  go_ret
  exact ⟨rfl, Below.refl _ _⟩
theorem it_nil (w : World) (a : Option Addr) : ItAt w a 0 [] := ⟨rfl, fun i x h => by simp at h⟩
theorem walk (a : Option Addr) (n cap : Nat) (w : World) (h : ∃ its, ItAt w a n its) (hl : n ≤ 9223372036854775807) :
    Calls Yba.prog 3 #[.slice a n cap] w fun e w' => e = .returned (.bool true) ∧ Below w.heap.size w w' := by
  obtain ⟨its, h⟩ := h
  rcases Nat.lt_or_ge 1024 n with b | b
  · exact big _ _ _ w b hl
  · exact aorder3 a n cap its w h b

set_option maxRecDepth 100000 in
theorem opened {H : Type} {enc : TypeId × Value → H} {w : World} {fuel : Nat} {a : Option Addr} {n cap : Nat} {x : DataW H × List MemPlace} (h : DataW.trod enc Yba.prog w 0 (fun _ => true) true fuel 22 (Value.slice a n cap).cells.toList = some x) :
    (∃ its, ItAt w a n its) ∧ n ≤ 9223372036854775807 := by
  haveI : Inhabited It := ⟨⟨0, 0, 0⟩⟩
  rcases Deep.open_slice Yba.underlying22 h with ⟨hcs, _⟩ | ⟨ad, len, cap', m, k, D, Pl, hcs, hb, hl, hm, hmm, _, hx⟩
  · simp [Value.cells] at hcs
    obtain ⟨rfl, rfl, rfl⟩ := hcs
    exact ⟨⟨[], it_nil _ _⟩, by omega⟩
  · simp [Value.cells] at hcs
    obtain ⟨rfl, rfl, rfl⟩ := hcs
    simp only [if_true] at hmm
    subst hmm
    have c25 : Yba.prog.cellsOf 25 = 3 := by kernel_rfl
    rw [c25] at hx
    refine ⟨?_, by unfold maxLen at hm; omega⟩
    rcases Nat.eq_zero_or_pos n with h0 | hpos
    · subst h0; exact ⟨[], it_nil _ _⟩
    have each : ∀ i, i < n → ∃ t : It, 0 ≤ t.t ∧ t.t < 256 ∧ w.cell? (ad.add (i * 3)) = some (.int .i64 t.s) ∧ w.cell? (ad.add (i * 3 + 1)) = some (.int .i32 t.n) ∧ w.cell? (ad.add (i * 3 + 2)) = some (.int .u8 t.t) := by
      intro i hi
      obtain ⟨cs', h1, h2⟩ := hx i (by omega)
      obtain ⟨_, hlen, hcell⟩ := World.cells?_some h1
      obtain ⟨xs, k', hk, hxy, _, hxl, hf⟩ := DataW.trod_struct Yba.underlying25 h2
      match xs, hxl, cs', hlen with
      | [y0, y1, y2], _, [v0, v1, v2], _ =>
        have c2 : Yba.prog.cellsOf 2 = 1 := by kernel_rfl
        have c21 : Yba.prog.cellsOf 21 = 1 := by kernel_rfl
        have c5 : Yba.prog.cellsOf 5 = 1 := by kernel_rfl
        have g0 : DataW.trod enc Yba.prog w 0 (fun x => true) true k' 2 [v0] = some y0 := by have := hf 0 _ rfl; simpa [c2] using this
        have g1 : DataW.trod enc Yba.prog w 0 (fun x => true) true k' 21 [v1] = some y1 := by have := hf 1 _ rfl; simpa [c21] using this
        have g2 : DataW.trod enc Yba.prog w 0 (fun x => true) true k' 5 [v2] = some y2 := by have := hf 2 _ rfl; simpa [c5] using this
        obtain ⟨z0, r0, _, _⟩ := DataW.trod_int Yba.underlying2 g0
        obtain ⟨z1, r1, _, _⟩ := DataW.trod_int Yba.underlying21 g1
        obtain ⟨z2, r2, _, w2⟩ := DataW.trod_int Yba.underlying5 g2
        obtain rfl : v0 = .int .i64 z0 := by simpa using r0
        obtain rfl : v1 = .int .i32 z1 := by simpa using r1
        obtain rfl : v2 = .int .u8 z2 := by simpa using r2
        have e0 := hcell 0 (by omega)
        have e1 := hcell 1 (by omega)
        have e2 := hcell 2 (by omega)
        rw [Deep.add_add] at e0 e1 e2
        have hb := bounds_u8 w2
        exact ⟨⟨z0, z1, z2⟩, hb.1, by show z2 < 256; omega, e0, e1, e2⟩
    obtain ⟨f, hf⟩ := Deep.choose_lt each
    obtain ⟨b, off, spot⟩ := ad
    have hspot : spot = none := by simpa [Addr.add] using World.cell?_spot (hf 0 hpos).2.2.1
    subst hspot
    refine ⟨(List.range n).map f, by simp, fun i x hi => ?_⟩
    have hlt : i < n := by have := (List.getElem?_eq_some_iff.1 hi).1; simpa using this
    have hus : f i = x := by simpa [hlt] using hi
    obtain ⟨t0, t1, q0, q1, q2⟩ := hf i hlt
    rw [Addr.add_lit] at q0 q1 q2
    rw [← hus]
    exact ⟨t0, t1, b, off, rfl, World.block_lt_of_cell? w _ q0, q0, q1, q2⟩

set_option maxRecDepth 100000 in
theorem lifted (os : Os) (started : os.Started) (H : Type) (enc : TypeId × Value → H) :
    ReturnsInHanded {} Yba.checked os 3 .any (Rows.lawS5286AOrderSpec.pre6 enc Yba.prog Yba.f3 Rows.lawS5286AOrderRow.domain false) (Rows.lawS5286AOrderSpec.post enc Yba.prog Yba.f3 false true false false) := by
  refine returnsInHanded_of_change (C := Yba.checked) own started (by kernel_rfl) Yba.func3
    (ChangeSpec.witness6 (enc := enc) (C := Yba.checked) false ⟨#[], #[.slice none 0 0], []⟩ 8 (by kernel_rfl) (by kernel_rfl) (by kernel_rfl) (by kernel_rfl)) ?_
  intro W base args ds gs before hval0 hW hcnd _
  have hval : ∀ (j : Nat) t v, Yba.f3.params[j]? = some t → args[j]? = some v → Value.okWide Yba.prog W .any base t v := hval0
  have hW' := hW
  obtain ⟨p, q, hA0, hV, rfl, hfz, hnd⟩ := hW
  have hA : DataW.TrodAll enc Yba.prog W 0 (fun _ => true) true Yba.f3.params.toList args.toList ds p := hA0
  rw [Yba.params3] at hA hval
  obtain ⟨v0, vs0, d0, ds0, p0, q0, hargs, rfl, rfl, h0, r0⟩ := trodAll_cons hA
  obtain ⟨rfl, rfl, rfl⟩ := trodAll_nil r0
  obtain rfl : args = #[v0] := by cases args; simp_all
  obtain ⟨rfl, rfl⟩ := trodVars_none hV
  obtain ⟨a0, len0, cap0, rfl⟩ := okWide_slice Yba.underlying22 (hval 0 22 v0 rfl rfl)
  have k0 := h0
  have lt0 : ∀ x ∈ p0, x.block < W.heap.size := by obtain ⟨m, hm⟩ := k0; exact DataW.trod_lt m _ _ _ hm
  have w0 : (∃ its, ItAt W a0 len0 its) ∧ len0 ≤ 9223372036854775807 := by
    obtain ⟨fuel, hf⟩ := h0
    exact opened hf
  clear hA0 hval0
  refine (walk a0 len0 cap0 W w0.1 w0.2).mono fun e W' ⟨he, bel⟩ => ?_
  subst he
  exact ⟨_, rfl, _, _, _, [], _, [], hW', trodAll_mk1 (shut_bool Yba.underlying4 _), (trodAll_cons_mk (Below.trod laidOut (by kernel_rfl) (of_decide_eq_true (by kernel_rfl)) k0 bel lt0) trodAll_mk0), rfl, bel.frame _, fun h => by cases h⟩

theorem over : Rows.lawS5286AOrderRow.holds Yba.pinned (OpenSpec.ofChange Rows.lawS5286AOrderSpec) :=
  OpenClaim.holds_of_wide 3 Yba.f3 rfl rfl rfl rfl rfl rfl rfl ⟨rfl, rfl, rfl, rfl, rfl⟩ rfl rfl rfl rfl rfl (by kernel_rfl) Yba.func3 (by kernel_rfl)
    (of_decide_eq_true (by kernel_rfl)) (by unfold Func.isWrapper; first | (rw [if_pos (by decide +kernel)]; kernel_rfl) | (rw [if_neg (by decide +kernel)]; exact ⟨rfl, rfl⟩))
    (fun os started H enc _ => lifted os started H enc)

theorem proved : Rows.LawS5286AOrderSaid := over
end Go.Proofs.Ybulkdeli.lawS5286AOrder

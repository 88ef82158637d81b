import Derived.Test.YbulkdekgMoveOf
import Derived.WalkSpells
import Derived.WalkLawsBesides
namespace Go.Proofs.Ybulkdekg
open Go.RowKit Go.ChangeShapes

set_option maxHeartbeats 400000 in
theorem moves24 (f t : ByteArray) (w : World) : Calls Yba.prog 24 #[.agg #[.string f, .string t]] w fun e w' => e = .returned (.bool (f.toList != t.toList)) ∧ w' = w.alloc (box40 f t) := by
  go_enter Yba.func24, Yba.ntmps24
  go_wp2
  go_ret
  exact ⟨rfl, rfl⟩

theorem InvL.below {c : Cfg} {w w' : World} {lb la : Value} {m B : Nat} (h : InvL c w lb la m) (hc : c.ok) (hb : Below B w w') (hB : w.heap.size = B) : InvL c w' lb la m := by
  have hs := h.bl
  refine ⟨(hb.block _ (by have := hc.pl_lt; omega)).trans h.plan, h.hb.to fun k hk => hb.block _ ?_, h.ha.to fun k hk => hb.block _ ?_, h.apart, Nat.le_trans hs hb.size⟩
  · rcases hk with rfl | rfl | hk
    · have := h.hb.pbl; omega
    · have := h.hb.obl; omega
    · have := h.hb.lvlt hk.symm; omega
  · rcases hk with rfl | rfl | hk
    · have := h.ha.pbl; omega
    · have := h.ha.obl; omega
    · have := h.ha.lvlt hk.symm; omega

set_option maxHeartbeats 1000000 in
theorem move23 (c : Cfg) (hc : c.ok) (m : Nat) (a : Option Addr) (len cap : Nat) (us : List Nat) (w : World) (hr : BRow w a len us) (hl : len ≤ 9223372036854775807) (hi : Inv c w m) (hm : m ≤ 65536) :
    Calls Yba.prog 23 #[.pointer (some ⟨c.pl, 0, none⟩), .slice a len cap] w fun e w' => e = .returned (.agg #[.string (pickS c.sb (fnvN us)), .string (pickS c.sa (fnvN us))]) ∧ Inv c w' (m + 1) ∧ Kept c w w' := by
  obtain ⟨lb, la, hL⟩ := hi
  have hL1 := hL.alloc (box40 ⟨#[]⟩ ⟨#[]⟩) hc
  have hB1 : Below w.heap.size w (w.alloc (box40 ⟨#[]⟩ ⟨#[]⟩)) := (Below.refl _ _).alloc (Nat.le_refl _) _
  have hR1 : (w.alloc (box40 ⟨#[]⟩ ⟨#[]⟩)).heap[w.heap.size]? = some (.cells #[.string ⟨#[]⟩, .string ⟨#[]⟩] 40 (0, 0)) := heap_alloc_new w _
  have hS1 : (w.alloc (box40 ⟨#[]⟩ ⟨#[]⟩)).heap.size = w.heap.size + 1 := by simp
  have hbl := hL.bl
  go_enter Yba.func23, Yba.ntmps23
  go_wp2_with fail
  refine (hashKey29 a len cap us (w.alloc (box40 ⟨#[]⟩ ⟨#[]⟩)) (hr.keep hB1) hl).mono ?_
  rintro e w1 ⟨rfl, hb1⟩
  rw [fnvN_cast]
  have hfb : fnvN us < 18446744073709551616 := by have := fnv_bd us; unfold fnvN; omega
  go_wp2_with fail
  have hbs := hb1.size
  rw [hS1] at hb1 hbs
  have hL2 : InvL c w1 lb la m := hL1.below hc hb1 hS1
  have hR2 : w1.heap[w.heap.size]? = some (.cells #[.string ⟨#[]⟩, .string ⟨#[]⟩] 40 (0, 0)) := (hb1.block _ (by omega)).trans hR1
  have hK1 : Kept c w w1 := Kept.of_below (hB1.trans (hb1.mono (by omega))) hbl
  refine (moveOf28 c hc m (fnvN us) w1 ⟨lb, la, hL2⟩ hm hfb).mono ?_
  rintro e w2 ⟨rfl, ⟨lb', la', hL3⟩, hK2⟩
  have hR3 := (hK2.high w.heap.size hbl (by omega) (fun cur fr e => by rw [hR2] at e; cases e)).trans hR2
  obtain ⟨r0, r1, rf⟩ := cell_pair hR3
  have n1 : lb'.ownBlock ≠ some w.heap.size := fun e => by obtain ⟨cur, q⟩ := hL3.hb.own36 e; rw [hR3] at q; cases q
  have n2 : la'.ownBlock ≠ some w.heap.size := fun e => by obtain ⟨cur, q⟩ := hL3.ha.own36 e; rw [hR3] at q; cases q
  have hK3 := ((hK1.trans hK2).setCell (Nat.le_refl _) hbl 0 (.string (pickS c.sb (fnvN us)))).setCell (Nat.le_refl _) hbl 1 (.string (pickS c.sa (fnvN us)))
  have hI3 := (hL3.setCell hc hbl n1 n2 0 (.string (pickS c.sb (fnvN us)))).setCell hc hbl n1 n2 1 (.string (pickS c.sa (fnvN us)))
  clear hL hL1 hL2 hL3 hK1 hK2 hR1 hR2 hR3 n1 n2 hb1 hB1
  go_wp2
  exact bodyPost_ret (v := .agg #[.string (pickS c.sb (fnvN us)), .string (pickS c.sa (fnvN us))]) (by simp [results, Yba.results23, go_sem, r0, r1]) rfl ⟨rfl, ⟨_, _, hI3⟩, hK3⟩
end Go.Proofs.Ybulkdekg

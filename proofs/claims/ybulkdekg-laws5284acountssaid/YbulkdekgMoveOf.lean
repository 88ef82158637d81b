import Derived.Test.YbulkdekgPlace
namespace Go.Proofs.Ybulkdekg
open Go.RowKit Go.ChangeShapes

/-- the names of a plan's blocks -/
structure Cfg where
  base : Nat
  pl : Nat
  pb : Nat
  ob : Nat
  nb : Nat
  pa : Nat
  oa : Nat
  na : Nat
  sb : List ByteArray
  sa : List ByteArray

structure Cfg.ok (c : Cfg) : Prop where
  pl_lt : c.pl < c.base
  n1 : c.pl ≠ c.pb
  n2 : c.pl ≠ c.pa
  n3 : c.pb ≠ c.pa
  n4 : c.ob ≠ c.pa
  n5 : c.oa ≠ c.pb
  nb : c.nb ≤ 1024
  na : c.na ≤ 1024

structure InvL (c : Cfg) (w : World) (lb la : Value) (m : Nat) : Prop where
  plan : w.heap[c.pl]? = some (.cells #[.iface 24 (.pointer (some ⟨c.pb, 0, none⟩)), .iface 24 (.pointer (some ⟨c.pa, 0, none⟩))] 60 (0, 0))
  hb : PlaceAt w c.base c.pb c.ob c.nb c.sb lb m
  ha : PlaceAt w c.base c.pa c.oa c.na c.sa la m
  apart : ∀ g, lb.ownBlock = some g → la.ownBlock ≠ some g
  bl : c.base ≤ w.heap.size
def Inv (c : Cfg) (w : World) (m : Nat) : Prop := ∃ lb la, InvL c w lb la m

/-- below the base nothing but the two places has turned -/
structure Kept (c : Cfg) (w w' : World) : Prop where
  os : w'.os = w.os
  tape : w'.tape = w.tape
  output : w'.output = w.output
  size : w.heap.size ≤ w'.heap.size
  block : ∀ k, k < c.base → k ≠ c.pb → k ≠ c.pa → w'.heap[k]? = w.heap[k]?
  high : ∀ k, c.base ≤ k → k < w.heap.size → (∀ cur fr, w.heap[k]? ≠ some (.cells cur 36 fr)) → w'.heap[k]? = w.heap[k]?

theorem PlaceAt.to {w w' : World} {base pb ob n m : Nat} {ss : List ByteArray} {lv : Value} (h : PlaceAt w base pb ob n ss lv m) (hk : ∀ k, k = pb ∨ k = ob ∨ some k = lv.ownBlock → w'.heap[k]? = w.heap[k]?) : PlaceAt w' base pb ob n ss lv m := by
  refine ⟨(hk pb (.inl rfl)).trans h.blk, ?_, h.row.of_block (hk ob (.inr (.inl rfl))), h.len, h.pbl, h.obl, h.ne⟩
  obtain ⟨xs, h1, h2⟩ := h.own
  refine ⟨xs, h1, ?_⟩
  rcases h2 with h2 | ⟨g, cap, cur, rfl, hb, hg, r⟩
  · exact .inl h2
  · exact .inr ⟨g, cap, cur, rfl, hb, (hk g (.inr (.inr rfl))).trans hg, r⟩

theorem PlaceAt.lvlt {w : World} {base pb ob n m : Nat} {ss : List ByteArray} {lv : Value} (h : PlaceAt w base pb ob n ss lv m) {g : Nat} (hg : lv.ownBlock = some g) : base ≤ g ∧ g < w.heap.size := by
  obtain ⟨xs, ho⟩ := h.own
  exact ho.lt g hg

theorem PlaceAt.own36 {w : World} {base pb ob n m : Nat} {ss : List ByteArray} {lv : Value} (h : PlaceAt w base pb ob n ss lv m) {g : Nat} (hg : lv.ownBlock = some g) : ∃ cur, w.heap[g]? = some (.cells cur 36 (0, 0)) := by
  obtain ⟨xs, ho⟩ := h.own
  rcases ho.2 with ⟨rfl, _⟩ | ⟨g', cap, cur, rfl, hb, hh, r⟩
  · simp [Value.ownBlock] at hg
  · simp [Value.ownBlock] at hg
    subst hg
    exact ⟨cur, hh⟩

theorem InvL.alloc {c : Cfg} {w : World} {lb la : Value} {m : Nat} (h : InvL c w lb la m) (o : Obj) (hc : c.ok) : InvL c (w.alloc o) lb la m := by
  have hs := h.bl
  refine ⟨(Below.heap_alloc _ _ _ (by have := hc.pl_lt; omega)).trans h.plan, h.hb.to fun k hk => ?_, h.ha.to fun k hk => ?_, h.apart, by simp; omega⟩
  · refine Below.heap_alloc _ _ _ ?_
    rcases hk with rfl | rfl | hk
    · have := h.hb.pbl; omega
    · have := h.hb.obl; omega
    · exact (h.hb.lvlt hk.symm).2
  · refine Below.heap_alloc _ _ _ ?_
    rcases hk with rfl | rfl | hk
    · have := h.ha.pbl; omega
    · have := h.ha.obl; omega
    · exact (h.ha.lvlt hk.symm).2
theorem InvL.drew {c : Cfg} {w : World} {lb la : Value} {m : Nat} (h : InvL c w lb la m) : InvL c w.drew lb la m := ⟨h.plan, h.hb.to fun _ _ => rfl, h.ha.to fun _ _ => rfl, h.apart, h.bl⟩

theorem plan_cells {w : World} {pl : Nat} {v0 v1 : Value} (h : w.heap[pl]? = some (.cells #[v0, v1] 60 (0, 0))) : w.cell? ⟨pl, 0, none⟩ = some v0 ∧ w.cell? ⟨pl, 1, none⟩ = some v1 := by
  refine ⟨?_, ?_⟩
  · rw [cell_of_row w pl _ _ 60 (0, 0) h]; rfl
  · rw [cell_of_row w pl _ _ 60 (0, 0) h]; rfl
theorem meth_owner (a : Addr) (w : World) : (method 210 24 (.pointer (some a)) "OwnerOfHash").run Yba.prog w = .ok (49, .pointer (some a)) w := by kernel_rfl

def box40 (a b : ByteArray) : Obj := .cells #[.string a, .string b] 40

theorem Turned.plan {c : Cfg} {w w1 : World} {lb la : Value} {m : Nat} (h : InvL c w lb la m) (hc : c.ok) (t : Turned w w1 c.pb lb) : w1.heap[c.pl]? = w.heap[c.pl]? := by
  have h1 := hc.pl_lt
  have h2 := h.bl
  exact t.block _ (by omega) hc.n1 (fun e => by have := (h.hb.lvlt e.symm).1; omega)
theorem Turned.other {c : Cfg} {w w1 : World} {lb la : Value} {m : Nat} (h : InvL c w lb la m) (hc : c.ok) (t : Turned w w1 c.pb lb) : PlaceAt w1 c.base c.pa c.oa c.na c.sa la m := by
  have h2 := h.bl
  refine h.ha.to fun k hk => ?_
  rcases hk with rfl | rfl | hk
  · have := h.ha.pbl
    exact t.block _ (by omega) (fun e => hc.n3 e.symm) (fun e => by have := (h.hb.lvlt e.symm).1; omega)
  · have := h.ha.obl
    exact t.block _ (by omega) hc.n5 (fun e => by have := (h.hb.lvlt e.symm).1; omega)
  · have h3 := h.ha.lvlt hk.symm
    have := h.hb.pbl
    exact t.block _ h3.2 (by omega) (fun e => h.apart k e.symm hk.symm)
theorem InvL.both {c : Cfg} {w w1 w2 : World} {lb la lb' la' : Value} {m : Nat} (h : InvL c w lb la m) (hc : c.ok) (t1 : Turned w w1 c.pb lb) (hb1 : PlaceAt w1 c.base c.pb c.ob c.nb c.sb lb' (m + 1)) (hat1 : ∀ g, lb'.ownBlock = some g → lb.ownBlock = some g ∨ w.heap.size ≤ g)
    (t2 : Turned w1 w2 c.pa la) (ha2 : PlaceAt w2 c.base c.pa c.oa c.na c.sa la' (m + 1)) (hat2 : ∀ g, la'.ownBlock = some g → la.ownBlock = some g ∨ w1.heap.size ≤ g) : InvL c w2 lb' la' (m + 1) ∧ Kept c w w2 := by
  have hbl := h.bl
  have hs1 := t1.size
  have hs2 := t2.size
  have hla : ∀ k, la.ownBlock = some k → c.base ≤ k ∧ k < w.heap.size := fun k hk => h.ha.lvlt hk
  have hlb' : ∀ k, lb'.ownBlock = some k → la.ownBlock ≠ some k := fun k hk e => by
    rcases hat1 k hk with q | q
    · exact h.apart k q e
    · have := hla k e; omega
  refine ⟨⟨?_, hb1.to fun k hk => ?_, ha2, fun g h1 h2 => ?_, by omega⟩, ⟨t2.os.trans t1.os, t2.tape.trans t1.tape, t2.output.trans t1.output, by omega, fun k hk n1 n2 => ?_, fun k hk hks hn => ?_⟩⟩
  · have e1 := t1.plan h hc
    have := hc.pl_lt
    exact ((t2.block c.pl (by omega) hc.n2 (fun e => by have := hla _ e.symm; omega)).trans e1).trans h.plan
  · rcases hk with rfl | rfl | hk
    · have := hb1.pbl
      exact t2.block _ (by omega) hc.n3 (fun e => by have := hla _ e.symm; omega)
    · have := hb1.obl
      exact t2.block _ (by omega) hc.n4 (fun e => by have := hla _ e.symm; omega)
    · have h3 := hb1.lvlt hk.symm
      have := h.ha.pbl
      exact t2.block _ h3.2 (by omega) (fun e => hlb' k hk.symm e.symm)
  · rcases hat2 g h2 with q | q
    · exact hlb' g h1 q
    · have := hb1.lvlt h1; omega
  · have e1 := t1.block k (by omega) n1 (fun e => by have := h.hb.lvlt e.symm; omega)
    exact (t2.block k (by omega) n2 (fun e => by have := hla _ e.symm; omega)).trans e1
  · have p1 := h.hb.pbl
    have p2 := h.ha.pbl
    have e1 := t1.block k hks (by omega) (fun e => by obtain ⟨cur, q⟩ := h.hb.own36 e.symm; exact hn _ _ q)
    exact (t2.block k (by omega) (by omega) (fun e => by obtain ⟨cur, q⟩ := h.ha.own36 e.symm; exact hn _ _ q)).trans e1
theorem own_slice {g n cap k : Nat} (h : (Value.slice (some ⟨g, 0, none⟩) n cap).ownBlock = some k) : k = g := by simp [Value.ownBlock] at h; exact h.symm

theorem InvL.setCell {c : Cfg} {w : World} {lb la : Value} {m : Nat} (h : InvL c w lb la m) (hc : c.ok) {r : Nat} (hr : c.base ≤ r) (n1 : lb.ownBlock ≠ some r) (n2 : la.ownBlock ≠ some r) (o : Nat) (v : Value) : InvL c (w.setCell ⟨r, o, none⟩ v) lb la m := by
  refine ⟨(heap_setCell_other _ _ _ _ (by have := hc.pl_lt; show _ ≠ r; omega)).trans h.plan, h.hb.to fun k hk => heap_setCell_other _ _ _ _ ?_, h.ha.to fun k hk => heap_setCell_other _ _ _ _ ?_, h.apart, by have := h.bl; simpa [World.setCell] using this⟩
  · show k ≠ r
    rcases hk with rfl | rfl | hk
    · have := h.hb.pbl; omega
    · have := h.hb.obl; omega
    · exact fun e => n1 (by rw [← hk, e])
  · show k ≠ r
    rcases hk with rfl | rfl | hk
    · have := h.ha.pbl; omega
    · have := h.ha.obl; omega
    · exact fun e => n2 (by rw [← hk, e])
theorem Kept.setCell {c : Cfg} {w w' : World} (h : Kept c w w') {r : Nat} (hr : w.heap.size ≤ r) (hb : c.base ≤ r) (o : Nat) (v : Value) : Kept c w (w'.setCell ⟨r, o, none⟩ v) :=
  ⟨h.os, h.tape, h.output, by simpa [World.setCell] using h.size, fun k hk n1 n2 => (heap_setCell_other _ _ _ _ (by show k ≠ r; omega)).trans (h.block k hk n1 n2), fun k hk hks hn => (heap_setCell_other _ _ _ _ (by show k ≠ r; omega)).trans (h.high k hk hks hn)⟩
theorem Kept.trans {c : Cfg} {w w1 w2 : World} (h : Kept c w w1) (g : Kept c w1 w2) : Kept c w w2 :=
  ⟨g.os.trans h.os, g.tape.trans h.tape, g.output.trans h.output, Nat.le_trans h.size g.size, fun k hk n1 n2 => (g.block k hk n1 n2).trans (h.block k hk n1 n2),
    fun k hk hks hn => (g.high k hk (Nat.lt_of_lt_of_le hks h.size) (fun cur fr e => hn cur fr (by rw [← h.high k hk hks hn]; exact e))).trans (h.high k hk hks hn)⟩
theorem Kept.of_below {c : Cfg} {w w' : World} (h : Below w.heap.size w w') (hB : c.base ≤ w.heap.size) : Kept c w w' :=
  ⟨h.os, h.tape, h.output, h.size, fun k hk _ _ => h.block k (by omega), fun k _ hks _ => h.block k hks⟩
theorem cell_pair {w : World} {b : Nat} {t : TypeId} {v0 v1 : Value} (h : w.heap[b]? = some (.cells #[v0, v1] t (0, 0))) :
    w.cell? ⟨b, 0, none⟩ = some v0 ∧ w.cell? ⟨b, 1, none⟩ = some v1 ∧ ∀ o, w.frozen? ⟨b, o, none⟩ = false := by
  refine ⟨?_, ?_, ?_⟩
  · rw [cell_of_row w b _ _ t (0, 0) h]; rfl
  · rw [cell_of_row w b _ _ t (0, 0) h]; rfl
  · intro o
    simp only [World.frozen?]
    rw [h]
    simp

set_option maxHeartbeats 1000000 in
theorem moveOf28 (c : Cfg) (hc : c.ok) (m h : Nat) (w : World) (hi : Inv c w m) (hm : m ≤ 65536) (hh : h < 18446744073709551616) :
    Calls Yba.prog 28 #[.pointer (some ⟨c.pl, 0, none⟩), .int .u64 h] w fun e w' => e = .returned (.agg #[.string (pickS c.sb h), .string (pickS c.sa h)]) ∧ Inv c w' (m + 1) ∧ Kept c w w' := by
  obtain ⟨lb, la, hL⟩ := hi
  have hL1 := (hL.alloc (box40 ⟨#[]⟩ ⟨#[]⟩) hc).drew
  have hR1 : (w.alloc (box40 ⟨#[]⟩ ⟨#[]⟩)).drew.heap[w.heap.size]? = some (.cells #[.string ⟨#[]⟩, .string ⟨#[]⟩] 40 (0, 0)) := heap_alloc_new w _
  have hS1 : (w.alloc (box40 ⟨#[]⟩ ⟨#[]⟩)).drew.heap.size = w.heap.size + 1 := by simp
  have hK1 : Kept c w (w.alloc (box40 ⟨#[]⟩ ⟨#[]⟩)).drew := Kept.of_below ((Below.refl _ _).alloc (Nat.le_refl _) _).drew hL.bl
  have hbl := hL.bl
  have hlb : lb.ownBlock ≠ some w.heap.size := fun e => by have := hL.hb.lvlt e; omega
  have hla : la.ownBlock ≠ some w.heap.size := fun e => by have := hL.ha.lvlt e; omega
  obtain ⟨p0, p1⟩ := plan_cells hL.plan
  have hpl : c.pl < w.heap.size := by have := hL.bl; have := hc.pl_lt; omega
  have hpl1 : ¬ w.heap.size = c.pl := by omega
  have hm1 := meth_owner ⟨c.pb, 0, none⟩
  have hm2 := meth_owner ⟨c.pa, 0, none⟩
  have hpbR : w.heap.size ≠ c.pb := by have := hL.hb.pbl; omega
  have hpaR : w.heap.size ≠ c.pa := by have := hL.ha.pbl; omega
  go_enter Yba.func28, Yba.ntmps28
  go_wp2
  have hb0 : c.base ≤ (w.alloc (box40 ⟨#[]⟩ ⟨#[]⟩)).drew.heap.size := hL1.bl
  go_region_with (first | (go_at_call_of 49 (Value.pointer (some ⟨c.pb, 0, none⟩)); refine (owner49 c.base c.pb c.ob c.nb m h c.sb lb (w.alloc (box40 ⟨#[]⟩ ⟨#[]⟩)).drew hL1.hb hb0 hc.nb hm hh).mono ?_; rintro e w1 ⟨rfl, g1, cap1, hp1, hat1, ht1⟩; obtain ⟨q0, q1⟩ := plan_cells ((ht1.plan hL1 hc).trans hL1.plan)) | (go_at_call_of 49 (Value.pointer (some ⟨c.pa, 0, none⟩)); refine (owner49 c.base c.pa c.oa c.na m h c.sa la w1 (ht1.other hL1 hc) (Nat.le_trans hb0 ht1.size) hc.na hm hh).mono ?_; rintro e w2 ⟨rfl, g2, cap2, hp2, hat2, ht2⟩; obtain ⟨r0, r1, rf⟩ := cell_pair (((ht2.block w.heap.size (by have := ht1.size; rw [hS1] at this; omega) hpaR (fun e => hla e.symm)).trans (ht1.block w.heap.size (by rw [hS1]; omega) hpbR (fun e => hlb e.symm))).trans hR1)))
  all_goals go_wp2
  all_goals
    obtain ⟨hI, hK⟩ := hL1.both hc ht1 hp1 (fun g h => by rw [own_slice h]; exact hat1) ht2 hp2 (fun g h => by rw [own_slice h]; exact hat2)
    have hg1 : g1 ≠ w.heap.size := fun e => by
      rcases hat1 with q | q
      · exact hlb (by rw [q, e])
      · rw [hS1] at q; omega
    have hg2 : g2 ≠ w.heap.size := fun e => by
      rcases hat2 with q | q
      · exact hla (by rw [q, e])
      · have := ht1.size; rw [hS1] at this; omega
    have n1 : (Value.slice (some ⟨g1, 0, none⟩) (m + 1) cap1).ownBlock ≠ some w.heap.size := fun h => hg1 (own_slice h).symm
    have n2 : (Value.slice (some ⟨g2, 0, none⟩) (m + 1) cap2).ownBlock ≠ some w.heap.size := fun h => hg2 (own_slice h).symm
    have hI2 : Inv c ((w2.setCell ⟨w.heap.size, 0, none⟩ (.string (pickS c.sb h))).setCell ⟨w.heap.size, 1, none⟩ (.string (pickS c.sa h))) (m + 1) := ⟨_, _, (hI.setCell hc hbl n1 n2 _ _).setCell hc hbl n1 n2 _ _⟩
    have hK2 : Kept c w ((w2.setCell ⟨w.heap.size, 0, none⟩ (.string (pickS c.sb h))).setCell ⟨w.heap.size, 1, none⟩ (.string (pickS c.sa h))) := ((hK1.trans hK).setCell (Nat.le_refl _) hbl _ _).setCell (Nat.le_refl _) hbl _ _
    exact bodyPost_ret (v := .agg #[.string (pickS c.sb h), .string (pickS c.sa h)]) (by simp [results, Yba.results28, go_sem, r0, r1]) rfl ⟨rfl, hI2, hK2⟩
end Go.Proofs.Ybulkdekg

import Derived.Test.YbulkdenmMap
import Derived.Deep.RegionLaw
import Derived.Deep.DeepCutAuto
namespace Go.Proofs.Ybulkdenm
open Go.RowKit Go.ChangeShapes Go.Maps

theorem Yba.info46 : (Yba.prog.info? 46).map (fun i => (i.zero, i.size, i.bytes)) = some (some (.pointer none), 1, 8) := by kernel_rfl
/-- a refundEntry: its request, its amount, its payment -/
def rbox (req : ByteArray) (amt : Int) (pay : Value) : Obj := .cells #[.string ⟨#[]⟩, .string req, .string ⟨#[]⟩, .int .i64 amt, .string ⟨#[]⟩, pay, .int .u64 0, .chan none] 53
/-- the entry in block ge: held, and its refunds' slice -/
def EAt (w : World) (ge : Nat) (held : Int) (v : Value) : Prop := w.cell? ⟨ge, 15, none⟩ = some (.int .i64 held) ∧ w.cell? ⟨ge, 16, none⟩ = some v ∧ ∀ o, w.frozen? ⟨ge, o, none⟩ = false
theorem EAt.of_block {w w' : World} {ge : Nat} {held : Int} {v : Value} (h : EAt w ge held v) (e : w'.heap[ge]? = w.heap[ge]?) : EAt w' ge held v :=
  ⟨(World.cell?_of_block (w := w) e).trans h.1, (World.cell?_of_block (w := w) e).trans h.2.1, fun o => by
    have := h.2.2 o
    simp only [World.frozen?] at this ⊢
    rw [e]; exact this⟩
theorem cell_lt {w : World} {a : Addr} {v : Value} (h : w.cell? a = some v) : a.block < w.heap.size := World.block_lt_of_cell? w _ h

/-- append as one step of a region that draws, its run known -/
theorem step_run_append {P : Program} {ops : Array Oper} {o : Oper} {a : Act} {w : World} {K : Act → World → Prop} {Q : Exit → Act → World → Prop} {E : Prop} (hgd : o.guard = none) (s x : Operand) (t : TypeId)
    (ho : o.op = .call { callee := .builtin .append, args := #[s, x], argTypes := #[t, t] }) (v u : Value) (hs : a.eval s = v) (hx : a.eval x = u) (v' : Value) (w' : World)
    (hrun : (Builtin.append_ #[t, t] o.type #[v, u]).run P w = .ok v' w') (h : K (a.put o.dst v') w') :
    if Region.wanted o (yielded ops a.tmps) = true then Oper.wp P o a w K Q else E := by
  have hw : Region.wanted o (yielded ops a.tmps) = true := by simp [Region.wanted, hgd]
  rw [if_pos hw]
  unfold Oper.wp execOp
  simp only [ho, resolve, invoke, builtin, Sem.run_bind, Sem.run_pure, Result.andThen_ok, List.map_toArray, List.map_cons, List.map_nil, hs, hx, hrun]
  exact h

def addS (mb ge : Nat) (v : Value) (k : Nat) : Prop := k = mb ∨ k = ge ∨ v.ownBlock = some k

set_option maxRecDepth 100000 in
set_option maxHeartbeats 2000000 in
theorem add5 (gb mb gr ge base n m : Nat) (p s : ByteArray) (hp : p.size ≤ maxLen) (hs : s.size ≤ maxLen) (held amt : Int) (v : Value) (xs : List Value) (D : DataW Unit) (w : World)
    (hB : w.cell? ⟨gb, 10, none⟩ = some (.map (some mb))) (hr3 : w.cell? ⟨gr, 3, none⟩ = some (.int .i64 amt)) (hr5 : w.cell? ⟨gr, 5, none⟩ = some (.pointer (some ⟨ge, 0, none⟩)))
    (hE : EAt w ge held v) (hown : w.ownsRow base 46 1 v n xs) (hM : MapAt w mb m D) (hbase : base ≤ w.heap.size) (hn : n ≤ 2048) (hm : m ≤ 4096)
    (d1 : gr ≠ mb) (d3 : ge ≠ mb) (d4 : some ge ≠ v.ownBlock) (d5 : some gr ≠ v.ownBlock) (d6 : some mb ≠ v.ownBlock) :
    Calls Yba.prog 5 #[.pointer (some ⟨gb, 0, none⟩), .agg #[.string p, .string s], .pointer (some ⟨gr, 0, none⟩)] w fun e w' => e = .returned (.tuple #[]) ∧
      ∃ g cap, MapAt w' mb (m + 1) (D.put (klp p s) (ptD gr)) ∧ EAt w' ge (IntKind.i64.wrap (held + amt)) (.slice (some ⟨g, 0, none⟩) (n + 1) cap) ∧ w'.ownsRow base 46 1 (.slice (some ⟨g, 0, none⟩) (n + 1) cap) (n + 1) (xs ++ [.pointer (some ⟨gr, 0, none⟩)]) ∧
        (v.ownBlock = some g ∨ w.heap.size ≤ g) ∧ But (addS mb ge v) w w' := by
  obtain ⟨i46, ki, kz0, kz1, kz2⟩ := info_parts Yba.info46
  have zb := cell_lt hB
  have zr := cell_lt hr3
  have ze := cell_lt hE.1
  have zm := hM.lt
  simp only at zb zr ze
  obtain ⟨w1, hw1⟩ : ∃ w1, w1 = w.alloc (.cells #[.string p, .string s] 55) := ⟨_, rfl⟩
  have hg1 : w.grownBy w1 none := by rw [hw1]; exact grown_alloc _ _ _
  have hk : w1.heap[w.heap.size]? = some (.cells #[.string p, .string s] 55 (0, 0)) := by rw [hw1]; exact heap_alloc_new w _
  have k0 : w1.cell? ⟨w.heap.size, 0, none⟩ = some (.string p) := by rw [cell_of_row w1 _ _ _ 55 (0, 0) hk]; rfl
  have k1 : w1.cell? ⟨w.heap.size, 1, none⟩ = some (.string s) := by rw [cell_of_row w1 _ _ _ 55 (0, 0) hk]; rfl
  have hB1 : w1.cell? ⟨gb, 10, none⟩ = some (.map (some mb)) := (World.cell?_of_block (w := w) (hg1.block gb zb (by simp))).trans hB
  have hM1 : MapAt w1.drew mb m D := World.ownsMap.drew (hM.of_block (hg1.block mb zm (by simp)))
  obtain ⟨w2, hup, hM2, hg2⟩ := hM1.update law55 Yba.underlying25 (by unfold maxLen; omega) (key55 hp hs) (RP_at gr)
  have hg12 : w.grownBy w2 (some mb) := grown_trans ⟨hg1.os, hg1.tape, hg1.output, hg1.size, fun i hi hne => hg1.block i hi (by simp)⟩ (grown_trans (grown_drew w1 _) hg2)
  have HG : Hid (w.grownBy w2 (some mb)) := hg12
  have hr32 : w2.cell? ⟨gr, 3, none⟩ = some (.int .i64 amt) := (World.cell?_of_block (w := w) (hg12.block gr zr (by simpa using d1))).trans hr3
  have hr52 : w2.cell? ⟨gr, 5, none⟩ = some (.pointer (some ⟨ge, 0, none⟩)) := (World.cell?_of_block (w := w) (hg12.block gr zr (by simpa using d1))).trans hr5
  have hE2 : EAt w2 ge held v := hE.of_block (hg12.block ge ze (by simpa using d3))
  clear hg1 hk hM1 hg2 hg12
  go_enter Yba.func5, Yba.ntmps5
  go_wp2_with fail
  rw [← hw1]
  clear hw1
  go_region
  have hown2 : w2.ownsRow base 46 1 v n xs := hown.kept HG.out (.inr (fun e => d6 e.symm))
  have hz2 : w.heap.size ≤ w2.heap.size := HG.out.size
  obtain ⟨w3, hw3⟩ : ∃ w3, w3 = (w2.alloc (.cells #[.pointer (some ⟨gr, 0, none⟩)] 46)).drew := ⟨_, rfl⟩
  have hg3 : w2.grownBy w3 none := by rw [hw3]; exact grown_trans (grown_alloc _ _ _) (grown_drew _ _)
  have hown3 : w3.ownsRow base 46 1 v n xs := by rw [hw3]; exact (hown2.alloc _).drew
  have hs3 : w3.heap.size = w2.heap.size + 1 := by rw [hw3]; simp
  have hn3 : w3.heap[w2.heap.size]? = some (.cells #[.pointer (some ⟨gr, 0, none⟩)] 46 (0, 0)) := by rw [hw3]; exact heap_alloc_new w2 _
  obtain ⟨g, cap, w4, happ, hown4, hg4, hat, hlt⟩ := run_append_lies (P := Yba.prog) w3 63 63 base 46 i46 (.pointer none) 1 8 Yba.underlying63 ki kz0 kz1 kz2 rfl (by omega) v n xs hown3 ⟨w2.heap.size, 0, none⟩ 1 1 [.pointer (some ⟨gr, 0, none⟩)] rfl
    (fun j u h => by rw [Addr.add_lit, cell_of_row _ _ _ _ 46 (0, 0) hn3]; simpa using h) (by simp [Value.oneCell']) (by omega) (by unfold maxLen; omega) (by omega) (by omega) (w2.heap.size + 1) hs3
  have f3 : ∀ a : Addr, a.block < w2.heap.size → w3.cell? a = w2.cell? a := fun a h => hg3.cell_far a h (by simp)
  have f4 : ∀ a : Addr, a.block < w2.heap.size → some a.block ≠ v.ownBlock → w4.cell? a = w2.cell? a := fun a h hne => (hg4.cell_far a (by rw [hs3]; omega) hne).trans (f3 a h)
  have r53 : w3.cell? ⟨gr, 5, none⟩ = some (.pointer (some ⟨ge, 0, none⟩)) := (f3 _ (by show gr < _; omega)).trans hr52
  have r54 : w4.cell? ⟨gr, 5, none⟩ = some (.pointer (some ⟨ge, 0, none⟩)) := (f4 _ (by show gr < _; omega) d5).trans hr52
  have r34 : w4.cell? ⟨gr, 3, none⟩ = some (.int .i64 amt) := (f4 _ (by show gr < _; omega) d5).trans hr32
  have hE3 : EAt w3 ge held v := hE2.of_block (hg3.block ge (by omega) (by simp))
  have hE4 : EAt w4 ge held v := hE3.of_block (hg4.block ge (by omega) d4)
  obtain ⟨e15, e16, efr⟩ := hE2
  obtain ⟨x15, x16, xfr⟩ := hE3
  obtain ⟨y15, y16, yfr⟩ := hE4
  have HG4 : Hid (w3.grownBy w4 v.ownBlock) := hg4
  have HG3 : Hid (w2.grownBy w3 none) := hg3
  have HO : Hid (w4.ownsRow base 46 1 (.slice (some ⟨g, 0, none⟩) (n + 1) cap) (n + 1) (xs ++ [.pointer (some ⟨gr, 0, none⟩)])) := hown4
  have HW3 : Hid (w3 = (w2.alloc (.cells #[.pointer (some ⟨gr, 0, none⟩)] 46)).drew) := hw3
  rw [hw3] at happ
  have a5 : (w2.alloc (.cells #[.pointer (some ⟨gr, 0, none⟩)] 46)).cell? ⟨gr, 5, none⟩ = some (.pointer (some ⟨ge, 0, none⟩)) := by rw [hw3] at r53; exact r53
  have a16 : (w2.alloc (.cells #[.pointer (some ⟨gr, 0, none⟩)] 46)).cell? ⟨ge, 16, none⟩ = some v := by rw [hw3] at x16; exact x16
  clear r53 x15 x16 xfr
  clear hown2 hg3 hown3 hn3 hg4 hown4 f3 f4 hw3 hE hown hM hB hr3 hr5 hB1 k0 k1 hup
  have r55 : (w4.setCell ⟨ge, 16, none⟩ (.slice (some ⟨g, 0, none⟩) (n + 1) cap)).cell? ⟨gr, 5, none⟩ = some (.pointer (some ⟨ge, 0, none⟩)) := by rw [World.cell?_setCell_other _ _ _ _ (by simp)]; exact r54
  have ne1 : ¬ gr = w2.heap.size := by omega
  have ne2 : ¬ ge = w2.heap.size := by omega
  have ne3 : ¬ w2.heap.size = gr := by omega
  have ne4 : ¬ w2.heap.size = ge := by omega
  go_upto_region 2 with fail
  go_cut [0] (fun a wr => a = .pointer (some ⟨gb, 0, none⟩) ∧ wr = w4.setCell ⟨ge, 16, none⟩ (.slice (some ⟨g, 0, none⟩) (n + 1) cap))
  case first =>
    go_wp2
    go_region_law (refine step_run_append rfl (.tmp 22) (.tmp 24) 63 rfl v _ rfl rfl _ w4 happ ?_)
    all_goals first | (refine Met.intro ?_; go_step; (repeat apply Exists.intro); exact ⟨⟨rfl, rfl⟩, rfl⟩) | (rename_i J K' h1 h2; refine h2 _ _ (Met.intro (h1 _ _ ?_)); (repeat apply Exists.intro); exact ⟨⟨rfl, rfl⟩, rfl⟩)
  case rest =>
    obtain ⟨rfl, rfl⟩ := hcut
    have hg5 := grown_setCell w4 ge 16 (.slice (some ⟨g, 0, none⟩) (n + 1) cap)
    have HG5 : Hid (w4.grownBy (w4.setCell ⟨ge, 16, none⟩ (.slice (some ⟨g, 0, none⟩) (n + 1) cap)) (some ge)) := hg5
    have r35 : (w4.setCell ⟨ge, 16, none⟩ (.slice (some ⟨g, 0, none⟩) (n + 1) cap)).cell? ⟨gr, 3, none⟩ = some (.int .i64 amt) := by rw [World.cell?_setCell_other _ _ _ _ (by simp)]; exact r34
    have z15 : (w4.setCell ⟨ge, 16, none⟩ (.slice (some ⟨g, 0, none⟩) (n + 1) cap)).cell? ⟨ge, 15, none⟩ = some (.int .i64 held) := by rw [World.cell?_setCell_other _ _ _ _ (by simp)]; exact y15
    have z16 : (w4.setCell ⟨ge, 16, none⟩ (.slice (some ⟨g, 0, none⟩) (n + 1) cap)).cell? ⟨ge, 16, none⟩ = some (.slice (some ⟨g, 0, none⟩) (n + 1) cap) := World.cell?_setCell_same' _ _ _ (by rw [y16]; rfl)
    have zfr : ∀ o, (w4.setCell ⟨ge, 16, none⟩ (.slice (some ⟨g, 0, none⟩) (n + 1) cap)).frozen? ⟨ge, o, none⟩ = false := fun o => by rw [World.frozen?_setCell]; exact yfr o
    clear hg5
    generalize w4.setCell ⟨ge, 16, none⟩ (.slice (some ⟨g, 0, none⟩) (n + 1) cap) = w5 at *
    obtain ⟨sm, hsm⟩ : ∃ sm, IntKind.i64.wrap (held + amt) = sm := ⟨_, rfl⟩
    have HSM : Hid (IntKind.i64.wrap (held + amt) = sm) := hsm
    go_wp2
    go_region
    go_end0
    have hgA : But (addS mb ge v) w w5 := (((But.refl _ w).grown HG.out (fun k h => Or.inl (Or.inl (by simpa using h.symm)))).grown HG3.out (fun k h => by cases h)).grown HG4.out (fun k h => Or.inl (Or.inr (Or.inr h))) |>.grown HG5.out (fun k h => Or.inl (Or.inr (Or.inl (by simpa using h.symm))))
    have hg6 := grown_setCell w5 ge 15 (.int .i64 sm)
    have hmg : mb ≠ g ∧ ge ≠ g := by
      rcases hat with h | h
      · exact ⟨fun e => d6 (by rw [h, e]), fun e => d4 (by rw [h, e])⟩
      · exact ⟨by omega, by omega⟩
    refine ⟨rfl, g, cap, ?_, ?_, ?_, ?_, ?_⟩
    · have e3 : w3.heap[mb]? = w2.heap[mb]? := HG3.out.block mb (by omega) (by simp)
      have e4 : w4.heap[mb]? = w3.heap[mb]? := HG4.out.block mb (by omega) d6
      have hz5 := HG5.out.size
      have hz4 := HG4.out.size
      have e5 : w5.heap[mb]? = w4.heap[mb]? := HG5.out.block mb (by omega) (by simp; omega)
      have e6 : (w5.setCell ⟨ge, 15, none⟩ (.int .i64 sm)).heap[mb]? = w5.heap[mb]? := hg6.block mb (by omega) (by simp; omega)
      exact World.ownsMap.drew (MapAt.of_block hM2 (e6.trans (e5.trans (e4.trans e3))))
    · refine ⟨?_, ?_, fun o => ?_⟩
      · rw [HSM.out]; exact World.cell?_setCell_same' _ _ _ (by rw [z15]; rfl)
      · show (w5.setCell ⟨ge, 15, none⟩ (.int .i64 sm)).cell? ⟨ge, 16, none⟩ = _
        rw [World.cell?_setCell_other _ _ _ _ (by simp)]; exact z16
      · show (w5.setCell ⟨ge, 15, none⟩ (.int .i64 sm)).frozen? ⟨ge, o, none⟩ = _
        rw [World.frozen?_setCell]; exact zfr o
    · exact ((HO.out.kept HG5.out (.inr (by simp [Value.ownBlock]; omega))).kept hg6 (.inr (by simp [Value.ownBlock]; omega))).drew
    · rcases hat with h | h
      · exact .inl h
      · exact .inr (by omega)
    · exact (hgA.grown hg6 (fun k h => Or.inl (Or.inr (Or.inl (by simpa using h.symm))))).grown (grown_drew _ none) (fun k h => by cases h)
end Go.Proofs.Ybulkdenm

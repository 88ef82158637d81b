import Derived.Test.YbulkdenmRows
import Derived.WalkKit
import Derived.WalkSpells
import Derived.WalkLawsBesides
import Derived.Deep.QuietTactic
import Derived.BigQuiet
import Derived.LaidEql
import Derived.Deep.RegionWith
import Derived.RegionTactic
import Derived.Deep.RegionHeld3
import Derived.StillTactics
import Derived.Laws.Pointers
import Derived.Deep.AppendLies
import Derived.Maps.OwnOps
import Derived.Maps.OwnSet
import Derived.DeepKeys4
import Derived.Lib.SmallJoins
namespace Go.Proofs.Ybulkdenm
open Go.RowKit Go.ChangeShapes Go.Maps

/-! ### the key: a struct of two strings -/
theorem Yba.laidOut : laidOutB Yba.prog = true := by kernel_rfl
set_option maxRecDepth 100000 in
theorem row55 : (55 : TypeId) < Yba.prog.types.size := of_decide_eq_true (by kernel_rfl)
set_option maxRecDepth 100000 in
theorem wide55 : (match Yba.prog.underlying 55 with | some (.array _ _) | some (.struct _) => true | _ => false) = true := by kernel_rfl
set_option maxRecDepth 100000 in
theorem klaw55 : WideMaps.KeyLaw Yba.prog 55 := deep_law_laid Yba.laidOut (m := 2) (by omega) row55 (by kernel_rfl) wide55
set_option maxRecDepth 100000 in
theorem law55 : Keyed Yba.prog 55 := Keyed.of_law klaw55
set_option maxRecDepth 100000 in
theorem deep55 : Yba.prog.keyTypeAt (Yba.prog.types.size + 1) 55 = true := by kernel_rfl
theorem cells55 : Yba.prog.cellsOf 55 = 2 := by kernel_rfl
set_option maxRecDepth 100000 in
theorem formed55 (f t : ByteArray) : (Value.agg #[.string f, .string t]).formed Yba.prog 55 = true := by
  simp [Value.formed, Yba.underlying55, cells55]
def klp (p s : ByteArray) : Lit := (DataW.agg [.lit (.string p.data.toList), .lit (.string s.data.toList)] : DataW Unit).asKey
set_option maxRecDepth 100000 in
theorem key55 {p s : ByteArray} (hp : p.size ≤ maxLen) (hs : s.size ≤ maxLen) : keyOf Yba.prog 55 (.agg #[.string p, .string s]) = some (klp p s) := by
  have t0 := Joins.shut_agg2 (enc := fun _ => ()) (P := Yba.prog) (w := default) (base := 0) (spare := fun _ => true) (held := true) (v0 := .string p) (v1 := .string s) (y0 := (.lit (.string p.data.toList), [])) (y1 := (.lit (.string s.data.toList), [])) Yba.underlying55 (by kernel_rfl) cells55
    ⟨1, by simp [DataW.trod, Yba.underlying9, hp]⟩ ⟨1, by simp [DataW.trod, Yba.underlying9, hs]⟩
  exact (keyOf_asKey deep55 wide55 (formed55 p s) t0).1
theorem klp_inj {p s s' : ByteArray} (hp : p.size ≤ maxLen) (hs : s.size ≤ maxLen) (hs' : s'.size ≤ maxLen) (h : klp p s = klp p s') : s = s' := by
  have h1 := key55 hp hs
  have h2 := key55 hp hs'
  rw [← h] at h2
  have := law55.inj h1 h2
  simpa using this
theorem klp_key {p s : ByteArray} (hp : p.size ≤ maxLen) (hs : s.size ≤ maxLen) : WideAt.IsKeyLit (klp p s) := law55.key (key55 hp hs)
theorem zero46 (w : World) : (zeroValue 46).run Yba.prog w = .ok (.pointer none) w := by kernel_rfl

/-! ### the map's elements: pointers to the head of a block, or nil -/
def RP (v : Value) : Option (DataW Unit × List MemPlace) :=
  match v with
  | .pointer none => some (.lit (.int .i64 (-1)), [])
  | .pointer (some ⟨g, 0, none⟩) => some (.lit (.int .i64 g), [])
  | _ => none
abbrev nilD : DataW Unit := .lit (.int .i64 (-1))
abbrev ptD (g : Nat) : DataW Unit := .lit (.int .i64 g)
theorem RP_nil : RP (.pointer none) = some (nilD, []) := rfl
theorem RP_at (g : Nat) : RP (.pointer (some ⟨g, 0, none⟩)) = some (ptD g, []) := rfl
theorem RP_inv {v : Value} {g : Nat} {ps : List MemPlace} (h : RP v = some (ptD g, ps)) : v = .pointer (some ⟨g, 0, none⟩) := by
  unfold RP at h
  split at h
  · simp [ptD] at h
  · rename_i g'
    simp [ptD] at h
    obtain ⟨h1, _⟩ := h
    have : g' = g := by omega
    rw [this]
  · simp at h
/-- the map in block mb, of at most n entries, as D says -/
abbrev MapAt (w : World) (mb n : Nat) (D : DataW Unit) : Prop := w.ownsMap Yba.prog 55 RP mb n D
theorem MapAt.look {w : World} {mb n : Nat} {D : DataW Unit} (h : MapAt w mb n D) {p s : ByteArray} (hp : p.size ≤ maxLen) (hs : s.size ≤ maxLen) {g : Nat} (hD : D.atKey (klp p s) nilD = ptD g) :
    (Instr.lookup 25 (.map (some mb)) (.agg #[.string p, .string s]) false).run Yba.prog w = .ok (.pointer (some ⟨g, 0, none⟩)) w := by
  obtain ⟨v, ps, hr, hv⟩ := World.ownsMap.lookup h law55 Yba.underlying25 (zero46 w) RP_nil (key55 hp hs)
  rw [hD] at hv
  rw [hr, RP_inv hv]
theorem MapAt.of_block {w w' : World} {mb n : Nat} {D : DataW Unit} (h : MapAt w mb n D) (e : w'.heap[mb]? = w.heap[mb]?) : MapAt w' mb n D := by
  obtain ⟨es, clock, hb, r⟩ := h
  exact ⟨es, clock, e.trans hb, r⟩

/-! ### pointers compared -/
theorem ptr_eql_other {P : Program} (w : World) {t te : TypeId} {j : TypeInfo} {a b : Addr} {ca cb : Array Value} {ta tb : TypeId} (hp : P.underlying t = some (.pointer te)) (hte : P.info? te = some j) (hsz : j.size ≠ 0)
    (hne : a ≠ b) (ha : w.heap[a.block]? = some (.cells ca ta (0, 0))) (hb : w.heap[b.block]? = some (.cells cb tb (0, 0))) : (binOp .eql t (.pointer (some a)) (.pointer (some b))).run P w = .ok (.bool false) w := by
  have h : ∀ d : Nat, (Op.equalIn (d + 1) t (.pointer (some a)) (.pointer (some b))).run P w = .ok false w := fun d => by
    simp [Op.equalIn, run_underlying hp, sizeOf, typeInfo, hte, hsz, run_sameAddr_other w hne ha hb]
  simp only [binOp]
  simp [Op.equal, Op.maxDepth, h 9999]

/-! ### how a world has grown -/
theorem grown_trans {w w1 w2 : World} {row : Option Nat} (h : w.grownBy w1 row) (k : w1.grownBy w2 row) : w.grownBy w2 row :=
  ⟨k.os.trans h.os, k.tape.trans h.tape, k.output.trans h.output, Nat.le_trans h.size k.size, fun i hi hne => (k.block i (Nat.lt_of_lt_of_le hi h.size) hne).trans (h.block i hi hne)⟩
theorem grown_drew (w : World) (row : Option Nat) : w.grownBy w.drew row := ⟨rfl, rfl, rfl, Nat.le_refl _, fun _ _ _ => rfl⟩
theorem grown_drewN (w : World) (n : Nat) (row : Option Nat) : w.grownBy (w.drewN n) row := ⟨rfl, rfl, rfl, Nat.le_refl _, fun _ _ _ => rfl⟩
theorem grown_setCell (w : World) (b o : Nat) (v : Value) : w.grownBy (w.setCell ⟨b, o, none⟩ v) (some b) :=
  ⟨rfl, rfl, rfl, by simp [World.setCell], fun k _ hne => heap_setCell_other w _ k v (fun e => hne (by simp [e]))⟩
theorem grown_alloc (w : World) (o : Obj) (row : Option Nat) : w.grownBy (w.alloc o) row := World.grownBy_alloc w o row
/-- nothing has turned but the blocks of S, and new ones -/
structure But (S : Nat → Prop) (w w' : World) : Prop where
  os : w'.os = w.os
  tape : w'.tape = w.tape
  output : w'.output = w.output
  size : w.heap.size ≤ w'.heap.size
  block : ∀ k, k < w.heap.size → ¬ S k → w'.heap[k]? = w.heap[k]?
theorem But.refl (S : Nat → Prop) (w : World) : But S w w := ⟨rfl, rfl, rfl, Nat.le_refl _, fun _ _ _ => rfl⟩
theorem But.grown {S : Nat → Prop} {w w1 w2 : World} {row : Option Nat} (h : But S w w1) (g : w1.grownBy w2 row) (hr : ∀ k, row = some k → S k ∨ w.heap.size ≤ k) : But S w w2 :=
  ⟨g.os.trans h.os, g.tape.trans h.tape, g.output.trans h.output, Nat.le_trans h.size g.size, fun k hk hS => (g.block k (Nat.lt_of_lt_of_le hk h.size) (fun e => by
    rcases hr k e.symm with h1 | h1
    · exact hS h1
    · omega)).trans (h.block k hk hS)⟩
theorem But.trans {S T : Nat → Prop} {w w1 w2 : World} (h : But S w w1) (g : But T w1 w2) (hT : ∀ k, T k → S k ∨ w.heap.size ≤ k) : But S w w2 :=
  ⟨g.os.trans h.os, g.tape.trans h.tape, g.output.trans h.output, Nat.le_trans h.size g.size, fun k hk hS => (g.block k (Nat.lt_of_lt_of_le hk h.size) (fun e => by
    rcases hT k e with h1 | h1
    · exact hS h1
    · omega)).trans (h.block k hk hS)⟩
theorem But.below {S : Nat → Prop} {B : Nat} {w w' : World} (h : But S w w') (hB : B ≤ w.heap.size) (hS : ∀ k, S k → B ≤ k) : Below B w w' :=
  ⟨h.os, h.tape, h.output, h.size, fun k hk => h.block k (by omega) (fun e => by have := hS k e; omega)⟩
end Go.Proofs.Ybulkdenm

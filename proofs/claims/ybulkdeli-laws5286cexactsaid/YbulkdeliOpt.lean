import Derived.Test.YbulkdeliRows
import Derived.WalkKit
import Derived.WalkSpells
import Derived.WalkLawsBesides
import Derived.Deep.QuietTactic
import Derived.BigQuiet
import Derived.LaidEql
namespace Go.Proofs.Ybulkdeli
open Go.RowKit Go.ChangeShapes

theorem ptr_eql_other {P : Program} (w : World) {t te : TypeId} {j : TypeInfo} {a b : Addr} {ca cb : Array Value} {ta tb : TypeId} (hp : P.underlying t = some (.pointer te)) (hte : P.info? te = some j) (hsz : j.size ≠ 0)
    (hne : a ≠ b) (ha : w.heap[a.block]? = some (.cells ca ta (0, 0))) (hb : w.heap[b.block]? = some (.cells cb tb (0, 0))) : (binOp .eql t (.pointer (some a)) (.pointer (some b))).run P w = .ok (.bool false) w := by
  have h : ∀ d : Nat, (Op.equalIn (d + 1) t (.pointer (some a)) (.pointer (some b))).run P w = .ok false w := fun d => by
    simp [Op.equalIn, run_underlying hp, sizeOf, typeInfo, hte, hsz, run_sameAddr_other w hne ha hb]
  simp only [binOp]
  simp [Op.equal, Op.maxDepth, h 9999]
theorem Yba.info9 : (Yba.prog.info? 9).map (fun i => (i.zero, i.size, i.bytes)) = some (some (.string ⟨#[]⟩), 1, 16) := by kernel_rfl

set_option maxHeartbeats 400000 in
theorem kind10 (k : Int) (b : Bool) (s : ByteArray) (n : Int) (w : World) :
    Calls Yba.prog 10 #[.agg #[.int .u8 k, .bool b, .string s, .int .i64 n]] w fun e w' => e = .returned (.int .u8 k) ∧ Below w.heap.size w w' := by
  go_enter Yba.func10, Yba.ntmps10
  go_wp2
  go_ret
  exact ⟨rfl, (Below.refl _ _).alloc (Nat.le_refl _) _⟩
set_option maxHeartbeats 400000 in
theorem str11 (b : Bool) (s : ByteArray) (n : Int) (w : World) :
    Calls Yba.prog 11 #[.agg #[.int .u8 0, .bool b, .string s, .int .i64 n]] w fun e w' => e = .returned (.string s) ∧ Below w.heap.size w w' := by
  go_enter Yba.func11, Yba.ntmps11
  go_wp2
  go_ret
  exact ⟨rfl, (Below.refl _ _).alloc (Nat.le_refl _) _⟩
set_option maxHeartbeats 400000 in
theorem string12 (s : ByteArray) (w : World) :
    Calls Yba.prog 12 #[.string s] w fun e w' => e = .returned (.agg #[.int .u8 0, .bool false, .string s, .int .i64 0]) ∧ Below w.heap.size w w' := by
  go_enter Yba.func12, Yba.ntmps12
  go_wp2
  exact bodyPost_ret (v := .agg #[.int .u8 0, .bool false, .string s, .int .i64 0]) (by simp [results, Yba.results12, go_sem]) rfl ⟨rfl, (Below.refl _ _).alloc (Nat.le_refl _) _⟩

def box42 (k : Int) (b : Bool) (s : ByteArray) (n : Int) : Obj := .cells #[.int .u8 k, .bool b, .string s, .int .i64 n] 42
theorem cell_four {w : World} {g : Nat} {t : TypeId} {v0 v1 v2 v3 : Value} (h : w.heap[g]? = some (.cells #[v0, v1, v2, v3] t (0, 0))) :
    w.cell? ⟨g, 0, none⟩ = some v0 ∧ w.cell? ⟨g, 1, none⟩ = some v1 ∧ w.cell? ⟨g, 2, none⟩ = some v2 ∧ w.cell? ⟨g, 3, none⟩ = some v3 := by
  refine ⟨?_, ?_, ?_, ?_⟩ <;> (rw [cell_of_row w g _ _ t (0, 0) h]; rfl)

set_option maxHeartbeats 1000000 in
theorem opt9_str (b : Bool) (s : ByteArray) (n : Int) (w : World) :
    Calls Yba.prog 9 #[.agg #[.int .u8 0, .bool b, .string s, .int .i64 n]] w fun e w' => ∃ g, e = .returned (.tuple #[.pointer (some ⟨g, 0, none⟩), .bool true]) ∧ w.heap.size ≤ g ∧ w'.heap[g]? = some (.cells #[.string s] 9 (0, 0)) ∧ Below w.heap.size w w' := by
  obtain ⟨w1, hw1⟩ : ∃ w1, w1 = w.alloc (.cells #[.int .u8 0, .bool b, .string s, .int .i64 n] 42) := ⟨_, rfl⟩
  have hv1 : w1.heap[w.heap.size]? = some (.cells #[.int .u8 0, .bool b, .string s, .int .i64 n] 42 (0, 0)) := by rw [hw1]; exact heap_alloc_new w _
  have hb1 : Below w.heap.size w w1 := by rw [hw1]; exact (Below.refl _ _).alloc (Nat.le_refl _) _
  have hz1 := (Array.getElem?_eq_some_iff.1 hv1).1
  go_enter Yba.func9, Yba.ntmps9
  go_wp2_with fail
  rw [← hw1]
  clear hw1
  refine (kind10 0 b s n w1).mono ?_
  rintro e w2 ⟨rfl, hb2⟩
  have hv2 := (hb2.block w.heap.size hz1).trans hv1
  have hz2 := hb2.size
  obtain ⟨c0, c1, c2, c3⟩ := cell_four hv2
  go_wp2_with fail
  refine (str11 b s n w2).mono ?_
  rintro e w3 ⟨rfl, hb3⟩
  have hz3 := hb3.size
  go_wp2
  go_ret2
  refine ⟨w3.heap.size, rfl, by omega, heap_alloc_new w3 _, ?_⟩
  exact (hb1.trans ((hb2.mono (by omega)).trans (hb3.mono (by omega)))).alloc (by omega) _

set_option maxHeartbeats 1000000 in
theorem opt9_null (b : Bool) (s : ByteArray) (n : Int) (w : World) :
    Calls Yba.prog 9 #[.agg #[.int .u8 3, .bool b, .string s, .int .i64 n]] w fun e w' => e = .returned (.tuple #[.pointer none, .bool true]) ∧ Below w.heap.size w w' := by
  have hb1 : Below w.heap.size w (w.alloc (.cells #[.int .u8 3, .bool b, .string s, .int .i64 n] 42)) := (Below.refl _ _).alloc (Nat.le_refl _) _
  go_enter Yba.func9, Yba.ntmps9
  go_wp2_with fail
  refine (kind10 3 b s n _).mono ?_
  rintro e w2 ⟨rfl, hb2⟩
  go_wp2
  go_ret2
  exact ⟨rfl, hb1.trans (hb2.mono (by simp))⟩

set_option maxHeartbeats 1000000 in
theorem opt9_other (k : Int) (b : Bool) (s : ByteArray) (n : Int) (w : World) (h0 : 1 ≤ k) (h3 : k ≤ 2) :
    Calls Yba.prog 9 #[.agg #[.int .u8 k, .bool b, .string s, .int .i64 n]] w fun e w' => e = .returned (.tuple #[.pointer none, .bool false]) ∧ Below w.heap.size w w' := by
  have hb1 : Below w.heap.size w (w.alloc (.cells #[.int .u8 k, .bool b, .string s, .int .i64 n] 42)) := (Below.refl _ _).alloc (Nat.le_refl _) _
  go_enter Yba.func9, Yba.ntmps9
  go_wp2_with fail
  refine (kind10 k b s n _).mono ?_
  rintro e w2 ⟨rfl, hb2⟩
  go_wp2
  go_ret2
  exact ⟨rfl, hb1.trans (hb2.mono (by simp))⟩

set_option maxHeartbeats 1000000 in
set_option maxRecDepth 100000 in
theorem fresh5 (s o : ByteArray) (w : World) (ho : o.size ≤ 140737488355328) :
    Calls Yba.prog 5 #[.string s, .string o] w fun e w' => e = .returned (.bool true) ∧ Below w.heap.size w w' := by
  go_enter Yba.func5, Yba.ntmps5
  go_wp2_with fail
  refine (string12 s w).mono ?_
  rintro e w1 ⟨rfl, hb1⟩
  have hz1 := hb1.size
  go_wp2_with fail
  obtain ⟨w2, hw2⟩ : ∃ w2, w2 = w1.alloc (.cells #[.int .u8 0, .bool false, .string s, .int .i64 0] 42) := ⟨_, rfl⟩
  have hv2 : w2.heap[w1.heap.size]? = some (.cells #[.int .u8 0, .bool false, .string s, .int .i64 0] 42 (0, 0)) := by rw [hw2]; exact heap_alloc_new w1 _
  have hb2 : Below w.heap.size w w2 := by rw [hw2]; exact hb1.alloc hz1 _
  have hz2 := (Array.getElem?_eq_some_iff.1 hv2).1
  rw [← hw2]
  clear hw2
  refine (opt9_str false s 0 w2).mono ?_
  rintro e w3 ⟨g, rfl, hg, hgb, hb3⟩
  have hv3 := (hb3.block _ hz2).trans hv2
  have hgc := cell_of_one hgb
  have hgf := free_of_one hgb
  have hz3 := hb3.size
  have hz3' := (Array.getElem?_eq_some_iff.1 hgb).1
  have ngv : ¬ w1.heap.size = g := by omega
  have ngv' : ¬ g = w1.heap.size := by omega
  obtain ⟨c0, c1, c2, c3⟩ := cell_four hv3
  go_wp2_with fail
  have hg4 : (w3.setCell ⟨g, 0, none⟩ (.string (o ++ ⟨#[35]⟩))).heap[g]? = some (.cells #[.string (o ++ ⟨#[35]⟩)] 9 (0, 0)) := one_setCell hgb
  have hv4 : (w3.setCell ⟨g, 0, none⟩ (.string (o ++ ⟨#[35]⟩))).heap[w1.heap.size]? = some (.cells #[.int .u8 0, .bool false, .string s, .int .i64 0] 42 (0, 0)) := (heap_setCell_other _ _ _ _ (by show w1.heap.size ≠ g; omega)).trans hv3
  have hb4 : Below w.heap.size w (w3.setCell ⟨g, 0, none⟩ (.string (o ++ ⟨#[35]⟩))) := (hb2.trans (hb3.mono (by omega))).setCell (by show w.heap.size ≤ g; omega) _
  have hz4 : w3.heap.size ≤ (w3.setCell ⟨g, 0, none⟩ (.string (o ++ ⟨#[35]⟩))).heap.size := by simp [World.setCell]
  clear hgc hgf c0 c1 c2 c3 hgb hv3 hv2 hb3 hb2 hb1
  generalize w3.setCell ⟨g, 0, none⟩ (.string (o ++ ⟨#[35]⟩)) = w4 at *
  refine (opt9_str false s 0 w4).mono ?_
  rintro e w5 ⟨g2, rfl, hg2, hgb2, hb5⟩
  have hv5 := (hb5.block w1.heap.size (by omega)).trans hv4
  have hg5 := (hb5.block g (by omega)).trans hg4
  have hz5 := hb5.size
  have d0 := cell_of_one hg5
  have d1 := cell_of_one hgb2
  obtain ⟨c0, c1, c2, c3⟩ := cell_four hv5
  have hne : ¬ g2 = g := by omega
  have hz6 := (Array.getElem?_eq_some_iff.1 hgb2).1
  have hb6 : Below w.heap.size w w5 := hb4.trans (hb5.mono (by omega))
  obtain ⟨i9, ki, _, kz1, _⟩ := info_parts Yba.info9
  have hpe := ptr_eql_other (P := Yba.prog) w5 (a := ⟨g2, 0, none⟩) (b := ⟨g, 0, none⟩) Yba.underlying44 ki (by omega) (fun h => hne (congrArg Addr.block h)) hgb2 hg5
  clear hgb2 hv5 hg5 hv4 hg4 hb4 hb5
  go_wp2_with fail
  refine (str11 false s 0 w5).mono ?_
  rintro e w6 ⟨rfl, hb7⟩
  have d2 := (hb7.cell (p := ⟨g, 0, none⟩) (by show g < _; omega)).trans d0
  go_wp2
  go_ret
  exact ⟨rfl, hb6.trans (hb7.mono (by omega))⟩
end Go.Proofs.Ybulkdeli

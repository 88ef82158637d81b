import Derived.Test.YbulkdeliOpt
namespace Go.Proofs.Ybulkdeli
open Go.RowKit Go.ChangeShapes

set_option maxHeartbeats 400000 in
theorem bool17 (b : Bool) (w : World) :
    Calls Yba.prog 17 #[.bool b] w fun e w' => e = .returned (.agg #[.int .u8 1, .bool b, .string ⟨#[]⟩, .int .i64 0]) ∧ Below w.heap.size w w' := by
  go_enter Yba.func17, Yba.ntmps17
  go_wp2
  exact bodyPost_ret (v := .agg #[.int .u8 1, .bool b, .string ⟨#[]⟩, .int .i64 0]) (by simp [results, Yba.results17, go_sem]) rfl ⟨rfl, (Below.refl _ _).alloc (Nat.le_refl _) _⟩
set_option maxHeartbeats 400000 in
theorem int18 (n : Int) (w : World) :
    Calls Yba.prog 18 #[.int .i64 n] w fun e w' => e = .returned (.agg #[.int .u8 2, .bool false, .string ⟨#[]⟩, .int .i64 n]) ∧ Below w.heap.size w w' := by
  go_enter Yba.func18, Yba.ntmps18
  go_wp2
  exact bodyPost_ret (v := .agg #[.int .u8 2, .bool false, .string ⟨#[]⟩, .int .i64 n]) (by simp [results, Yba.results18, go_sem]) rfl ⟨rfl, (Below.refl _ _).alloc (Nat.le_refl _) _⟩
set_option maxHeartbeats 400000 in
theorem null19 (w : World) :
    Calls Yba.prog 19 #[] w fun e w' => e = .returned (.agg #[.int .u8 3, .bool false, .string ⟨#[]⟩, .int .i64 0]) ∧ Below w.heap.size w w' := by
  go_enter Yba.func19, Yba.ntmps19
  go_wp2
  exact bodyPost_ret (v := .agg #[.int .u8 3, .bool false, .string ⟨#[]⟩, .int .i64 0]) (by simp [results, Yba.results19, go_sem]) rfl ⟨rfl, (Below.refl _ _).alloc (Nat.le_refl _) _⟩

theorem zero42 (w : World) : (w.alloc (.cells #[.int .u8 0, .bool false, .string ⟨#[]⟩, .int .i64 0] 42)).heap[w.heap.size]? = some (.cells #[.int .u8 0, .bool false, .string ⟨#[]⟩, .int .i64 0] 42 (0, 0)) := heap_alloc_new w _
theorem free_four {w : World} {g : Nat} {t : TypeId} {v0 v1 v2 v3 : Value} (h : w.heap[g]? = some (.cells #[v0, v1, v2, v3] t (0, 0))) : ∀ o, w.frozen? ⟨g, o, none⟩ = false := by
  intro o
  simp only [World.frozen?]
  rw [h]
  simp

set_option maxHeartbeats 1000000 in
theorem build8_0 (s : Nat) (str : ByteArray) (b : Bool) (n : Int) (w : World) (hs : s < 256) (hi : (s : Int) % 4 = 0) :
    Calls Yba.prog 8 #[.int .u8 s, .string str, .bool b, .int .i64 n] w fun e w' => e = .returned (.agg #[.int .u8 0, .bool false, .string str, .int .i64 0]) ∧ Below w.heap.size w w' := by
  have hz := zero42 w
  have hb0 : Below w.heap.size w (w.alloc (.cells #[.int .u8 0, .bool false, .string ⟨#[]⟩, .int .i64 0] 42)) := (Below.refl _ _).alloc (Nat.le_refl _) _
  have hs0 := (Array.getElem?_eq_some_iff.1 hz).1
  go_enter Yba.func8, Yba.ntmps8
  go_wp2_with fail
  refine (string12 str _).mono ?_
  rintro e w1 ⟨rfl, hb1⟩
  have hz1 := (hb1.block _ hs0).trans hz
  obtain ⟨c0, c1, c2, c3⟩ := cell_four hz1
  have hf := free_four hz1
  have hb2 := hb0.trans (hb1.mono (by simp))
  clear hz hz1 hb1 hb0
  go_wp2
  refine bodyPost_ret (v := .agg #[.int .u8 0, .bool false, .string str, .int .i64 0]) (by simp [results, Yba.results8, go_sem, c0, c1, c2, c3]) rfl ⟨rfl, ?_⟩
  exact (((hb2.setCell (Nat.le_refl _) _).setCell (Nat.le_refl _) _).setCell (Nat.le_refl _) _).setCell (Nat.le_refl _) _
set_option maxHeartbeats 1000000 in
theorem build8_1 (s : Nat) (str : ByteArray) (b : Bool) (n : Int) (w : World) (hs : s < 256) (hi : (s : Int) % 4 = 1) :
    Calls Yba.prog 8 #[.int .u8 s, .string str, .bool b, .int .i64 n] w fun e w' => e = .returned (.agg #[.int .u8 1, .bool b, .string ⟨#[]⟩, .int .i64 0]) ∧ Below w.heap.size w w' := by
  have hz := zero42 w
  have hb0 : Below w.heap.size w (w.alloc (.cells #[.int .u8 0, .bool false, .string ⟨#[]⟩, .int .i64 0] 42)) := (Below.refl _ _).alloc (Nat.le_refl _) _
  have hs0 := (Array.getElem?_eq_some_iff.1 hz).1
  go_enter Yba.func8, Yba.ntmps8
  go_wp2_with fail
  refine (bool17 b _).mono ?_
  rintro e w1 ⟨rfl, hb1⟩
  have hz1 := (hb1.block _ hs0).trans hz
  obtain ⟨c0, c1, c2, c3⟩ := cell_four hz1
  have hf := free_four hz1
  have hb2 := hb0.trans (hb1.mono (by simp))
  clear hz hz1 hb1 hb0
  go_wp2
  refine bodyPost_ret (v := .agg #[.int .u8 1, .bool b, .string ⟨#[]⟩, .int .i64 0]) (by simp [results, Yba.results8, go_sem, c0, c1, c2, c3]) rfl ⟨rfl, ?_⟩
  exact (((hb2.setCell (Nat.le_refl _) _).setCell (Nat.le_refl _) _).setCell (Nat.le_refl _) _).setCell (Nat.le_refl _) _
set_option maxHeartbeats 1000000 in
theorem build8_2 (s : Nat) (str : ByteArray) (b : Bool) (n : Int) (w : World) (hs : s < 256) (hi : (s : Int) % 4 = 2) :
    Calls Yba.prog 8 #[.int .u8 s, .string str, .bool b, .int .i64 n] w fun e w' => e = .returned (.agg #[.int .u8 2, .bool false, .string ⟨#[]⟩, .int .i64 n]) ∧ Below w.heap.size w w' := by
  have hz := zero42 w
  have hb0 : Below w.heap.size w (w.alloc (.cells #[.int .u8 0, .bool false, .string ⟨#[]⟩, .int .i64 0] 42)) := (Below.refl _ _).alloc (Nat.le_refl _) _
  have hs0 := (Array.getElem?_eq_some_iff.1 hz).1
  go_enter Yba.func8, Yba.ntmps8
  go_wp2_with fail
  refine (int18 n _).mono ?_
  rintro e w1 ⟨rfl, hb1⟩
  have hz1 := (hb1.block _ hs0).trans hz
  obtain ⟨c0, c1, c2, c3⟩ := cell_four hz1
  have hf := free_four hz1
  have hb2 := hb0.trans (hb1.mono (by simp))
  clear hz hz1 hb1 hb0
  go_wp2
  refine bodyPost_ret (v := .agg #[.int .u8 2, .bool false, .string ⟨#[]⟩, .int .i64 n]) (by simp [results, Yba.results8, go_sem, c0, c1, c2, c3]) rfl ⟨rfl, ?_⟩
  exact (((hb2.setCell (Nat.le_refl _) _).setCell (Nat.le_refl _) _).setCell (Nat.le_refl _) _).setCell (Nat.le_refl _) _
set_option maxHeartbeats 1000000 in
theorem build8_3 (s : Nat) (str : ByteArray) (b : Bool) (n : Int) (w : World) (hs : s < 256) (hi : (s : Int) % 4 = 3) :
    Calls Yba.prog 8 #[.int .u8 s, .string str, .bool b, .int .i64 n] w fun e w' => e = .returned (.agg #[.int .u8 3, .bool false, .string ⟨#[]⟩, .int .i64 0]) ∧ Below w.heap.size w w' := by
  have hz := zero42 w
  have hb0 : Below w.heap.size w (w.alloc (.cells #[.int .u8 0, .bool false, .string ⟨#[]⟩, .int .i64 0] 42)) := (Below.refl _ _).alloc (Nat.le_refl _) _
  have hs0 := (Array.getElem?_eq_some_iff.1 hz).1
  go_enter Yba.func8, Yba.ntmps8
  go_wp2_with fail
  refine (null19 _).mono ?_
  rintro e w1 ⟨rfl, hb1⟩
  have hz1 := (hb1.block _ hs0).trans hz
  obtain ⟨c0, c1, c2, c3⟩ := cell_four hz1
  have hf := free_four hz1
  have hb2 := hb0.trans (hb1.mono (by simp))
  clear hz hz1 hb1 hb0
  go_wp2
  refine bodyPost_ret (v := .agg #[.int .u8 3, .bool false, .string ⟨#[]⟩, .int .i64 0]) (by simp [results, Yba.results8, go_sem, c0, c1, c2, c3]) rfl ⟨rfl, ?_⟩
  exact (((hb2.setCell (Nat.le_refl _) _).setCell (Nat.le_refl _) _).setCell (Nat.le_refl _) _).setCell (Nat.le_refl _) _

set_option maxHeartbeats 1000000 in
set_option maxRecDepth 100000 in
theorem exact4_0 (s : Nat) (str : ByteArray) (b : Bool) (n : Int) (w : World) (hs : s < 256) (hi : (s : Int) % 4 = 0) :
    Calls Yba.prog 4 #[.int .u8 s, .string str, .bool b, .int .i64 n] w fun e w' => e = .returned (.bool true) ∧ Below w.heap.size w w' := by
  go_enter Yba.func4, Yba.ntmps4
  go_wp2_with fail
  refine (build8_0 s str b n w hs hi).mono ?_
  rintro e w1 ⟨rfl, hb1⟩
  have hz1 := hb1.size
  have hb2 : Below w.heap.size w (w1.alloc (.cells #[.int .u8 0, .bool false, .string str, .int .i64 0] 42)) := hb1.alloc hz1 _
  have hv2 : (w1.alloc (.cells #[.int .u8 0, .bool false, .string str, .int .i64 0] 42)).heap[w1.heap.size]? = some (.cells #[.int .u8 0, .bool false, .string str, .int .i64 0] 42 (0, 0)) := heap_alloc_new w1 _
  have hs2 := (Array.getElem?_eq_some_iff.1 hv2).1
  go_wp2_with fail
  refine (opt9_str false str 0 _).mono ?_
  rintro e w3 ⟨g, rfl, hg, hgb, hb3⟩
  have hgc := cell_of_one hgb
  have hb4 := hb2.trans (hb3.mono (by simp; omega))
  clear hb2 hb3 hv2 hgb
  go_wp2
  go_ret
  exact ⟨rfl, hb4⟩

set_option maxHeartbeats 1000000 in
set_option maxRecDepth 100000 in
theorem exact4_1 (s : Nat) (str : ByteArray) (b : Bool) (n : Int) (w : World) (hs : s < 256) (hi : (s : Int) % 4 = 1) :
    Calls Yba.prog 4 #[.int .u8 s, .string str, .bool b, .int .i64 n] w fun e w' => e = .returned (.bool true) ∧ Below w.heap.size w w' := by
  go_enter Yba.func4, Yba.ntmps4
  go_wp2_with fail
  refine (build8_1 s str b n w hs hi).mono ?_
  rintro e w1 ⟨rfl, hb1⟩
  have hz1 := hb1.size
  have hb2 : Below w.heap.size w (w1.alloc (.cells #[.int .u8 1, .bool b, .string ⟨#[]⟩, .int .i64 0] 42)) := hb1.alloc hz1 _
  have hv2 : (w1.alloc (.cells #[.int .u8 1, .bool b, .string ⟨#[]⟩, .int .i64 0] 42)).heap[w1.heap.size]? = some (.cells #[.int .u8 1, .bool b, .string ⟨#[]⟩, .int .i64 0] 42 (0, 0)) := heap_alloc_new w1 _
  have hs2 := (Array.getElem?_eq_some_iff.1 hv2).1
  go_wp2_with fail
  refine (opt9_other 1 b ⟨#[]⟩ 0 _ (by omega) (by omega)).mono ?_
  rintro e w3 ⟨rfl, hb3⟩
  have hb4 := hb2.trans (hb3.mono (by simp; omega))
  clear hb2 hb3 hv2
  go_wp2
  go_ret
  exact ⟨rfl, hb4⟩

set_option maxHeartbeats 1000000 in
set_option maxRecDepth 100000 in
theorem exact4_2 (s : Nat) (str : ByteArray) (b : Bool) (n : Int) (w : World) (hs : s < 256) (hi : (s : Int) % 4 = 2) :
    Calls Yba.prog 4 #[.int .u8 s, .string str, .bool b, .int .i64 n] w fun e w' => e = .returned (.bool true) ∧ Below w.heap.size w w' := by
  go_enter Yba.func4, Yba.ntmps4
  go_wp2_with fail
  refine (build8_2 s str b n w hs hi).mono ?_
  rintro e w1 ⟨rfl, hb1⟩
  have hz1 := hb1.size
  have hb2 : Below w.heap.size w (w1.alloc (.cells #[.int .u8 2, .bool false, .string ⟨#[]⟩, .int .i64 n] 42)) := hb1.alloc hz1 _
  have hv2 : (w1.alloc (.cells #[.int .u8 2, .bool false, .string ⟨#[]⟩, .int .i64 n] 42)).heap[w1.heap.size]? = some (.cells #[.int .u8 2, .bool false, .string ⟨#[]⟩, .int .i64 n] 42 (0, 0)) := heap_alloc_new w1 _
  have hs2 := (Array.getElem?_eq_some_iff.1 hv2).1
  go_wp2_with fail
  refine (opt9_other 2 false ⟨#[]⟩ n _ (by omega) (by omega)).mono ?_
  rintro e w3 ⟨rfl, hb3⟩
  have hb4 := hb2.trans (hb3.mono (by simp; omega))
  clear hb2 hb3 hv2
  go_wp2
  go_ret
  exact ⟨rfl, hb4⟩

set_option maxHeartbeats 1000000 in
set_option maxRecDepth 100000 in
theorem exact4_3 (s : Nat) (str : ByteArray) (b : Bool) (n : Int) (w : World) (hs : s < 256) (hi : (s : Int) % 4 = 3) :
    Calls Yba.prog 4 #[.int .u8 s, .string str, .bool b, .int .i64 n] w fun e w' => e = .returned (.bool true) ∧ Below w.heap.size w w' := by
  go_enter Yba.func4, Yba.ntmps4
  go_wp2_with fail
  refine (build8_3 s str b n w hs hi).mono ?_
  rintro e w1 ⟨rfl, hb1⟩
  have hz1 := hb1.size
  have hb2 : Below w.heap.size w (w1.alloc (.cells #[.int .u8 3, .bool false, .string ⟨#[]⟩, .int .i64 0] 42)) := hb1.alloc hz1 _
  have hv2 : (w1.alloc (.cells #[.int .u8 3, .bool false, .string ⟨#[]⟩, .int .i64 0] 42)).heap[w1.heap.size]? = some (.cells #[.int .u8 3, .bool false, .string ⟨#[]⟩, .int .i64 0] 42 (0, 0)) := heap_alloc_new w1 _
  have hs2 := (Array.getElem?_eq_some_iff.1 hv2).1
  go_wp2_with fail
  refine (opt9_null false ⟨#[]⟩ 0 _).mono ?_
  rintro e w3 ⟨rfl, hb3⟩
  have hb4 := hb2.trans (hb3.mono (by simp; omega))
  have hv3 := (hb3.block _ hs2).trans hv2
  have hz3 := hb3.size
  simp at hz3
  obtain ⟨c0, c1, c2, c3⟩ := cell_four hv3
  clear hb2 hb3 hv2 hv3
  go_wp2_with fail
  refine (kind10 3 false ⟨#[]⟩ 0 w3).mono ?_
  rintro e w4 ⟨rfl, hb5⟩
  have hb6 := hb4.trans (hb5.mono (by omega))
  go_wp2
  go_ret
  exact ⟨rfl, hb6⟩
end Go.Proofs.Ybulkdeli

import Derived.Test.YbulkdekgBefore
import Derived.Deep.RegionWith
import Derived.RegionTactic
import Derived.Deep.RegionHeld3
import Derived.StillTactics
import Derived.Laws.Pointers
namespace Go.Proofs.Ybulkdekg
open Go.RowKit Go.ChangeShapes

/-! ### the queue in memory -/
def tcells (Q : List Tn) : List Value := Q.flatMap fun a => [.int .u32 a.node, .int .u64 a.k, .int .u64 a.wt]
def QAt (w : World) (b : Nat) (Q : List Tn) (rest : List Value) : Prop := w.heap[b]? = some (.cells (tcells Q ++ rest).toArray 68 (0, 0))

theorem tcells_cons (a : Tn) (Q : List Tn) : tcells (a :: Q) = .int .u32 a.node :: .int .u64 a.k :: .int .u64 a.wt :: tcells Q := rfl
theorem tcells_len (Q : List Tn) : (tcells Q).length = Q.length * 3 := by
  induction Q with
  | nil => rfl
  | cons a Q ih => rw [tcells_cons]; simp only [List.length_cons, ih]; omega

theorem tcells_at (Q : List Tn) : ∀ (i : Nat) (x : Tn) (rest : List Value), Q[i]? = some x → (tcells Q ++ rest)[i * 3]? = some (.int .u32 x.node) ∧ (tcells Q ++ rest)[i * 3 + 1]? = some (.int .u64 x.k) ∧ (tcells Q ++ rest)[i * 3 + 2]? = some (.int .u64 x.wt) := by
  induction Q with
  | nil => intro i x rest h; simp at h
  | cons a Q ih =>
    intro i x rest h
    have e : tcells (a :: Q) ++ rest = .int .u32 a.node :: .int .u64 a.k :: .int .u64 a.wt :: (tcells Q ++ rest) := rfl
    rw [e]
    cases i with
    | zero => simp at h; subst h; exact ⟨rfl, rfl, rfl⟩
    | succ i =>
      have h' : Q[i]? = some x := by simpa using h
      obtain ⟨p0, p1, p2⟩ := ih i x rest h'
      have e0 : (i + 1) * 3 = i * 3 + 3 := by omega
      rw [e0]
      exact ⟨p0, p1, p2⟩

theorem tcells_set (Q : List Tn) : ∀ (i : Nat) (x : Tn) (rest : List Value), i < Q.length → (((tcells Q ++ rest).set (i * 3) (.int .u32 x.node)).set (i * 3 + 1) (.int .u64 x.k)).set (i * 3 + 2) (.int .u64 x.wt) = tcells (Q.set i x) ++ rest := by
  induction Q with
  | nil => intro i x rest h; simp at h
  | cons a Q ih =>
    intro i x rest h
    have e : tcells (a :: Q) ++ rest = .int .u32 a.node :: .int .u64 a.k :: .int .u64 a.wt :: (tcells Q ++ rest) := rfl
    rw [e]
    cases i with
    | zero => rfl
    | succ i =>
      have q := ih i x rest (by simpa using h)
      have e0 : (i + 1) * 3 = i * 3 + 3 := by omega
      rw [e0]
      simp only [List.set_cons_succ]
      rw [q]
      rfl

theorem QAt.cells {w : World} {b : Nat} {Q : List Tn} {rest : List Value} (h : QAt w b Q rest) {i : Nat} {x : Tn} (hi : Q[i]? = some x) :
    w.cell? ⟨b, i * 3, none⟩ = some (.int .u32 x.node) ∧ w.cell? ⟨b, i * 3 + 1, none⟩ = some (.int .u64 x.k) ∧ w.cell? ⟨b, i * 3 + 2, none⟩ = some (.int .u64 x.wt) := by
  obtain ⟨p0, p1, p2⟩ := tcells_at Q i x rest hi
  refine ⟨?_, ?_, ?_⟩
  · rw [cell_of_row w b _ _ 68 (0, 0) h]; simpa using p0
  · rw [cell_of_row w b _ _ 68 (0, 0) h]; simpa using p1
  · rw [cell_of_row w b _ _ 68 (0, 0) h]; simpa using p2
theorem QAt.free {w : World} {b : Nat} {Q : List Tn} {rest : List Value} (h : QAt w b Q rest) : ∀ o, w.frozen? ⟨b, o, none⟩ = false := by
  intro o
  simp only [World.frozen?]
  rw [show w.heap[b]? = _ from h]
  simp
theorem QAt.lt {w : World} {b : Nat} {Q : List Tn} {rest : List Value} (h : QAt w b Q rest) : b < w.heap.size := (Array.getElem?_eq_some_iff.1 h).1
theorem QAt.of_block {w w' : World} {b : Nat} {Q : List Tn} {rest : List Value} (h : QAt w b Q rest) (e : w'.heap[b]? = w.heap[b]?) : QAt w' b Q rest := e.trans h
theorem QAt.drew {w : World} {b : Nat} {Q : List Tn} {rest : List Value} (h : QAt w b Q rest) : QAt w.drew b Q rest := h
theorem QAt.put {w : World} {b : Nat} {Q : List Tn} {rest : List Value} (h : QAt w b Q rest) {i : Nat} (hi : i < Q.length) (x : Tn) :
    QAt (((w.setCell ⟨b, i * 3, none⟩ (.int .u32 x.node)).setCell ⟨b, i * 3 + 1, none⟩ (.int .u64 x.k)).setCell ⟨b, i * 3 + 2, none⟩ (.int .u64 x.wt)) b (Q.set i x) rest := by
  have h1 := heap_setCell_same w b (i * 3) _ 68 (.int .u32 x.node) h
  have h2 := heap_setCell_same _ b (i * 3 + 1) _ 68 (.int .u64 x.k) h1
  have h3 := heap_setCell_same _ b (i * 3 + 2) _ 68 (.int .u64 x.wt) h2
  unfold QAt
  rw [h3, ← tcells_set Q i x rest hi]
  simp

/-! ### how a world has grown -/
theorem grown_trans {w w1 w2 : World} {row : Option Nat} (h : w.grownBy w1 row) (k : w1.grownBy w2 row) : w.grownBy w2 row :=
  ⟨k.os.trans h.os, k.tape.trans h.tape, k.output.trans h.output, Nat.le_trans h.size k.size, fun i hi hne => (k.block i (Nat.lt_of_lt_of_le hi h.size) hne).trans (h.block i hi hne)⟩
theorem grown_drew (w : World) (row : Option Nat) : w.grownBy w.drew row := ⟨rfl, rfl, rfl, Nat.le_refl _, fun _ _ _ => rfl⟩
theorem grown_drewN (w : World) (n : Nat) (row : Option Nat) : w.grownBy (w.drewN n) row := ⟨rfl, rfl, rfl, Nat.le_refl _, fun _ _ _ => rfl⟩
theorem grown_setCell (w : World) (b o : Nat) (v : Value) : w.grownBy (w.setCell ⟨b, o, none⟩ v) (some b) :=
  ⟨rfl, rfl, rfl, by simp [World.setCell], fun k _ hne => heap_setCell_other w _ k v (fun e => hne (by simp [e]))⟩
theorem grown_alloc (w : World) (o : Obj) (row : Option Nat) : w.grownBy (w.alloc o) row := World.grownBy_alloc w o row
theorem grown_put (w : World) (b i j k : Nat) (u v x : Value) : w.grownBy (((w.setCell ⟨b, i, none⟩ u).setCell ⟨b, j, none⟩ v).setCell ⟨b, k, none⟩ x) (some b) :=
  grown_trans (grown_trans (grown_setCell _ _ _ _) (grown_setCell _ _ _ _)) (grown_setCell _ _ _ _)

theorem QAt.exch {w : World} {b : Nat} {Q : List Tn} {rest : List Value} (h : QAt w b Q rest) {i j : Nat} (hi : i < Q.length) (hj : j < Q.length) (x y : Tn) :
    QAt ((((((w.setCell ⟨b, i * 3, none⟩ (.int .u32 y.node)).setCell ⟨b, i * 3 + 1, none⟩ (.int .u64 y.k)).setCell ⟨b, i * 3 + 2, none⟩ (.int .u64 y.wt)).setCell ⟨b, j * 3, none⟩ (.int .u32 x.node)).setCell ⟨b, j * 3 + 1, none⟩ (.int .u64 x.k)).setCell ⟨b, j * 3 + 2, none⟩ (.int .u64 x.wt)).drew b ((Q.set i y).set j x) rest :=
  (QAt.put (QAt.put h hi y) (show j < (Q.set i y).length by simpa using hj) x).drew

theorem idx0 (c0 c1 : Int) : ∀ w, (Instr.index 80 (.agg #[.int .i64 c0, .int .i64 c1]) (.int .i64 0)).run Yba.prog w = .ok (.int .i64 c0) w := fun _ => by kernel_rfl
theorem idx1 (c0 c1 : Int) : ∀ w, (Instr.index 80 (.agg #[.int .i64 c0, .int .i64 c1]) (.int .i64 1)).run Yba.prog w = .ok (.int .i64 c1) w := fun _ => by kernel_rfl

set_option maxHeartbeats 1000000 in
theorem sift27 (b n cap j : Nat) (w : World) (hj : j < n) (hn : n < 65536) (Q : List Tn) (rest : List Value) (hq : QAt w b Q rest) (hQn : Q.length = n) (hok : ∀ x ∈ Q, x.ok) (hheap : HeapFrom (j + 1) Q) :
    Calls Yba.prog 27 #[.slice (some ⟨b, 0, none⟩) n cap, .int .i64 j] w fun e w' => e = .returned (.tuple #[]) ∧ ∃ Q', Q'.Perm Q ∧ HeapFrom j Q' ∧ QAt w' b Q' rest ∧ w.grownBy w' (some b) := by
  have HQ : Hid (Q.length = n) := hQn
  have HP : Hid (Pos Q) := fun x hx => by have := hok x hx; unfold Tn.ok at this; omega
  have HH : Hid (HeapBut j j Q) := heapBut_of hheap
  clear hQn hheap
  go_enter Yba.func27, Yba.ntmps27
  go_wp2
  go_loopw [1] (fun x wr => ∃ (Qc : List Tn) (jc : Nat), x = .int .i64 jc ∧ jc < n ∧ j ≤ jc ∧ Hid (Qc.Perm Q) ∧ Hid (HeapBut j jc Qc) ∧ QAt wr b Qc rest ∧ w.grownBy wr (some b)) (fun x _ => n - (intOf x).toNat)
  case atStart => exact ⟨Q, j, rfl, hj, Nat.le_refl _, List.Perm.refl _, HH, hq, World.grownBy.refl _ _⟩
  case round =>
    obtain ⟨Qc, jc, rfl, hjn, hjj, hperm, hbut, hqc, hgr⟩ := hrel
    have HL : Hid (Qc.length = n) := by have := hperm.out.length_eq; rw [HQ.out] at this; exact this
    have hokc : ∀ x ∈ Qc, x.ok := fun x hx => hok x (hperm.out.mem_iff.1 hx)
    have HPc : Hid (Pos Qc) := fun x hx => HP.out x (hperm.out.mem_iff.1 hx)
    have i0 := idx0 (2 * (jc : Int) + 1) (2 * (jc : Int) + 2)
    have i1 := idx1 (2 * (jc : Int) + 1) (2 * (jc : Int) + 2)
    go_wp2
    obtain ⟨wo, rfl⟩ : ∃ wo : World, wo = wr := ⟨_, rfl⟩
    go_loopw [4, 15] (fun x y wr => ∃ t f : Nat, t ≤ 2 ∧ y = .int .i64 t ∧ x = .int .i64 f ∧ f < n ∧ Hid (KidP Qc jc t f) ∧ QAt wr b Qc rest ∧ w.grownBy wr (some b)) (fun _ y _ => 2 - (intOf y).toNat)
    case atStart => exact ⟨0, jc, by omega, rfl, rfl, hjn, kidP_zero (by rw [HL.out]; exact hjn), hqc, hgr⟩
    case round =>
      obtain ⟨t, f, ht, rfl, rfl, hfn, hkid, hqt, hgt⟩ := hrel
      have hb0 : b < wr.heap.size := hqt.lt
      have ne0 : ¬ wr.heap.size = b := by omega
      have ne1 : ¬ wr.heap.size + 1 = b := by omega
      have hfi : (f : Int) < (n : Int) := by omega
      clear hqc hgr
      by_cases ht2 : t = 2
      · subst ht2
        by_cases hfj : f = jc
        · have hd : ((f : Int) == (jc : Int)) = true := by rw [beq_iff_eq]; omega
          go_wp2
          refine bodyPost_ret (v := .tuple #[]) (by simp [results, Yba.results27]) rfl ⟨rfl, ?_⟩
          subst hfj
          exact ⟨Qc, hperm.out, heap_done hbut.out hkid.out, hqt, hgt⟩
        · have hd : ((f : Int) == (jc : Int)) = false := by rw [beq_eq_false_iff_ne]; omega
          obtain ⟨x, hx⟩ : ∃ x, Qc[jc]? = some x := ⟨_, List.getElem?_eq_getElem (by rw [HL.out]; exact hjn)⟩
          obtain ⟨y, hy⟩ : ∃ y, Qc[f]? = some y := ⟨_, List.getElem?_eq_getElem (by rw [HL.out]; exact hfn)⟩
          obtain ⟨x0, x1, x2⟩ := hqt.cells hx
          obtain ⟨y0, y1, y2⟩ := hqt.cells hy
          have fr := hqt.free
          have HX : Hid (Qc[jc]? = some x) := hx
          have HY : Hid (Qc[f]? = some y) := hy
          clear hx hy
          go_wp2
          go_region
          go_wp2
          go_roundw
          case rel => exact ⟨swp Qc jc f x y, f, rfl, hfn, by have := hkid.out.2.1; omega, (swp_perm HX.out HY.out).trans hperm.out, heap_step hjj hbut.out hkid.out hfj HX.out HY.out, QAt.exch hqt (by rw [HL.out]; exact hjn) (by rw [HL.out]; exact hfn) x y, grown_trans hgt (grown_trans (grown_trans (grown_put _ _ _ _ _ _ _ _) (grown_put _ _ _ _ _ _ _ _)) (grown_drew _ _))⟩
          case measure => have := hkid.out.2.1; simp [intOf]; omega
      · by_cases ht0 : t = 0
        · obtain rfl : t = 0 := by omega
          by_cases hc : 2 * jc + 1 < n
          · obtain ⟨x, hx⟩ : ∃ x, Qc[2 * jc + 1]? = some x := ⟨_, List.getElem?_eq_getElem (by rw [HL.out]; exact hc)⟩
            obtain ⟨y, hy⟩ : ∃ y, Qc[f]? = some y := ⟨_, List.getElem?_eq_getElem (by rw [HL.out]; exact hfn)⟩
            have hox : x.ok := hokc x (List.mem_of_getElem? hx)
            have hoy : y.ok := hokc y (List.mem_of_getElem? hy)
            obtain ⟨x0, x1, x2⟩ := hqt.cells hx
            obtain ⟨y0, y1, y2⟩ := hqt.cells hy
            have HX : Hid (Qc[2 * jc + 1]? = some x) := hx
            have HY : Hid (Qc[f]? = some y) := hy
            clear hx hy
            have hd : decide (2 * (jc : Int) + 1 < (n : Int)) = true := by simp; omega
            have hci : 2 * (jc : Int) + 1 < (n : Int) := by omega
            have hci0 : (0 : Int) ≤ 2 * (jc : Int) + 1 := by omega
            have hci1 : (2 * (jc : Int) + 1).toNat = 2 * jc + 1 := by omega
            go_wp2
            go_region_held3 (fun w' => w'.cell? ⟨b, (2 * jc + 1) * 3, none⟩ = some (.int .u32 x.node) ∧ w'.cell? ⟨b, (2 * jc + 1) * 3 + 1, none⟩ = some (.int .u64 x.k) ∧ w'.cell? ⟨b, (2 * jc + 1) * 3 + 2, none⟩ = some (.int .u64 x.wt) ∧ w'.cell? ⟨b, f * 3, none⟩ = some (.int .u32 y.node) ∧ w'.cell? ⟨b, f * 3 + 1, none⟩ = some (.int .u64 y.k) ∧ w'.cell? ⟨b, f * 3 + 2, none⟩ = some (.int .u64 y.wt)) (go_keep) (first | (go_at_call 32; refine (before32 x y hox hoy _).mono ?_; rintro e w' ⟨rfl, rfl⟩))
            have hqn : QAt ((wr.alloc x.box).alloc y.box).drew b Qc rest := QAt.of_block hqt (by show ((wr.alloc x.box).alloc y.box).heap[b]? = _; rw [Below.heap_alloc _ _ _ (by simp; omega), Below.heap_alloc _ _ _ hb0])
            have hgn : w.grownBy ((wr.alloc x.box).alloc y.box).drew (some b) := grown_trans hgt (grown_trans (grown_trans (grown_alloc _ _ _) (grown_alloc _ _ _)) (grown_drew _ _))
            cases hbf : bef x y with
            | true =>
              have HK : Hid (KidP Qc jc 1 (2 * jc + 1)) := kidP_yes HPc.out (by rw [HL.out]; exact hjn) hkid.out HX.out HY.out hbf
              clear hqt hgt x0 x1 x2 y0 y1 y2
              go_wp2
              go_roundw
              case rel => exact ⟨1, 2 * jc + 1, by omega, by go_num, by go_num, hc, HK, hqn, hgn⟩
              case measure => simp [intOf]
            | false =>
              have HK : Hid (KidP Qc jc 1 f) := kidP_no hkid.out HX.out HY.out hbf
              clear hqt hgt x0 x1 x2 y0 y1 y2
              go_wp2
              go_roundw
              case rel => exact ⟨1, f, by omega, by go_num, rfl, hfn, HK, hqn, hgn⟩
              case measure => simp [intOf]
          · have hd : decide (2 * (jc : Int) + 1 < (n : Int)) = false := by simp; omega
            have HK : Hid (KidP Qc jc 1 f) := kidP_out hkid.out (by rw [HL.out]; omega)
            go_wp2
            go_quiet (fail)
            go_wp2
            go_roundw
            case rel => exact ⟨1, f, by omega, by go_num, rfl, hfn, HK, hqt, grown_trans hgt (grown_drewN _ _ _)⟩
            case measure => simp [intOf]
        · obtain rfl : t = 1 := by omega
          by_cases hc : 2 * jc + 2 < n
          · obtain ⟨x, hx⟩ : ∃ x, Qc[2 * jc + 2]? = some x := ⟨_, List.getElem?_eq_getElem (by rw [HL.out]; exact hc)⟩
            obtain ⟨y, hy⟩ : ∃ y, Qc[f]? = some y := ⟨_, List.getElem?_eq_getElem (by rw [HL.out]; exact hfn)⟩
            have hox : x.ok := hokc x (List.mem_of_getElem? hx)
            have hoy : y.ok := hokc y (List.mem_of_getElem? hy)
            obtain ⟨x0, x1, x2⟩ := hqt.cells hx
            obtain ⟨y0, y1, y2⟩ := hqt.cells hy
            have HX : Hid (Qc[2 * jc + 2]? = some x) := hx
            have HY : Hid (Qc[f]? = some y) := hy
            clear hx hy
            have hd : decide (2 * (jc : Int) + 2 < (n : Int)) = true := by simp; omega
            have hci : 2 * (jc : Int) + 2 < (n : Int) := by omega
            have hci0 : (0 : Int) ≤ 2 * (jc : Int) + 2 := by omega
            have hci1 : (2 * (jc : Int) + 2).toNat = 2 * jc + 2 := by omega
            go_wp2
            go_region_held3 (fun w' => w'.cell? ⟨b, (2 * jc + 2) * 3, none⟩ = some (.int .u32 x.node) ∧ w'.cell? ⟨b, (2 * jc + 2) * 3 + 1, none⟩ = some (.int .u64 x.k) ∧ w'.cell? ⟨b, (2 * jc + 2) * 3 + 2, none⟩ = some (.int .u64 x.wt) ∧ w'.cell? ⟨b, f * 3, none⟩ = some (.int .u32 y.node) ∧ w'.cell? ⟨b, f * 3 + 1, none⟩ = some (.int .u64 y.k) ∧ w'.cell? ⟨b, f * 3 + 2, none⟩ = some (.int .u64 y.wt)) (go_keep) (first | (go_at_call 32; refine (before32 x y hox hoy _).mono ?_; rintro e w' ⟨rfl, rfl⟩))
            have hqn : QAt ((wr.alloc x.box).alloc y.box).drew b Qc rest := QAt.of_block hqt (by show ((wr.alloc x.box).alloc y.box).heap[b]? = _; rw [Below.heap_alloc _ _ _ (by simp; omega), Below.heap_alloc _ _ _ hb0])
            have hgn : w.grownBy ((wr.alloc x.box).alloc y.box).drew (some b) := grown_trans hgt (grown_trans (grown_trans (grown_alloc _ _ _) (grown_alloc _ _ _)) (grown_drew _ _))
            cases hbf : bef x y with
            | true =>
              have HK : Hid (KidP Qc jc 2 (2 * jc + 2)) := kidP_yes HPc.out (by rw [HL.out]; exact hjn) hkid.out HX.out HY.out hbf
              clear hqt hgt x0 x1 x2 y0 y1 y2
              go_wp2
              go_roundw
              case rel => exact ⟨2, 2 * jc + 2, by omega, by go_num, by go_num, hc, HK, hqn, hgn⟩
              case measure => simp [intOf]
            | false =>
              have HK : Hid (KidP Qc jc 2 f) := kidP_no hkid.out HX.out HY.out hbf
              clear hqt hgt x0 x1 x2 y0 y1 y2
              go_wp2
              go_roundw
              case rel => exact ⟨2, f, by omega, by go_num, rfl, hfn, HK, hqn, hgn⟩
              case measure => simp [intOf]
          · have hd : decide (2 * (jc : Int) + 2 < (n : Int)) = false := by simp; omega
            have HK : Hid (KidP Qc jc 2 f) := kidP_out hkid.out (by rw [HL.out]; omega)
            go_wp2
            go_quiet (fail)
            go_wp2
            go_roundw
            case rel => exact ⟨2, f, by omega, by go_num, rfl, hfn, HK, hqt, grown_trans hgt (grown_drewN _ _ _)⟩
            case measure => simp [intOf]
end Go.Proofs.Ybulkdekg

import Derived.Test.YbulkdeliSort
namespace Go.Proofs.Ybulkdeli
open Go.RowKit Go.ChangeShapes Go.Sort

theorem RAt.exch [Inhabited Rc] {w : World} {b : Nat} {d : Array Rc} (h : RAt w b d.toList) {i j : Nat} (hi : i < d.size) (hj : j < d.size) {x y : Rc} (hx : x = d[i]!) (hy : y = d[j]!) (o : Obj) :
    RAt (((((((((w.setCell ⟨b, i * 4, none⟩ (.int .i64 y.s)).setCell ⟨b, i * 4 + 1, none⟩ (.int .i32 y.n)).setCell ⟨b, i * 4 + 2, none⟩ (.int .i64 y.f)).setCell ⟨b, i * 4 + 3, none⟩ (.int .i64 (y.f + 1))).setCell ⟨b, j * 4, none⟩ (.int .i64 x.s)).setCell ⟨b, j * 4 + 1, none⟩ (.int .i32 x.n)).setCell ⟨b, j * 4 + 2, none⟩ (.int .i64 x.f)).setCell ⟨b, j * 4 + 3, none⟩ (.int .i64 (x.f + 1))).alloc o) b (swp d i j).toList := by
  have h1 := RAt.put (RAt.put h (i := i) (by simpa using hi) y) (i := j) (by simpa using hj) x
  rw [swp_list, ← hx, ← hy]
  exact h1.of_block (Below.heap_alloc _ _ _ h1.lt)
theorem grown_exch (w : World) (b i j : Nat) (v0 v1 v2 v3 u0 u1 u2 u3 : Value) (o : Obj) : w.grownBy (((((((((w.setCell ⟨b, i * 4, none⟩ v0).setCell ⟨b, i * 4 + 1, none⟩ v1).setCell ⟨b, i * 4 + 2, none⟩ v2).setCell ⟨b, i * 4 + 3, none⟩ v3).setCell ⟨b, j * 4, none⟩ u0).setCell ⟨b, j * 4 + 1, none⟩ u1).setCell ⟨b, j * 4 + 2, none⟩ u2).setCell ⟨b, j * 4 + 3, none⟩ u3).alloc o) (some b) :=
  grown_trans (grown_trans (grown_put4 _ _ _ _ _ _ _ _ _ _) (grown_put4 _ _ _ _ _ _ _ _ _ _)) (grown_alloc _ _ _)

set_option maxRecDepth 100000 in
set_option maxHeartbeats 4000000 in
theorem aorder3 (a : Option Addr) (n cap : Nat) (its : List It) (w : World) (hit : ItAt w a n its) (hn : n ≤ 1024) :
    Calls Yba.prog 3 #[.slice a n cap] w fun e w' => e = .returned (.bool true) ∧ Below w.heap.size w w' := by
  haveI : Inhabited Rc := ⟨⟨0, 0, 0⟩⟩
  have HL : Hid (its.length = n) := hit.1
  have HI := hit.2
  clear hit
  obtain ⟨i29, ki, kz0, kz1, kz2⟩ := info_parts Yba.info29
  have hd0 : decide ((1024 : Int) < (n : Int)) = false := by simp; omega
  go_enter Yba.func3, Yba.ntmps3
  go_wp2_with (first | (at_make; refine wpList_make_own _ rfl _ _ 23 rfl w.heap.size 29 i29 _ 4 Yba.underlying23 ki kz0 kz1 _ _ _ n rfl rfl rfl (by rw [kz2]; omega) (by unfold maxLen; omega) (Nat.le_refl _) ?_; intro w1 hown hgrow))
  have hbel1 : Below w.heap.size w w1 := Below.grown (Below.refl _ _) hgrow (Nat.le_refl _) (by intro k h; cases h)
  have hq1 : w.heap.size < w1.heap.size := by
    obtain ⟨cur, hq, _⟩ := own_block hown
    exact (Array.getElem?_eq_some_iff.1 hq).1
  clear hgrow
  clear hd0
  go_loopw [4, 5] (fun v i wr => ∃ (k : Nat) (Q : List Rc), k ≤ n ∧ i = .int .i64 k ∧ v = .slice (some ⟨w.heap.size, 0, none⟩) k n ∧ Hid (Q.length = k) ∧ wr.ownsRow w.heap.size 29 4 (.slice (some ⟨w.heap.size, 0, none⟩) k n) k (rcells Q) ∧ Below w.heap.size w wr ∧ w.heap.size < wr.heap.size) (fun _ i _ => n - (intOf i).toNat)
  case atStart => exact ⟨0, [], Nat.zero_le _, rfl, rfl, rfl, hown, hbel1, hq1⟩
  case round =>
    obtain ⟨k, Q, hk, rfl, rfl, hQH, hown2, hbel, hsz⟩ := hrel
    clear hown hbel1 hq1
    by_cases hkn : k < n
    · obtain ⟨x, hx⟩ : ∃ x, its[k]? = some x := ⟨_, List.getElem?_eq_getElem (by rw [HL.out]; exact hkn)⟩
      obtain ⟨ht0, ht1, b, off, rfl, hb, c0, c1, c2⟩ := HI k x hx
      clear HI hx
      have e := hbel.block b hb
      have d0 : wr.cell? ⟨b, off + k * 3, none⟩ = some (.int .i64 x.s) := by simpa [World.cell?, e] using c0
      have d1 : wr.cell? ⟨b, off + k * 3 + 1, none⟩ = some (.int .i32 x.n) := by simpa [World.cell?, e] using c1
      have d2 : wr.cell? ⟨b, off + k * 3 + 2, none⟩ = some (.int .u8 x.t) := by simpa [World.cell?, e] using c2
      clear c0 c1 c2 e
      go_wp2_with (first | (at_builtin; go_loud (refine wpList_append_fits _ rfl (.tmp 37) (.tmp 47) 23 rfl w.heap.size 29 i29 4 Yba.underlying23 ki kz1 w.heap.size k n (rcells Q) rfl ((hown2.alloc _).alloc _) ⟨wr.heap.size + 1, 0, none⟩ 1 1 [.int .i64 x.s, .int .i32 x.n, .int .i64 (x.t * 1024 + k), .int .i64 (x.t * 1024 + k + 1)] rfl rfl (by have := four_new (wr.alloc (.cells #[.int .i64 x.s, .int .i32 x.n, .int .u8 x.t] 25)) 29 (.int .i64 x.s) (.int .i32 x.n) (.int .i64 (x.t * 1024 + k)) (.int .i64 (x.t * 1024 + k + 1)); simpa using this) (four_one _ _ _ _ rfl rfl rfl rfl) (by omega) ?_; intro w2 hown3 hgrow)))
      have hown4 : w2.ownsRow w.heap.size 29 4 (.slice (some ⟨w.heap.size, 0, none⟩) (k + 1) n) (k + 1) (rcells (Q ++ [(⟨x.s, x.n, x.t * 1024 + k⟩ : Rc)])) := by rw [rcells_snoc]; exact hown3
      have hbel3 : Below w.heap.size w w2 := Below.grown ((hbel.alloc (by omega) _).alloc (by simp; omega) _) hgrow (by simp; omega) (by intro j h; cases h; exact Nat.le_refl _)
      have hsz3 : w.heap.size < w2.heap.size := by have := hgrow.size; simp at this; omega
      clear hown3 hgrow hown2 hbel
      go_roundw
      case rel => exact ⟨k + 1, Q ++ [(⟨x.s, x.n, x.t * 1024 + k⟩ : Rc)], by omega, by go_num, rfl, by unfold Hid; rw [List.length_append, hQH.out]; rfl, hown4, hbel3, hsz3⟩
      case measure => simp [intOf]; omega
    · have hkn' : k = n := by omega
      subst hkn'
      obtain ⟨hR0, -, -⟩ := RAt_of_own hown2
      clear hown2 HI
      go_wp2_with (first | (at_make; refine wpList_make_full _ rfl _ _ 23 rfl w.heap.size 29 i29 _ 4 Yba.underlying23 ki kz0 kz1 _ _ _ _ k rfl rfl rfl rfl (by rw [kz2]; omega) (by unfold maxLen; omega) (by omega) ?_; intro w1 hown hgrow))
      obtain ⟨cur, hcur, hcs, _⟩ := own_block hown
      have hz1 : w.heap.size < w1.heap.size := by have := hgrow.size; omega
      have hz2 : wr.heap.size < w1.heap.size := (Array.getElem?_eq_some_iff.1 hcur).1
      have hbel1 : Below w.heap.size w w1 := Below.grown hbel hgrow (by omega) (by intro k h; cases h)
      have hR1 : RAt w1 w.heap.size Q := hR0.grown hgrow (by simp)
      have hrun := run_copy_full (P := Yba.prog) w1 23 23 3 29 wr.heap.size k k ⟨w.heap.size, 0, none⟩ k cur 29 (rcells Q) 4 Yba.underlying23 (by rw [ki]; simp [kz1]) hcur (by rw [rcells_len, hQH.out]) (fun j v h => by rw [Addr.add_lit, cell_of_row _ _ _ _ 29 (0, 0) hR1]; simpa using h) hcs (rcells_one Q)
      rw [hrun]
      obtain ⟨wc, hwc⟩ : ∃ wc, wc = w1.setRow wr.heap.size (rcells Q).toArray := ⟨_, rfl⟩
      have hW : RAt wc wr.heap.size Q := by rw [hwc]; exact setRow_heap w1 _ _ _ 29 _ hcur
      have hgc : w1.grownBy wc (some wr.heap.size) := by rw [hwc]; exact grown_setRow _ _ _
      have hRc : RAt wc w.heap.size Q := hR1.grown hgc (by simp; omega)
      have hbc : Below w.heap.size w wc := Below.grown hbel1 hgc (by omega) (by intro k h; cases h; omega)
      have hsc : wr.heap.size < wc.heap.size := hW.lt
      rw [← hwc]
      clear hrun hwc hgc hR1 hbel1 hcur hcs hown hgrow hbel hR0 hz1 hz2
      generalize wr.heap.size = bw at hW hsz hsc ⊢
      go_wp2_with fail
      go_loopw [9] (fun i wr => ∃ (m : Nat) (d : Array Rc), i = .int .i64 m ∧ 1 ≤ m ∧ m ≤ 1025 ∧ Hid (d.size = k) ∧ RAt wr bw d.toList ∧ Hid (PermIn 0 k Q.toArray d) ∧ Hid (SortedIn ltR 0 m d) ∧ wc.grownBy wr (some bw)) (fun i _ => k - (intOf i).toNat)
      case atStart => exact ⟨1, Q.toArray, rfl, Nat.le_refl _, by omega, by simpa [Hid] using hQH.out, by simpa using hW, permIn_refl _ _ _, fun p q h1 h2 h3 => by omega, World.grownBy.refl _ _⟩
      case round =>
        obtain ⟨m, d, rfl, hm1, hm2, hd, hwr, hperm, hsort, hgr⟩ := hrel
        clear hW
        by_cases hmk : m < k
        · go_wp2
          go_loopw [10] (fun j wr => ∃ (q : Nat) (d : Array Rc), j = .int .i64 q ∧ q ≤ m ∧ Hid (d.size = k) ∧ RAt wr bw d.toList ∧ Hid (PermIn 0 k Q.toArray d) ∧ Hid (Ins ltR 0 q m d) ∧ wc.grownBy wr (some bw)) (fun j _ => (intOf j).toNat)
          case atStart => exact ⟨m, d, rfl, Nat.le_refl _, hd, hwr, hperm, ins_start hsort.out, hgr⟩
          case round =>
            clear hd hwr hperm hsort hgr
            obtain ⟨q, d, rfl, hqm, hd, hwr, hperm, hins, hgr⟩ := hrel
            by_cases hq0 : q = 0
            · subst hq0
              go_wp2
              go_quiet (fail)
              go_wp2
              go_roundw
              case rel => exact ⟨m + 1, d, by go_num, by omega, by omega, hd, hwr, hperm, Ins.stop swoR hins.out (Or.inl (Nat.le_refl _)), grown_trans hgr (grown_drewN _ _ _)⟩
              case measure => simp [intOf]; omega
            · obtain ⟨p, rfl⟩ : ∃ p, q = p + 1 := ⟨q - 1, by omega⟩
              have hb0 := hwr.lt
              have ne0 : ¬ wr.heap.size = bw := by omega
              have ne1 : ¬ wr.heap.size + 1 = bw := by omega
              obtain ⟨x, hx⟩ : ∃ x, x = d[p + 1]! := ⟨_, rfl⟩
              obtain ⟨y, hy⟩ : ∃ y, y = d[p]! := ⟨_, rfl⟩
              obtain ⟨x0, x1, x2, x3⟩ := hwr.cells (arr_at (d := d) (i := p + 1) (by rw [hd.out]; omega))
              obtain ⟨y0, y1, y2, y3⟩ := hwr.cells (arr_at (d := d) (i := p) (by rw [hd.out]; omega))
              rw [← hx] at x0 x1 x2 x3
              rw [← hy] at y0 y1 y2 y3
              have HX : Hid (x = d[p + 1]!) := hx
              have HY : Hid (y = d[p]!) := hy
              clear hx hy
              have hci : (p : Int) + 1 < (k : Int) := by omega
              have hci0 : (0 : Int) ≤ (p : Int) + 1 := by omega
              have hci1 : ((p : Int) + 1).toNat = p + 1 := by omega
              have hcj : (p : Int) < (k : Int) := by omega
              have hcj0 : (0 : Int) ≤ (p : Int) := by omega
              have hcp : (0 : Int) < (p : Int) + 1 := by omega
              have hwq : IntKind.i64.wrap (p : Int) = p := by simp [IntKind.wrap, IntKind.bits, IntKind.signed]; omega
              have hwp : IntKind.i64.wrap ((p : Int) + 1 - 1) = p := by rw [Int.add_sub_cancel]; exact hwq
              go_wp2
              go_region_held3 (fun w' => w'.cell? ⟨bw, (p + 1) * 4, none⟩ = some (.int .i64 x.s) ∧ w'.cell? ⟨bw, (p + 1) * 4 + 1, none⟩ = some (.int .i32 x.n) ∧ w'.cell? ⟨bw, (p + 1) * 4 + 2, none⟩ = some (.int .i64 x.f) ∧ w'.cell? ⟨bw, (p + 1) * 4 + 3, none⟩ = some (.int .i64 (x.f + 1)) ∧ w'.cell? ⟨bw, p * 4, none⟩ = some (.int .i64 y.s) ∧ w'.cell? ⟨bw, p * 4 + 1, none⟩ = some (.int .i32 y.n) ∧ w'.cell? ⟨bw, p * 4 + 2, none⟩ = some (.int .i64 y.f) ∧ w'.cell? ⟨bw, p * 4 + 3, none⟩ = some (.int .i64 (y.f + 1))) (go_keep) (first | (go_at_call 6; refine (less6 x y _).mono ?_; rintro e w' ⟨rfl, rfl⟩))
              obtain ⟨wn, hwn⟩ : ∃ wn, wn = ((wr.alloc x.box).alloc y.box).drew := ⟨_, rfl⟩
              have hqn : RAt wn bw d.toList := by rw [hwn]; exact RAt.of_block hwr (by show ((wr.alloc x.box).alloc y.box).heap[bw]? = _; rw [Below.heap_alloc _ _ _ (by simp; omega), Below.heap_alloc _ _ _ hb0])
              have hgn : wc.grownBy wn (some bw) := by rw [hwn]; exact grown_trans hgr (grown_trans (grown_trans (grown_alloc _ _ _) (grown_alloc _ _ _)) (grown_drew _ _))
              rw [← hwn]
              have hbn := hqn.lt
              clear hwn hwr hgr x0 x1 x2 x3 y0 y1 y2 y3 ne0 ne1 hb0
              obtain ⟨x0, x1, x2, x3⟩ := hqn.cells (arr_at (d := d) (i := p + 1) (by rw [hd.out]; omega))
              obtain ⟨y0, y1, y2, y3⟩ := hqn.cells (arr_at (d := d) (i := p) (by rw [hd.out]; omega))
              rw [← HX.out] at x0 x1 x2 x3
              rw [← HY.out] at y0 y1 y2 y3
              have fr := hqn.free
              cases hlt : ltR x y with
              | false =>
                go_wp2
                go_roundw
                case rel => exact ⟨m + 1, d, by go_num, by omega, by omega, hd, hqn, hperm, Ins.stop swoR hins.out (Or.inr (by rw [Nat.add_sub_cancel, ← HX.out, ← HY.out]; exact hlt)), hgn⟩
                case measure => simp [intOf]; omega
              | true =>
                have ne0 : ¬ wn.heap.size = bw := by omega
                have ne1 : ¬ bw = wn.heap.size := by omega
                go_wp2
                go_roundw
                case rel => exact ⟨p, swp d (p + 1) p, by go_num, by omega, by unfold Hid; rw [swp_size]; exact hd.out, RAt.exch hqn (by rw [hd.out]; omega) (by rw [hd.out]; omega) HX.out HY.out _, permIn_trans _ _ _ _ _ hperm.out (swp_permIn d 0 k (p + 1) p (by omega) (by omega) (by omega) (by omega) (by rw [hd.out]; exact Nat.le_refl _)), Ins.step hins.out (by rw [← HX.out, ← HY.out]; exact hlt) (Nat.zero_le _) (by rw [hd.out]; omega), grown_trans hgn (grown_exch _ _ _ _ _ _ _ _ _ _ _ _ _)⟩
                case measure => simp [intOf]
        · have HS : Hid (d.toList = sortedR Q) := by
            have h1 : Q.toArray.size = k := by simpa using hQH.out
            have h2 := sortedR_of (d0 := Q.toArray) (d := d) (by rw [h1]; exact hperm.out) (by rw [h1]; exact fun i j a b c => hsort.out i j a b (by omega))
            simpa [Hid] using h2
          have hRr : RAt wr w.heap.size Q := hRc.grown hgr (by simp; omega)
          have hbr : Below w.heap.size w wr := Below.grown hbc hgr (by omega) (by intro k h; cases h; omega)
          have hzr := hwr.lt
          clear hRc hbc hgr hperm hsort hsc
          go_wp2_with fail
          obtain ⟨wb, hwb⟩ : ∃ wb, wb = (wr.alloc (.cells #[.int .u8 1, .int .u8 2, .int .u8 3] 5)).alloc (.cells #[.string { data := #[100] }, .int .i64 77, .slice (some ⟨wr.heap.size, 0, none⟩) 3 3, .slice (some ⟨w.heap.size, 0, none⟩) k k, .pointer none, .slice none 0 0, .bool false, .nilIface] 38) := ⟨_, rfl⟩
          have hbox : wb.heap[wr.heap.size + 1]? = some (.cells #[.string { data := #[100] }, .int .i64 77, .slice (some ⟨wr.heap.size, 0, none⟩) 3 3, .slice (some ⟨w.heap.size, 0, none⟩) k k, .pointer none, .slice none 0 0, .bool false, .nilIface] 38 (0, 0)) := by
            rw [hwb]; have := heap_alloc_new (wr.alloc (.cells #[.int .u8 1, .int .u8 2, .int .u8 3] 5)) (.cells #[.string { data := #[100] }, .int .i64 77, .slice (some ⟨wr.heap.size, 0, none⟩) 3 3, .slice (some ⟨w.heap.size, 0, none⟩) k k, .pointer none, .slice none 0 0, .bool false, .nilIface] 38); simpa using this
          have hdat : wb.heap[wr.heap.size]? = some (.cells #[.int .u8 1, .int .u8 2, .int .u8 3] 5 (0, 0)) := by rw [hwb, Below.heap_alloc _ _ _ (by simp), heap_alloc_new]
          have hgb : wr.grownBy wb none := by rw [hwb]; exact grown_trans (grown_alloc _ _ _) (grown_alloc _ _ _)
          rw [← hwb]
          clear hwb
          have hRb : RAt wb w.heap.size Q := hRr.grown hgb (by simp)
          have hWb : RAt wb bw d.toList := hwr.grown hgb (by simp)
          have hbb : Below w.heap.size w wb := Below.grown hbr hgb (by omega) (by intro k h; cases h)
          clear hRr hwr hbr hgb
          generalize wr.heap.size = db at hbox hdat hzr ⊢
          have hcon := sort7 (db + 1) w.heap.size _ _ _ _ _ _ _ Q wb (by rw [hQH.out]; exact hbox) hRb (by rw [hQH.out]; exact hn)
          refine hcon.mono ?_
          rintro e w2 ⟨rfl, hRH, hg2⟩
          have hz2 := hg2.size
          have hzb : db + 1 < wb.heap.size := (Array.getElem?_eq_some_iff.1 hbox).1
          have hbox2 := (hg2.block (db + 1) hzb (by simp; omega)).trans hbox
          have hdat2 := (hg2.block db (by omega) (by simp; omega)).trans hdat
          have hW2 : RAt w2 bw d.toList := hWb.grown hg2 (by simp; omega)
          have hb2 : Below w.heap.size w w2 := Below.grown hbb hg2 (by omega) (by intro k h; cases h; omega)
          clear hcon hbox hdat hWb hbb hg2 hRb
          have s0 : w2.cell? ⟨db + 1, 0, none⟩ = some (.string { data := #[100] }) := by rw [cell_of_row w2 _ _ _ 38 (0, 0) hbox2]; rfl
          have s1 : w2.cell? ⟨db + 1, 1, none⟩ = some (.int .i64 77) := by rw [cell_of_row w2 _ _ _ 38 (0, 0) hbox2]; rfl
          have s2 : w2.cell? ⟨db + 1, 2, none⟩ = some (.slice (some ⟨db, 0, none⟩) 3 3) := by rw [cell_of_row w2 _ _ _ 38 (0, 0) hbox2]; rfl
          have s3 : w2.cell? ⟨db + 1, 3, none⟩ = some (.slice (some ⟨w.heap.size, 0, none⟩) k k) := by rw [cell_of_row w2 _ _ _ 38 (0, 0) hbox2]; rfl
          have s4 : w2.cell? ⟨db + 1, 4, none⟩ = some (.pointer none) := by rw [cell_of_row w2 _ _ _ 38 (0, 0) hbox2]; rfl
          have s5 : w2.cell? ⟨db + 1, 5, none⟩ = some (.slice none 0 0) := by rw [cell_of_row w2 _ _ _ 38 (0, 0) hbox2]; rfl
          have s6 : w2.cell? ⟨db + 1, 6, none⟩ = some (.bool false) := by rw [cell_of_row w2 _ _ _ 38 (0, 0) hbox2]; rfl
          have s7 : w2.cell? ⟨db + 1, 7, none⟩ = some .nilIface := by rw [cell_of_row w2 _ _ _ 38 (0, 0) hbox2]; rfl
          have q0 : w2.cell? ⟨db, 0, none⟩ = some (.int .u8 1) := by rw [cell_of_row w2 _ _ _ 5 (0, 0) hdat2]; rfl
          have q1 : w2.cell? ⟨db, 1, none⟩ = some (.int .u8 2) := by rw [cell_of_row w2 _ _ _ 5 (0, 0) hdat2]; rfl
          have q2 : w2.cell? ⟨db, 2, none⟩ = some (.int .u8 3) := by rw [cell_of_row w2 _ _ _ 5 (0, 0) hdat2]; rfl
          clear hbox2 hdat2
          go_wp2_with fail
          go_loopw [14] (fun i wr => ∃ (q m' : Nat), i = .int .i64 q ∧ q ≤ k ∧ wr = w2.drewN m') (fun i _ => k - (intOf i).toNat)
          case atStart => exact ⟨0, 0, rfl, Nat.zero_le _, rfl⟩
          case round =>
            obtain ⟨q, m', rfl, hqk, rfl⟩ := hrel
            by_cases hlt : q < k
            · obtain ⟨x, hx⟩ : ∃ x, d.toList[q]? = some x := ⟨_, List.getElem?_eq_getElem (by have := HS.out; rw [this]; unfold sortedR; rw [List.length_mergeSort, hQH.out]; exact hlt)⟩
              obtain ⟨x0, x1, x2, x3⟩ := hW2.cells hx
              obtain ⟨y0, y1, y2, y3⟩ := hRH q x (by rw [← HS.out]; exact hx)
              have hne := neq29 x.s x.n x.f (x.f + 1)
              clear hx
              go_wp2
              go_quiet (fail)
              go_wp2
              go_roundw
              case rel => exact ⟨q + 1, _, by go_num, by omega, rfl⟩
              case measure => simp [intOf]; omega
            · go_wp2
              go_ret
              exact ⟨rfl, Below.grown hb2 (grown_drewN _ _ none) (by omega) (by intro k h; cases h)⟩
end Go.Proofs.Ybulkdeli

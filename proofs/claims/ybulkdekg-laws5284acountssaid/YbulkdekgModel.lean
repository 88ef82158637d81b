import Derived.Test.YbulkdekgPeriod
import Derived.Test.YbulkdekgModelPlain
import Derived.Deep.DeepCutAuto
namespace Go.Proofs.Ybulkdekg
open Go.RowKit Go.ChangeShapes

theorem IAt.alloc {w : World} {b : Nat} {t : TypeId} {k : IntKind} {xs : List Int} (h : IAt w b t k xs) (o : Obj) : IAt (w.alloc o) b t k xs := h.of_block (Below.heap_alloc _ _ _ h.lt)
theorem own_of_made {w : World} {base bo n : Nat} (h : w.ownsRow base 47 1 (.slice (some ⟨bo, 0, none⟩) 0 n) 0 []) : base ≤ bo ∧ bo < w.heap.size := h.lt bo rfl
theorem row_of_own {w : World} {base bo n : Nat} {outs : List Nat} (h : w.ownsRow base 47 1 (.slice (some ⟨bo, 0, none⟩) outs.length n) outs.length ((ints outs).map (Value.int .u32))) (hn : outs.length = n) : IAt w bo 47 .u32 (ints outs) := by
  rcases h.2 with ⟨h', _⟩ | ⟨g', cap', cur, h', _, hg, _, _, hcs, htake⟩
  · simp at h'
  · simp only [Value.slice.injEq, Option.some.injEq, Addr.mk.injEq, and_true, true_and] at h'
    obtain ⟨rfl, rfl⟩ := h'
    unfold IAt
    rw [hg]
    have e1 : cur.toList.take (outs.length * 1) = cur.toList := List.take_of_length_le (by rw [Array.length_toList, hcs, hn]; exact Nat.le_refl _)
    rw [e1] at htake
    have : cur = ((ints outs).map (Value.int .u32)).toArray := by apply Array.toList_inj.1; rw [htake]
    rw [this]
theorem ret_slice' {a : Option Addr} {n m : Nat} (h : n = m) : Ending.returned (.slice a n m) = .returned (.slice a n n) := by rw [h]
theorem one_new (w : World) (t : TypeId) (a : Value) : ∀ j u, [a][j]? = some u → (w.alloc (.cells #[a] t)).cell? ((⟨w.heap.size, 0, none⟩ : Addr).add j) = some u := by
  intro j u h
  rw [Addr.add_lit, cell_of_row _ w.heap.size _ #[a] t (0, 0) (heap_alloc_new w _)]
  simpa using h
theorem one_one (a : Value) (h1 : a.oneCell' = true) : ∀ u ∈ [a], u.oneCell' = true := by
  intro u hu
  simp at hu
  subst hu; assumption
theorem app_out {w : World} {base bo n x : Nat} {outs : List Nat} (h : w.ownsRow base 47 1 (.slice (some ⟨bo, 0, none⟩) (outs.length + 1) n) (outs.length + 1) ((ints outs).map (Value.int .u32) ++ [.int .u32 x])) :
    Value.slice (some ⟨bo, 0, none⟩) (outs.length + 1) n = .slice (some ⟨bo, 0, none⟩) (outs ++ [x]).length n ∧ w.ownsRow base 47 1 (.slice (some ⟨bo, 0, none⟩) (outs ++ [x]).length n) (outs ++ [x]).length ((ints (outs ++ [x])).map (Value.int .u32)) := by
  have e : (outs ++ [x]).length = outs.length + 1 := by simp
  have e2 : (ints (outs ++ [x])).map (Value.int .u32) = (ints outs).map (Value.int .u32) ++ [.int .u32 x] := by simp [ints]
  rw [e, e2]
  exact ⟨rfl, h⟩

set_option maxHeartbeats 2000000 in
set_option maxRecDepth 100000 in
theorem model20 (bw : Nat) (ws : List Nat) (n L : Nat) (w : World) (hn : n ≤ 256) (hws : ∀ x ∈ ws, x < 256) (hlen : ws.length = n) (hL : L ≤ 65535) (hw : IAt w bw 3 .i64 (ints ws)) :
    Calls Yba.prog 20 #[.slice (some ⟨bw, 0, none⟩) n n, .int .i64 L] w fun e w' => ∃ bt outs, e = .returned (.slice (some ⟨bt, 0, none⟩) outs.length outs.length) ∧ w.heap.size ≤ bt ∧ IAt w' bt 47 .u32 (ints outs) ∧ outs.length = perAt ws L n ∧ Turns (wtOf ws) n outs ∧ Below w.heap.size w w' := by
  have HLN : Hid (ws.length = n) := hlen
  clear hlen
  obtain ⟨i36, ji, jz0, jz1, jz2⟩ := info_parts Yba.info36
  obtain ⟨i47, ki, kz0, kz1, kz2⟩ := info_parts Yba.info47
  have hbw := hw.lt
  go_enter Yba.func20, Yba.ntmps20
  go_wp2
  go_loopw [5, 20] (fun g i wr => ∃ k : Nat, k ≤ n ∧ i = .int .i64 k ∧ g = .int .i64 (gAll (ws.take k)) ∧ ∃ m, wr = w.drewN m) (fun _ i _ => n - (intOf i).toNat)
  case atStart => exact ⟨0, Nat.zero_le _, rfl, rfl, 0, rfl⟩
  case round =>
    obtain ⟨k, hk, rfl, rfl, m, rfl⟩ := hrel
    by_cases hkn : k < n
    · obtain ⟨x, hx⟩ : ∃ x, ws[k]? = some x := ⟨_, List.getElem?_eq_getElem (by rw [HLN.out]; exact hkn)⟩
      have hxb := hws x (List.mem_of_getElem? hx)
      have hcx := hw.cell (ints_at hx)
      have hg : gAll (ws.take k) ≤ 256 := gAll_le _ 0 _ (by omega) (fun y hy => by have := hws y (List.mem_of_mem_take hy); omega)
      have HX : Hid (ws[k]? = some x) := hx
      clear hx
      go_wp2_with (go_at_call 21; refine (gcd21 _ _ (by omega) (by omega) _).mono ?_; rintro e w' ⟨rfl, m', rfl⟩)
      go_roundw
      case rel => exact ⟨k + 1, by omega, by go_num, by rw [gcd_take_succ HX.out], _, rfl⟩
      case measure => simp [intOf]; omega
    · have hkn' : n = k := by omega
      subst hkn'
      have HG : Hid (gAll (ws.take n) = gAll ws) := by unfold Hid; rw [List.take_of_length_le (by rw [HLN.out]; exact Nat.le_refl _)]
      rw [HG.out]
      have hgb : gAll ws ≤ 256 := gAll_le _ 0 _ (by omega) (fun y hy => by have := hws y hy; omega)
      obtain ⟨g, hg⟩ : ∃ g, g = gAll ws := ⟨_, rfl⟩
      have HGG : Hid (g = gAll ws) := hg
      rw [← hg] at hgb ⊢
      clear hg
      have hsb : ∀ k, k ≤ n → sumTo (wtG ws) k ≤ 65536 := fun k hk => by
        have h1 := sumTo_bd k (f := wtG ws) (B := 256) (fun i => by have := wtG_lt hws i; omega)
        have h2 : k * 256 ≤ 256 * 256 := Nat.mul_le_mul_right _ (by omega)
        omega
      have HSB : Hid (∀ k, k ≤ n → sumTo (wtG ws) k ≤ 65536) := hsb
      clear hsb
      go_upto_if 29 with fail
      go_cut [8] (fun s wr => s = .int .i64 (sumTo (wtG ws) n) ∧ ∃ m, wr = w.drewN m)
      case first =>
        by_cases hg0 : g = 0
        · have hz : sumTo (wtG ws) n = 0 := by rw [sumTo_congr (g := fun _ => 0) (fun i _ => gAll_zero (by rw [← HGG.out]; exact hg0) i), sumTo_zero]
          subst hg0
          go_wp2
          go_meet
          case rel => exact ⟨by rw [hz]; rfl, m, rfl⟩
        · have hg1 : 1 ≤ g := by omega
          clear hg0
          go_wp2
          go_loop [8, 32] (fun s i => ∃ k : Nat, k ≤ n ∧ i = .int .i64 k ∧ s = .int .i64 (sumTo (wtG ws) k)) (fun _ i => n - (intOf i).toNat)
          case atStart => exact ⟨0, Nat.zero_le _, rfl, rfl⟩
          case round =>
            obtain ⟨k, hk, rfl, rfl⟩ := hrel
            have hsk := HSB.out k hk
            by_cases hkn : k < n
            · obtain ⟨x, hx⟩ : ∃ x, ws[k]? = some x := ⟨_, List.getElem?_eq_getElem (by rw [HLN.out]; exact hkn)⟩
              have hxb := hws x (List.mem_of_getElem? hx)
              have hcx := hw.cell (ints_at hx)
              obtain ⟨q, hqe, hqb, HQ⟩ := div_is x g (by omega)
              have HWQ : Hid (wtG ws k = q) := by unfold Hid; rw [wtG_at hx, HQ.out, HGG.out]
              clear hx
              go_wp2
              go_round
              case rel => exact ⟨k + 1, by omega, by go_num, (by simp only [sumTo]; rw [HWQ.out]; go_num)⟩
              case measure => simp [intOf]; omega
            · have hkn' : n = k := by omega
              subst hkn'
              go_wp2
              go_meet
              case rel => exact ⟨rfl, m, rfl⟩
      case rest =>
        obtain ⟨rfl, m2, rfl⟩ := hcut
        have hsn := HSB.out n (Nat.le_refl _)
        go_upto_if 45 with fail
        go_cut [11] (fun v wr => v = .int .i64 (perAt ws L n) ∧ wr = w.drewN m2)
        case first =>
          have HP : Hid (perAt ws L n = min (sumTo (wtG ws) n) L) := rfl
          by_cases hlt : L < sumTo (wtG ws) n
          · go_wp2
            go_meet
            case rel => exact ⟨by rw [HP.out, Nat.min_eq_right (by omega)], rfl⟩
          · go_wp2
            go_meet
            case rel => exact ⟨by rw [HP.out, Nat.min_eq_left (by omega)], rfl⟩
        case rest =>
          obtain ⟨rfl, rfl⟩ := hcut
          obtain ⟨p, hp⟩ : ∃ p, p = perAt ws L n := ⟨_, rfl⟩
          have HPP : Hid (p = perAt ws L n) := hp
          have hpL : p ≤ L := by rw [hp]; exact perAt_le ws L n
          rw [← hp]
          clear hp HSB hsn
          go_wp2_with (first | (at_make; refine wpList_make_full _ rfl _ _ 27 rfl w.heap.size 36 i36 _ 1 Yba.underlying27 ji jz0 jz1 _ _ _ _ n rfl rfl rfl rfl (by rw [jz2]; omega) (by unfold maxLen; omega) (by simp) ?_; intro w1 hown hgrow))
          have hrow := made_row hown
          have hb1 : Below w.heap.size w w1 := Below.grown ((Below.refl _ _).trans (show Below w.heap.size w (w.drewN m2) from ⟨rfl, rfl, rfl, Nat.le_refl _, fun _ _ => rfl⟩)) hgrow (Nat.le_refl _) (by intro k h; cases h)
          clear hown hgrow
          have hrow' : IAt w1 w.heap.size 36 .u64 (oneRow n 0) := by unfold oneRow; simpa using hrow
          clear hrow
          go_loopw [52] (fun i wr => ∃ k : Nat, k ≤ n ∧ i = .int .i64 k ∧ IAt wr w.heap.size 36 .u64 (oneRow n k) ∧ Below w.heap.size w wr) (fun i _ => n - (intOf i).toNat)
          case atStart => exact ⟨0, Nat.zero_le _, rfl, hrow', hb1⟩
          case round =>
            obtain ⟨k, hk, rfl, hr, hb⟩ := hrel
            clear hrow' hb1
            by_cases hkn : k < n
            · have hc0 := hr.cell (oneRow_at hkn)
              have hf0 := hr.free
              go_wp2
              go_roundw
              case rel => exact ⟨k + 1, by omega, by go_num, (by have := hr.put k 1; rw [oneRow_set hkn] at this; exact this), hb.setCell (Nat.le_refl _) _⟩
              case measure => simp [intOf]; omega
            · have hkn' : n = k := by omega
              subst hkn'
              rw [oneRow_all] at hr
              have hsr := hr.lt
              go_wp2_with (first | (at_make; refine wpList_make_own _ rfl _ _ 45 rfl w.heap.size 47 i47 _ 1 Yba.underlying45 ki kz0 kz1 _ _ _ p rfl rfl rfl (by rw [kz2]; omega) (by unfold maxLen; omega) (by omega) ?_; intro w2 hown hgrow))
              obtain ⟨bo, hbo⟩ : ∃ bo, bo = wr.heap.size := ⟨_, rfl⟩
              rw [← hbo] at hown ⊢
              have hB2 : Below w.heap.size w w2 := Below.grown hb hgrow (by omega) (by intro k h; cases h)
              have hr2 := hr.grown hgrow (by simp)
              have hbo1 : w.heap.size < bo := by omega
              have hbo2 : bo < w2.heap.size := (own_of_made hown).2
              have ne1 : ¬ bo = w.heap.size := by omega
              have ne2 : ¬ w.heap.size = bo := by omega
              clear hgrow hr hb hbo hsr
              go_loopw [14, 15] (fun v i wr => ∃ outs : List Nat, i = .int .i64 outs.length ∧ outs.length ≤ p ∧ v = .slice (some ⟨bo, 0, none⟩) outs.length p ∧ wr.ownsRow w.heap.size 47 1 (.slice (some ⟨bo, 0, none⟩) outs.length p) outs.length ((ints outs).map (Value.int .u32)) ∧ IAt wr w.heap.size 36 .u64 (kkRow n outs) ∧ Hid (Turns (wtOf ws) n outs) ∧ Below w.heap.size w wr ∧ bo < wr.heap.size) (fun _ i _ => p - (intOf i).toNat)
              case atStart => exact ⟨[], rfl, Nat.zero_le _, rfl, hown, hr2, turns_nil _ _, hB2, hbo2⟩
              case round =>
                obtain ⟨outs, rfl, hle, rfl, hown3, hr3, HT, hB3, hbo3⟩ := hrel
                clear hown hr2 hB2 hbo2
                by_cases hlt : outs.length < p
                · have HW : Hid (IAt wr bw 3 .i64 (ints ws)) := hw.below hB3 hbw
                  obtain ⟨wo, rfl⟩ : ∃ wo : World, wo = wr := ⟨_, rfl⟩
                  go_wp2
                  go_loopw [16, 17] (fun bst i wr => ∃ (k : Nat) (z : Int), k ≤ n ∧ i = .int .i64 k ∧ bst = .int .i64 z ∧ Hid (Scan (wtOf ws) (kAt outs) k z) ∧ ∃ d, wr = wo.drewN d) (fun _ i _ => n - (intOf i).toNat)
                  case atStart => exact ⟨0, -1, Nat.zero_le _, rfl, rfl, scan_zero _ _, 0, rfl⟩
                  case round =>
                    obtain ⟨k, z, hk, rfl, rfl, hscan, d, rfl⟩ := hrel
                    by_cases hkn : k < n
                    · obtain ⟨x, hx⟩ : ∃ x, ws[k]? = some x := ⟨_, List.getElem?_eq_getElem (by rw [HLN.out]; exact hkn)⟩
                      have hxb := hws x (List.mem_of_getElem? hx)
                      have hcx := HW.out.cell (ints_at hx)
                      have HX : Hid (wtOf ws k = x) := wtOf_at hx
                      clear hx
                      by_cases hx0 : x = 0
                      · subst hx0
                        go_wp2
                        go_roundw
                        case rel => exact ⟨k + 1, z, by omega, by go_num, rfl, scan_skip hscan.out HX.out, d, rfl⟩
                        case measure => simp [intOf]; omega
                      · rcases hscan.out with ⟨rfl, hnone⟩ | ⟨b, rfl, hbest⟩
                        · have HS : Hid (Scan (wtOf ws) (kAt outs) (k + 1) k) := .inr ⟨k, rfl, isBest_first hnone (by rw [HX.out]; omega)⟩
                          clear hnone hscan
                          go_wp2
                          go_quiet (fail)
                          go_wp2
                          go_roundw
                          case rel => exact ⟨k + 1, k, by omega, by go_num, rfl, HS, _, rfl⟩
                          case measure => simp [intOf]; omega
                        · have hbk : b < k := hbest.1
                          obtain ⟨y, hy⟩ : ∃ y, ws[b]? = some y := ⟨_, List.getElem?_eq_getElem (by rw [HLN.out]; omega)⟩
                          have hyb := hws y (List.mem_of_getElem? hy)
                          have hcy := HW.out.cell (ints_at hy)
                          have HY : Hid (wtOf ws b = y) := wtOf_at hy
                          have hck := hr3.cell (kkRow_at outs hkn)
                          have hcb := hr3.cell (kkRow_at outs (show b < n by omega))
                          have bk : kAt outs k ≤ 65536 ∧ 1 ≤ kAt outs k := by unfold kAt; have := List.count_le_length (a := k) (l := outs); omega
                          have bb : kAt outs b ≤ 65536 ∧ 1 ≤ kAt outs b := by unfold kAt; have := List.count_le_length (a := b) (l := outs); omega
                          have HK1 : Hid (isBest (wtOf ws) k (kAt outs) b) := hbest
                          obtain ⟨ki, hki⟩ : ∃ ki, ki = kAt outs k := ⟨_, rfl⟩
                          obtain ⟨kb, hkb⟩ : ∃ kb, kb = kAt outs b := ⟨_, rfl⟩
                          obtain ⟨P, hP⟩ : ∃ P, P = (2 * ki - 1) * y := ⟨_, rfl⟩
                          obtain ⟨R, hR⟩ : ∃ R, R = (2 * kb - 1) * x := ⟨_, rfl⟩
                          rw [← hki] at hck bk
                          rw [← hkb] at hcb bb
                          have hP2 : P < 4294967296 := by rw [hP]; exact cross_small bk.1 hyb
                          have hR2 : R < 4294967296 := by rw [hR]; exact cross_small bb.1 hxb
                          have e1 : (2 * (ki : Int) - 1) * (y : Int) = (P : Int) := by rw [hP, Int.natCast_mul]; congr 1; omega
                          have e2 : (2 * (kb : Int) - 1) * (x : Int) = (R : Int) := by rw [hR, Int.natCast_mul]; congr 1; omega
                          have hgd : decide ((b : Int) < 0) = false := by simp
                          have hbn : (b : Int) < (n : Int) := by omega
                          have hkn2 : (k : Int) < (n : Int) := by omega
                          by_cases hPR : P < R
                          · have HS : Hid (Scan (wtOf ws) (kAt outs) (k + 1) k) := .inr ⟨k, rfl, isBest_new HK1.out (by rw [HX.out]; omega) (by rw [HX.out, HY.out, ← hki, ← hkb, ← hP, ← hR]; exact hPR)⟩
                            have hPRi : (P : Int) < (R : Int) := by omega
                            clear hscan hbest hki hkb hP hR hy
                            go_wp2
                            go_quiet (fail)
                            go_wp2
                            go_roundw
                            case rel => exact ⟨k + 1, k, by omega, by go_num, rfl, HS, _, rfl⟩
                            case measure => simp [intOf]; omega
                          · have HS : Hid (Scan (wtOf ws) (kAt outs) (k + 1) b) := .inr ⟨b, rfl, isBest_old HK1.out (by rw [HX.out, HY.out, ← hki, ← hkb, ← hP, ← hR]; exact hPR)⟩
                            have hPRi : ¬ (P : Int) < (R : Int) := by omega
                            clear hscan hbest hki hkb hP hR hy
                            go_wp2
                            go_quiet (fail)
                            go_wp2
                            go_roundw
                            case rel => exact ⟨k + 1, b, by omega, by go_num, rfl, HS, _, rfl⟩
                            case measure => simp [intOf]; omega
                    · have hkn' : n = k := by omega
                      subst hkn'
                      rcases hscan.out with ⟨_, hnone⟩ | ⟨b, rfl, hbest⟩
                      · exact (per_some (by rw [← HPP.out]; exact hlt) hnone).elim
                      · have hbn := hbest.1
                        have HK1 : Hid (isBest (wtOf ws) n (kAt outs) b) := hbest
                        have bb : kAt outs b ≤ 65536 ∧ 1 ≤ kAt outs b := by unfold kAt; have := List.count_le_length (a := b) (l := outs); omega
                        have hown5 : (wo.drewN d).ownsRow w.heap.size 47 1 (.slice (some ⟨bo, 0, none⟩) outs.length p) outs.length ((ints outs).map (Value.int .u32)) := hown3
                        have hr5 : IAt (wo.drewN d) w.heap.size 36 .u64 (kkRow n outs) := hr3
                        have hB5 : Below w.heap.size w (wo.drewN d) := hB3.trans ⟨rfl, rfl, rfl, Nat.le_refl _, fun _ _ => rfl⟩
                        have hbo5 : bo < (wo.drewN d).heap.size := hbo3
                        clear hscan hbest hown3 hr3 hB3 hbo3
                        generalize wo.drewN d = wd at *
                        go_wp2_with (first | (at_builtin; (refine wpList_append_fits _ rfl (.tmp 107) (.tmp 110) 45 rfl w.heap.size 47 i47 1 Yba.underlying45 ki kz1 bo outs.length p ((ints outs).map (Value.int .u32)) rfl (hown5.alloc _) ⟨wd.heap.size, 0, none⟩ 1 1 [.int .u32 b] rfl rfl (one_new _ _ _) (one_one _ rfl) (by omega) ?_; intro w4 hown4 hgrow4; have hr6 : IAt w4 w.heap.size 36 .u64 (kkRow n outs) := (hr5.alloc _).grown hgrow4 (by simp; omega); have hc6 := hr6.cell (kkRow_at outs hbn); have hf6 := hr6.free)))
                        have RA := app_out hown4
                        have hB6 : Below w.heap.size w w4 := Below.grown (hB5.alloc (by omega) _) hgrow4 (by simp; omega) (by intro i h; cases h; omega)
                        have hbo6 : bo < w4.heap.size := by have := hgrow4.size; simp at this; omega
                        have HT6 : Hid (Turns (wtOf ws) n (outs ++ [b])) := turns_snoc HT.out HK1.out
                        have hr7 := hr6.put b ((kAt outs b : Int) + 1)
                        rw [kkRow_set] at hr7
                        have RA2 := ownsRow_setCell_other RA.2 (a := ⟨w.heap.size, b, none⟩) (by simp [Value.ownBlock]; omega) (.int .u64 ((kAt outs b : Int) + 1))
                        clear hown4 hgrow4 hown5 hr5 hB5 hbo5
                        go_roundw
                        case rel => exact ⟨outs ++ [b], len_val _ _, by rw [List.length_append, List.length_singleton]; omega, RA.1, RA2, hr7, HT6, hB6.setCell (Nat.le_refl _) _, by simpa [World.setCell] using hbo6⟩
                        case measure => simp [intOf]; omega
                · have hfin : outs.length = p := by omega
                  have HR := row_of_own hown3 hfin
                  clear hown3
                  go_wp2
                  go_ret
                  exact ⟨bo, outs, ret_slice' hfin, by omega, HR, by rw [hfin]; exact HPP.out, HT.out, hB3⟩
end Go.Proofs.Ybulkdekg

import Derived.Test.YbulkdekgTally
import Derived.Test.YbulkdekgEq40
namespace Go.Proofs.Ybulkdekg
open Go.RowKit Go.ChangeShapes Go.Maps

theorem Yba.info40 : (Yba.prog.info? 40).map (fun i => (i.zero, i.size, i.bytes)) = some (some (.agg #[.string ⟨#[]⟩, .string ⟨#[]⟩]), 2, 32) := by kernel_rfl

theorem nil_place {w : World} {base pb ob n : Nat} {ss : List ByteArray} (h : w.heap[pb]? = some (.cells #[.slice (some ⟨ob, 0, none⟩) n n, .slice none 0 0] 29 (0, 0))) (hs : SAt w ob ss) (hl : ss.length = n) (h1 : pb < base) (h2 : ob < base) (h3 : ob ≠ pb) : PlaceAt w base pb ob n ss (.slice none 0 0) 0 :=
  ⟨h, ⟨[], World.ownsRow_nil _ _ _ _⟩, hs, hl, h1, h2, h3⟩
theorem BRow.len {w : World} {a : Option Addr} {len : Nat} {us : List Nat} (h : BRow w a len us) : us.length = len := h.1

set_option maxHeartbeats 4000000 in
set_option maxRecDepth 100000 in
theorem acounts3 (a0 a1 a2 : Option Addr) (l0 c0 l1 c1 nk c2 : Nat) (us0 us1 : List Nat) (V : Nat → Value) (U : List (List Nat)) (w : World)
    (h0 : BRow w a0 l0 us0) (h1 : BRow w a1 l1 us1) (hk : KeysAt w.heap.size w a2 nk V U) (hl0 : l0 ≤ 1024) (hl1 : l1 ≤ 1024) (hnk : nk ≤ 1024) :
    Calls Yba.prog 3 #[.slice a0 l0 c0, .slice a1 l1 c1, .slice a2 nk c2] w fun e w' => e = .returned (.bool true) ∧ Below w.heap.size w w' := by
  have g0 : decide ((1024 : Int) < (l0 : Int)) = false := decide_eq_false (by omega)
  have g1 : decide ((1024 : Int) < (l1 : Int)) = false := decide_eq_false (by omega)
  have g2 : decide ((1024 : Int) < (nk : Int)) = false := decide_eq_false (by omega)
  have HL : Hid (U.length = nk) := hk.1
  go_enter Yba.func3, Yba.ntmps3
  go_wp2_with fail
  refine (owners9 a0 l0 c0 us0 _ h0 hl0).mono ?_
  rintro e w1 ⟨rfl, hs1, hb1⟩
  have hz1 := hs1.lt
  go_wp2_with fail
  obtain ⟨w2, hw2⟩ : ∃ w2, w2 = w1.alloc (.cells #[.slice (some ⟨w.heap.size, 0, none⟩) l0 l0, .slice none 0 0] 29) := ⟨_, rfl⟩
  have hp1 : w2.heap[w1.heap.size]? = some (.cells #[.slice (some ⟨w.heap.size, 0, none⟩) l0 l0, .slice none 0 0] 29 (0, 0)) := by rw [hw2]; exact heap_alloc_new w1 _
  have hs2 : SAt w2 w.heap.size (us0.map nameB) := by rw [hw2]; exact hs1.of_block (Below.heap_alloc _ _ _ hz1)
  have hb2 : Below w.heap.size w w2 := by rw [hw2]; exact hb1.alloc hb1.size _
  have hz2 : w2.heap.size ≤ w1.heap.size + 1 ∧ w1.heap.size + 1 ≤ w2.heap.size := by rw [hw2]; simp
  rw [← hw2]
  clear hw2 hb1 hs1
  refine (owners9 a1 l1 c1 us1 _ (h1.keep hb2) hl1).mono ?_
  rintro e w3 ⟨rfl, hs3, hb3⟩
  have hz3 := hs3.lt
  have hp3 := (hb3.block w1.heap.size (by omega)).trans hp1
  have hs3a : SAt w3 w.heap.size (us0.map nameB) := hs2.of_block (hb3.block _ (by omega))
  have hb4 : Below w.heap.size w w3 := hb2.trans (hb3.mono (by omega))
  have hz3' := hb3.size
  clear hp1 hs2 hb2 hb3
  go_wp2_with fail
  obtain ⟨w4, hw4⟩ : ∃ w4, w4 = w3.alloc (.cells #[.slice (some ⟨w2.heap.size, 0, none⟩) l1 l1, .slice none 0 0] 29) := ⟨_, rfl⟩
  have hp4 : w4.heap[w3.heap.size]? = some (.cells #[.slice (some ⟨w2.heap.size, 0, none⟩) l1 l1, .slice none 0 0] 29 (0, 0)) := by rw [hw4]; exact heap_alloc_new w3 _
  have hk4 : ∀ k, k < w3.heap.size → w4.heap[k]? = w3.heap[k]? := fun k hk => by rw [hw4]; exact Below.heap_alloc _ _ _ hk
  have hb5 : Below w.heap.size w w4 := by rw [hw4]; exact hb4.alloc (by omega) _
  have hz4 : w4.heap.size ≤ w3.heap.size + 1 ∧ w3.heap.size + 1 ≤ w4.heap.size := by rw [hw4]; simp
  rw [← hw4]
  clear hw4 hb4
  refine (new10 _ _ _ ⟨w1.heap.size, 0, none⟩ ⟨w3.heap.size, 0, none⟩ rfl rfl).mono ?_
  rintro e w5 ⟨rfl, hw5⟩
  have hpl5 : w5.heap[w4.heap.size]? = some (.cells #[.iface 24 (.pointer (some ⟨w1.heap.size, 0, none⟩)), .iface 24 (.pointer (some ⟨w3.heap.size, 0, none⟩))] 60 (0, 0)) := by rw [hw5]; exact heap_alloc_new w4 _
  have hk5 : ∀ k, k < w4.heap.size → w5.heap[k]? = w4.heap[k]? := fun k hk => by rw [hw5]; exact Below.heap_alloc _ _ _ hk
  have hb6 : Below w.heap.size w w5 := by rw [hw5]; exact hb5.alloc (by omega) _
  have hz5 : w5.heap.size ≤ w4.heap.size + 1 ∧ w4.heap.size + 1 ≤ w5.heap.size := by rw [hw5]; simp
  clear hw5 hb5
  have hk6 : ∀ k, k < w5.heap.size → (w5.alloc (.map #[] 0)).heap[k]? = w5.heap[k]? := fun k hk => Below.heap_alloc _ _ _ hk
  have hcfg : Cfg.ok ⟨w5.heap.size + 1, w4.heap.size, w1.heap.size, w.heap.size, l0, w3.heap.size, w2.heap.size, l1, us0.map nameB, us1.map nameB⟩ := ⟨by simp only; omega, by simp only; omega, by simp only; omega, by simp only; omega, by simp only; omega, by simp only; omega, hl0, hl1⟩
  have hinv : InvL ⟨w5.heap.size + 1, w4.heap.size, w1.heap.size, w.heap.size, l0, w3.heap.size, w2.heap.size, l1, us0.map nameB, us1.map nameB⟩ (w5.alloc (.map #[] 0)) (.slice none 0 0) (.slice none 0 0) 0 := by
    refine ⟨(hk6 _ (by first | omega | (simp only; omega))).trans hpl5, nil_place ?_ ?_ ?_ ?_ ?_ ?_, nil_place ?_ ?_ ?_ ?_ ?_ ?_, fun g h => by simp [Value.ownBlock] at h, by simp⟩
    · exact (hk6 _ (by first | omega | (simp only; omega))).trans ((hk5 _ (by first | omega | (simp only; omega))).trans ((hk4 _ (by first | omega | (simp only; omega))).trans hp3))
    · exact hs3a.of_block ((hk6 _ (by first | omega | (simp only; omega))).trans ((hk5 _ (by first | omega | (simp only; omega))).trans (hk4 _ (by first | omega | (simp only; omega)))))
    · simpa using h0.1
    · simp only; omega
    · simp only; omega
    · simp only; omega
    · exact (hk6 _ (by first | omega | (simp only; omega))).trans ((hk5 _ (by first | omega | (simp only; omega))).trans hp4)
    · exact hs3.of_block ((hk6 _ (by first | omega | (simp only; omega))).trans ((hk5 _ (by first | omega | (simp only; omega))).trans (hk4 _ (by first | omega | (simp only; omega)))))
    · simpa using h1.1
    · simp only; omega
    · simp only; omega
    · simp only; omega
  clear hpl5 hp3 hp4 hs3 hs3a hk4 hk5 hk6
  have hkw : KeysAt w.heap.size w5 a2 nk V U := hk.keep fun k hk => hb6.block k hk
  go_wp2_with fail
  refine (count11 ⟨w5.heap.size + 1, w4.heap.size, w1.heap.size, w.heap.size, l0, w3.heap.size, w2.heap.size, l1, us0.map nameB, us1.map nameB⟩ hcfg a2 nk c2 w.heap.size V U w5 rfl hinv hkw (by simp only; omega) (by simp only; omega) (by omega) hnk (small_names _) (small_names _) (by simp only; omega) (by simp only; omega) (by simp only; omega) (by simp only; omega) (by simp only; omega)).mono ?_
  rintro e w6 ⟨rfl, D, nD, hown, hok, hKM, mI, lb, la, hI⟩
  have hb7 : Below w.heap.size w w6 := by
    refine ⟨hKM.os.trans hb6.os, hKM.tape.trans hb6.tape, hKM.output.trans hb6.output, ?_, fun k hk => ?_⟩
    · have := hKM.size; simp at this; omega
    · exact (hKM.block k (by simp only; omega) (by simp only; omega) (by simp only; omega) (by omega)).trans ((Below.heap_alloc _ _ _ (by omega)).trans (hb6.block k hk))
  have hkw6 : KeysAt w.heap.size w6 a2 nk V U := hk.keep fun k hk => hb7.block k hk
  obtain ⟨pc0, _, _⟩ := place_cells hI.hb.blk
  obtain ⟨pc1, _, _⟩ := place_cells hI.ha.blk
  have hS0 := hI.hb.row
  have hS1 := hI.ha.row
  have hSL0 := hI.hb.len
  have hSL1 := hI.ha.len
  simp only at pc0 pc1 hS0 hS1 hok hSL0 hSL1
  have hz6 := hKM.size
  simp at hz6
  clear hinv hkw hI hKM hb6 hcfg
  obtain ⟨i40, ji, jz0, jz1, jz2⟩ := info_parts Yba.info40
  obtain ⟨i3, ki, kz0, kz1, kz2⟩ := info_parts Yba.info3
  obtain ⟨sb, hsb⟩ : ∃ sb, sb = us0.map nameB := ⟨_, rfl⟩
  obtain ⟨sa, hsa⟩ : ∃ sa, sa = us1.map nameB := ⟨_, rfl⟩
  have HSb : Hid (Small sb) := by show Small sb; rw [hsb]; exact small_names _
  have HSa : Hid (Small sa) := by show Small sa; rw [hsa]; exact small_names _
  rw [← hsb] at hS0 hok hSL0
  rw [← hsa] at hS1 hok hSL1
  have HOK : Hid (MapOk D (mvs sb sa U)) := hok
  have HSL0 : Hid (sb.length = l0) := hSL0
  have HSL1 : Hid (sa.length = l1) := hSL1
  clear hsb hsa hok hSL0 hSL1
  go_wp2_with fail
  go_loopw [11, 12, 53] (fun vm vc i wr => ∃ (k : Nat) (mv : List Pr), k ≤ nk ∧ i = .int .i64 k ∧ Hid (mv = mvs sb sa (U.take k)) ∧ wr.ownsRow w6.heap.size 40 2 vm (dist mv).length (pcells (dist mv)) ∧ wr.ownsRow w6.heap.size 3 1 vc (dist mv).length (ccells mv (dist mv)) ∧ Below w6.heap.size w6 wr) (fun _ _ i _ => nk - (intOf i).toNat)
  case atStart => exact ⟨0, [], Nat.zero_le _, rfl, rfl, World.ownsRow_nil _ _ _ _, World.ownsRow_nil _ _ _ _, Below.refl _ _⟩
  case round =>
    obtain ⟨k, mv, hkn, rfl, HMV, hom, hoc, hB⟩ := hrel
    obtain ⟨am, cm, rfl, ham⟩ := own_shape hom
    obtain ⟨ac, cc, rfl, hac⟩ := own_shape hoc
    have hBs := hB.size
    have hdl : (dist mv).length ≤ 1024 := by
      have h1 := dist_le mv
      have h2 : mv.length ≤ 1024 := by rw [HMV.out]; have := mvs_le sb sa (U.take k); have := List.length_take_le k U; omega
      omega
    by_cases hlt : k < nk
    · obtain ⟨us, hus⟩ : ∃ us, U[k]? = some us := ⟨_, List.getElem?_eq_getElem (by rw [HL.out]; exact hlt)⟩
      have hkr : KeysAt w.heap.size wr a2 nk V U := hkw6.keep fun j hj => hB.block j (by omega)
      obtain ⟨⟨kb, ko, ha0, hkb, hcv⟩, a, len, cap', hV, hlen, hrow⟩ := hkr.row hus (by omega)
      rw [hV] at hcv
      have HU : Hid (U[k]? = some us) := hus
      have qc0 := (hB.cell (p := ⟨w1.heap.size, 0, none⟩) (by show w1.heap.size < _; omega)).trans pc0
      have qc1 := (hB.cell (p := ⟨w3.heap.size, 0, none⟩) (by show w3.heap.size < _; omega)).trans pc1
      have qS0 : SAt wr w.heap.size sb := hS0.of_block (hB.block _ (by omega))
      have qS1 : SAt wr w2.heap.size sa := hS1.of_block (hB.block _ (by omega))
      have hfb : fnvN us < 18446744073709551616 := by have := fnv_bd us; unfold fnvN; omega
      clear hus hV hkr
      subst ha0
      go_wp2_with fail
      refine (hash12 a len cap' us _ hrow hlen).mono ?_
      rintro e w7 ⟨rfl, rfl⟩
      rw [fnvN_cast]
      go_wp2_with fail
      refine (pick13 w.heap.size l0 (fnvN us) sb _ qS0 HSL0.out hl0 hfb).mono ?_
      rintro e w8 ⟨rfl, rfl⟩
      go_wp2_with fail
      refine (pick13 w2.heap.size l1 (fnvN us) sa _ qS1 HSL1.out hl1 hfb).mono ?_
      rintro e w9 ⟨rfl, rfl⟩
      obtain ⟨x, hx⟩ : ∃ x, x = mvOf sb sa us := ⟨_, rfl⟩
      have hfit : x.fits := by rw [hx]; exact mvOf_fits HSb.out HSa.out us
      have hx1 : pickS sb (fnvN us) = x.1 := by rw [hx]; rfl
      have hx2 : pickS sa (fnvN us) = x.2 := by rw [hx]; rfl
      rw [hx1, hx2]
      have HX : Hid (x = mvOf sb sa us) := hx
      clear hx hx1 hx2 qS0 qS1 qc0 qc1 hrow hcv
      cases hmv : (x.1.toList != x.2.toList) with
      | false =>
        have hmv' : (x.1.toList == x.2.toList) = true := by simpa using hmv
        have HMV2 : Hid (mv = mvs sb sa (U.take (k + 1))) := by show _ = _; rw [mvs_no HU.out (by rw [← HX.out]; exact hmv)]; exact HMV.out
        clear hmv
        go_wp2
        go_roundw
        case rel => exact ⟨k + 1, mv, by omega, by go_num, HMV2, hom, hoc, hB⟩
        case measure => simp [intOf]; omega
      | true =>
        have hmv' : (x.1.toList == x.2.toList) = false := by simpa using hmv
        have HMV2 : Hid (mv ++ [x] = mvs sb sa (U.take (k + 1))) := by show _ = _; rw [mvs_yes HU.out (by rw [← HX.out]; exact hmv), ← HX.out, ← HMV.out]
        clear hmv
        go_wp2
        have hR : (w9.alloc (.cells #[.string x.1, .string x.2] 40)).heap[w9.heap.size]? = some (.cells #[.string x.1, .string x.2] 40 (0, 0)) := heap_alloc_new w9 _
        have hom2 := hom.alloc (.cells #[.string x.1, .string x.2] 40)
        have hoc2 := hoc.alloc (.cells #[.string x.1, .string x.2] 40)
        have hB2 : Below w6.heap.size w6 (w9.alloc (.cells #[.string x.1, .string x.2] 40)) := hB.alloc (by omega) _
        have hrb0 := (Array.getElem?_eq_some_iff.1 hR).1
        obtain ⟨rb, hrb⟩ : ∃ rb, rb = w9.heap.size := ⟨_, rfl⟩
        rw [← hrb] at hR hrb0 ⊢
        have hrb6 : w6.heap.size ≤ rb := by omega
        have nm : ∀ g, am = some ⟨g, 0, none⟩ → g < rb := fun g e => by rw [hrb]; exact (hom.lt g (by rw [e]; rfl)).2
        have nc : ∀ g, ac = some ⟨g, 0, none⟩ → g < rb := fun g e => by rw [hrb]; exact (hoc.lt g (by rw [e]; rfl)).2
        clear hrb hom hoc hB hBs
        generalize w9.alloc (.cells #[.string x.1, .string x.2] 40) = X at *
        go_loopw [19, 79] (fun fl i wx => ∃ (j d : Nat), j ≤ (dist mv).length ∧ i = .int .i64 j ∧ fl = .bool false ∧ Hid (∀ q y, q < j → (dist mv)[q]? = some y → y ≠ x) ∧ wx = X.drewN d) (fun _ i _ => (dist mv).length - (intOf i).toNat)
        case atStart => exact ⟨0, 0, Nat.zero_le _, rfl, rfl, fun q y h => by omega, rfl⟩
        case round =>
          obtain ⟨j, d, hj, rfl, rfl, hno, rfl⟩ := hrel
          obtain ⟨r0, r1, _⟩ := cell_pair hR
          by_cases hjm : j < (dist mv).length
          · obtain ⟨y, hy⟩ : ∃ y, (dist mv)[j]? = some y := ⟨_, List.getElem?_eq_getElem hjm⟩
            obtain ⟨g, hg⟩ := ham (by omega)
            subst hg
            obtain ⟨gc, hgc⟩ := hac (by omega)
            subst hgc
            have hc0 := hom2.cellAt (j * 2) (by omega)
            have hc1 := hom2.cellAt (j * 2 + 1) (by omega)
            rw [(pcells_at _ _ _ hy).1] at hc0
            rw [(pcells_at _ _ _ hy).2] at hc1
            have hcc := hoc2.cellAt j (by omega)
            rw [ccells_at hy] at hcc
            have hji : (j : Int) < ((dist mv).length : Int) := by omega
            have hg40 := guard40
            have heq := eq40 y.1 y.2 x.1 x.2
            rw [eqPr] at heq
            by_cases hyx : y = x
            · have hyd : decide (y = x) = true := decide_eq_true hyx
              rw [hyd] at heq
              have hcf : ∀ o, X.frozen? ⟨gc, o, none⟩ = false := fun o => own_free hoc2 o
              have hcb := cnt_le x mv
              have hmvl : mv.length ≤ 1024 := by rw [HMV.out]; have := mvs_le sb sa (U.take k); have := List.length_take_le k U; omega
              rw [hyx] at hcc hy
              have HD : Hid (dist (mv ++ [x]) = dist mv) := dist_found (isIn_iff.2 (List.mem_of_getElem? hy))
              have hoc3 := own_set hoc2 j (.int .i64 ((cnt x mv : Int) + 1))
              rw [ccells_found hy (nodup_dist mv)] at hoc3
              have hom3 := ownsRow_setCell_other hom2 (a := ⟨gc, j, none⟩) (fun e => owns_apart hom2 hoc2 (by decide) _ e rfl) (.int .i64 ((cnt x mv : Int) + 1))
              have hgc6 : w6.heap.size ≤ gc := (hoc2.lt gc rfl).1
              clear hyx hyd hy
              go_wp2
              go_quiet (fail)
              go_wp2
              go_roundw
              case rel => exact ⟨k + 1, mv ++ [x], by omega, by go_num, HMV2, (by rw [HD.out]; exact hom3), (by rw [HD.out]; exact hoc3), belDrews (hB2.setCell (by exact hgc6) _) _⟩
              case measure => simp [intOf]; omega
            · have hyd : decide (y = x) = false := decide_eq_false hyx
              rw [hyd] at heq
              have HNO : Hid (∀ q z, q < j + 1 → (dist mv)[q]? = some z → z ≠ x) := fun q z hq hz => by
                by_cases e : q = j
                · subst e; rw [hy] at hz; cases hz; exact hyx
                · exact hno.out q z (by omega) hz
              clear hyx hyd hy hno
              go_wp2
              go_quiet (fail)
              go_wp2
              go_roundw
              case rel => exact ⟨j + 1, _, by omega, by go_num, rfl, HNO, rfl⟩
              case measure => simp [intOf]; omega
          · have hjm' : j = (dist mv).length := by omega
            have hnot : isIn x (dist mv) = false := by
              cases e : isIn x (dist mv) with
              | false => rfl
              | true =>
                obtain ⟨q, hq⟩ := List.getElem?_of_mem (isIn_iff.1 e)
                exact absurd rfl (hno.out q x (by rw [hjm']; exact (List.getElem?_eq_some_iff.1 hq).1) hq)
            have HD : Hid (dist (mv ++ [x]) = dist mv ++ [x]) := dist_new hnot
            have HC : Hid (ccells mv (dist mv) ++ [.int .i64 1] = ccells (mv ++ [x]) (dist mv ++ [x])) := ccells_new hnot
            have hom3 : (X.drewN d).ownsRow w6.heap.size 40 2 (.slice am (dist mv).length cm) (dist mv).length (pcells (dist mv)) := hom2
            have hoc3 : (X.drewN d).ownsRow w6.heap.size 3 1 (.slice ac (dist mv).length cc) (dist mv).length (ccells mv (dist mv)) := hoc2
            have hB3 : Below w6.heap.size w6 (X.drewN d) := belDrews hB2 d
            have r0' : (X.drewN d).cell? ⟨rb, 0, none⟩ = some (.string x.1) := r0
            have r1' : (X.drewN d).cell? ⟨rb, 1, none⟩ = some (.string x.2) := r1
            have hsz3 := hB3.size
            have hap := owns_apart hoc3 hom3 (by decide)
            clear hom2 hoc2 hB2 r0 r1 hR hno hnot
            generalize X.drewN d = Y at *
            go_wp2_with (first | (at_builtin; (refine wpList_append_lies _ rfl (.tmp 97) (.tmp 99) 34 rfl w6.heap.size 40 i40 _ 2 32 Yba.underlying34 ji jz0 jz1 jz2 rfl (by decide) (.slice am (dist mv).length cm) (dist mv).length (pcells (dist mv)) rfl (hom3.alloc _) ⟨Y.heap.size, 0, none⟩ 1 1 [.string x.1, .string x.2] rfl rfl (two_new _ _ _ _) (two_one _ _ rfl rfl) (by decide) (by unfold maxLen; omega) (by omega) (by simp; omega) (Y.heap.size + 1) (by simp) ?_); intro g1 cap1 w11 hom4 hgrow1 hat1 hlt1; have hs11 : w6.heap.size ≤ w11.heap.size := by (have := hgrow1.size; simp at this; omega)) | (at_builtin; refine wpList_append_lies _ rfl (.tmp 101) (.tmp 102) 35 rfl w6.heap.size 3 i3 _ 1 8 Yba.underlying35 ki kz0 kz1 kz2 rfl (by decide) (.slice ac (dist mv).length cc) (dist mv).length (ccells mv (dist mv)) rfl (((hoc3.alloc _).kept hgrow1 (ne_own hap)).alloc _) ⟨w11.heap.size, 0, none⟩ 1 1 [.int .i64 1] rfl rfl (one_new _ _ _) (one_one _ rfl) (by decide) (by unfold maxLen; omega) (by omega) (by simp; omega) (w11.heap.size + 1) (by simp) ?_; intro g2 cap2 w12 hoc4 hgrow2 hat2 hlt2))
            have hap2 := owns_apart hom4 ((hoc3.alloc (.cells #[.string x.1, .string x.2] 40)).kept hgrow1 (ne_own hap)) (by decide)
            have hom5 := (hom4.alloc (.cells #[.int .i64 1] 3)).kept hgrow2 (ne_own hap2)
            have hB5 : Below w6.heap.size w6 w11 := Below.grown (hB3.alloc (by omega) _) hgrow1 (by simp; omega) (fun q e => (hom3.lt q e).1)
            have hB6 : Below w6.heap.size w6 w12 := Below.grown (hB5.alloc (by omega) _) hgrow2 (by simp; omega) (fun q e => (hoc3.lt q e).1)
            have hom6 : w12.ownsRow w6.heap.size 40 2 (.slice (some ⟨g1, 0, none⟩) ((dist mv).length + 1) cap1) (dist (mv ++ [x])).length (pcells (dist (mv ++ [x]))) := by rw [HD.out, pcells_snoc]; simpa using hom5
            have hoc6 : w12.ownsRow w6.heap.size 3 1 (.slice (some ⟨g2, 0, none⟩) ((dist mv).length + 1) cap2) (dist (mv ++ [x])).length (ccells (mv ++ [x]) (dist (mv ++ [x]))) := by rw [HD.out, ← HC.out]; simpa using hoc4
            clear hom3 hoc3 hB3 hom4 hoc4 hom5 hgrow1 hgrow2 hB5
            go_roundw
            case rel => exact ⟨k + 1, mv ++ [x], by omega, by go_num, HMV2, hom6, hoc6, hB6⟩
            case measure => simp [intOf]; omega
    · have hkn' : k = nk := by omega
      subst hkn'
      have HMV3 : Hid (mv = mvs sb sa U) := by show _ = _; rw [HMV.out, List.take_of_length_le (by rw [HL.out]; exact Nat.le_refl _)]
      have hownr : wr.ownsMap Yba.prog 40 (plainElem (H := Unit) Yba.prog 3) w5.heap.size nD D := ownsMap_of_block hown (hB.block _ (by omega))
      have HOK2 : Hid (MapOk D mv) := by show MapOk D mv; rw [HMV3.out]; exact HOK.out
      have hq32 : ∀ (u : World) (r : Option Nat), (binOp .eql 32 (.map r) (.map none)).run Yba.prog u = .ok (.bool r.isNone) u := fun u r => run_eql_map_nil u _ _ _ r Yba.underlying32
      have hsz : Maps.size D = (dist mv).length := HOK2.out.size
      have hlenR := fun ty => hownr.len Yba.underlying32 ty
      rw [hsz] at hlenR
      clear hsz
      have hlk : ∀ (y : Pr) (n : Nat), y.fits → (Instr.lookup 32 (.map (some w5.heap.size)) (.agg #[.string y.1, .string y.2]) false).run Yba.prog (wr.drewN n) = .ok (.int .i64 (cnt y mv)) (wr.drewN n) := by
        intro y n hy
        have ho : (wr.drewN n).ownsMap Yba.prog 40 (plainElem (H := Unit) Yba.prog 3) w5.heap.size nD D := hownr
        obtain ⟨c, h1, h2, _⟩ := ho.lookup_int law40 Yba.underlying32 Yba.underlying3 (zero3 _) (key40 y hy)
        rw [HOK2.out.val y hy] at h2
        simp at h2
        rw [h1, h2]
      have HLK : Hid (∀ (y : Pr) (n : Nat), y.fits → (Instr.lookup 32 (.map (some w5.heap.size)) (.agg #[.string y.1, .string y.2]) false).run Yba.prog (wr.drewN n) = .ok (.int .i64 (cnt y mv)) (wr.drewN n)) := hlk
      have HFit : Hid (∀ y ∈ dist mv, y.fits) := by
        intro y hy
        have h1 : isIn y mv = true := by
          have := isIn_dist y mv []
          have h2 : isIn y (mv.foldl addM []) = true := isIn_iff.2 hy
          rw [h2] at this
          simpa [isIn] using this.symm
        have h2 := isIn_iff.1 h1
        rw [HMV3.out] at h2
        unfold mvs at h2
        obtain ⟨us, _, rfl⟩ := List.mem_map.1 (List.mem_filter.1 h2).1
        exact mvOf_fits HSb.out HSa.out us
      have hnn : (((dist mv).length : Int) != ((dist mv).length : Int)) = false := by simp
      clear hlk hownr
      go_wp2
      go_loopw [116] (fun i wx => ∃ (j d : Nat), j ≤ (dist mv).length ∧ i = .int .i64 j ∧ wx = wr.drewN d) (fun i _ => (dist mv).length - (intOf i).toNat)
      case atStart => exact ⟨0, 0, Nat.zero_le _, rfl, rfl⟩
      case round =>
        obtain ⟨j, d, hj, rfl, rfl⟩ := hrel
        by_cases hjm : j < (dist mv).length
        · obtain ⟨y, hy⟩ : ∃ y, (dist mv)[j]? = some y := ⟨_, List.getElem?_eq_getElem hjm⟩
          obtain ⟨g, hg⟩ := ham (by omega)
          subst hg
          obtain ⟨gc, hgc⟩ := hac (by omega)
          subst hgc
          have hc0 := hom.cellAt (j * 2) (by omega)
          have hc1 := hom.cellAt (j * 2 + 1) (by omega)
          rw [(pcells_at _ _ _ hy).1] at hc0
          rw [(pcells_at _ _ _ hy).2] at hc1
          have hcc := hoc.cellAt j (by omega)
          rw [ccells_at hy] at hcc
          have hji : (j : Int) < ((dist mv).length : Int) := by omega
          have hl1 := fun n => HLK.out y n (HFit.out y (List.mem_of_getElem? hy))
          have hcn : ((cnt y mv : Int) != (cnt y mv : Int)) = false := by simp
          clear hy
          go_wp2
          go_quiet (fail)
          go_wp2
          go_roundw
          case rel => exact ⟨j + 1, _, by omega, by go_num, rfl⟩
          case measure => simp [intOf]; omega
        · go_wp2
          go_ret
          exact ⟨rfl, belDrews (hb7.trans (hB.mono (by omega))) d⟩
end Go.Proofs.Ybulkdekg

import Derived.Test.YbulkdekgMem
import Derived.Test.YbulkdekgOrderPlain
namespace Go.Proofs.Ybulkdekg
open Go.RowKit Go.ChangeShapes

def ints (ws : List Nat) : List Int := ws.map (fun x : Nat => (x : Int))
theorem ints_at {ws : List Nat} {i x : Nat} (h : ws[i]? = some x) : (ints ws)[i]? = some (x : Int) := by simp [ints, h]

theorem div_is (x g : Nat) (hx : x < 65536) : ∃ q : Nat, (x : Int) / (g : Int) = (q : Int) ∧ q < 65536 ∧ Hid (q = x / g) :=
  ⟨x / g, by simp, Nat.lt_of_le_of_lt (Nat.div_le_self _ _) hx, rfl⟩
theorem per_val {ws : List Nat} {L k x q : Nat} (hx : ws[k]? = some x) (hq : q = x / gAll ws) (hp : perAt ws L k ≤ L) :
    Value.int IntKind.i64 (↑(perAt ws L k) + if (L : Int) - ↑(perAt ws L k) < ↑q then (L : Int) - ↑(perAt ws L k) else ↑q) = Value.int IntKind.i64 ↑(perAt ws L (k + 1)) := by
  congr 1
  by_cases h : (L : Int) - ↑(perAt ws L k) < ↑q
  · rw [if_pos h, perAt_step2 hx (by omega)]; omega
  · rw [if_neg h, perAt_step1 hx (by omega), ← hq]; omega
theorem tcells_snoc (Q : List Tn) (x : Tn) : tcells (Q ++ [x]) = tcells Q ++ [.int .u32 x.node, .int .u64 x.k, .int .u64 x.wt] := by simp [tcells]
theorem app_rel {w : World} {B n : Nat} {Q : List Tn} {x : Tn} (h : w.ownsRow B 68 3 (.slice (some ⟨B, 0, none⟩) (Q.length + 1) n) (Q.length + 1) (tcells Q ++ [.int .u32 x.node, .int .u64 x.k, .int .u64 x.wt])) :
    Value.slice (some ⟨B, 0, none⟩) (Q.length + 1) n = .slice (some ⟨B, 0, none⟩) (Q ++ [x]).length n ∧ w.ownsRow B 68 3 (.slice (some ⟨B, 0, none⟩) (Q ++ [x]).length n) (Q ++ [x]).length (tcells (Q ++ [x])) := by
  have e : (Q ++ [x]).length = Q.length + 1 := by simp
  rw [e, tcells_snoc]
  exact ⟨rfl, h⟩
theorem ret_slice {a : Option Addr} {n m : Nat} (h : n = m) : Ending.returned (.slice a n n) = .returned (.slice a m m) := by rw [h]
theorem QAt.putk {w : World} {b : Nat} {Q : List Tn} {rest : List Value} (h : QAt w b Q rest) {x : Tn} (hx : Q[0]? = some x) :
    QAt (w.setCell ⟨b, 1, none⟩ (.int .u64 ((x.k : Int) + 1))) b (Q.set 0 ⟨x.node, x.k + 1, x.wt⟩) rest := by
  match Q, hx with
  | y :: R, hx =>
    simp at hx
    subst hx
    have h1 := heap_setCell_same w b 1 _ 68 (.int .u64 ((y.k : Int) + 1)) h
    unfold QAt
    rw [h1]
    simp [tcells_cons]
theorem sift27z (b n cap : Nat) (w : World) (hj : 0 < n) (hn : n < 65536) (Q : List Tn) (rest : List Value) (hq : QAt w b Q rest) (hQn : Q.length = n) (hok : ∀ x ∈ Q, x.ok) (hheap : HeapFrom 1 Q) :
    Calls Yba.prog 27 #[.slice (some ⟨b, 0, none⟩) n cap, .int .i64 0] w fun e w' => e = .returned (.tuple #[]) ∧ ∃ Q', Q'.Perm Q ∧ HeapFrom 0 Q' ∧ QAt w' b Q' rest ∧ w.grownBy w' (some b) :=
  sift27 b n cap 0 w hj hn Q rest hq hQn hok hheap
theorem put_row {outs : List Nat} {p x : Nat} (h : outs.length < p) : (ints outs ++ List.replicate (p - outs.length) 0).set outs.length (x : Int) = ints (outs ++ [x]) ++ List.replicate (p - (outs ++ [x]).length) 0 := by
  obtain ⟨r, hr⟩ : ∃ r, p - outs.length = r + 1 := ⟨p - outs.length - 1, by omega⟩
  have e : p - (outs ++ [x]).length = r := by simp; omega
  have el : (ints outs).length = outs.length := by simp [ints]
  rw [hr, e, List.replicate_succ, ← el, List.set_append_right _ _ (Nat.le_refl _)]
  simp [ints]
theorem at_row {outs : List Nat} {p : Nat} (h : outs.length < p) : (ints outs ++ List.replicate (p - outs.length) 0)[outs.length]? = some 0 := by
  have el : (ints outs).length = outs.length := by simp [ints]
  rw [List.getElem?_append_right (by omega), el, Nat.sub_self, List.getElem?_replicate, if_pos (by omega)]
theorem len_val (outs : List Nat) (x : Nat) : Value.int .i64 ((outs.length : Int) + 1) = .int .i64 ((outs ++ [x]).length : Nat) := by simp
theorem three_new (w : World) (t : TypeId) (a b c : Value) : ∀ j u, [a, b, c][j]? = some u → (w.alloc (.cells #[a, b, c] t)).cell? ((⟨w.heap.size, 0, none⟩ : Addr).add j) = some u := by
  intro j u h
  rw [Addr.add_lit, cell_of_row _ w.heap.size _ #[a, b, c] t (0, 0) (heap_alloc_new w _)]
  simpa using h
theorem three_one (a b c : Value) (h1 : a.oneCell' = true) (h2 : b.oneCell' = true) (h3 : c.oneCell' = true) : ∀ u ∈ [a, b, c], u.oneCell' = true := by
  intro u hu
  simp at hu
  rcases hu with rfl | rfl | rfl <;> assumption

set_option maxHeartbeats 1000000 in
theorem order19 (bw : Nat) (ws : List Nat) (n L : Nat) (w : World) (hn : n ≤ 256) (hws : ∀ x ∈ ws, x < 65536) (hlen : ws.length = n) (hL : L ≤ 1048576) (hw : IAt w bw 3 .i64 (ints ws)) :
    Calls Yba.prog 19 #[.slice (some ⟨bw, 0, none⟩) n n, .int .i64 L] w fun e w' => ∃ bt outs, e = .returned (.slice (some ⟨bt, 0, none⟩) outs.length outs.length) ∧ w.heap.size ≤ bt ∧ IAt w' bt 47 .u32 (ints outs) ∧ outs.length = perAt ws L n ∧ Turns (wtG ws) n outs ∧ Below w.heap.size w w' := by
  have HLN : Hid (ws.length = n) := hlen
  clear hlen
  obtain ⟨i68, hi, hz0, hz1, hz2⟩ := info_parts Yba.info68
  obtain ⟨i47, ki, kz0, kz1, kz2⟩ := info_parts Yba.info47
  go_enter Yba.func19, Yba.ntmps19
  go_wp2
  go_loopw [5, 17] (fun g i wr => ∃ k : Nat, k ≤ n ∧ i = .int .i64 k ∧ g = .int .i64 (gAll (ws.take k)) ∧ ∃ m, wr = w.drewN m) (fun _ i _ => n - (intOf i).toNat)
  case atStart => exact ⟨0, Nat.zero_le _, rfl, rfl, 0, rfl⟩
  case round =>
    obtain ⟨k, hk, rfl, rfl, m, rfl⟩ := hrel
    by_cases hkn : k < n
    · obtain ⟨x, hx⟩ : ∃ x, ws[k]? = some x := ⟨_, List.getElem?_eq_getElem (by rw [HLN.out]; exact hkn)⟩
      have hxb := hws x (List.mem_of_getElem? hx)
      have hcx := hw.cell (ints_at hx)
      have hg : gAll (ws.take k) ≤ 65536 := gAll_le _ 0 _ (by omega) (fun y hy => by have := hws y (List.mem_of_mem_take hy); omega)
      have HX : Hid (ws[k]? = some x) := hx
      clear hx
      go_wp2_with (go_at_call 26; refine (gcd26 _ _ (by omega) (by omega) _).mono ?_; rintro e w' ⟨rfl, m', rfl⟩)
      go_roundw
      case rel => exact ⟨k + 1, by omega, by go_num, by rw [gcd_take_succ HX.out], _, rfl⟩
      case measure => simp [intOf]; omega
    · have hkn' : n = k := by omega
      subst hkn'
      have HG : Hid (gAll (ws.take n) = gAll ws) := by unfold Hid; rw [List.take_of_length_le (by rw [HLN.out]; exact Nat.le_refl _)]
      rw [HG.out]
      have hgb : gAll ws ≤ 65536 := gAll_le _ 0 _ (by omega) (fun y hy => by have := hws y hy; omega)
      have hbw := hw.lt
      go_wp2_with (first | (at_make; refine wpList_make_own _ rfl _ _ 66 rfl w.heap.size 68 i68 _ 3 Yba.underlying66 hi hz0 hz1 _ _ _ n rfl rfl rfl (by rw [hz2]; omega) (by unfold maxLen; omega) (by simp) ?_; intro w1 hown hgrow))
      have hbel1 : Below w.heap.size w w1 := Below.grown (Below.refl _ _) (grown_trans (grown_drewN w m none) hgrow) (Nat.le_refl _) (by intro k h; cases h)
      have hq1 : w.heap.size < w1.heap.size := by
        obtain ⟨rest, hq, _⟩ := QAt_of_own (Q := []) hown
        exact hq.lt
      clear hgrow
      go_loopw [8, 9, 30] (fun v p i wr => ∃ (k : Nat) (Q : List Tn), k ≤ n ∧ i = .int .i64 k ∧ p = .int .i64 (perAt ws L k) ∧ v = .slice (some ⟨w.heap.size, 0, none⟩) Q.length n ∧ Q.length ≤ k ∧ wr.ownsRow w.heap.size 68 3 (.slice (some ⟨w.heap.size, 0, none⟩) Q.length n) Q.length (tcells Q) ∧ Hid (Good (wtG ws) k (kAt []) Q) ∧ Below w.heap.size w wr ∧ w.heap.size < wr.heap.size) (fun _ _ i _ => n - (intOf i).toNat)
      case atStart => exact ⟨0, [], Nat.zero_le _, rfl, by rw [perAt_zero]; rfl, rfl, Nat.le_refl _, hown, good_nil _ _, hbel1, hq1⟩
      case round =>
        obtain ⟨k, Q, hk, rfl, rfl, rfl, hQk, hown2, hgood, hbel, hsz⟩ := hrel
        clear hown hbel1 hq1
        have hper := perAt_le ws L k
        by_cases hkn : k < n
        · obtain ⟨x, hx⟩ : ∃ x, ws[k]? = some x := ⟨_, List.getElem?_eq_getElem (by rw [HLN.out]; exact hkn)⟩
          have hxb := hws x (List.mem_of_getElem? hx)
          have hcx := (hw.below hbel hbw).cell (ints_at hx)
          have HX : Hid (ws[k]? = some x) := hx
          clear hx
          by_cases hx0 : x = 0
          · subst hx0
            go_wp2
            go_roundw
            case rel => exact ⟨k + 1, Q, by omega, by go_num, by rw [perAt_skip HX.out], rfl, by omega, hown2, good_skip hgood.out (by rw [wtG_at HX.out]; simp), hbel, hsz⟩
            case measure => simp [intOf]; omega
          · have hg1 : 1 ≤ gAll ws := gAll_pos (List.mem_of_getElem? HX.out) hx0
            obtain ⟨q, hqe, hqb, HQ⟩ := div_is x (gAll ws) hxb
            go_wp2_with (first | (at_builtin; go_loud (refine wpList_append_fits _ rfl (.tmp 37) (.tmp 45) 66 rfl w.heap.size 68 i68 3 Yba.underlying66 hi hz1 w.heap.size Q.length n (tcells Q) rfl (hown2.alloc _) ⟨wr.heap.size, 0, none⟩ 1 1 [.int .u32 k, .int .u64 1, .int .u64 q] rfl rfl (three_new _ _ _ _ _) (three_one _ _ _ rfl rfl rfl) (by omega) ?_; intro w2 hown3 hgrow)))
            have R := app_rel (x := ⟨k, 1, q⟩) hown3
            have hgood' : Hid (Good (wtG ws) (k + 1) (kAt []) (Q ++ [⟨k, 1, q⟩])) := by
              have h1 : wtG ws k = q := by rw [wtG_at HX.out]; exact HQ.out.symm
              have h2 := good_snoc hgood.out (by rw [h1, HQ.out]; exact Nat.div_pos (Nat.le_of_dvd (Nat.pos_of_ne_zero hx0) ((gAll_dvd ws 0).2 x (List.mem_of_getElem? HX.out))) hg1)
              rw [h1] at h2
              exact h2
            have hbel3 : Below w.heap.size w w2 := Below.grown (hbel.alloc (by omega) _) hgrow (by simp; omega) (by intro j h; cases h; exact Nat.le_refl _)
            have hsz3 : w.heap.size < w2.heap.size := by have := hgrow.size; simp at this; omega
            clear hown3 hgrow hown2 hbel hgood
            go_roundw
            case rel => exact ⟨k + 1, Q ++ [(⟨k, 1, q⟩ : Tn)], by omega, by go_num, per_val HX.out HQ.out hper, R.1, by simp; omega, R.2, hgood', hbel3, hsz3⟩
            case measure => simp [intOf]; omega
        · have hkn' : n = k := by omega
          subst hkn'
          obtain ⟨rest, hq, hrl, _, _⟩ := QAt_of_own hown2
          clear hown2
          have HG0 : Hid (HeapFrom (Q.length / 2) Q) := heapFrom_half Q
          have hokQ : ∀ x ∈ Q, x.ok := fun x hx => by
            obtain ⟨g1, g2, g3, g4⟩ := hgood.out.each x hx
            have g5 : x.k = 1 := by rw [g4]; simp [kAt]
            have g6 := wtG_lt hws x.node
            unfold Tn.ok; omega
          go_wp2
          go_loopw [12] (fun j wr => ∃ (jj : Nat) (Qc : List Tn), j = .int .i64 ((jj : Int) - 1) ∧ jj ≤ Q.length / 2 ∧ Hid (Qc.Perm Q) ∧ Hid (HeapFrom jj Qc) ∧ QAt wr w.heap.size Qc rest ∧ Below w.heap.size w wr ∧ w.heap.size < wr.heap.size) (fun j _ => (intOf j + 1).toNat)
          case atStart => exact ⟨Q.length / 2, Q, by go_num, Nat.le_refl _, List.Perm.refl _, HG0, hq, hbel, hsz⟩
          case round =>
            obtain ⟨jj, Qc, rfl, hjj, hperm, hheap, hqc, hbelc, hszc⟩ := hrel
            clear hq hbel hsz
            have HLc : Hid (Qc.length = Q.length) := hperm.out.length_eq
            by_cases hj0 : jj = 0
            · subst hj0
              go_wp2_with (first | (at_make; refine wpList_make_full _ rfl _ _ 45 rfl w.heap.size 47 i47 _ 1 Yba.underlying45 ki kz0 kz1 _ _ _ _ (perAt ws L n) rfl rfl rfl rfl (by rw [kz2]; omega) (by unfold maxLen; omega) (by omega) ?_; intro w3 hown3 hgrow))
              have hrow := made_row hown3
              obtain ⟨bt, hbt⟩ : ∃ bt, bt = wr.heap.size := ⟨_, rfl⟩
              rw [← hbt] at hrow ⊢
              have hb3 : Below w.heap.size w w3 := Below.grown hbelc hgrow (by omega) (by intro i h; cases h)
              have hq3 := hqc.grown hgrow (by simp)
              have hbB : w.heap.size < bt := by omega
              have HGd : Hid (Good (wtG ws) n (kAt []) Qc) := hgood.out.perm hperm.out
              have HP : Hid (perAt ws L n = min (sumTo (wtG ws) n) L) := rfl
              have hpL := perAt_le ws L n
              obtain ⟨p, hp⟩ : ∃ p, p = perAt ws L n := ⟨_, rfl⟩
              rw [← hp] at hrow hpL HP ⊢
              have HPP : Hid (p = perAt ws L n) := hp
              clear hp hown3 hgrow hqc hbelc hszc hgood hbt hokQ hper hjj
              go_loopw [72] (fun i wr => ∃ (outs : List Nat) (Qd : List Tn), i = .int .i64 outs.length ∧ outs.length ≤ p ∧ Hid (Qd.length = Q.length) ∧ Hid (Good (wtG ws) n (kAt outs) Qd) ∧ Hid (HeapFrom 0 Qd) ∧ Hid (Turns (wtG ws) n outs) ∧ QAt wr w.heap.size Qd rest ∧ IAt wr bt 47 .u32 (ints outs ++ List.replicate (p - outs.length) 0) ∧ Below w.heap.size w wr) (fun i _ => p - (intOf i).toNat)
              case atStart => exact ⟨[], Qc, rfl, Nat.zero_le _, HLc, HGd, hheap, turns_nil _ _, hq3, hrow, hb3⟩
              case round =>
                obtain ⟨outs, Qd, rfl, hle, HLd, hgd, hhd, htd, hqd, hrd, hbd⟩ := hrel
                clear hq3 hrow hb3
                by_cases hlt : outs.length < p
                · obtain ⟨x, hx⟩ : ∃ x, Qd[0]? = some x := good_nonempty hgd.out (by have := HP.out; omega)
                  have hQ0 : 0 < Q.length := by rw [← HLd.out]; exact (List.getElem?_eq_some_iff.1 hx).1
                  obtain ⟨g1, g2, g3, g4⟩ := hgd.out.each x (List.mem_of_getElem? hx)
                  have hkb : x.k ≤ 1 + outs.length := by rw [g4]; unfold kAt; have := List.count_le_length (a := x.node) (l := outs); omega
                  have HX : Hid (Qd[0]? = some x) := hx
                  have HB : Hid (isBest (wtG ws) n (kAt outs) x.node) := good_best hgd.out hhd.out hx
                  have HG2 : Hid (Good (wtG ws) n (kAt (outs ++ [x.node])) (Qd.set 0 ⟨x.node, x.k + 1, x.wt⟩)) := good_turn hgd.out hx
                  have HH2 : Hid (HeapFrom 1 (Qd.set 0 ⟨x.node, x.k + 1, x.wt⟩)) := heap_set0 hhd.out _
                  have hok2 : Hid (∀ z ∈ Qd.set 0 ⟨x.node, x.k + 1, x.wt⟩, z.ok) := fun z hz => by
                    obtain ⟨f1, f2, f3, f4⟩ := HG2.out.each z hz
                    have f5 : z.k ≤ 2 + outs.length := by rw [f4]; unfold kAt; have := List.count_le_length (a := z.node) (l := outs ++ [x.node]); rw [List.length_append, List.length_singleton] at this; omega
                    have f6 := wtG_lt hws z.node
                    have f7 : 1 ≤ z.k := by rw [f4]; unfold kAt; omega
                    unfold Tn.ok; omega
                  obtain ⟨c0, c1, _⟩ := hqd.cells hx
                  simp only [Nat.zero_mul, Nat.zero_add] at c0 c1
                  have cr := hrd.cell (at_row hlt)
                  have fr1 := hqd.free
                  have fr2 := hrd.free
                  have neb : ¬ w.heap.size = bt := by omega
                  have neb' : ¬ bt = w.heap.size := by omega
                  have hqe : QAt ((wr.setCell ⟨bt, outs.length, none⟩ (.int .u32 x.node)).setCell ⟨w.heap.size, 1, none⟩ (.int .u64 ((x.k : Int) + 1))) w.heap.size (Qd.set 0 ⟨x.node, x.k + 1, x.wt⟩) rest := QAt.putk (hqd.setCell neb _ _) hx
                  have hre : IAt ((wr.setCell ⟨bt, outs.length, none⟩ (.int .u32 x.node)).setCell ⟨w.heap.size, 1, none⟩ (.int .u64 ((x.k : Int) + 1))) bt 47 .u32 (ints (outs ++ [x.node]) ++ List.replicate (p - (outs ++ [x.node]).length) 0) := by
                    have := (hrd.put outs.length (x.node : Int)).setCell neb' 1 (.int .u64 ((x.k : Int) + 1))
                    rw [put_row hlt] at this
                    exact this
                  have hbe : Below w.heap.size w ((wr.setCell ⟨bt, outs.length, none⟩ (.int .u32 x.node)).setCell ⟨w.heap.size, 1, none⟩ (.int .u64 ((x.k : Int) + 1))) := (hbd.setCell (by simp; omega) _).setCell (by simp) _
                  have hsb := hqd.lt
                  clear hx g1 g2 g3 g4 hqd hrd hbd
                  go_wp2_with fail
                  refine (sift27z w.heap.size Q.length n _ hQ0 (by omega) _ rest hqe (by rw [List.length_set]; exact HLd.out) hok2.out HH2.out).mono ?_
                  rintro e w' ⟨rfl, Q2, hp2, hh2, hq2, hg2⟩
                  have hr2 := hre.grown hg2 (by simp; omega)
                  have hb2 : Below w.heap.size w w' := Below.grown hbe hg2 (by simp; omega) (by intro i h; cases h; exact Nat.le_refl _)
                  have HT2 : Hid (Turns (wtG ws) n (outs ++ [x.node])) := turns_snoc htd.out HB.out
                  have HL2 : Hid (Q2.length = Q.length) := by have := hp2.length_eq; rw [List.length_set, HLd.out] at this; exact this
                  have HG3 : Hid (Good (wtG ws) n (kAt (outs ++ [x.node])) Q2) := HG2.out.perm hp2
                  clear hqe hre hbe hg2 hp2 c0 c1 cr fr1 fr2
                  go_wp2
                  go_roundw
                  case rel => exact ⟨outs ++ [x.node], Q2, len_val _ _, by rw [List.length_append, List.length_singleton]; omega, HL2, HG3, hh2, HT2, hq2, hr2, hb2⟩
                  case measure => simp [intOf]; omega
                · have hfin : outs.length = p := by omega
                  go_wp2
                  go_ret
                  refine ⟨bt, outs, ret_slice hfin.symm, by omega, ?_, by rw [hfin]; exact HPP.out, htd.out, hbd⟩
                  have e : p - outs.length = 0 := by omega
                  rw [e] at hrd
                  simpa using hrd
            · obtain ⟨j, rfl⟩ : ∃ j, jj = j + 1 := ⟨jj - 1, by omega⟩
              have ej : ((j + 1 : Nat) : Int) - 1 = (j : Int) := by omega
              rw [ej]
              have hokc : ∀ x ∈ Qc, x.ok := fun x hx => hokQ x (hperm.out.mem_iff.1 hx)
              go_wp2_with (go_at_call 27; refine (sift27 w.heap.size Q.length n j _ (by omega) (by omega) Qc rest hqc HLc.out hokc hheap.out).mono ?_; rintro e w' ⟨rfl, Q2, hp2, hh2, hq2, hg2⟩)
              go_roundw
              case rel => exact ⟨j, Q2, by go_num, by omega, hp2.trans hperm.out, hh2, hq2, Below.grown hbelc hg2 (by omega) (by intro i h; cases h; exact Nat.le_refl _), by have := hg2.size; omega⟩
              case measure => simp [intOf]
end Go.Proofs.Ybulkdekg

import Derived.Test.YbulkdenmSeriesPlain
namespace Go.Proofs.Ybulkdenm
open Go.RowKit Go.ChangeShapes Go.Maps

def bookB (mb : Nat) : Obj := .cells #[.pointer none, .pointer none, .nilFunc, .slice none 0 0, .int .u64 0, .int .u64 0, .int .i32 0, .int .u32 0, .map none, .map none, .map (some mb)] 45
def entB (held : Int) : Obj := .cells #[.string { data := #[] }, .string { data := #[] }, .string { data := #[] }, .int .i64 0, .int .i64 0, .string { data := #[] }, .string { data := #[] }, .bool false, .pointer none, .string { data := #[] }, .map none, .bool false, .pointer none, .int .i64 0, .int .i64 0, .int .i64 held, .slice none 0 0, .int .u64 0, .int .u64 0, .int .u64 0, .chan none, .int .i32 0, .int .u32 0] 65
theorem entB_at {w : World} {ge : Nat} {held : Int} (h : w.heap[ge]? = some (entB held)) : EAt w ge held (.slice none 0 0) := by
  refine ⟨?_, ?_, fun o => ?_⟩
  · rw [cell_of_row w ge _ _ 65 (0, 0) h]; rfl
  · rw [cell_of_row w ge _ _ 65 (0, 0) h]; rfl
  · simp only [World.frozen?]; rw [h]; simp [entB]
theorem bookB_at {w : World} {gb mb : Nat} (h : w.heap[gb]? = some (bookB mb)) : w.cell? ⟨gb, 10, none⟩ = some (.map (some mb)) := by
  rw [cell_of_row w gb _ _ 45 (0, 0) h]; rfl

theorem own_of_block {w w' : World} {base : Nat} {e : TypeId} {size : Nat} {v : Value} {n : Nat} {xs : List Value} (h : w.ownsRow base e size v n xs) (hk : ∀ k, v.ownBlock = some k → w'.heap[k]? = w.heap[k]?) : w'.ownsRow base e size v n xs := by
  refine ⟨h.1, ?_⟩
  rcases h.2 with h0 | ⟨g, cap, cur, hv, hb, hg, r⟩
  · exact .inl h0
  · exact .inr ⟨g, cap, cur, hv, hb, (hk g (by rw [hv]; rfl)).trans hg, r⟩
theorem row_form {w : World} {base n : Nat} {u : Value} {G : List Nat} (h : w.ownsRow base 46 1 u n (ptrs G)) : ∃ ao cap, u = .slice ao n cap ∧ ∀ j g, G[j]? = some g → ∃ gu, ao = some ⟨gu, 0, none⟩ ∧ w.cell? ⟨gu, j, none⟩ = some (.pointer (some ⟨g, 0, none⟩)) := by
  have hl := h.1
  rcases h.2 with ⟨hv, h0⟩ | ⟨g, cap, cur, hv, hb, hg, r⟩
  · subst h0
    refine ⟨none, 0, hv, fun j g hj => ?_⟩
    have : G = [] := List.eq_nil_of_length_eq_zero (by rw [ptrs_len] at hl; omega)
    rw [this] at hj
    simp at hj
  · refine ⟨_, cap, hv, fun j g' hj => ⟨g, rfl, ?_⟩⟩
    have := h.cells (g := g) (by rw [hv]; rfl) j _ (ptrs_at hj)
    rwa [Addr.add_lit, Nat.zero_add] at this
theorem one_new {w : World} {H : Nat} (v : Value) (t : TypeId) (hH : w.heap.size = H) : ∀ j u, [v][j]? = some u → (w.alloc (.cells #[v] t)).cell? ((⟨H, 0, none⟩ : Addr).add j) = some u := by
  intro j u h
  subst hH
  rw [Addr.add_lit, cell_of_row _ w.heap.size _ #[v] t (0, 0) (heap_alloc_new w _)]
  simpa using h

set_option maxRecDepth 100000 in
set_option maxHeartbeats 4000000 in
theorem series4 (p : ByteArray) (a0 a1 : Option Addr) (n c0 k c1 : Nat) (ss : List ByteArray) (zs : List Int) (w : World) (hp : p.size ≤ maxLen) (hS : SRow w a0 n ss) (hI : IRow w a1 k zs) (hn : n ≤ 1024) (hk : k ≤ 9223372036854775807) :
    Calls Yba.prog 4 #[.string p, .slice a0 n c0, .slice a1 k c1] w fun e w' => e = .returned (.bool true) ∧ Below w.heap.size w w' := by
  obtain ⟨i46, ki, kz0, kz1, kz2⟩ := info_parts Yba.info46
  have hmm := @run_makeMap Yba.prog
  have hd0 : decide ((1024 : Int) < (n : Int)) = false := by simp; omega
  have HSS : Hid (∀ s ∈ ss, s.size ≤ maxLen) := fun s hs => by
    obtain ⟨i, hi⟩ := List.mem_iff_getElem?.1 hs
    exact (hS.2 i s hi).1
  have HS : Hid (SRow w a0 n ss) := hS
  have HI : Hid (IRow w a1 k zs) := hI
  clear hS hI
  obtain ⟨W0, hW0⟩ : ∃ W0, W0 = ((w.alloc (.map #[] 0)).alloc (bookB w.heap.size)).alloc (entB 0) := ⟨_, rfl⟩
  have m0 : MapAt W0 w.heap.size 0 (.map []) := by rw [hW0]; exact ((World.ownsMap_made w _ _ _).alloc _).alloc _
  have z0 : W0.heap.size = w.heap.size + 1 + 1 + 1 := by rw [hW0]; simp
  have b0 : W0.heap[w.heap.size + 1]? = some (bookB w.heap.size) := by
    rw [hW0, Below.heap_alloc _ _ _ (by simp)]; have := heap_alloc_new (w.alloc (.map #[] 0)) (bookB w.heap.size); simpa using this
  have e0 : W0.heap[w.heap.size + 1 + 1]? = some (entB 0) := by
    rw [hW0]; have := heap_alloc_new ((w.alloc (.map #[] 0)).alloc (bookB w.heap.size)) (entB 0); simpa using this
  have l0 : Below w.heap.size w W0 := by rw [hW0]; exact (((Below.refl _ _).alloc (Nat.le_refl _) _).alloc (by simp) _).alloc (by simp; omega) _
  unfold bookB entB at hW0
  go_enter Yba.func4, Yba.ntmps4
  go_wp2_with (first | (at_make; go_loud (rw [← hW0]; refine wpList_make_own _ rfl _ _ 63 rfl w.heap.size 46 i46 _ 1 Yba.underlying63 ki kz0 kz1 _ _ _ n rfl rfl rfl (by rw [kz2]; omega) (by unfold maxLen; omega) (by omega) ?_; intro w1 hown hgrow)))
  have hb1 := bookB_at ((hgrow.block _ (by omega) (by simp)).trans b0)
  have he1 := entB_at ((hgrow.block _ (by omega) (by simp)).trans e0)
  have hm1 : MapAt w1 w.heap.size 0 (.map []) := MapAt.of_block m0 (hgrow.block _ (by omega) (by simp))
  have hl1 : Below w.heap.size w w1 := Below.grown l0 hgrow (by omega) (by intro k h; cases h)
  rw [z0] at hown
  have hz1 : w.heap.size + 1 + 1 + 1 < w1.heap.size := by
    rcases hown.2 with ⟨h', _⟩ | ⟨g', cap', cur, h', hb, hg, _⟩
    · simp at h'
    · simp only [Value.slice.injEq, Option.some.injEq, Addr.mk.injEq, and_true, true_and] at h'
      obtain ⟨rfl, rfl⟩ := h'
      exact (Array.getElem?_eq_some_iff.1 hg).1
  clear hW0 m0 z0 b0 e0 l0 hgrow hd0
  generalize hbr : w.heap.size + 1 + 1 + 1 = br at hown hz1 ⊢
  generalize hge : w.heap.size + 1 + 1 = ge at he1 ⊢
  generalize hgb : w.heap.size + 1 = gb at hb1 ⊢
  have q1 : w.heap.size < gb := by omega
  have q2 : gb < ge := by omega
  have q3 : ge < br := by omega
  clear hge hgb hbr
  go_loopw [9, 10, 11] (fun v sv i wr => ∃ (t : Nat) (G : List Nat) (S : Int) (u : Value) (D : DataW Unit), t ≤ n ∧ i = .int .i64 t ∧ sv = .int .i64 S ∧ v = .slice (some ⟨br, 0, none⟩) t n ∧ Hid (G.length = t) ∧ wr.ownsRow w.heap.size 46 1 (.slice (some ⟨br, 0, none⟩) t n) t (ptrs G) ∧ EAt wr ge S u ∧ wr.ownsRow (br + 1) 46 1 u t (ptrs G) ∧ MapAt wr w.heap.size t D ∧ Hid (Names p ss G D) ∧ wr.cell? ⟨gb, 10, none⟩ = some (.map (some w.heap.size)) ∧ Below w.heap.size w wr ∧ br < wr.heap.size) (fun _ _ i _ => n - (intOf i).toNat)
  case atStart => exact ⟨0, [], 0, .slice none 0 0, .map [], Nat.zero_le _, rfl, rfl, rfl, rfl, hown, he1, World.ownsRow_nil _ _ _ _, hm1, names_nil _ _, hb1, hl1, hz1⟩
  case round =>
    obtain ⟨t, G, S, u, D, htn, rfl, rfl, rfl, hGL, hrs, hE, hu, hM, hN, hB, hbel, hsz⟩ := hrel
    clear hown he1 hm1 hb1 hl1 hz1
    by_cases htl : t < n
    · obtain ⟨s0, b, off, hs0, hs0l, hba, hcs⟩ := HS.out.at hbel (Nat.le_refl _) htl
      subst hba
      have HS0 : Hid (ss[t]? = some s0) := hs0
      have hzw := hbel.size
      clear hs0
      go_upto_if 37 with fail
      go_cut [12] (fun v wq => ∃ amt, v = .int .i64 amt ∧ wq = wr)
      case first =>
        rcases Nat.eq_zero_or_pos k with hk0 | hk0
        · subst hk0
          go_wp2
          go_meet
          case rel => exact ⟨_, rfl, rfl⟩
        · have hqk : t % k < k := Nat.mod_lt _ hk0
          obtain ⟨z, b1, off1, hz, hba1, hcz⟩ := HI.out.at hbel (Nat.le_refl _) hqk
          subst hba1
          have hki : (0 : Int) < (k : Int) := by omega
          clear hz
          go_wp2
          go_meet
          case rel => exact ⟨_, rfl, rfl⟩
      case rest =>
        obtain ⟨amt, rfl, hwq⟩ := hcut
        subst hwq
        go_wp2_with (first | (at_builtin; go_loud (refine wpList_append_fits _ rfl (.tmp 57) (.tmp 59) 63 rfl w.heap.size 46 i46 1 Yba.underlying63 ki kz1 br t n (ptrs G) rfl ((hrs.alloc _).alloc _) ⟨wc.heap.size + 1, 0, none⟩ 1 1 [.pointer (some ⟨wc.heap.size, 0, none⟩)] rfl rfl (one_new _ _ (by simp)) (by simp [Value.oneCell']) (by omega) ?_; intro w2 hrs2 hg2; have hgA : wc.grownBy w2 (some br) := grown_trans (grown_trans (grown_alloc _ _ _) (grown_alloc _ _ _)) hg2; have hcs2 : w2.cell? ⟨b, off + t, none⟩ = some (.string s0) := hgA.cell hcs (by show some b ≠ some br; have := HS.out.2 t s0 HS0.out; obtain ⟨_, b', off', e1, e2, _⟩ := this; simp at e1; simp; omega))))
        have hr2 : w2.heap[wc.heap.size]? = some (rbox s0 amt (.pointer (some ⟨ge, 0, none⟩))) := (hg2.block _ (by simp; omega) (by simp; omega)).trans ((Below.heap_alloc _ _ _ (by simp)).trans (heap_alloc_new wc _))
        have hz2 : wc.heap.size < w2.heap.size := (Array.getElem?_eq_some_iff.1 hr2).1
        have hown2 : w2.ownsRow (br + 1) 46 1 u t (ptrs G) := own_of_block hu fun k hk => hgA.block k (hu.lt k hk).2 (by have := (hu.lt k hk).1; simp; omega)
        have hob : ∀ k, u.ownBlock = some k → br + 1 ≤ k ∧ k < wc.heap.size := fun k hk => hu.lt k hk
        have zge := cell_lt hE.1
        have zgb := cell_lt hB
        simp only at zge zgb
        refine (add5 gb w.heap.size wc.heap.size ge (br + 1) t t p s0 hp hs0l S amt u (ptrs G) D w2 (hgA.cell hB (by simp; omega)) ?_ ?_ (hE.of_block (hgA.block ge zge (by simp; omega))) hown2 (hM.kept hgA (by simp; omega)) (by omega) (by omega) (by omega) (by omega) (by omega) ?_ ?_ ?_).mono ?_
        · rw [cell_of_row w2 _ _ _ 53 (0, 0) hr2]; rfl
        · rw [cell_of_row w2 _ _ _ 53 (0, 0) hr2]; rfl
        · intro e; have := hob _ e.symm; omega
        · intro e; have := hob _ e.symm; omega
        · intro e; have := hob _ e.symm; omega
        · rintro e w3 ⟨rfl, g, cap, hM3, hE3, hu3, hat, hbut⟩
          have hz3 := hbut.size
          have hnb : ∀ k, k < br + 1 → k ≠ w.heap.size → k ≠ ge → ¬ addS w.heap.size ge u k := fun k h1 h2 h3 hS => by
            rcases hS with h | h | h
            · exact h2 h
            · exact h3 h
            · have := hob k h; omega
          have hrs3 : w3.ownsRow w.heap.size 46 1 (.slice (some ⟨br, 0, none⟩) (t + 1) n) (t + 1) (ptrs (G ++ [wc.heap.size])) := by
            rw [ptrs_snoc]
            exact own_of_block hrs2 fun k hk => hbut.block k (by simp [Value.ownBlock] at hk; omega) (hnb k (by simp [Value.ownBlock] at hk; omega) (by simp [Value.ownBlock] at hk; omega) (by simp [Value.ownBlock] at hk; omega))
          have hB3 : w3.cell? ⟨gb, 10, none⟩ = some (.map (some w.heap.size)) := (World.cell?_of_block (w := w2) (hbut.block gb (by omega) (hnb gb (by omega) (by omega) (by omega)))).trans (hgA.cell hB (by simp; omega))
          have hbel3 : Below w.heap.size w w3 := (Below.grown hbel hgA (by omega) (by intro k h; cases h; omega)).trans (hbut.below (by omega) (fun k hS => by
            rcases hS with h | h | h
            · omega
            · omega
            · have := hob k h; omega))
          have hN3 : Hid (Names p ss (G ++ [wc.heap.size]) (D.put (klp p s0) (ptD wc.heap.size))) := names_put hN.out hM.isMap hp HSS.out (by rw [hGL.out]; exact HS0.out)
          have hu4 : w3.ownsRow (br + 1) 46 1 (.slice (some ⟨g, 0, none⟩) (t + 1) cap) (t + 1) (ptrs (G ++ [wc.heap.size])) := by rw [ptrs_snoc]; exact hu3
          have hE4 : EAt w3 ge (wrap64 (S + amt)) (.slice (some ⟨g, 0, none⟩) (t + 1) cap) := by rw [← IntWalk.i64_left]; exact hE3
          clear hE3 hu3 hbut hM hE hu hrs hrs2 hgA hg2 hcs hcs2 hr2 hown2 hB hbel hob
          go_wp2
          go_roundw
          case rel => exact ⟨t + 1, G ++ [wc.heap.size], wrap64 (S + amt), _, _, by omega, by go_num, rfl, rfl, by unfold Hid; rw [List.length_append, hGL.out]; rfl, hrs3, hE4, hu4, hM3, hN3, hB3, hbel3, by omega⟩
          case measure => simp [intOf]; omega
    · have htn' : t = n := by omega
      subst htn'
      have hsl : ss.length = t := HS.out.1
      obtain ⟨ao, cap, rfl, hrow⟩ := row_form hu
      obtain ⟨ar, capr, har, hrow2⟩ := row_form hrs
      simp only [Value.slice.injEq, true_and] at har
      obtain ⟨rfl, rfl⟩ := har
      obtain ⟨e15, e16, -⟩ := hE
      have HR : Hid (∀ j g, G[j]? = some g → ∃ gu, ao = some ⟨gu, 0, none⟩ ∧ wr.cell? ⟨gu, j, none⟩ = some (.pointer (some ⟨g, 0, none⟩))) := hrow
      have HR2 : Hid (∀ j g, G[j]? = some g → ∃ gu, some (⟨br, 0, none⟩ : Addr) = some ⟨gu, 0, none⟩ ∧ wr.cell? ⟨gu, j, none⟩ = some (.pointer (some ⟨g, 0, none⟩))) := hrow2
      have HSL : Hid (ss.length = t) := hsl
      clear hrow hrow2 hu hrs hsl
      go_wp2_with fail
      have hzw := hbel.size
      go_loopw [14] (fun i wq => ∃ (q m : Nat), i = .int .i64 q ∧ q ≤ t ∧ wq = wr.drewN m) (fun i _ => t - (intOf i).toNat)
      case atStart => exact ⟨0, 0, rfl, Nat.zero_le _, rfl⟩
      case round =>
        obtain ⟨q, m, rfl, hqt, rfl⟩ := hrel
        by_cases hq : q < t
        · obtain ⟨s0, b, off, hs0, hs0l, hba, hcs⟩ := HS.out.at hbel (Nat.le_refl _) hq
          subst hba
          obtain ⟨g0, hg0⟩ : ∃ g0, G[q]? = some g0 := ⟨_, List.getElem?_eq_getElem (by rw [hGL.out]; exact hq)⟩
          obtain ⟨gu, rfl, cu⟩ := HR.out q g0 hg0
          obtain ⟨_, hbr, cr⟩ := HR2.out q g0 hg0
          simp at hbr
          subst hbr
          have hne := neq46_same g0
          have HS0 : Hid (ss[q]? = some s0) := hs0
          have HG0 : Hid (G[q]? = some g0) := hg0
          clear hs0 hg0
          go_wp2
          go_quiet (fail)
          go_wp2
          go_loopw [15, 16] (fun lv jv wq => ∃ (j m' : Nat), lv = .int .i64 q ∧ jv = .int .i64 j ∧ q ≤ j ∧ j < t ∧ Hid (∀ r, j < r → r < t → ss[r]? ≠ some s0) ∧ wq = wr.drewN m') (fun _ jv _ => (intOf jv).toNat)
          case atStart => exact ⟨t - 1, _, rfl, by congr 1; omega, by omega, by omega, fun r h1 h2 => by omega, rfl⟩
          case round =>
            obtain ⟨j, m', rfl, rfl, hqj, hjt, hlast, rfl⟩ := hrel
            have hlook : ∀ (l g : Nat), ss[l]? = some s0 → G[l]? = some g → (∀ r, l < r → r < t → ss[r]? ≠ some s0) → ∀ m : Nat, (Instr.lookup 25 (.map (some w.heap.size)) (.agg #[.string p, .string s0]) false).run Yba.prog (wr.drewN m) = .ok (.pointer (some ⟨g, 0, none⟩)) (wr.drewN m) := fun l g h1 h2 h3 m => by
              have hm' : MapAt (wr.drewN m) w.heap.size t D := hM
              exact MapAt.look hm' hp hs0l (hN.out l s0 g h1 h2 (by rw [hGL.out]; exact h3))
            by_cases hjq : j = q
            · subst hjq
              have hlk := hlook j g0 HS0.out HG0.out hlast.out
              clear hlook
              go_wp2
              go_quiet (fail)
              go_wp2
              go_roundw
              case rel => exact ⟨j + 1, _, by go_num, by omega, rfl⟩
              case measure => simp [intOf]; omega
            · obtain ⟨s1, b', off', hs1, hs1l, hba1, hcs1⟩ := HS.out.at hbel (Nat.le_refl _) hjt
              simp only [Option.some.injEq, Addr.mk.injEq, and_true] at hba1
              obtain ⟨rfl, rfl⟩ := hba1
              have hqj' : q < j := by omega
              cases hss : (s1.toList == s0.toList) with
              | true =>
                have e : s1 = s0 := bytes_eq (by simpa using hss)
                obtain ⟨gj, hgj⟩ : ∃ gj, G[j]? = some gj := ⟨_, List.getElem?_eq_getElem (by rw [hGL.out]; exact hjt)⟩
                obtain ⟨_, hbr, cj⟩ := HR2.out j gj hgj
                simp at hbr
                subst hbr
                have hlk := hlook j gj (by rw [← e]; exact hs1) hgj hlast.out
                have hne1 := neq46_same gj
                clear hlook hs1 hgj e
                go_wp2
                go_quiet (fail)
                go_wp2
                go_quiet (fail)
                go_wp2
                go_roundw
                case rel => exact ⟨q + 1, _, by go_num, by omega, rfl⟩
                case measure => simp [intOf]; omega
              | false =>
                have hne1 : s1 ≠ s0 := fun e => by rw [e] at hss; simp at hss
                have HL2 : Hid (∀ r, j - 1 < r → r < t → ss[r]? ≠ some s0) := fun r h1 h2 => by
                  by_cases hr : r = j
                  · subst hr; rw [hs1]; intro e; exact hne1 (by simpa using e)
                  · exact hlast.out r (by omega) h2
                clear hlook hs1 hne1
                go_wp2
                go_quiet (fail)
                go_wp2
                go_roundw
                case rel => exact ⟨j - 1, _, rfl, by congr 1; omega, by omega, by omega, HL2, rfl⟩
                case measure => simp [intOf]; omega
        · go_wp2
          go_ret
          exact ⟨rfl, Below.grown hbel (grown_drewN _ _ none) (by omega) (by intro k h; cases h)⟩
end Go.Proofs.Ybulkdenm

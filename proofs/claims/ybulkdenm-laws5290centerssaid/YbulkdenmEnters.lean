import Derived.Test.YbulkdenmSeries
namespace Go.Proofs.Ybulkdenm
open Go.RowKit Go.ChangeShapes Go.Maps

/-- the map after the first loop: each of the first t others names a refund of its own -/
def Fill (p : ByteArray) (ss : List ByteArray) (t : Nat) (D : DataW Unit) (w : World) (gb U : Nat) : Prop :=
  ∀ j s, j < t → ss[j]? = some s → ∃ g, gb < g ∧ g < U ∧ D.atKey (klp p s) nilD = ptD g ∧ w.heap[g]? = some (rbox s 0 (.pointer none))
def Olds (zs : List Int) (w : World) (bo ge : Nat) (G : List Nat) (U : Nat) : Prop :=
  ∀ (j g : Nat) (z : Int), G[j]? = some g → zs[j]? = some z → bo < g ∧ g < U ∧ w.heap[g]? = some (rbox ⟨#[]⟩ z (.pointer (some ⟨ge, 0, none⟩)))
theorem Olds.keep {zs : List Int} {w w' : World} {bo ge : Nat} {G : List Nat} {U : Nat} (h : Olds zs w bo ge G U) (hk : ∀ k, bo < k → k < U → w'.heap[k]? = w.heap[k]?) : Olds zs w' bo ge G U :=
  fun j g z h1 h2 => let ⟨r1, r2, r3⟩ := h j g z h1 h2; ⟨r1, r2, (hk g r1 r2).trans r3⟩
theorem Fill.keep {p : ByteArray} {ss : List ByteArray} {t : Nat} {D : DataW Unit} {w w' : World} {gb U : Nat} (h : Fill p ss t D w gb U) (hk : ∀ k, gb < k → k < U → w'.heap[k]? = w.heap[k]?) : Fill p ss t D w' gb U :=
  fun j s hj hjs => let ⟨g, h1, h2, h3, h4⟩ := h j s hj hjs; ⟨g, h1, h2, h3, (hk g h1 h2).trans h4⟩
theorem Fill.put {p : ByteArray} {ss : List ByteArray} {t : Nat} {D : DataW Unit} {w w' : World} {gb U U' g0 : Nat} {s0 : ByteArray} (h : Fill p ss t D w gb U) (hD : IsMap D) (hp : p.size ≤ maxLen) (hss : ∀ s ∈ ss, s.size ≤ maxLen) (hs0 : ss[t]? = some s0)
    (hs : U ≤ U') (hk : ∀ k, gb < k → k < U → w'.heap[k]? = w.heap[k]?) (hg : gb < g0) (hgU : g0 < U') (hg1 : w'.heap[g0]? = some (rbox s0 0 (.pointer none))) : Fill p ss (t + 1) (D.put (klp p s0) (ptD g0)) w' gb U' := by
  intro j s hj hjs
  have l0 := hss s0 (List.mem_of_getElem? hs0)
  have l1 := hss s (List.mem_of_getElem? hjs)
  by_cases e : s = s0
  · subst e
    exact ⟨g0, hg, hgU, atKey_put_same hD (klp_key hp l0) _ _, hg1⟩
  · have hjt : j < t := by
      rcases Nat.lt_or_ge j t with h1 | h1
      · exact h1
      · have : j = t := by omega
        subst this
        rw [hs0] at hjs
        exact absurd (by simpa using hjs.symm) e
    obtain ⟨g, h1, h2, h3, h4⟩ := h j s hjt hjs
    exact ⟨g, h1, by omega, by rw [atKey_put_other (fun q => e (klp_inj hp l1 l0 q))]; exact h3, (hk g h1 h2).trans h4⟩

set_option maxRecDepth 100000 in
set_option maxHeartbeats 8000000 in
theorem enters3 (p id : ByteArray) (amt held : Int) (a4 a5 : Option Addr) (kp c4 n c5 : Nat) (ss : List ByteArray) (zs : List Int) (w : World) (hp : p.size ≤ maxLen) (hid : id.size ≤ maxLen) (hS : SRow w a5 n ss) (hI : IRow w a4 kp zs) (hn : n ≤ 1024) (hk : kp ≤ 1024) :
    Calls Yba.prog 3 #[.string p, .string id, .int .i64 amt, .int .i64 held, .slice a4 kp c4, .slice a5 n c5] w fun e w' => e = .returned (.bool true) ∧ Below w.heap.size w w' := by
  obtain ⟨i46, ki, kz0, kz1, kz2⟩ := info_parts Yba.info46
  have hmm := @run_makeMap Yba.prog
  have hd0 : decide ((1024 : Int) < (n : Int)) = false := by simp; omega
  have hd1 : decide ((1024 : Int) < (kp : Int)) = false := by simp; omega
  have HSS : Hid (∀ s ∈ ss, s.size ≤ maxLen) := fun s hs => by
    obtain ⟨i, hi⟩ := List.mem_iff_getElem?.1 hs
    exact (hS.2 i s hi).1
  have HS : Hid (SRow w a5 n ss) := hS
  have HI : Hid (IRow w a4 kp zs) := hI
  clear hS hI
  obtain ⟨W0, hW0⟩ : ∃ W0, W0 = (w.alloc (.map #[] 0)).alloc (bookB w.heap.size) := ⟨_, rfl⟩
  have m0 : MapAt W0 w.heap.size 0 (.map []) := by rw [hW0]; exact (World.ownsMap_made w _ _ _).alloc _
  have b0 : W0.heap[w.heap.size + 1]? = some (bookB w.heap.size) := by
    rw [hW0]; have := heap_alloc_new (w.alloc (.map #[] 0)) (bookB w.heap.size); simpa using this
  have l0 : Below w.heap.size w W0 := by rw [hW0]; exact ((Below.refl _ _).alloc (Nat.le_refl _) _).alloc (by simp) _
  have hz0 : w.heap.size + 1 < W0.heap.size := (Array.getElem?_eq_some_iff.1 b0).1
  have hb0 := bookB_at b0
  unfold bookB at hW0
  go_enter Yba.func3, Yba.ntmps3
  go_wp2_with fail
  rw [← hW0]
  clear hW0 hd0 hd1 b0
  generalize hgb : w.heap.size + 1 = gb at hz0 hb0 ⊢
  have q1 : w.heap.size < gb := by omega
  clear hgb
  go_loopw [14] (fun i wr => ∃ (t : Nat) (D : DataW Unit), i = .int .i64 t ∧ t ≤ n ∧ MapAt wr w.heap.size t D ∧ wr.cell? ⟨gb, 10, none⟩ = some (.map (some w.heap.size)) ∧ Below w.heap.size w wr ∧ gb < wr.heap.size ∧ Hid (Fill p ss t D wr gb wr.heap.size)) (fun i _ => n - (intOf i).toNat)
  case atStart => exact ⟨0, .map [], rfl, Nat.zero_le _, m0, hb0, l0, hz0, fun j s h => by omega⟩
  case round =>
    obtain ⟨t, D, rfl, htn, hM, hB, hbel, hsz, hF⟩ := hrel
    clear m0 hb0 l0 hz0
    have hzw := hbel.size
    by_cases htl : t < n
    · obtain ⟨s0, b, off, hs0, hs0l, hba, hcs⟩ := HS.out.at hbel (Nat.le_refl _) htl
      subst hba
      have HS0 : Hid (ss[t]? = some s0) := hs0
      have hbs : b < w.heap.size := by
        obtain ⟨_, b', off', e1, e2, _⟩ := HS.out.2 t s0 hs0
        simp at e1; omega
      obtain ⟨X, hX⟩ : ∃ X, X = (wr.alloc (rbox s0 0 (.pointer none))).drew := ⟨_, rfl⟩
      have hMX : MapAt X w.heap.size t D := by rw [hX]; exact World.ownsMap.drew (World.ownsMap.alloc hM _)
      have hgX : wr.grownBy X none := by rw [hX]; exact grown_trans (grown_alloc _ _ _) (grown_drew _ _)
      have hrX : X.heap[wr.heap.size]? = some (rbox s0 0 (.pointer none)) := by rw [hX]; exact heap_alloc_new wr _
      obtain ⟨w2, hup, hM2, hg2⟩ := hMX.update law55 Yba.underlying25 (by unfold maxLen; omega) (key55 hp hs0l) (RP_at wr.heap.size)
      have hgA : wr.grownBy w2 (some w.heap.size) := grown_trans (hgX.but _) hg2
      have hr2 : w2.heap[wr.heap.size]? = some (rbox s0 0 (.pointer none)) := (hg2.block _ (Array.getElem?_eq_some_iff.1 hrX).1 (by simp; omega)).trans hrX
      have hB2 : w2.cell? ⟨gb, 10, none⟩ = some (.map (some w.heap.size)) := hgA.cell hB (by simp; omega)
      have hbel2 : Below w.heap.size w w2 := Below.grown hbel hgA (by omega) (by intro k h; cases h; omega)
      have hF2 : Hid (Fill p ss (t + 1) (D.put (klp p s0) (ptD wr.heap.size)) w2 gb w2.heap.size) := Fill.put hF.out hM.isMap hp HSS.out hs0 hgA.size (fun k h1 h2 => hgA.block k h2 (by simp; omega)) (by omega) (Array.getElem?_eq_some_iff.1 hr2).1 hr2
      have hz2 := hgA.size
      have hcX : (wr.alloc (rbox s0 0 (.pointer none))).cell? ⟨b, off + t, none⟩ = some (.string s0) := (grown_alloc wr _ none).cell hcs (by simp)
      have hBX : (wr.alloc (rbox s0 0 (.pointer none))).cell? ⟨gb, 10, none⟩ = some (.map (some w.heap.size)) := (grown_alloc wr _ none).cell hB (by simp)
      rw [hX] at hup
      unfold rbox at hup hcX hBX
      have HG2 : Hid (wr.grownBy w2 (some w.heap.size)) := hgA
      clear hs0 hMX hgX hrX hg2 hgA hr2 hX hM hF
      have ne0 : ¬ wr.heap.size = b := by omega
      have ne1 : ¬ wr.heap.size = gb := by omega
      go_wp2
      go_region
      go_wp2
      go_roundw
      case rel => exact ⟨t + 1, _, by go_num, by omega, hM2, hB2, hbel2, by omega, hF2⟩
      case measure => simp [intOf]; omega
    · have htn' : n = t := by omega
      subst htn'
      obtain ⟨W1, hW1⟩ : ∃ W1, W1 = wr.alloc (entB held) := ⟨_, rfl⟩
      have hg1 : wr.grownBy W1 none := by rw [hW1]; exact grown_alloc _ _ _
      have e1 : W1.heap[wr.heap.size]? = some (entB held) := by rw [hW1]; exact heap_alloc_new wr _
      have z1 : W1.heap.size = wr.heap.size + 1 := by rw [hW1]; simp
      unfold entB at hW1
      go_wp2_with (first | (at_make; go_loud (rw [← hW1]; refine wpList_make_own _ rfl _ _ 63 rfl w.heap.size 46 i46 _ 1 Yba.underlying63 ki kz0 kz1 _ _ _ kp rfl rfl rfl (by rw [kz2]; omega) (by unfold maxLen; omega) (by omega) ?_; intro w1 hown hgrow)))
      rw [z1] at hown
      have hgA : wr.grownBy w1 none := grown_trans hg1 hgrow
      have hB1 : w1.cell? ⟨gb, 10, none⟩ = some (.map (some w.heap.size)) := hgA.cell hB (by simp)
      have hE1 := entB_at ((hgrow.block _ (by omega) (by simp)).trans e1)
      have hM1 : MapAt w1 w.heap.size n D := World.ownsMap.kept hM hgA (by simp)
      have hbel1 : Below w.heap.size w w1 := Below.grown hbel hgA (by omega) (by intro k h; cases h)
      have hF1 : Hid (Fill p ss n D w1 gb wr.heap.size) := Fill.keep hF.out (fun k h1 h2 => hgA.block k h2 (by simp))
      have hz1 : wr.heap.size + 1 < w1.heap.size := by
        rcases hown.2 with ⟨h', _⟩ | ⟨g', cap', cur, h', hb, hg, _⟩
        · simp at h'
        · simp only [Value.slice.injEq, Option.some.injEq, Addr.mk.injEq, and_true, true_and] at h'
          obtain ⟨rfl, rfl⟩ := h'
          exact (Array.getElem?_eq_some_iff.1 hg).1
      clear hW1 hg1 e1 z1 hgrow hgA hM hB hbel hF htl htn
      generalize hbo : wr.heap.size + 1 = bo at hown hz1 ⊢
      generalize hge : wr.heap.size = ge at hE1 hF1 hbo hsz hzw ⊢
      have q2 : gb < ge := by omega
      have q3 : ge < bo := by omega
      clear hbo hge hzw hsz
      go_loopw [16, 17] (fun v i wr => ∃ (t : Nat) (G : List Nat), i = .int .i64 t ∧ t ≤ kp ∧ v = .slice (some ⟨bo, 0, none⟩) t kp ∧ Hid (G.length = t) ∧ wr.ownsRow w.heap.size 46 1 (.slice (some ⟨bo, 0, none⟩) t kp) t (ptrs G) ∧ w1.grownBy wr (some bo) ∧ Hid (Olds zs wr bo ge G wr.heap.size)) (fun _ i _ => kp - (intOf i).toNat)
      case atStart => exact ⟨0, [], rfl, Nat.zero_le _, rfl, rfl, hown, World.grownBy.refl _ _, fun j g z h => by simp at h⟩
      case round =>
        obtain ⟨t, G, rfl, htk, rfl, hGL, hrs, hgr, hR⟩ := hrel
        clear hown
        have hsz := hgr.size
        by_cases htl : t < kp
        · obtain ⟨z, b, off, hz, hba, hcz⟩ := HI.out.at hbel1 (Nat.le_refl _) htl
          subst hba
          have hbs : b < w.heap.size := by
            obtain ⟨b', off', e1, e2, _⟩ := HI.out.2 t z hz
            simp at e1; omega
          have hcz2 := hgr.cell hcz (by simp; omega)
          have HZ : Hid (zs[t]? = some z) := hz
          clear hz hcz
          go_wp2_with (first | (at_builtin; go_loud (refine wpList_append_fits _ rfl (.tmp 73) (.tmp 82) 63 rfl w.heap.size 46 i46 1 Yba.underlying63 ki kz1 bo t kp (ptrs G) rfl ((hrs.alloc _).alloc _) ⟨wr.heap.size + 1, 0, none⟩ 1 1 [.pointer (some ⟨wr.heap.size, 0, none⟩)] rfl rfl (one_new _ _ (by simp)) (by simp [Value.oneCell']) (by omega) ?_; intro w2 hrs2 hg2)))
          have hgB : wr.grownBy w2 (some bo) := grown_trans (grown_trans (grown_alloc _ _ _) (grown_alloc _ _ _)) hg2
          have hr2 : w2.heap[wr.heap.size]? = some (rbox ⟨#[]⟩ z (.pointer (some ⟨ge, 0, none⟩))) := (hg2.block _ (by simp; omega) (by simp; omega)).trans ((Below.heap_alloc _ _ _ (by simp)).trans (heap_alloc_new wr _))
          have hrs3 : w2.ownsRow w.heap.size 46 1 (.slice (some ⟨bo, 0, none⟩) (t + 1) kp) (t + 1) (ptrs (G ++ [wr.heap.size])) := by rw [ptrs_snoc]; exact hrs2
          have hz2 := hgB.size
          have hR2 : Hid (Olds zs w2 bo ge (G ++ [wr.heap.size]) w2.heap.size) := fun j g z' hj hz' => by
            rcases Nat.lt_or_ge j G.length with hlt | hge
            · rw [List.getElem?_append_left hlt] at hj
              obtain ⟨r1, r2, r3⟩ := hR.out j g z' hj hz'
              exact ⟨r1, by omega, (hgB.block g r2 (by simp; omega)).trans r3⟩
            · have hj2 := (List.getElem?_eq_some_iff.1 hj).1
              simp at hj2
              have hjt : j = G.length := by omega
              subst hjt
              have : g = wr.heap.size := by simpa using hj.symm
              subst this
              rw [hGL.out, HZ.out] at hz'
              cases hz'
              exact ⟨by omega, (Array.getElem?_eq_some_iff.1 hr2).1, hr2⟩
          have hgC := grown_trans hgr hgB
          clear hrs hrs2 hg2 hgB hr2 hR hgr
          go_roundw
          case rel => exact ⟨t + 1, G ++ [wr.heap.size], by go_num, by omega, rfl, by unfold Hid; rw [List.length_append, hGL.out]; rfl, hrs3, hgC, hR2⟩
          case measure => simp [intOf]; omega
        · have htk' : t = kp := by omega
          subst htk'
          have hE2 := hE1.of_block (hgr.block ge (by omega) (by simp; omega))
          have hB2 := hgr.cell hB1 (by simp; omega)
          have hM2 : MapAt wr w.heap.size n D := World.ownsMap.kept hM1 hgr (by simp; omega)
          have hbel2 : Below w.heap.size w wr := Below.grown hbel1 hgr (by omega) (by intro k h; cases h; omega)
          have hF2 : Hid (Fill p ss n D wr gb ge) := Fill.keep hF1.out (fun k h1 h2 => hgr.block k (by omega) (by simp; omega))
          clear hE1 hB1 hM1 hbel1 hF1 hgr
          go_wp2_with (first | (at_builtin; go_loud (refine wpList_append_own_at _ rfl (.const (.slice none 0 0)) (.tmp 85) 63 rfl wr.heap.size 46 i46 (.pointer none) 1 8 Yba.underlying63 ki kz0 kz1 kz2 rfl (by omega) (.slice none 0 0) 0 [] rfl (World.ownsRow_nil _ _ _ _) ⟨bo, 0, none⟩ t t (ptrs G) rfl (by rw [ptrs_len, hGL.out]; omega) (fun j u h => hrs.cells rfl j u h) (by intro u hu; obtain ⟨g, _, rfl⟩ := List.mem_map.1 hu; rfl) (by unfold maxLen; omega) (by omega) (Nat.le_refl _) ?_; intro v' w2 hown2 hg2 _ hat; rw [Nat.zero_add, List.nil_append] at hown2; obtain ⟨ao, capv, rfl, hrow⟩ := row_form hown2; have hE3 := hE2.of_block (hg2.block ge (by omega) (by simp [Value.ownBlock])); obtain ⟨x15, x16, xfr⟩ := hE3)))
          have hz2 := hg2.size
          obtain ⟨X, hX⟩ : ∃ X, X = (w2.setCell ⟨ge, 16, none⟩ (.slice ao t capv)).alloc (.cells #[.string p, .string id] 55) := ⟨_, rfl⟩
          have hgY : w2.grownBy X (some ge) := by rw [hX]; exact grown_trans (grown_setCell _ _ _ _) (grown_alloc _ _ _)
          have hbX : But (fun k => k = ge) wr X := ((But.refl _ wr).grown hg2 (fun k h => by simp [Value.ownBlock] at h)).grown hgY (fun k h => Or.inl (by simpa using h.symm))
          have hkX : X.heap[w2.heap.size]? = some (.cells #[.string p, .string id] 55 (0, 0)) := by rw [hX]; have := heap_alloc_new (w2.setCell ⟨ge, 16, none⟩ (.slice ao t capv)) (.cells #[.string p, .string id] 55); simpa using this
          have hEX : EAt X ge held (.slice ao t capv) := by
            refine ⟨?_, ?_, fun o => ?_⟩
            · rw [hX, World.cell?_of_block (w := w2.setCell ⟨ge, 16, none⟩ (.slice ao t capv)) (Below.heap_alloc _ _ _ (by simp; omega)), World.cell?_setCell_other _ _ _ _ (by simp)]; exact x15
            · rw [hX, World.cell?_of_block (w := w2.setCell ⟨ge, 16, none⟩ (.slice ao t capv)) (Below.heap_alloc _ _ _ (by simp; omega))]; exact World.cell?_setCell_same' _ _ _ (by rw [x16]; rfl)
            · rw [hX, (grown_alloc (w2.setCell ⟨ge, 16, none⟩ (.slice ao t capv)) _ none).frozen_far _ (by simp; omega) (by simp), World.frozen?_setCell]; exact xfr o
          have hobX : ∀ k, (Value.slice ao t capv).ownBlock = some k → wr.heap.size ≤ k ∧ k < w2.heap.size := fun k h => hown2.lt k h
          have hownX : X.ownsRow wr.heap.size 46 1 (.slice ao t capv) t (ptrs G) := own_of_block hown2 fun k h => hgY.block k (hobX k h).2 (by have := (hobX k h).1; simp; omega)
          have hrsX : X.ownsRow w.heap.size 46 1 (.slice (some ⟨bo, 0, none⟩) t t) t (ptrs G) := own_of_block hrs fun k h => hbX.block k (by simp [Value.ownBlock] at h; omega) (by simp [Value.ownBlock] at h; omega)
          have hMX : MapAt X w.heap.size n D := MapAt.of_block hM2 (hbX.block _ (by omega) (by omega))
          have hBX : X.cell? ⟨gb, 10, none⟩ = some (.map (some w.heap.size)) := (World.cell?_of_block (w := wr) (hbX.block gb (by omega) (by omega))).trans hB2
          have hbelX : Below w.heap.size w X := hbel2.trans (hbX.below (by omega) (fun k h => by omega))
          have hFX : Hid (Fill p ss n D X gb ge) := Fill.keep hF2.out (fun k h1 h2 => hbX.block k (by omega) (by omega))
          have hRX : Hid (Olds zs X bo ge G wr.heap.size) := Olds.keep hR.out (fun k h1 h2 => hbX.block k h2 (by omega))
          have k0 : X.cell? ⟨w2.heap.size, 0, none⟩ = some (.string p) := by rw [cell_of_row X _ _ _ 55 (0, 0) hkX]; rfl
          have k1 : X.cell? ⟨w2.heap.size, 1, none⟩ = some (.string id) := by rw [cell_of_row X _ _ _ 55 (0, 0) hkX]; rfl
          have hzX : w2.heap.size < X.heap.size := (Array.getElem?_eq_some_iff.1 hkX).1
          have hzR : wr.heap.size ≤ w2.heap.size := hz2
          rw [← hX]
          clear hX hgY hbX hkX hown2 hrs hM2 hB2 hbel2 hF2 hR hE2 hg2 hat x15 x16 xfr hrow hz2
          generalize w2.heap.size = kb at k0 k1 hobX hzX hzR ⊢
          obtain ⟨v0, ps0, hlk0, -⟩ := World.ownsMap.look_ok (w := X.drew) (World.ownsMap.drew hMX) law55 Yba.underlying25 (zero46 _) RP_nil (key55 hp hid)
          obtain ⟨had, hhad⟩ : ∃ had, had = Maps.has D (klp p id) := ⟨_, rfl⟩
          rw [← hhad] at hlk0
          have HHAD : Hid (had = Maps.has D (klp p id)) := hhad
          clear hhad
          go_region
          go_wp2_with fail
          rw [World.ownsMap.len (World.ownsMap.drew hMX) Yba.underlying25 3]
          have hsd : Maps.size D ≤ n := World.ownsMap.size_le hMX
          obtain ⟨sd, hsdD⟩ : ∃ sd, sd = Maps.size D := ⟨_, rfl⟩
          rw [← hsdD] at hsd ⊢
          have HSD : Hid (sd = Maps.size D) := hsdD
          clear hsdD hlk0
          obtain ⟨Y, hY⟩ : ∃ Y, Y = (X.alloc (rbox id amt (.pointer (some ⟨ge, 0, none⟩)))).drew := ⟨_, rfl⟩
          have hgY : X.grownBy Y none := by rw [hY]; exact grown_trans (grown_alloc _ _ _) (grown_drew _ _)
          have hrY : Y.heap[X.heap.size]? = some (rbox id amt (.pointer (some ⟨ge, 0, none⟩))) := by rw [hY]; exact heap_alloc_new X _
          unfold rbox at hY
          go_wp2_with fail
          rw [← hY]
          clear hY
          have hzY := hgY.size
          have hEY := hEX.of_block (hgY.block ge (by omega) (by simp))
          have hownY := own_of_block hownX fun k h => hgY.block k (by have := hobX k h; omega) (by simp)
          have hMY : MapAt Y w.heap.size n D := World.ownsMap.kept hMX hgY (by simp)
          have hBY := hgY.cell hBX (by simp)
          have hrsY := own_of_block hrsX fun k h => hgY.block k (by simp [Value.ownBlock] at h; omega) (by simp)
          have hFY : Hid (Fill p ss n D Y gb ge) := Fill.keep hFX.out (fun k h1 h2 => hgY.block k (by omega) (by simp))
          have hRY : Hid (Olds zs Y bo ge G wr.heap.size) := Olds.keep hRX.out (fun k h1 h2 => hgY.block k (by omega) (by simp))
          have hbelY : Below w.heap.size w Y := Below.grown hbelX hgY (by omega) (by intro k h; cases h)
          have k0Y := hgY.cell k0 (by simp)
          have k1Y := hgY.cell k1 (by simp)
          have hzg : X.heap.size < Y.heap.size := (Array.getElem?_eq_some_iff.1 hrY).1
          clear hgY hEX hownX hMX hBX hrsX hFX hRX hbelX k0 k1 hzY
          generalize X.heap.size = gr at hrY hzX hzg ⊢
          have zk := cell_lt k0Y
          simp only at zk
          refine (add5 gb w.heap.size gr ge wr.heap.size t n p id hp hid held amt (.slice ao t capv) (ptrs G) D Y hBY ?_ ?_ hEY hownY hMY (by omega) (by omega) (by omega) (by omega) (by omega) ?_ ?_ ?_).mono ?_
          · rw [cell_of_row Y _ _ _ 53 (0, 0) hrY]; rfl
          · rw [cell_of_row Y _ _ _ 53 (0, 0) hrY]; rfl
          · intro e; have := hobX _ e.symm; omega
          · intro e; have := hobX _ e.symm; omega
          · intro e; have := hobX _ e.symm; omega
          · rintro e w5 ⟨rfl, g5, cap5, hM5, hE5, hu5, hat5, hbut⟩
            have hz5 := hbut.size
            have hnb : ∀ k, k ≠ w.heap.size → k ≠ ge → (k < wr.heap.size ∨ kb ≤ k) → ¬ addS w.heap.size ge (.slice ao t capv) k := fun k h1 h2 h3 hS => by
              rcases hS with h | h | h
              · exact h1 h
              · exact h2 h
              · have := hobX k h; omega
            have hB5 : w5.cell? ⟨gb, 10, none⟩ = some (.map (some w.heap.size)) := (World.cell?_of_block (w := Y) (hbut.block gb (by omega) (hnb gb (by omega) (by omega) (Or.inl (by omega))))).trans hBY
            have k05 : w5.cell? ⟨kb, 0, none⟩ = some (.string p) := (World.cell?_of_block (w := Y) (hbut.block kb (by omega) (hnb kb (by omega) (by omega) (Or.inr (by omega))))).trans k0Y
            have k15 : w5.cell? ⟨kb, 1, none⟩ = some (.string id) := (World.cell?_of_block (w := Y) (hbut.block kb (by omega) (hnb kb (by omega) (by omega) (Or.inr (by omega))))).trans k1Y
            have hr5 : w5.heap[gr]? = some (rbox id amt (.pointer (some ⟨ge, 0, none⟩))) := (hbut.block gr (by omega) (hnb gr (by omega) (by omega) (Or.inr (by omega)))).trans hrY
            have hrs5 := own_of_block hrsY fun k h => hbut.block k (by simp [Value.ownBlock] at h; omega) (hnb k (by simp [Value.ownBlock] at h; omega) (by simp [Value.ownBlock] at h; omega) (Or.inl (by simp [Value.ownBlock] at h; omega)))
            have hF5 : Hid (Fill p ss n D w5 gb ge) := Fill.keep hFY.out (fun k h1 h2 => hbut.block k (by omega) (hnb k (by omega) (by omega) (Or.inl (by omega))))
            have hR5 : Hid (Olds zs w5 bo ge G wr.heap.size) := Olds.keep hRY.out (fun k h1 h2 => hbut.block k (by omega) (hnb k (by omega) (by omega) (Or.inl (by omega))))
            have hbel5 : Below w.heap.size w w5 := hbelY.trans (hbut.below (by omega) (fun k hS => by
              rcases hS with h | h | h
              · omega
              · omega
              · have := hobX k h; omega))
            have hu6 : w5.ownsRow wr.heap.size 46 1 (.slice (some ⟨g5, 0, none⟩) (t + 1) cap5) (t + 1) (ptrs (G ++ [gr])) := by rw [ptrs_snoc]; exact hu5
            have hD5 : Hid ((D.put (klp p id) (ptD gr)).atKey (klp p id) nilD = ptD gr) := atKey_put_same hMY.isMap (klp_key hp hid) _ _
            have HSZ : Hid (Maps.size (D.put (klp p id) (ptD gr)) = if had then sd else sd + 1) := by
              unfold Hid; rw [size_put (World.ownsMap.tidy hMY law55), ← HHAD.out, ← HSD.out]
            have hE6 : EAt w5 ge (wrap64 (held + amt)) (.slice (some ⟨g5, 0, none⟩) (t + 1) cap5) := by rw [← IntWalk.i64_left]; exact hE5
            have HFD : Hid (∀ j s, ss[j]? = some s → s ≠ id → ∃ g, gb < g ∧ g < ge ∧ (D.put (klp p id) (ptD gr)).atKey (klp p s) nilD = ptD g ∧ w5.heap[g]? = some (rbox s 0 (.pointer none))) := fun j s hj hne => by
              have hjn : j < n := by have := (List.getElem?_eq_some_iff.1 hj).1; rw [HS.out.1] at this; exact this
              obtain ⟨g, h1, h2, h3, h4⟩ := hF5.out j s hjn hj
              exact ⟨g, h1, h2, by rw [atKey_put_other (fun q => hne (klp_inj hp (HSS.out s (List.mem_of_getElem? hj)) hid q))]; exact h3, h4⟩
            clear hbut hE5 hu5 hF5 hBY k0Y k1Y hrY hrsY hFY hRY hbelY hEY hownY hMY
            generalize D.put (klp p id) (ptD gr) = D5 at hM5 hD5 HSZ HFD
            have hlk5 : ∀ m : Nat, (Instr.lookup 25 (.map (some w.heap.size)) (.agg #[.string p, .string id]) false).run Yba.prog (w5.drewN m) = .ok (.pointer (some ⟨gr, 0, none⟩)) (w5.drewN m) := fun m => by
              have hm' : MapAt (w5.drewN m) w.heap.size (n + 1) D5 := hM5
              exact MapAt.look hm' hp hid hD5.out
            have hne5 := neq46_same gr
            go_wp2
            go_quiet (fail)
            go_upto_if 126 with fail
            go_cut [23] (fun v wq => v = .int .i64 (Maps.size D5 : Nat) ∧ ∃ m, wq = w5.drewN m)
            case first =>
              cases had with
              | true =>
                have e : Maps.size D5 = sd := by have := HSZ.out; simpa using this
                go_wp2
                go_meet
                case rel => exact ⟨by rw [e], _, rfl⟩
              | false =>
                have e : Maps.size D5 = sd + 1 := by have := HSZ.out; simpa using this
                have HE : Hid (Maps.size D5 = sd + 1) := e
                clear e
                go_wp2
                go_meet
                case rel => exact ⟨by rw [HE.out]; go_num, _, rfl⟩
            case rest =>
              obtain ⟨rfl, m, rfl⟩ := hcut
              clear hlk5 HSZ
              have hlen5 := World.ownsMap.len (w := w5.drewN m) hM5 Yba.underlying25 3
              have hzw := hbel5.size
              go_wp2_with fail
              clear hlen5
              go_loopw [24] (fun i wq => ∃ (q m : Nat), i = .int .i64 q ∧ q ≤ n ∧ wq = w5.drewN m) (fun i _ => n - (intOf i).toNat)
              case atStart => exact ⟨0, _, rfl, Nat.zero_le _, rfl⟩
              case round =>
                obtain ⟨q, m, rfl, hqn, rfl⟩ := hrel
                by_cases hq : q < n
                · obtain ⟨s0, b, off, hs0, hs0l, hba, hcs⟩ := HS.out.at hbel5 (Nat.le_refl _) hq
                  subst hba
                  cases hss : (s0.toList == id.toList) with
                  | true =>
                    clear hs0
                    go_wp2
                    go_roundw
                    case rel => exact ⟨q + 1, _, by go_num, by omega, rfl⟩
                    case measure => simp [intOf]; omega
                  | false =>
                    have hne : s0 ≠ id := fun e => by rw [e] at hss; simp at hss
                    obtain ⟨g, hg1, hg2, hgD, hgh⟩ := HFD.out q s0 hs0 hne
                    have hlk : ∀ m : Nat, (Instr.lookup 25 (.map (some w.heap.size)) (.agg #[.string p, .string s0]) false).run Yba.prog (w5.drewN m) = .ok (.pointer (some ⟨g, 0, none⟩)) (w5.drewN m) := fun m => by
                      have hm' : MapAt (w5.drewN m) w.heap.size (n + 1) D5 := hM5
                      exact MapAt.look hm' hp hs0l hgD
                    have hoth : ∀ m : Nat, (binOp .eql 46 (.pointer (some ⟨g, 0, none⟩)) (.pointer (some ⟨gr, 0, none⟩))).run Yba.prog (w5.drewN m) = .ok (.bool false) (w5.drewN m) := fun m => by
                      obtain ⟨j, hj, hz⟩ := info_pos size53
                      exact ptr_eql_other (w5.drewN m) Yba.underlying46 hj hz (by intro e; injection e with e1; omega) (show (w5.drewN m).heap[g]? = _ from hgh) (show (w5.drewN m).heap[gr]? = _ from hr5)
                    have cg1 : w5.cell? ⟨g, 1, none⟩ = some (.string s0) := by rw [cell_of_row w5 _ _ _ 53 (0, 0) hgh]; rfl
                    clear hs0 hne hgD hgh
                    go_wp2
                    go_quiet (fail)
                    go_wp2
                    go_quiet (fail)
                    go_wp2
                    go_roundw
                    case rel => exact ⟨q + 1, _, by go_num, by omega, rfl⟩
                    case measure => simp [intOf]; omega
                · obtain ⟨e15, e16, -⟩ := hE6
                  obtain ⟨ao6, cap6, hao6, hrow6⟩ := row_form hu6
                  simp only [Value.slice.injEq, true_and] at hao6
                  obtain ⟨rfl, rfl⟩ := hao6
                  obtain ⟨ar, capr, har, hrow2⟩ := row_form hrs5
                  simp only [Value.slice.injEq, true_and] at har
                  obtain ⟨rfl, rfl⟩ := har
                  obtain ⟨_, hg5e, ct⟩ := hrow6 t gr (by rw [List.getElem?_append_right (by rw [hGL.out]; exact Nat.le_refl _), hGL.out]; simp)
                  simp at hg5e
                  subst hg5e
                  have HR6 : Hid (∀ (j g : Nat), (G ++ [gr])[j]? = some g → ∃ gu, some (⟨g5, 0, none⟩ : Addr) = some ⟨gu, 0, none⟩ ∧ w5.cell? ⟨gu, j, none⟩ = some (.pointer (some ⟨g, 0, none⟩))) := hrow6
                  have HR7 : Hid (∀ (j g : Nat), G[j]? = some g → ∃ gu, some (⟨bo, 0, none⟩ : Addr) = some ⟨gu, 0, none⟩ ∧ w5.cell? ⟨gu, j, none⟩ = some (.pointer (some ⟨g, 0, none⟩))) := hrow2
                  clear hrow6 hrow2 hu6 hrs5
                  go_wp2_with fail
                  go_loopw [26] (fun i wq => ∃ (q m : Nat), i = .int .i64 q ∧ q ≤ t ∧ wq = w5.drewN m) (fun i _ => t - (intOf i).toNat)
                  case atStart => exact ⟨0, _, rfl, Nat.zero_le _, rfl⟩
                  case round =>
                    obtain ⟨q, m, rfl, hqt, rfl⟩ := hrel
                    by_cases hq : q < t
                    · obtain ⟨z, b, off, hz, hba, hcz⟩ := HI.out.at hbel5 (Nat.le_refl _) hq
                      subst hba
                      obtain ⟨g, hg⟩ : ∃ g, G[q]? = some g := ⟨_, List.getElem?_eq_getElem (by rw [hGL.out]; exact hq)⟩
                      obtain ⟨_, h1, c1⟩ := HR6.out q g (by rw [List.getElem?_append_left (by rw [hGL.out]; exact hq)]; exact hg)
                      simp at h1
                      subst h1
                      obtain ⟨_, h2, c2⟩ := HR7.out q g hg
                      simp at h2
                      subst h2
                      obtain ⟨_, _, hgh⟩ := hR5.out q g z hg hz
                      have c3 : w5.cell? ⟨g, 3, none⟩ = some (.int .i64 z) := by rw [cell_of_row w5 _ _ _ 53 (0, 0) hgh]; rfl
                      have hneg := neq46_same g
                      clear hz hg hgh
                      go_wp2
                      go_quiet (fail)
                      go_wp2
                      go_roundw
                      case rel => exact ⟨q + 1, _, by go_num, by omega, rfl⟩
                      case measure => simp [intOf]; omega
                    · have r1 : w5.cell? ⟨gr, 1, none⟩ = some (.string id) := by rw [cell_of_row w5 _ _ _ 53 (0, 0) hr5]; rfl
                      have r3 : w5.cell? ⟨gr, 3, none⟩ = some (.int .i64 amt) := by rw [cell_of_row w5 _ _ _ 53 (0, 0) hr5]; rfl
                      have r5 : w5.cell? ⟨gr, 5, none⟩ = some (.pointer (some ⟨ge, 0, none⟩)) := by rw [cell_of_row w5 _ _ _ 53 (0, 0) hr5]; rfl
                      have heq := eql50_same ge
                      go_wp2
                      go_ret
                      exact ⟨rfl, Below.grown hbel5 (grown_drewN _ _ none) (by omega) (by intro k h; cases h)⟩
end Go.Proofs.Ybulkdenm

import Derived.Test.YbulkdekgCountPlain
namespace Go.Proofs.Ybulkdekg
open Go.RowKit Go.ChangeShapes Go.Maps

theorem InvL.grown {c : Cfg} {w w' : World} {lb la : Value} {m mb : Nat} (h : InvL c w lb la m) (hc : c.ok) (hg : w.grownBy w' (some mb)) (hmb : mb < c.base) (n0 : c.pl ≠ mb) (n1 : c.pb ≠ mb) (n2 : c.ob ≠ mb) (n3 : c.pa ≠ mb) (n4 : c.oa ≠ mb) : InvL c w' lb la m := by
  have hs := h.bl
  refine ⟨(hg.block _ (by have := hc.pl_lt; omega) (fun e => n0 (by simpa using e))).trans h.plan, h.hb.to fun k hk => hg.block _ ?_ (fun e => ?_), h.ha.to fun k hk => hg.block _ ?_ (fun e => ?_), h.apart, Nat.le_trans hs hg.size⟩
  · rcases hk with rfl | rfl | hk
    · have := h.hb.pbl; omega
    · have := h.hb.obl; omega
    · exact (h.hb.lvlt hk.symm).2
  · have e' : k = mb := by simpa using e
    rcases hk with rfl | rfl | hk
    · exact n1 e'
    · exact n2 e'
    · have := h.hb.lvlt hk.symm; omega
  · rcases hk with rfl | rfl | hk
    · have := h.ha.pbl; omega
    · have := h.ha.obl; omega
    · exact (h.ha.lvlt hk.symm).2
  · have e' : k = mb := by simpa using e
    rcases hk with rfl | rfl | hk
    · exact n3 e'
    · exact n4 e'
    · have := h.ha.lvlt hk.symm; omega

/-- below the base nothing has turned but the two places and the map -/
structure KeptM (c : Cfg) (mb : Nat) (w w' : World) : Prop where
  os : w'.os = w.os
  tape : w'.tape = w.tape
  output : w'.output = w.output
  size : w.heap.size ≤ w'.heap.size
  block : ∀ k, k < c.base → k ≠ c.pb → k ≠ c.pa → k ≠ mb → w'.heap[k]? = w.heap[k]?
theorem KeptM.kept {c : Cfg} {mb : Nat} {w w1 w2 : World} (h : KeptM c mb w w1) (g : Kept c w1 w2) : KeptM c mb w w2 :=
  ⟨g.os.trans h.os, g.tape.trans h.tape, g.output.trans h.output, Nat.le_trans h.size g.size, fun k hk n1 n2 n3 => (g.block k hk n1 n2).trans (h.block k hk n1 n2 n3)⟩
theorem KeptM.grown {c : Cfg} {mb : Nat} {w w1 w2 : World} (h : KeptM c mb w w1) (g : w1.grownBy w2 (some mb)) (hs : c.base ≤ w1.heap.size) : KeptM c mb w w2 :=
  ⟨g.os.trans h.os, g.tape.trans h.tape, g.output.trans h.output, Nat.le_trans h.size g.size, fun k hk n1 n2 n3 => (g.block k (by omega) (fun e => n3 (by simpa using e))).trans (h.block k hk n1 n2 n3)⟩

set_option maxHeartbeats 1000000 in
theorem count11 (c : Cfg) (hc : c.ok) (a0 : Option Addr) (nk cap B0 : Nat) (V : Nat → Value) (U : List (List Nat)) (w : World) (hbase : c.base = w.heap.size + 1) (hi : InvL c (w.alloc (.map #[] 0)) (.slice none 0 0) (.slice none 0 0) 0)
    (hk : KeysAt B0 w a0 nk V U) (hB1 : B0 ≤ c.pb) (hB2 : B0 ≤ c.pa) (hB3 : B0 ≤ w.heap.size) (hnk : nk ≤ 1024) (hsb : Small c.sb) (hsa : Small c.sa)
    (n0 : c.pl ≠ w.heap.size) (n1 : c.pb ≠ w.heap.size) (n2 : c.ob ≠ w.heap.size) (n3 : c.pa ≠ w.heap.size) (n4 : c.oa ≠ w.heap.size) :
    Calls Yba.prog 11 #[.pointer (some ⟨c.pl, 0, none⟩), .slice a0 nk cap] w fun e w' => e = .returned (.map (some w.heap.size)) ∧ ∃ D n, w'.ownsMap Yba.prog 40 (plainElem (H := Unit) Yba.prog 3) w.heap.size n D ∧ MapOk D (mvs c.sb c.sa U) ∧ KeptM c w.heap.size (w.alloc (.map #[] 0)) w' ∧ ∃ m, Inv c w' m := by
  have hmm := @run_makeMap Yba.prog
  have HL : Hid (U.length = nk) := hk.1
  obtain ⟨mb, hmb⟩ : ∃ mb, mb = w.heap.size := ⟨_, rfl⟩
  have hown0 : (w.alloc (.map #[] 0)).ownsMap Yba.prog 40 (plainElem (H := Unit) Yba.prog 3) mb 0 (.map []) := by rw [hmb]; exact World.ownsMap_made _ _ _ _
  rw [← hmb] at n0 n1 n2 n3 n4
  have hmb1 : mb < c.base := by omega
  have hK0 : KeptM c mb (w.alloc (.map #[] 0)) (w.alloc (.map #[] 0)) := ⟨rfl, rfl, rfl, Nat.le_refl _, fun _ _ _ _ _ => rfl⟩
  have hkk : KeysAt B0 (w.alloc (.map #[] 0)) a0 nk V U := hk.keep fun k hk => Below.heap_alloc _ _ _ (by omega)
  have hB4 : B0 ≤ mb := by omega
  go_enter Yba.func11, Yba.ntmps11
  go_wp2
  rw [← hmb]
  have HMB : Hid (mb = w.heap.size) := hmb
  clear hmb
  generalize hW0 : w.alloc (.map #[] 0) = W0 at *
  have HW0 : Hid (w.alloc (.map #[] 0) = W0) := hW0
  clear hW0
  go_loopw [12] (fun i wr => ∃ (k : Nat) (D : DataW Unit), k ≤ nk ∧ i = .int .i64 k ∧ Inv c wr k ∧ wr.ownsMap Yba.prog 40 (plainElem (H := Unit) Yba.prog 3) mb k D ∧ Hid (MapOk D (mvs c.sb c.sa (U.take k))) ∧ KeptM c mb W0 wr) (fun i _ => nk - (intOf i).toNat)
  case atStart => exact ⟨0, .map [], Nat.zero_le _, rfl, ⟨_, _, hi⟩, hown0, mapOk_nil, hK0⟩
  case round =>
    obtain ⟨k, D, hkn, rfl, hinv, hown, hok, hK⟩ := hrel
    clear hown0 hK0
    by_cases hlt : k < nk
    · obtain ⟨us, hus⟩ : ∃ us, U[k]? = some us := ⟨_, List.getElem?_eq_getElem (by rw [HL.out]; exact hlt)⟩
      have hbl : c.base ≤ wr.heap.size := by obtain ⟨_, _, q⟩ := hinv; exact q.bl
      have hkw : KeysAt B0 wr a0 nk V U := hkk.keep fun j hj => hK.block j (by omega) (by omega) (by omega) (by omega)
      obtain ⟨⟨kb, ko, ha0, hkb, hcv⟩, a, len, cap', hV, hlen, hrow⟩ := hkw.row hus (by omega)
      rw [hV] at hcv
      have HU : Hid (U[k]? = some us) := hus
      clear hus hV hkw
      subst ha0
      go_wp2_with fail
      refine (move23 c hc k a len cap' us _ hrow hlen hinv (by omega)).mono ?_
      rintro e w1 ⟨rfl, hinv1, hK1⟩
      obtain ⟨x, hx⟩ : ∃ x, x = mvOf c.sb c.sa us := ⟨_, rfl⟩
      have hfit : x.fits := by rw [hx]; exact mvOf_fits hsb hsa us
      have hx1 : pickS c.sb (fnvN us) = x.1 := by rw [hx]; rfl
      have hx2 : pickS c.sa (fnvN us) = x.2 := by rw [hx]; rfl
      rw [hx1, hx2]
      have HX : Hid (x = mvOf c.sb c.sa us) := hx
      clear hx hx1 hx2
      go_wp2_with fail
      refine (moves24 x.1 x.2 _).mono ?_
      rintro e w2 ⟨rfl, rfl⟩
      obtain ⟨lb1, la1, hL1⟩ := hinv1
      have hbl1 := hL1.bl
      have hL2 : InvL c ((w1.alloc (.cells #[.string x.1, .string x.2] 40)).alloc (box40 x.1 x.2)) lb1 la1 (k + 1) := (hL1.alloc _ hc).alloc _ hc
      have hown2 : ((w1.alloc (.cells #[.string x.1, .string x.2] 40)).alloc (box40 x.1 x.2)).ownsMap Yba.prog 40 (plainElem (H := Unit) Yba.prog 3) mb k D := ((ownsMap_of_block hown (hK1.block mb hmb1 (fun e => n1 e.symm) (fun e => n3 e.symm))).alloc _).alloc _
      have hB5 : Below w1.heap.size w1 ((w1.alloc (.cells #[.string x.1, .string x.2] 40)).alloc (box40 x.1 x.2)) := ((Below.refl _ _).alloc (Nat.le_refl _) _).alloc (by simp) _
      have hK2 : KeptM c mb W0 ((w1.alloc (.cells #[.string x.1, .string x.2] 40)).alloc (box40 x.1 x.2)) := (hK.kept hK1).kept (Kept.of_below hB5 hbl1)
      have hR : ((w1.alloc (.cells #[.string x.1, .string x.2] 40)).alloc (box40 x.1 x.2)).heap[w1.heap.size]? = some (.cells #[.string x.1, .string x.2] 40 (0, 0)) := (Below.heap_alloc _ _ _ (by simp)).trans (heap_alloc_new w1 _)
      have hbl2 := hL2.bl
      clear hown hK hinv hK1 hL1 hrow hcv hB5
      obtain ⟨rb, hrb⟩ : ∃ rb, rb = w1.heap.size := ⟨_, rfl⟩
      rw [← hrb] at hR ⊢
      have nrb : mb ≠ rb := by omega
      clear hrb hbl1
      generalize (w1.alloc (.cells #[.string x.1, .string x.2] 40)).alloc (box40 x.1 x.2) = X at *
      cases hmv : (x.1.toList != x.2.toList) with
      | false =>
        have HM : Hid (MapOk D (mvs c.sb c.sa (U.take (k + 1)))) := by
          show MapOk D _
          rw [mvs_no HU.out (by rw [← HX.out]; exact hmv)]
          exact hok.out
        clear hok hR
        go_wp2
        go_roundw
        case rel => exact ⟨k + 1, D, by omega, by go_num, ⟨_, _, hL2⟩, hown2.mono (by omega), HM, hK2⟩
        case measure => simp [intOf]; omega
      | true =>
        have hval := hok.out.val x hfit
        have hcb := cnt_le x (mvs c.sb c.sa (U.take k))
        have hcb2 := mvs_le c.sb c.sa (U.take k)
        have hcb3 : (U.take k).length ≤ k := List.length_take_le _ _
        obtain ⟨v0, st, X1, D1, hent, hown3, hat3, hgr3, hst3⟩ := ownsMap_entry (w := X.drew) klaw40 Yba.underlying32 zero3 (plainElem_int Yba.underlying3 (by decide)) hown2.drew (by unfold maxLen; omega) (key40 x hfit)
        obtain ⟨c1, hlk1, hc1, _⟩ := (hown2.drew).lookup_int law40 Yba.underlying32 Yba.underlying3 (zero3 _) (key40 x hfit)
        obtain ⟨c2, hlk2, hc2, _⟩ := hown3.lookup_int law40 Yba.underlying32 Yba.underlying3 (zero3 _) (key40 x hfit)
        have e1 : c1 = (cnt x (mvs c.sb c.sa (U.take k)) : Int) := by rw [hval] at hc1; simpa using hc1.symm
        have e2 : c2 = (cnt x (mvs c.sb c.sa (U.take k)) : Int) := by rw [hat3, hval] at hc2; simpa using hc2.symm
        obtain ⟨n, hn⟩ : ∃ n, n = cnt x (mvs c.sb c.sa (U.take k)) := ⟨_, rfl⟩
        rw [← hn] at e1 e2 hcb hval
        subst e1 e2
        obtain ⟨X2, hsto, hown4, hgr4⟩ := hst3 (.int .i64 ((n : Int) + 1)) _ [] (plainElem_int Yba.underlying3 (WalkArith.wf_i64 (by omega)))
        have hent' : (Instr.mapEntry 32 (.map (some mb)) (.agg #[.string x.1, .string x.2])).run Yba.prog X.drew = .ok (.tuple #[v0, .int .i64 st]) X1 := hent
        have hsto' : (Instr.entryStore 32 (.map (some mb)) (.int .i64 st) (.int .i64 ((n : Int) + 1))).run Yba.prog X1 = .ok () X2 := hsto
        have HM : Hid (MapOk (D.put (klp x) (.lit (.int .i64 ((n : Int) + 1)))) (mvs c.sb c.sa (U.take (k + 1)))) := by
          show MapOk _ _
          rw [mvs_yes HU.out (by rw [← HX.out]; exact hmv), ← HX.out, hn]
          exact mapOk_put hok.out hfit
        obtain ⟨r0, r1, _⟩ := cell_pair hR
        have hR1 : X1.heap[rb]? = some (.cells #[.string x.1, .string x.2] 40 (0, 0)) := (hgr3.block rb (by show rb < X.heap.size; exact (Array.getElem?_eq_some_iff.1 hR).1) (fun e => nrb (by simpa using e.symm))).trans hR
        obtain ⟨q0, q1, _⟩ := cell_pair hR1
        have hL4 : InvL c X2 lb1 la1 (k + 1) := ((hL2.drew.grown hc hgr3 hmb1 n0 n1 n2 n3 n4).grown hc hgr4 hmb1 n0 n1 n2 n3 n4)
        have hK4 : KeptM c mb W0 X2 := (hK2.grown (grown_trans (grown_drew X (some mb)) hgr3) hbl2).grown hgr4 (Nat.le_trans hbl2 hgr3.size)
        clear hok hR hR1 hent hsto hst3 hown3 hown2 hL2 hK2 hat3 hc1 hc2 hgr3 hgr4 hval hn
        go_wp2
        go_region
        go_wp2
        go_roundw
        case rel => exact ⟨k + 1, _, by omega, by go_num, ⟨_, _, hL4⟩, hown4, HM, hK4⟩
        case measure => simp [intOf]; omega
    · have hkn' : nk = k := by omega
      subst hkn'
      have e : U.take nk = U := List.take_of_length_le (by rw [HL.out]; exact Nat.le_refl _)
      rw [e] at hok
      clear e
      go_wp2
      go_ret
      rw [← HMB.out, HW0.out]
      exact ⟨rfl, D, nk, hown, hok.out, hK, nk, hinv⟩
end Go.Proofs.Ybulkdekg

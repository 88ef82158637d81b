import Derived.Test.YbulkdekgModel
namespace Go.Proofs.Ybulkdekg
open Go.RowKit Go.ChangeShapes

theorem same_turns {ws : List Nat} {n L : Nat} {a b : List Nat} (hn : ws.length = n) (ha : Turns (wtG ws) n a) (hb : Turns (wtOf ws) n b) (la : a.length = perAt ws L n) (lb : b.length = perAt ws L n) : a = b := by
  rcases Nat.eq_zero_or_pos (gAll ws) with hz | hp
  · have h0 : perAt ws L n = 0 := by
      unfold perAt
      have : sumTo (wtG ws) n = 0 := by rw [sumTo_congr (g := fun _ => 0) (fun i _ => gAll_zero hz i), sumTo_zero]
      omega
    rw [h0] at la lb
    rw [List.length_eq_zero_iff.1 la, List.length_eq_zero_iff.1 lb]
  · exact turns_unique (turns_scale hp (fun i hi => gAll_mul (by omega)) ha) hb (by rw [la, lb])

theorem bel_drewsN {B : Nat} {w w' : World} (h : Below B w w') (d : Nat) : Below B w (w'.drewN d) := h.trans ⟨rfl, rfl, rfl, Nat.le_refl _, fun _ _ => rfl⟩

set_option maxHeartbeats 2000000 in
set_option maxRecDepth 100000 in
theorem corder7 (b off len cap : Nat) (us : List Nat) (L : Nat) (w : World) (h256 : len ≤ 256) (hul : us.length = len) (hub : ∀ u ∈ us, u < 256)
    (hcell : ∀ (k u : Nat), us[k]? = some u → w.cell? ⟨b, off + k, none⟩ = some (.int .u8 u)) (hbw : b < w.heap.size) (hL : L ≤ 65535) :
    Calls Yba.prog 7 #[.slice (some ⟨b, off, none⟩) len cap, .int .u16 L] w fun e w' => e = .returned (.bool true) ∧ Below w.heap.size w w' := by
  obtain ⟨i3, ki, kz0, kz1, kz2⟩ := info_parts Yba.info3
  have HUL : Hid (us.length = len) := hul
  have HC : Hid (∀ (k u : Nat), us[k]? = some u → w.cell? ⟨b, off + k, none⟩ = some (.int .u8 u)) := hcell
  have hdl : decide ((256 : Int) < (len : Int)) = false := decide_eq_false (by omega)
  clear hul hcell
  go_enter Yba.func7, Yba.ntmps7
  go_wp2_with (first | (at_make; refine wpList_make_full _ rfl _ _ 35 rfl w.heap.size 3 i3 _ 1 Yba.underlying35 ki kz0 kz1 _ _ _ _ len rfl rfl rfl rfl (by rw [kz2]; omega) (by unfold maxLen; omega) (Nat.le_refl _) ?_; intro w1 hown hgrow))
  have hrow := made_row hown
  have hb1 : Below w.heap.size w w1 := Below.grown (Below.refl _ _) hgrow (Nat.le_refl _) (by intro k h; cases h)
  clear hown hgrow
  rw [← HUL.out, ← fillRow_zero] at hrow
  go_loopw [6] (fun i wr => ∃ k : Nat, k ≤ len ∧ i = .int .i64 k ∧ IAt wr w.heap.size 3 .i64 (fillRow us k) ∧ Below w.heap.size w wr) (fun i _ => len - (intOf i).toNat)
  case atStart => exact ⟨0, Nat.zero_le _, rfl, hrow, hb1⟩
  case round =>
    obtain ⟨k, hk, rfl, hr, hb⟩ := hrel
    clear hrow hb1
    by_cases hkn : k < len
    · obtain ⟨x, hx⟩ : ∃ u, us[k]? = some u := ⟨_, List.getElem?_eq_getElem (by rw [HUL.out]; exact hkn)⟩
      have hub' := hub x (List.mem_of_getElem? hx)
      have hcu := (hb.cell (p := ⟨b, off + k, none⟩) hbw).trans (HC.out k x hx)
      have HX : Hid (us[k]? = some x) := hx
      have hc0 := hr.cell (fillRow_at (by rw [HUL.out]; exact hkn))
      have hf0 := hr.free
      clear hx
      go_wp2
      go_roundw
      case rel => exact ⟨k + 1, by omega, by go_num, (by have := hr.put k (x : Int); rw [fillRow_set HX.out] at this; exact this), hb.setCell (Nat.le_refl _) _⟩
      case measure => simp [intOf]; omega
    · have hkn' : len = k := by omega
      subst hkn'
      rw [← HUL.out, fillRow_all] at hr
      have hlt := hr.lt
      go_wp2_with fail
      refine (order19 w.heap.size us len L _ h256 (fun x hx => by have := hub x hx; omega) HUL.out (by omega) hr).mono ?_
      rintro e w2 ⟨bt, outs, rfl, hbt, hrt, hlen, hturns, hbel2⟩
      have hr2 := hr.below hbel2 hlt
      have hB2 : Below w.heap.size w w2 := hb.trans (hbel2.mono (by omega))
      have hbt2 := hrt.lt
      have hsz2 := hbel2.size
      have HLO : Hid (outs.length = perAt us L len) := hlen
      have HT : Hid (Turns (wtG us) len outs) := hturns
      clear hlen hturns hbel2
      go_wp2_with fail
      refine (model20 w.heap.size us len L _ h256 hub HUL.out hL hr2).mono ?_
      rintro e w3 ⟨bo, outs2, rfl, hbo, hro, hlen, hturns, hbel3⟩
      have hr3 := hr2.below hbel3 (by omega)
      have hrt3 := hrt.below hbel3 hbt2
      have hB3 : Below w.heap.size w w3 := hB2.trans (hbel3.mono (by omega))
      have hsame : outs = outs2 := same_turns HUL.out HT.out hturns HLO.out hlen
      subst hsame
      have hol := perAt_le us L len
      have hol' : outs.length ≤ 65535 := by have := HLO.out; omega
      clear hlen hturns hbel3 hr hr2 hrt hol hb
      have hnn : ((outs.length : Int) != (outs.length : Int)) = false := by simp
      go_wp2
      go_loopw [10] (fun i wr => ∃ k : Nat, k ≤ outs.length ∧ i = .int .i64 k ∧ ∃ d, wr = w3.drewN d) (fun i _ => outs.length - (intOf i).toNat)
      case atStart => exact ⟨0, Nat.zero_le _, rfl, 0, rfl⟩
      case round =>
        obtain ⟨k, hk, rfl, d, rfl⟩ := hrel
        by_cases hkn : k < outs.length
        · obtain ⟨v, hv⟩ : ∃ v, outs[k]? = some v := ⟨_, List.getElem?_eq_getElem hkn⟩
          have hc1 := hrt3.cell (ints_at hv)
          have hc2 := hro.cell (ints_at hv)
          have hvv : ((v : Int) != (v : Int)) = false := by simp
          have hki : (k : Int) < (outs.length : Int) := by omega
          clear hv
          go_wp2
          go_quiet (fail)
          go_wp2
          go_roundw
          case rel => exact ⟨k + 1, by omega, by go_num, _, rfl⟩
          case measure => simp [intOf]; omega
        · have hkn' : k = outs.length := by omega
          subst hkn'
          go_wp2
          go_loopw [11] (fun i wr => ∃ k : Nat, k ≤ len ∧ i = .int .i64 k ∧ ∃ d, wr = w3.drewN d) (fun i _ => len - (intOf i).toNat)
          case atStart => exact ⟨0, Nat.zero_le _, rfl, d, rfl⟩
          case round =>
            obtain ⟨k, hk, rfl, d, rfl⟩ := hrel
            by_cases hkn : k < len
            · obtain ⟨x, hx⟩ : ∃ u, us[k]? = some u := ⟨_, List.getElem?_eq_getElem (by rw [HUL.out]; exact hkn)⟩
              have hub' := hub x (List.mem_of_getElem? hx)
              have hcu := (hB3.cell (p := ⟨b, off + k, none⟩) hbw).trans (HC.out k x hx)
              have hcw := hr3.cell (ints_at hx)
              have hxx : ((x : Int) != (x : Int)) = false := by simp
              have hki : (k : Int) < (len : Int) := by omega
              clear hx
              go_wp2
              go_quiet (fail)
              go_wp2
              go_roundw
              case rel => exact ⟨k + 1, by omega, by go_num, _, rfl⟩
              case measure => simp [intOf]; omega
            · have hkn' : len = k := by omega
              subst hkn'
              go_wp2
              go_ret
              exact ⟨rfl, bel_drewsN hB3 d⟩

set_option maxHeartbeats 1000000 in
set_option maxRecDepth 100000 in
theorem corder7_zero (a0 : Option Addr) (len cap : Nat) (L : Nat) (w : World) (h0 : len ≤ 0) (hL : L ≤ 65535) :
    Calls Yba.prog 7 #[.slice a0 len cap, .int .u16 L] w fun e w' => e = .returned (.bool true) ∧ Below w.heap.size w w' := by
  obtain ⟨i3, ki, kz0, kz1, kz2⟩ := info_parts Yba.info3
  have hdl : decide ((256 : Int) < (len : Int)) = false := decide_eq_false (by omega)
  have HZ : Hid (len = 0) := by show len = 0; omega
  go_enter Yba.func7, Yba.ntmps7
  go_wp2_with (first | (at_make; refine wpList_make_full _ rfl _ _ 35 rfl w.heap.size 3 i3 _ 1 Yba.underlying35 ki kz0 kz1 _ _ _ _ len rfl rfl rfl rfl (by rw [kz2]; omega) (by unfold maxLen; omega) (Nat.le_refl _) ?_; intro w1 hown hgrow))
  have hrow := made_row hown
  have hb : Below w.heap.size w w1 := Below.grown (Below.refl _ _) hgrow (Nat.le_refl _) (by intro k h; cases h)
  have hr : IAt w1 w.heap.size 3 .i64 (ints []) := by
    have e : List.replicate len (0 : Int) = ints [] := by rw [HZ.out]; rfl
    rw [e] at hrow; exact hrow
  have hlt := hr.lt
  clear hown hgrow hrow
  go_loopw [6] (fun i wr => i = .int .i64 0 ∧ wr = w1) (fun i _ => len - (intOf i).toNat)
  case atStart => exact ⟨rfl, rfl⟩
  case round =>
    obtain ⟨rfl, rfl⟩ := hrel
    go_wp2_with fail
    refine (order19 w.heap.size [] len L _ (by omega) (fun x hx => by cases hx) HZ.out.symm (by omega) hr).mono ?_
    rintro e w2 ⟨bt, outs, rfl, hbt, hrt, hlen, hturns, hbel2⟩
    have hr2 := hr.below hbel2 hlt
    have hB2 : Below w.heap.size w w2 := hb.trans (hbel2.mono (by omega))
    have hbt2 := hrt.lt
    have hsz2 := hbel2.size
    have hz1 : outs.length ≤ 0 := by
      rw [hlen, HZ.out]; unfold perAt
      simp [sumTo]
    clear hlen hturns hbel2
    go_wp2_with fail
    refine (model20 w.heap.size [] len L _ (by omega) (fun x hx => by cases hx) HZ.out.symm hL hr2).mono ?_
    rintro e w3 ⟨bo, outs2, rfl, hbo, hro, hlen, hturns, hbel3⟩
    have hB3 : Below w.heap.size w w3 := hB2.trans (hbel3.mono (by omega))
    have hz2 : outs2.length ≤ 0 := by
      rw [hlen, HZ.out]; unfold perAt
      simp [sumTo]
    clear hlen hturns hbel3
    have hnn : ((outs.length : Int) != (outs2.length : Int)) = false := by
      rw [show outs.length = 0 from by omega, show outs2.length = 0 from by omega]; simp
    go_wp2
    go_loopw [10] (fun i wr => i = .int .i64 0 ∧ wr = w3) (fun i _ => outs.length - (intOf i).toNat)
    case atStart => exact ⟨rfl, rfl⟩
    case round =>
      obtain ⟨rfl, rfl⟩ := hrel
      go_wp2
      go_loopw [11] (fun i wr' => i = .int .i64 0 ∧ wr' = wr) (fun i _ => len - (intOf i).toNat)
      case atStart => exact ⟨rfl, rfl⟩
      case round =>
        obtain ⟨rfl, rfl⟩ := hrel
        go_wp2
        go_ret
        exact ⟨rfl, hB3⟩

theorem corder7_many (a0 : Option Addr) (len cap : Nat) (a : Int) (w : World) (h : 256 < len) (hl : len ≤ 9223372036854775807) :
    Calls Yba.prog 7 #[.slice a0 len cap, .int .u16 a] w fun e w' => e = .returned (.bool true) ∧ Below w.heap.size w w' := by
  go_enter Yba.func7, Yba.ntmps7
  go_wp2
  go_ret
  exact ⟨rfl, Below.refl _ _⟩
end Go.Proofs.Ybulkdekg

import Derived.Test.YbulkdekgOrder
namespace Go.Proofs.Ybulkdekg
open Go.RowKit Go.ChangeShapes

theorem order19p (bw : Nat) (ws : List Nat) (n : Nat) (w : World) (hn : n ≤ 256) (hws : ∀ x ∈ ws, x < 65536) (hlen : ws.length = n) (hw : IAt w bw 3 .i64 (ints ws)) :
    Calls Yba.prog 19 #[.slice (some ⟨bw, 0, none⟩) n n, .int .i64 1048576] w fun e w' => ∃ bt outs, e = .returned (.slice (some ⟨bt, 0, none⟩) outs.length outs.length) ∧ w.heap.size ≤ bt ∧ IAt w' bt 47 .u32 (ints outs) ∧ outs.length = perAt ws 1048576 n ∧ Turns (wtG ws) n outs ∧ Below w.heap.size w w' :=
  order19 bw ws n 1048576 w hn hws hlen (Nat.le_refl _) hw

/-! ### plain facts -/
theorem take_snoc_at {ws : List Nat} {k x : Nat} (h : ws[k]? = some x) : ws.take (k + 1) = ws.take k ++ [x] := by rw [List.take_add_one, h]; rfl
def fillRow (ws : List Nat) (k : Nat) : List Int := ints (ws.take k) ++ List.replicate (ws.length - k) 0
theorem fillRow_zero (ws : List Nat) : fillRow ws 0 = List.replicate ws.length 0 := by simp [fillRow, ints]
theorem fillRow_all (ws : List Nat) : fillRow ws ws.length = ints ws := by simp [fillRow]
theorem fillRow_set {ws : List Nat} {k x : Nat} (h : ws[k]? = some x) : (fillRow ws k).set k (x : Int) = fillRow ws (k + 1) := by
  have hk := (List.getElem?_eq_some_iff.1 h).1
  have e : (ws.take k).length = k := by simp; omega
  have := put_row (outs := ws.take k) (p := ws.length) (x := x) (by omega)
  rw [e] at this
  unfold fillRow
  rw [this, take_snoc_at h]
  congr 1
  simp; omega
theorem fillRow_at {ws : List Nat} {k : Nat} (h : k < ws.length) : (fillRow ws k)[k]? = some 0 := by
  have e : (ws.take k).length = k := by simp; omega
  have := at_row (outs := ws.take k) (p := ws.length) (by omega)
  rw [e] at this
  exact this

def cntRow (n : Nat) (l : List Nat) : List Int := (List.range n).map fun i => (l.count i : Int)
theorem cntRow_nil (n : Nat) : cntRow n [] = List.replicate n 0 := by
  apply List.ext_getElem
  · simp [cntRow]
  · intro i h1 h2; simp [cntRow]
theorem cntRow_at {n i : Nat} (l : List Nat) (h : i < n) : (cntRow n l)[i]? = some (l.count i : Int) := by simp [cntRow, h]
theorem cntRow_set {n v : Nat} (l : List Nat) : (cntRow n l).set v ((l.count v : Int) + 1) = cntRow n (l ++ [v]) := by
  apply List.ext_getElem
  · simp [cntRow]
  · intro i h1 h2
    rw [List.getElem_set]
    by_cases e : v = i
    · subst e; simp [cntRow]
    · simp [cntRow, e]
theorem sumTo_bd {f : Nat → Nat} {B : Nat} : ∀ n, (∀ i, f i ≤ B) → sumTo f n ≤ n * B
  | 0, _ => by simp [sumTo]
  | n + 1, h => by have := sumTo_bd n h; have := h n; simp only [sumTo, Nat.add_mul, Nat.one_mul]; omega

set_option maxHeartbeats 2000000 in
theorem period8 (b off len cap : Nat) (us : List Nat) (a m : Nat) (w : World) (h0 : 0 < len) (h256 : len ≤ 256) (hul : us.length = len) (hub : ∀ u ∈ us, u < 256)
    (hcell : ∀ (k u : Nat), us[k]? = some u → w.cell? ⟨b, off + k, none⟩ = some (.int .u8 u)) (hbw : b < w.heap.size) (ha : a < 256) (hm : 1 + (a : Int) % 7 = (m : Int)) (hm7 : m ≤ 7) :
    Calls Yba.prog 8 #[.slice (some ⟨b, off, none⟩) len cap, .int .u8 a] w fun e w' => e = .returned (.bool true) ∧ Below w.heap.size w w' := by
  obtain ⟨i3, ki, kz0, kz1, kz2⟩ := info_parts Yba.info3
  have HUL : Hid (us.length = len) := hul
  have HC : Hid (∀ (k u : Nat), us[k]? = some u → w.cell? ⟨b, off + k, none⟩ = some (.int .u8 u)) := hcell
  obtain ⟨ws, hws⟩ : ∃ ws, ws = us.map (· * m) := ⟨_, rfl⟩
  have HWS : Hid (ws = us.map (· * m)) := hws
  have HWL : Hid (ws.length = len) := by unfold Hid; rw [hws]; simpa using hul
  have hwb : ∀ x ∈ ws, x < 2048 := by
    intro x hx
    rw [hws] at hx
    obtain ⟨u, hu, rfl⟩ := List.mem_map.1 hx
    have := hub u hu
    have : u * m ≤ 255 * 7 := Nat.mul_le_mul (by omega) hm7
    omega
  clear hul hcell hws
  go_enter Yba.func8, Yba.ntmps8
  go_wp2_with (first | (at_make; refine wpList_make_full _ rfl _ _ 35 rfl w.heap.size 3 i3 _ 1 Yba.underlying35 ki kz0 kz1 _ _ _ _ len rfl rfl rfl rfl (by rw [kz2]; omega) (by unfold maxLen; omega) (Nat.le_refl _) ?_; intro w1 hown hgrow))
  have hrow := made_row hown
  have hb1 : Below w.heap.size w w1 := Below.grown (Below.refl _ _) hgrow (Nat.le_refl _) (by intro k h; cases h)
  clear hown hgrow
  rw [← HWL.out, ← fillRow_zero] at hrow
  go_loopw [7] (fun i wr => ∃ k : Nat, k ≤ len ∧ i = .int .i64 k ∧ IAt wr w.heap.size 3 .i64 (fillRow ws k) ∧ Below w.heap.size w wr) (fun i _ => len - (intOf i).toNat)
  case atStart => exact ⟨0, Nat.zero_le _, rfl, hrow, hb1⟩
  case round =>
    obtain ⟨k, hk, rfl, hr, hb⟩ := hrel
    clear hrow hb1
    by_cases hkn : k < len
    · obtain ⟨u, hu⟩ : ∃ u, us[k]? = some u := ⟨_, List.getElem?_eq_getElem (by rw [HUL.out]; exact hkn)⟩
      have hub' := hub u (List.mem_of_getElem? hu)
      have hcu := (hb.cell (p := ⟨b, off + k, none⟩) hbw).trans (HC.out k u hu)
      obtain ⟨x, hx⟩ : ∃ x, x = u * m := ⟨_, rfl⟩
      have hxe : (u : Int) * (m : Int) = (x : Int) := by rw [hx, Int.natCast_mul]
      have HX : Hid (ws[k]? = some x) := by unfold Hid; rw [HWS.out, hx]; simp [hu]
      have hxb := hwb x (List.mem_of_getElem? HX.out)
      have hc0 := hr.cell (fillRow_at (by rw [HWL.out]; exact hkn))
      have hf0 := hr.free
      clear hx hu
      go_wp2
      go_roundw
      case rel => exact ⟨k + 1, by omega, by go_num, (by have := hr.put k (x : Int); rw [fillRow_set HX.out] at this; exact this), hb.setCell (Nat.le_refl _) _⟩
      case measure => simp [intOf]; omega
    · have hkn' : len = k := by omega
      subst hkn'
      rw [← HWL.out, fillRow_all] at hr
      obtain ⟨wa, rfl⟩ : ∃ wa : World, wa = wr := ⟨_, rfl⟩
      go_wp2
      go_loopw [8, 45] (fun g i wr => ∃ k : Nat, k ≤ len ∧ i = .int .i64 k ∧ g = .int .i64 (gAll (ws.take k)) ∧ ∃ m, wr = wa.drewN m) (fun _ i _ => len - (intOf i).toNat)
      case atStart => exact ⟨0, Nat.zero_le _, rfl, rfl, 0, rfl⟩
      case round =>
        obtain ⟨k, hk, rfl, rfl, d, rfl⟩ := hrel
        by_cases hkn : k < len
        · obtain ⟨x, hx⟩ : ∃ x, ws[k]? = some x := ⟨_, List.getElem?_eq_getElem (by rw [HWL.out]; exact hkn)⟩
          have hxb := hwb x (List.mem_of_getElem? hx)
          have hcx := hr.cell (ints_at hx)
          have hg : gAll (ws.take k) ≤ 2048 := gAll_le _ 0 _ (by omega) (fun y hy => by have := hwb y (List.mem_of_mem_take hy); omega)
          have HX : Hid (ws[k]? = some x) := hx
          clear hx
          go_wp2_with (go_at_call 21; refine (gcd21 _ _ (by omega) (by omega) _).mono ?_; rintro e w' ⟨rfl, d', rfl⟩)
          go_roundw
          case rel => exact ⟨k + 1, by omega, by go_num, by rw [gcd_take_succ HX.out], _, rfl⟩
          case measure => simp [intOf]; omega
        · have hkn' : len = k := by omega
          subst hkn'
          have HG : Hid (gAll (ws.take len) = gAll ws) := by unfold Hid; rw [List.take_of_length_le (by rw [HWL.out]; exact Nat.le_refl _)]
          rw [HG.out]
          have hgb : gAll ws ≤ 2048 := gAll_le _ 0 _ (by omega) (fun y hy => by have := hwb y hy; omega)
          go_wp2_with fail
          refine (order19p w.heap.size ws len _ h256 (fun x hx => by have := hwb x hx; omega) HWL.out (hr.drewN d)).mono ?_
          rintro e w2 ⟨bt, outs, rfl, hbt, hrt, hlen, hturns, hbel2⟩
          have hbel : Below w.heap.size w w2 := hb.trans ((show Below w.heap.size wa (wa.drewN d) from ⟨rfl, rfl, rfl, Nat.le_refl _, fun _ _ => rfl⟩).trans (hbel2.mono (by have := hr.lt; simp; omega)))
          have hr2 : IAt w2 w.heap.size 3 .i64 (ints ws) := (hr.drewN d).below hbel2 hr.lt
          have hsz2 := hrt.lt
          have hsB := hr2.lt
          have hbt0 : w.heap.size < bt := by have := hr.lt; simp at hbt; omega
          have HLO : Hid (outs.length = perAt ws 1048576 len) := hlen
          have HT : Hid (Turns (wtG ws) len outs) := hturns
          have hol := perAt_le ws 1048576 len
          have hol' : outs.length ≤ 1048576 := by omega
          clear hlen hturns hbel2 hr hb hol hbt
          by_cases hg0 : gAll ws = 0
          · have hz : outs.length = 0 := by
              rw [HLO.out]; unfold perAt
              have : sumTo (wtG ws) len = 0 := by rw [sumTo_congr (g := fun _ => 0) (fun i _ => gAll_zero hg0 i), sumTo_zero]
              omega
            go_wp2
            go_ret
            exact ⟨rfl, hbel⟩
          · have hg1 : 1 ≤ gAll ws := by omega
            have HSum : Hid (outs.length = sumTo (wtG ws) len) := by
              have h1 := sumTo_bd len (f := wtG ws) (B := 2048) (fun i => by have := wtG_lt hwb i; omega)
              have h2 : len * 2048 ≤ 256 * 2048 := Nat.mul_le_mul_right _ h256
              show outs.length = _
              rw [HLO.out]; unfold perAt; omega
            have HCnt : Hid (∀ i, i < len → outs.count i = wtG ws i) := turns_period HT.out HSum.out
            have HLt : Hid (∀ x ∈ outs, x < len) := turns_lt HT.out
            obtain ⟨g, hg⟩ : ∃ g, g = gAll ws := ⟨_, rfl⟩
            have HGG : Hid (g = gAll ws) := hg
            rw [← hg] at hg1 hgb ⊢
            clear hg hg0
            go_wp2_with (first | (at_make; refine wpList_make_full _ rfl _ _ 35 rfl w.heap.size 3 i3 _ 1 Yba.underlying35 ki kz0 kz1 _ _ _ _ len rfl rfl rfl rfl (by rw [kz2]; omega) (by unfold maxLen; omega) (by omega) ?_; intro w3 hown hgrow))
            obtain ⟨bc, hbc⟩ : ∃ bc, bc = w2.heap.size := ⟨_, rfl⟩
            have hcr := made_row hown
            rw [← cntRow_nil] at hcr
            rw [← hbc] at hcr ⊢
            have hr3 := hr2.grown hgrow (by simp)
            have ht3 := hrt.grown hgrow (by simp)
            have hb3 : Below w.heap.size w w3 := Below.grown hbel hgrow (by omega) (by intro i h; cases h)
            have nc1 : bc ≠ w.heap.size := by omega
            have nc2 : bc ≠ bt := by omega
            have nc3 : w.heap.size ≠ bc := by omega
            have nc4 : bt ≠ bc := by omega
            have nc5 : w.heap.size ≤ bc := by omega
            clear hown hgrow hbc hr2 hrt hbel hsz2 hsB
            go_loopw [65] (fun i wr => ∃ k : Nat, k ≤ outs.length ∧ i = .int .i64 k ∧ IAt wr bc 3 .i64 (cntRow len (outs.take k)) ∧ IAt wr w.heap.size 3 .i64 (ints ws) ∧ IAt wr bt 47 .u32 (ints outs) ∧ Below w.heap.size w wr) (fun i _ => outs.length - (intOf i).toNat)
            case atStart => exact ⟨0, Nat.zero_le _, rfl, hcr, hr3, ht3, hb3⟩
            case round =>
              obtain ⟨k, hk, rfl, hcr, hr3, ht3, hb3⟩ := hrel
              by_cases hkn : k < outs.length
              · obtain ⟨v, hv⟩ : ∃ v, outs[k]? = some v := ⟨_, List.getElem?_eq_getElem hkn⟩
                have hvl := HLt.out v (List.mem_of_getElem? hv)
                have hvc := ht3.cell (ints_at hv)
                have hcc := hcr.cell (cntRow_at (outs.take k) hvl)
                have hcf := hcr.free
                have HV : Hid (outs[k]? = some v) := hv
                have hct : (outs.take k).count v ≤ outs.length := by have h1 := List.count_le_length (a := v) (l := outs.take k); have h2 := List.length_take_le k outs; omega
                clear hv
                go_wp2
                go_roundw
                case rel => exact ⟨k + 1, by omega, by go_num, (by have h := hcr.put v (((outs.take k).count v : Int) + 1); rw [cntRow_set, ← take_snoc_at HV.out] at h; exact h), hr3.setCell nc3 _ _, ht3.setCell nc4 _ _, hb3.setCell nc5 _⟩
                case measure => simp [intOf]; omega
              · have hkn' : k = outs.length := by omega
                subst hkn'
                rw [List.take_length] at hcr
                go_wp2
                go_loopw [15, 16] (fun s i wr => ∃ k : Nat, k ≤ len ∧ i = .int .i64 k ∧ s = .int .i64 (sumTo (wtG ws) k) ∧ IAt wr bc 3 .i64 (cntRow len outs) ∧ IAt wr w.heap.size 3 .i64 (ints ws) ∧ Below w.heap.size w wr) (fun _ i _ => len - (intOf i).toNat)
                case atStart => exact ⟨0, Nat.zero_le _, rfl, rfl, hcr, hr3, hb3⟩
                case round =>
                  obtain ⟨k, hk, rfl, rfl, hcr4, hr4, hb4⟩ := hrel
                  clear hcr hr3 hb3 ht3
                  by_cases hkn : k < len
                  · obtain ⟨x, hx⟩ : ∃ x, ws[k]? = some x := ⟨_, List.getElem?_eq_getElem (by rw [HWL.out]; exact hkn)⟩
                    have hxb := hwb x (List.mem_of_getElem? hx)
                    obtain ⟨q, hqe, hqb, HQ⟩ := div_is x g (by omega)
                    have HWQ : Hid (wtG ws k = q) := by unfold Hid; rw [wtG_at hx, HQ.out, HGG.out]
                    have hcx := hr4.cell (ints_at hx)
                    have hcc := hcr4.cell (cntRow_at outs hkn)
                    rw [HCnt.out k hkn, HWQ.out] at hcc
                    have hsb : sumTo (wtG ws) k ≤ 1048576 := by
                      have h1 := sumTo_bd k (f := wtG ws) (B := 2048) (fun i => by have := wtG_lt hwb i; omega)
                      have h2 : k * 2048 ≤ 256 * 2048 := Nat.mul_le_mul_right _ (by omega)
                      omega
                    have hkl : (k : Int) < (len : Int) := by omega
                    have hqq : ((q : Int) != (q : Int)) = false := by simp
                    clear hx
                    go_wp2
                    go_quiet (fail)
                    go_wp2
                    go_roundw
                    case rel => exact ⟨k + 1, by omega, by go_num, (by simp only [sumTo]; rw [HWQ.out]; go_num), hcr4.drewN _, hr4.drewN _, hb4.trans ⟨rfl, rfl, rfl, Nat.le_refl _, fun _ _ => rfl⟩⟩
                    case measure => simp [intOf]; omega
                  · have hkn' : len = k := by omega
                    subst hkn'
                    have hfin := HSum.out
                    go_wp2
                    go_ret
                    exact ⟨ret_bool (by simp), hb4⟩

set_option maxHeartbeats 1000000 in
theorem period8_zero (a0 : Option Addr) (len cap : Nat) (a m : Nat) (w : World) (h0 : len ≤ 0) (ha : a < 256) (hm : 1 + (a : Int) % 7 = (m : Int)) :
    Calls Yba.prog 8 #[.slice a0 len cap, .int .u8 a] w fun e w' => e = .returned (.bool true) ∧ Below w.heap.size w w' := by
  obtain ⟨i3, ki, kz0, kz1, kz2⟩ := info_parts Yba.info3
  go_enter Yba.func8, Yba.ntmps8
  go_wp2_with (first | (at_make; refine wpList_make_full _ rfl _ _ 35 rfl w.heap.size 3 i3 _ 1 Yba.underlying35 ki kz0 kz1 _ _ _ _ len rfl rfl rfl rfl (by rw [kz2]; omega) (by unfold maxLen; omega) (Nat.le_refl _) ?_; intro w1 hown hgrow))
  have hrow := made_row hown
  have hb1 : Below w.heap.size w w1 := Below.grown (Below.refl _ _) hgrow (Nat.le_refl _) (by intro k h; cases h)
  clear hown hgrow
  have hrow0 : IAt w1 w.heap.size 3 .i64 (ints []) := by
    have e : List.replicate len (0 : Int) = ints [] := by obtain rfl : len = 0 := by omega
                                                          rfl
    rw [e] at hrow; exact hrow
  clear hrow
  go_loopw [7] (fun i wr => i = .int .i64 0 ∧ wr = w1) (fun i _ => len - (intOf i).toNat)
  case atStart => exact ⟨rfl, rfl⟩
  case round =>
    obtain ⟨rfl, rfl⟩ := hrel
    go_wp2
    go_loopw [8, 45] (fun g i wr' => g = .int .i64 0 ∧ i = .int .i64 0 ∧ wr' = wr) (fun _ i _ => len - (intOf i).toNat)
    case atStart => exact ⟨rfl, rfl, rfl⟩
    case round =>
      obtain ⟨rfl, rfl, rfl⟩ := hrel
      go_wp2_with fail
      refine (order19p w.heap.size [] len _ (by omega) (fun x hx => by cases hx) (by simp; omega) hrow0).mono ?_
      rintro e w2 ⟨bt, outs, rfl, hbt, hrt, hlen, hturns, hbel2⟩
      have hz : outs.length = 0 := by
        rw [hlen]; unfold perAt
        obtain rfl : len = 0 := by omega
        simp [sumTo]
      have hsz := hrow0.lt
      clear hlen hturns
      go_wp2
      go_ret
      exact ⟨rfl, hb1.trans (hbel2.mono (by omega))⟩

theorem period8_many (a0 : Option Addr) (len cap : Nat) (a : Int) (w : World) (h : 256 < len) (hl : len ≤ 9223372036854775807) :
    Calls Yba.prog 8 #[.slice a0 len cap, .int .u8 a] w fun e w' => e = .returned (.bool true) ∧ Below w.heap.size w w' := by
  go_enter Yba.func8, Yba.ntmps8
  go_wp2
  go_ret
  exact ⟨rfl, Below.refl _ _⟩
end Go.Proofs.Ybulkdekg

import Derived.Test.YbulkdekgHash
import Derived.Deep.AppendLies
namespace Go.Proofs.Ybulkdekg
open Go.RowKit Go.ChangeShapes

theorem ret_sl {a : Option Addr} {n m : Nat} (h : n = m) : Ending.returned (.slice a n m) = .returned (.slice a m m) := by rw [h]
def nameB (b : Nat) : ByteArray := if b % 4 = 0 then ⟨#[97]⟩ else if b % 4 = 1 then ⟨#[98]⟩ else if b % 4 = 2 then ⟨#[99]⟩ else ⟨#[100]⟩

set_option maxHeartbeats 400000 in
theorem name22 (b : Nat) (hb : b < 256) (w : World) : Calls Yba.prog 22 #[.int .u8 b] w fun e w' => e = .returned (.string (nameB b)) ∧ w' = w := by
  have h4 : b % 4 = 0 ∨ b % 4 = 1 ∨ b % 4 = 2 ∨ b % 4 = 3 := by omega
  rcases h4 with h | h | h | h
  · have e : nameB b = ⟨#[97]⟩ := by simp [nameB, h]
    have hi : (b : Int) % 4 = 0 := by omega
    rw [e]
    clear e h
    go_enter Yba.func22, Yba.ntmps22
    go_wp2
    go_ret
    exact ⟨rfl, rfl⟩
  · have e : nameB b = ⟨#[98]⟩ := by simp [nameB, h]
    have hi : (b : Int) % 4 = 1 := by omega
    rw [e]
    clear e h
    go_enter Yba.func22, Yba.ntmps22
    go_wp2
    go_ret
    exact ⟨rfl, rfl⟩
  · have e : nameB b = ⟨#[99]⟩ := by simp [nameB, h]
    have hi : (b : Int) % 4 = 2 := by omega
    rw [e]
    clear e h
    go_enter Yba.func22, Yba.ntmps22
    go_wp2
    go_ret
    exact ⟨rfl, rfl⟩
  · have e : nameB b = ⟨#[100]⟩ := by simp [nameB, h]
    have hi : (b : Int) % 4 = 3 := by omega
    rw [e]
    clear e h
    go_enter Yba.func22, Yba.ntmps22
    go_wp2
    go_ret
    exact ⟨rfl, rfl⟩

/-- a row of strings in a block of its own -/
def SAt (w : World) (b : Nat) (ss : List ByteArray) : Prop := w.heap[b]? = some (.cells (ss.map Value.string).toArray 9 (0, 0))
theorem SAt.cell {w : World} {b : Nat} {ss : List ByteArray} (h : SAt w b ss) {i : Nat} {x : ByteArray} (hx : ss[i]? = some x) : w.cell? ⟨b, i, none⟩ = some (.string x) := by
  rw [cell_of_row w b _ _ 9 (0, 0) h]; simp [hx]
theorem SAt.lt {w : World} {b : Nat} {ss : List ByteArray} (h : SAt w b ss) : b < w.heap.size := (Array.getElem?_eq_some_iff.1 h).1

theorem Yba.info9 : (Yba.prog.info? 9).map (fun i => (i.zero, i.size, i.bytes)) = some (some (.string ⟨#[]⟩), 1, 16) := by kernel_rfl

theorem srow_of_own {w : World} {base bo n : Nat} {ss : List ByteArray} (h : w.ownsRow base 9 1 (.slice (some ⟨bo, 0, none⟩) ss.length n) ss.length (ss.map Value.string)) (hn : ss.length = n) : SAt w bo ss := by
  rcases h.2 with ⟨h', _⟩ | ⟨g', cap', cur, h', _, hg, _, _, hcs, htake⟩
  · simp at h'
  · simp only [Value.slice.injEq, Option.some.injEq, Addr.mk.injEq, and_true, true_and] at h'
    obtain ⟨rfl, rfl⟩ := h'
    unfold SAt
    rw [hg]
    have e1 : cur.toList.take (ss.length * 1) = cur.toList := List.take_of_length_le (by rw [Array.length_toList, hcs, hn]; exact Nat.le_refl _)
    rw [e1] at htake
    have : cur = (ss.map Value.string).toArray := by apply Array.toList_inj.1; rw [htake]
    rw [this]
theorem app_str {w : World} {base bo n : Nat} {x : ByteArray} {ss : List ByteArray} (h : w.ownsRow base 9 1 (.slice (some ⟨bo, 0, none⟩) (ss.length + 1) n) (ss.length + 1) (ss.map Value.string ++ [.string x])) :
    Value.slice (some ⟨bo, 0, none⟩) (ss.length + 1) n = .slice (some ⟨bo, 0, none⟩) (ss ++ [x]).length n ∧ w.ownsRow base 9 1 (.slice (some ⟨bo, 0, none⟩) (ss ++ [x]).length n) (ss ++ [x]).length ((ss ++ [x]).map Value.string) := by
  have e : (ss ++ [x]).length = ss.length + 1 := by simp
  have e2 : (ss ++ [x]).map Value.string = ss.map Value.string ++ [.string x] := by simp
  rw [e, e2]
  exact ⟨rfl, h⟩

set_option maxHeartbeats 1000000 in
theorem owners9 (a : Option Addr) (len cap : Nat) (us : List Nat) (w : World) (h : BRow w a len us) (hl : len ≤ 1024) :
    Calls Yba.prog 9 #[.slice a len cap] w fun e w' => e = .returned (.slice (some ⟨w.heap.size, 0, none⟩) len len) ∧ SAt w' w.heap.size (us.map nameB) ∧ Below w.heap.size w w' := by
  obtain ⟨h1, h2, h3⟩ := h
  have HL : Hid (us.length = len) := h1
  have H3 : Hid (∀ (k u : Nat), us[k]? = some u → ∃ b off, a = some ⟨b, off, none⟩ ∧ b < w.heap.size ∧ w.cell? ⟨b, off + k, none⟩ = some (.int .u8 u)) := h3
  clear h1 h3
  obtain ⟨i9, ki, kz0, kz1, kz2⟩ := info_parts Yba.info9
  go_enter Yba.func9, Yba.ntmps9
  go_wp2_with (first | (at_make; refine wpList_make_own _ rfl _ _ 25 rfl w.heap.size 9 i9 _ 1 Yba.underlying25 ki kz0 kz1 _ _ _ len rfl rfl rfl (by rw [kz2]; omega) (by unfold maxLen; omega) (Nat.le_refl _) ?_; intro w1 hown hgrow))
  have hb1 : Below w.heap.size w w1 := Below.grown (Below.refl _ _) hgrow (Nat.le_refl _) (by intro k h; cases h)
  have hs1 : w.heap.size < w1.heap.size := (hown.lt _ rfl).2
  clear hgrow
  go_loopw [3, 11] (fun v i wr => ∃ k : Nat, k ≤ len ∧ i = .int .i64 k ∧ v = .slice (some ⟨w.heap.size, 0, none⟩) ((us.take k).map nameB).length len ∧ wr.ownsRow w.heap.size 9 1 (.slice (some ⟨w.heap.size, 0, none⟩) ((us.take k).map nameB).length len) ((us.take k).map nameB).length (((us.take k).map nameB).map Value.string) ∧ Below w.heap.size w wr ∧ w.heap.size < wr.heap.size) (fun _ i _ => len - (intOf i).toNat)
  case atStart => exact ⟨0, Nat.zero_le _, rfl, rfl, hown, hb1, hs1⟩
  case round =>
    obtain ⟨k, hk, rfl, rfl, hown2, hb2, hs2⟩ := hrel
    clear hown hb1 hs1
    have HK : Hid (((us.take k).map nameB).length = k) := by show _ = k; rw [List.length_map, List.length_take, HL.out]; omega
    obtain ⟨ss, hss⟩ : ∃ ss, ss = (us.take k).map nameB := ⟨_, rfl⟩
    have HSS : Hid (ss = (us.take k).map nameB) := hss
    rw [← hss] at hown2 HK ⊢
    clear hss
    by_cases hkn : k < len
    · obtain ⟨u, hu⟩ : ∃ u, us[k]? = some u := ⟨_, List.getElem?_eq_getElem (by rw [HL.out]; exact hkn)⟩
      have hub := h2 u (List.mem_of_getElem? hu)
      obtain ⟨b, off, ha, hlt, hc0⟩ := H3.out k u hu
      have hc := (hb2.cell (p := ⟨b, off + k, none⟩) hlt).trans hc0
      have HU : Hid (us[k]? = some u) := hu
      clear hu H3 hc0
      subst ha
      have hkl : ss.length < len := by have := HK.out; omega
      go_wp2_with (first | (go_at_call 22; refine (name22 _ (by omega) _).mono ?_; rintro e w' ⟨rfl, rfl⟩) | (at_builtin; refine wpList_append_fits _ rfl (.tmp 15) (.tmp 18) 25 rfl w.heap.size 9 i9 1 Yba.underlying25 ki kz1 w.heap.size ss.length len (ss.map Value.string) rfl (hown2.alloc _) ⟨w'.heap.size, 0, none⟩ 1 1 [.string (nameB u)] rfl rfl (one_new _ _ _) (one_one _ rfl) (by omega) ?_; intro w4 hown4 hgrow4))
      have RA := app_str hown4
      have hB6 : Below w.heap.size w w4 := Below.grown (hb2.alloc (by omega) _) hgrow4 (by simp; omega) (by intro i h; cases h; omega)
      have hs6 : w.heap.size < w4.heap.size := by have := hgrow4.size; simp at this; omega
      have e : ss ++ [nameB u] = (us.take (k + 1)).map nameB := by rw [HSS.out, take_snoc_at HU.out]; simp
      rw [e] at RA
      clear hown4 hgrow4 hown2 hb2
      go_roundw
      case rel => exact ⟨k + 1, by omega, by go_num, RA.1, RA.2, hB6, hs6⟩
      case measure => simp [intOf]; omega
    · have hkn' : len = k := by omega
      subst hkn'
      have HR := srow_of_own hown2 HK.out
      have e : ss = us.map nameB := by rw [HSS.out, List.take_of_length_le (by rw [HL.out]; exact Nat.le_refl _)]
      rw [e] at HR
      have hfin : ss.length = len := HK.out
      clear hown2 e
      go_wp2
      go_ret
      exact ⟨ret_sl hfin, HR, hb2⟩
end Go.Proofs.Ybulkdekg

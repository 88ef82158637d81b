import Derived.Test.YbulkdekgModel
namespace Go.Proofs.Ybulkdekg
open Go.RowKit Go.ChangeShapes

/-- a slice of bytes that came in: where it has elements it has an address, and they are the numbers us -/
def BRow (w : World) (a : Option Addr) (len : Nat) (us : List Nat) : Prop :=
  us.length = len ∧ (∀ u ∈ us, u < 256) ∧ ∀ (k u : Nat), us[k]? = some u → ∃ b off, a = some ⟨b, off, none⟩ ∧ b < w.heap.size ∧ w.cell? ⟨b, off + k, none⟩ = some (.int .u8 u)

theorem BRow.keep {w w' : World} {a : Option Addr} {len : Nat} {us : List Nat} (h : BRow w a len us) (hb : Below w.heap.size w w') : BRow w' a len us :=
  ⟨h.1, h.2.1, fun k u hk => by
    obtain ⟨b, off, e, hlt, hc⟩ := h.2.2 k u hk
    exact ⟨b, off, e, Nat.lt_of_lt_of_le hlt hb.size, (hb.cell (p := ⟨b, off + k, none⟩) hlt).trans hc⟩⟩

def fstep (h : Int) (c : Nat) : Int := IntKind.u64.wrap (bits .xor .u64 h c * 1099511628211)
def fnv (us : List Nat) : Int := us.foldl fstep 14695981039346656037

theorem fnv_snoc {us : List Nat} {k u : Nat} (h : us[k]? = some u) : fnv (us.take (k + 1)) = fstep (fnv (us.take k)) u := by
  rw [List.take_add_one, h]; simp [fnv]

set_option maxHeartbeats 400000 in
theorem hash12 (a : Option Addr) (len cap : Nat) (us : List Nat) (w : World) (h : BRow w a len us) (hl : len ≤ 9223372036854775807) :
    Calls Yba.prog 12 #[.slice a len cap] w fun e w' => e = .returned (.int .u64 (fnv us)) ∧ w' = w := by
  obtain ⟨h1, h2, h3⟩ := h
  have HL : Hid (us.length = len) := h1
  have H3 : Hid (∀ (k u : Nat), us[k]? = some u → ∃ b off, a = some ⟨b, off, none⟩ ∧ b < w.heap.size ∧ w.cell? ⟨b, off + k, none⟩ = some (.int .u8 u)) := h3
  clear h1 h3
  go_enter Yba.func12, Yba.ntmps12
  go_wp2
  go_loop [3, 8] (fun x i => ∃ k : Nat, k ≤ len ∧ i = .int .i64 k ∧ x = .int .u64 (fnv (us.take k))) (fun _ i => len - (intOf i).toNat)
  case atStart => exact ⟨0, Nat.zero_le _, rfl, rfl⟩
  case round =>
    obtain ⟨k, hk, rfl, rfl⟩ := hrel
    by_cases hkn : k < len
    · obtain ⟨u, hu⟩ : ∃ u, us[k]? = some u := ⟨_, List.getElem?_eq_getElem (by rw [HL.out]; exact hkn)⟩
      have hub := h2 u (List.mem_of_getElem? hu)
      obtain ⟨b, off, ha, hlt, hc⟩ := H3.out k u hu
      have HU : Hid (us[k]? = some u) := hu
      clear hu H3
      subst ha
      go_wp2
      go_round
      case rel => exact ⟨k + 1, by omega, by go_num, by rw [fnv_snoc HU.out]; rfl⟩
      case measure => simp [intOf]; omega
    · have hkn' : len = k := by omega
      subst hkn'
      go_wp2
      go_ret
      exact ⟨ret_int (by rw [List.take_of_length_le (by rw [HL.out]; exact Nat.le_refl _)]), rfl⟩

set_option maxHeartbeats 400000 in
theorem write55 (sb : Nat) (a : Option Addr) (len cap : Nat) (us : List Nat) (w : World) (h : BRow w a len us) (hl : len ≤ 9223372036854775807) (hc : w.heap[sb]? = some (.cells #[.int .u64 14695981039346656037] 83 (0, 0))) :
    Calls Yba.prog 55 #[.pointer (some ⟨sb, 0, none⟩), .slice a len cap] w fun e w' => e = .returned (.tuple #[.int .i64 len, .nilIface]) ∧ w' = w.setCell ⟨sb, 0, none⟩ (.int .u64 (fnv us)) := by
  obtain ⟨h1, h2, h3⟩ := h
  have HL : Hid (us.length = len) := h1
  have H3 : Hid (∀ (k u : Nat), us[k]? = some u → ∃ b off, a = some ⟨b, off, none⟩ ∧ b < w.heap.size ∧ w.cell? ⟨b, off + k, none⟩ = some (.int .u8 u)) := h3
  have hcc := cell_of_one hc
  have hcf := free_of_one hc
  clear h1 h3
  go_enter Yba.func55, Yba.ntmps55
  go_wp2
  go_loop [6, 14] (fun x i => ∃ k : Nat, k ≤ len ∧ i = .int .i64 k ∧ x = .int .u64 (fnv (us.take k))) (fun _ i => len - (intOf i).toNat)
  case atStart => exact ⟨0, Nat.zero_le _, rfl, rfl⟩
  case round =>
    obtain ⟨k, hk, rfl, rfl⟩ := hrel
    by_cases hkn : k < len
    · obtain ⟨u, hu⟩ : ∃ u, us[k]? = some u := ⟨_, List.getElem?_eq_getElem (by rw [HL.out]; exact hkn)⟩
      have hub := h2 u (List.mem_of_getElem? hu)
      obtain ⟨b, off, ha, hlt, hcb⟩ := H3.out k u hu
      have HU : Hid (us[k]? = some u) := hu
      clear hu H3
      subst ha
      go_wp2
      go_round
      case rel => exact ⟨k + 1, by omega, by go_num, by rw [fnv_snoc HU.out]; rfl⟩
      case measure => simp [intOf]; omega
    · have hkn' : len = k := by omega
      subst hkn'
      have HT : Hid (us.take len = us) := List.take_of_length_le (by rw [HL.out]; exact Nat.le_refl _)
      rw [HT.out]
      go_wp2
      go_ret2
      exact ⟨rfl, rfl⟩

theorem meth_write (a : Addr) (w : World) : (method 210 84 (.pointer (some a)) "Write").run Yba.prog w = .ok (55, .pointer (some a)) w := by kernel_rfl
theorem meth_sum (a : Addr) (w : World) : (method 210 84 (.pointer (some a)) "Sum64").run Yba.prog w = .ok (54, .pointer (some a)) w := by kernel_rfl

def fnvBox (x : Int) : Obj := .cells #[.int .u64 x] 83
theorem new30 (w : World) : Calls Yba.prog 30 #[] w fun e w' => e = .returned (.iface 84 (.pointer (some ⟨w.heap.size, 0, none⟩))) ∧ w' = w.alloc (fnvBox 14695981039346656037) := by
  go_enter Yba.func30, Yba.ntmps30
  go_wp2
  go_ret
  exact ⟨rfl, rfl⟩
theorem sum54 (sb : Nat) (x : Int) (w : World) (hc : w.cell? ⟨sb, 0, none⟩ = some (.int .u64 x)) : Calls Yba.prog 54 #[.pointer (some ⟨sb, 0, none⟩)] w fun e w' => e = .returned (.int .u64 x) ∧ w' = w := by
  go_enter Yba.func54, Yba.ntmps54
  go_wp2
  go_ret
  exact ⟨rfl, rfl⟩

set_option maxHeartbeats 400000 in
theorem hashKey29 (a : Option Addr) (len cap : Nat) (us : List Nat) (w : World) (h : BRow w a len us) (hl : len ≤ 9223372036854775807) :
    Calls Yba.prog 29 #[.slice a len cap] w fun e w' => e = .returned (.int .u64 (fnv us)) ∧ Below w.heap.size w w' := by
  have hm1 := meth_write ⟨w.heap.size, 0, none⟩
  have hm2 := meth_sum ⟨w.heap.size, 0, none⟩
  have hb1 : Below w.heap.size w (w.alloc (fnvBox 14695981039346656037)) := (Below.refl _ _).alloc (Nat.le_refl _) _
  have hrow := h.keep hb1
  have hh : (w.alloc (fnvBox 14695981039346656037)).heap[w.heap.size]? = some (.cells #[.int .u64 14695981039346656037] 83 (0, 0)) := heap_alloc_new w _
  have hh2 := one_setCell (u := .int .u64 (fnv us)) hh
  have hb2 : Below w.heap.size w ((w.alloc (fnvBox 14695981039346656037)).setCell ⟨w.heap.size, 0, none⟩ (.int .u64 (fnv us))) := hb1.setCell (Nat.le_refl _) _
  go_enter Yba.func29, Yba.ntmps29
  go_wp2_with fail
  refine (new30 _).mono ?_
  rintro e w1 ⟨rfl, rfl⟩
  generalize w.alloc (fnvBox 14695981039346656037) = w1 at *
  go_wp2_with fail
  refine (write55 _ _ _ _ us _ hrow hl hh).mono ?_
  rintro e w2 ⟨rfl, rfl⟩
  generalize w1.setCell ⟨w.heap.size, 0, none⟩ (.int .u64 (fnv us)) = w2 at *
  go_wp2_with fail
  refine (sum54 _ _ _ (cell_of_one hh2)).mono ?_
  rintro e w3 ⟨rfl, rfl⟩
  go_wp2
  go_ret
  exact ⟨rfl, hb2⟩
end Go.Proofs.Ybulkdekg

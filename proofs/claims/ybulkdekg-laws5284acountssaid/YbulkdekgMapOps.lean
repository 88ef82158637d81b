import Derived.Test.YbulkdekgMove
import Derived.Maps.OwnOps
import Derived.Maps.OwnSet
import Derived.WideKeyEntry
import Derived.DeepKeys4
import Derived.Lib.SmallJoins
namespace Go.Proofs.Ybulkdekg
open Go.RowKit Go.ChangeShapes Go.Maps
open Go.WideElems (Fit rd rg pl)
open Go.ChangeMaps (setBlock heap_setBlock_same heap_setBlock_other)

/-! ### the key: a struct of two strings -/
theorem Yba.laidOut : laidOutB Yba.prog = true := by kernel_rfl
theorem row40 : (40 : TypeId) < Yba.prog.types.size := of_decide_eq_true (by kernel_rfl)
theorem wide40 : (match Yba.prog.underlying 40 with | some (.array _ _) | some (.struct _) => true | _ => false) = true := by kernel_rfl
theorem klaw40 : WideMaps.KeyLaw Yba.prog 40 := deep_law_laid Yba.laidOut (m := 2) (by omega) row40 (by kernel_rfl) wide40
theorem law40 : Keyed Yba.prog 40 := Keyed.of_law klaw40
theorem deep40 : Yba.prog.keyTypeAt (Yba.prog.types.size + 1) 40 = true := by kernel_rfl
theorem cells40 : Yba.prog.cellsOf 40 = 2 := by kernel_rfl
theorem formed40 (f t : ByteArray) : (Value.agg #[.string f, .string t]).formed Yba.prog 40 = true := by
  simp [Value.formed, Yba.underlying40, cells40]
abbrev Pr := ByteArray × ByteArray
def klp (x : Pr) : Lit := (DataW.agg [.lit (.string x.1.data.toList), .lit (.string x.2.data.toList)] : DataW Unit).asKey
def Pr.fits (x : Pr) : Prop := x.1.size ≤ maxLen ∧ x.2.size ≤ maxLen
def Pr.val (x : Pr) : Value := .agg #[.string x.1, .string x.2]
theorem key40 (x : Pr) (h : x.fits) : keyOf Yba.prog 40 (.agg #[.string x.1, .string x.2]) = some (klp x) := by
  have t0 := Joins.shut_agg2 (enc := fun _ => ()) (P := Yba.prog) (w := default) (base := 0) (spare := fun _ => true) (held := true) (v0 := .string x.1) (v1 := .string x.2) (y0 := (.lit (.string x.1.data.toList), [])) (y1 := (.lit (.string x.2.data.toList), [])) Yba.underlying40 (by kernel_rfl) cells40
    ⟨1, by simp [DataW.trod, Yba.underlying9, h.1]⟩ ⟨1, by simp [DataW.trod, Yba.underlying9, h.2]⟩
  exact (keyOf_asKey deep40 wide40 (formed40 x.1 x.2) t0).1
theorem klp_inj {x y : Pr} (hx : x.fits) (hy : y.fits) (h : klp x = klp y) : x = y := by
  have h1 := key40 x hx
  have h2 := key40 y hy
  rw [← h] at h2
  have := law40.inj h1 h2
  simp at this
  exact Prod.ext this.1 this.2
theorem klp_key {x : Pr} (hx : x.fits) : WideAt.IsKeyLit (klp x) := law40.key (key40 x hx)
theorem zero3 (w : World) : (zeroValue 3).run Yba.prog w = .ok (.int .i64 0) w := by kernel_rfl

/-! ### 'm[k]++' whose entry is taken ahead of, or behind, the look-up -/
section
variable {H : Type} {P : Program} {w : World} {t k e : TypeId} {R : Value → Option (DataW H × List MemPlace)} {b n : Nat} {D : DataW H}

theorem ownsMap_of_block {w' : World} (h : w.ownsMap P k R b n D) (e : w'.heap[b]? = w.heap[b]?) : w'.ownsMap P k R b n D := by
  obtain ⟨es, clock, hb, r⟩ := h
  exact ⟨es, clock, e.trans hb, r⟩

theorem ownsMap_entry (K : WideMaps.KeyLaw P k) (ht : P.underlying t = some (.map k e)) {z : Value} (hz : ∀ u : World, (zeroValue e).run P u = .ok z u) {zd : DataW H} {zp : List MemPlace} (hzd : R z = some (zd, zp))
    (h : w.ownsMap P k R b n D) (hn : n < maxLen) {key : Value} {kl : Lit} (hkey : keyOf P k key = some kl) :
    ∃ (v0 : Value) (st : Nat) (W1 : World) (D1 : DataW H), (Instr.mapEntry t (.map (some b)) key).run P w = .ok (.tuple #[v0, goInt st]) W1 ∧ W1.ownsMap P k R b (n + 1) D1 ∧ D1.atKey kl zd = D.atKey kl zd ∧ w.grownBy W1 (some b) ∧
      ∀ (val : Value) (d : DataW H) (ps : List MemPlace), R val = some (d, ps) → ∃ w', (Instr.entryStore t (.map (some b)) (goInt st) val).run P W1 = .ok () w' ∧ w'.ownsMap P k R b (n + 1) (D.put kl d) ∧ W1.grownBy w' (some b) := by
  have KK := Keyed.of_law K
  have hD := h.isMap
  have hup := fun (val : Value) (d : DataW H) (ps : List MemPlace) (hv : R val = some (d, ps)) => h.update KK ht hn hkey hv
  have htidy := h.tidy KK
  obtain ⟨es, clock, hb, F, hs, hDe⟩ := id h
  have hkl := KK.key hkey
  obtain ⟨v0, st, es1, clock1, hrun, hcase, hstore⟩ := Go.WideElems.entry_then_store K ht hz hb F hkey
  have hgr : ∀ (u : World) (o0 o : Obj), u.heap[b]? = some o0 → (∃ es c, o0 = .map es c) → u.grownBy (setBlock u b o) (some b) := fun u o0 o hu hmap => by
    obtain ⟨es', c', rfl⟩ := hmap
    exact ⟨rfl, rfl, rfl, by simp [setBlock], fun i _ hi => heap_setBlock_other hu _ (fun e => hi (by rw [e]))⟩
  have hb1 : (setBlock w b (.map es1 clock1)).heap[b]? = some (.map es1 clock1) := heap_setBlock_same hb _
  have hst : ∀ (val : Value) (d : DataW H) (ps : List MemPlace), R val = some (d, ps) → ∃ w', (Instr.entryStore t (.map (some b)) (goInt st) val).run P (setBlock w b (.map es1 clock1)) = .ok () w' ∧ w'.ownsMap P k R b (n + 1) (D.put kl d) ∧ (setBlock w b (.map es1 clock1)).grownBy w' (some b) := by
    intro val d ps hv
    obtain ⟨es', clock', h1, h2⟩ := hstore (setBlock w b (.map es1 clock1)) val hb1
    obtain ⟨w'', h3, h4, _⟩ := hup val d ps hv
    rw [h2] at h3
    cases h3
    refine ⟨_, h1, ownsMap_of_block h4 ?_, hgr _ _ _ hb1 ⟨_, _, rfl⟩⟩
    rw [heap_setBlock_same hb1, heap_setBlock_same hb]
  rcases K.find w hkey es.toList F.keys with ⟨h1, h2⟩ | ⟨j, e0, h1, h2, h3⟩
  · have hrun2 : (Instr.mapEntry t (.map (some b)) key).run P w = .ok (.tuple #[z, goInt clock]) (setBlock w b (.map (es.push ⟨key, z, clock⟩) (clock + 1))) := by
      simp [Instr.mapEntry, run_underlying ht, MapKept.run_getObj_map hb, K.check w false hkey, h1, hz, MapKept.run_setObj_map _ hb, Result.andThen, setBlock]
    have hupd : (Instr.mapUpdate t (.map (some b)) key z).run P w = .ok () (setBlock w b (.map (es.push ⟨key, z, clock⟩) (clock + 1))) := by
      simp [Instr.mapUpdate, run_underlying ht, MapKept.run_getObj_map hb, K.check w false hkey, h1, MapKept.run_setObj_map _ hb, Result.andThen, setBlock]
    rw [hrun] at hrun2
    have hWW : setBlock w b (.map es1 clock1) = setBlock w b (.map (es.push ⟨key, z, clock⟩) (clock + 1)) := by
      injection hrun2
    obtain ⟨w'', h4, h5, _⟩ := hup z zd zp hzd
    rw [hupd] at h4
    have hW2 : setBlock w b (.map (es.push ⟨key, z, clock⟩) (clock + 1)) = w'' := by injection h4
    refine ⟨v0, st, setBlock w b (.map es1 clock1), D.put kl zd, hrun, ?_, ?_, hgr _ _ _ hb ⟨_, _, rfl⟩, hst⟩
    · rw [hWW, hW2]; exact h5
    · rw [atKey_put_same hD hkl]
      rcases Maps.fit_look false KK ht (hz w) hb F hkey with ⟨_, _, hat⟩ | ⟨e0, y, he0, hk0, _⟩
      · rw [hDe, hat]
      · exact absurd hk0 (h2 e0 he0)
  · have hj : es[j]? = some e0 := by simpa using h2
    have hsame : es.modify j (fun e => { e with key := key }) = es := by
      apply Array.ext'
      rw [Array.toList_modify, Go.ChangeMaps.modify_eq_set _ _ _ _ h2]
      have : ({ e0 with key := key } : MapEntry) = e0 := by rw [← h3]
      rw [this]
      exact Go.WideElems.set_self _ _ _ h2
    have hrun2 : (Instr.mapEntry t (.map (some b)) key).run P w = .ok (.tuple #[e0.val, goInt e0.born]) (setBlock w b (.map es clock)) := by
      simp [Instr.mapEntry, run_underlying ht, MapKept.run_getObj_map hb, K.check w false hkey, h1, hj, h3, K.stays w hkey, hsame, MapKept.run_setObj_map _ hb, Result.andThen, setBlock]
    rw [hrun] at hrun2
    have hWW : setBlock w b (.map es1 clock1) = setBlock w b (.map es clock) := by injection hrun2
    refine ⟨v0, st, setBlock w b (.map es1 clock1), D, hrun, ?_, rfl, hgr _ _ _ hb ⟨_, _, rfl⟩, hst⟩
    rw [hWW]
    exact (ownsMap_of_block h (by rw [heap_setBlock_same hb, hb])).mono (by omega)
end
end Go.Proofs.Ybulkdekg

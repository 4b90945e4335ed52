/- Words: what a call knows of package variables that hold what their initialisers laid: cells that stand, whatever is made later. -/
import Derived.Lib.LaidU8
import Derived.ChangeArms
import Derived.Below
set_option linter.unusedVariables false
namespace Go.Proofs.YtkhgbacbnkgafaaDoor.LaidL
open Go Go.RowKit

/-- Each listed cell (block, offset) holds its value. -/
def CellsAre (L : List (Nat × Nat × Value)) (w : World) : Prop := ∀ p ∈ L, w.cell? ⟨p.1, p.2.1, none⟩ = some p.2.2

theorem cell_lt {w : World} {a : Addr} {v : Value} (hc : w.cell? a = some v) : a.block < w.heap.size := by
  rcases Nat.lt_or_ge a.block w.heap.size with h' | h'
  · exact h'
  · simp [World.cell?, Array.getElem?_eq_none h'] at hc

theorem CellsAre.below {L : List (Nat × Nat × Value)} {w w' : World} (h : CellsAre L w) (hb : Below w.heap.size w w') : CellsAre L w' :=
  fun p hp => (hb.cell (cell_lt (h p hp))).trans (h p hp)

/-- A literal as a value in memory. -/
def litV : Lit → Value
  | .int k z => .int k z
  | .bool b => .bool b
  | _ => .bool false

section
variable {H : Type} {enc : TypeId × Value → H} {P : Program} {w : World} {base : Nat} {sp : Nat → Bool} {held : Bool}
/-- A struct of whole numbers and bools that reads as these literals holds them, cell for cell. -/
theorem lits_of_struct {fuel : Nat} {t : TypeId} {fs : Array Field} {cs : List Value} {ls : List Lit} {p : List MemPlace} (ht : P.underlying t = some (.struct fs))
    (hf : ∀ (i : Nat) (f : Field), fs[i]? = some f → ((∃ k, P.underlying f.type = some (.int k)) ∨ P.underlying f.type = some .bool) ∧ f.offset = i ∧ P.cellsOf f.type = 1) (hct : P.cellsOf t = fs.size)
    (h : DataW.trod enc P w base sp held fuel t cs = some (.agg (ls.map .lit), p)) : cs = ls.map litV := by
  obtain ⟨xs, n, rfl, hx, hl, hxl, hall⟩ := DataW.trod_struct ht h
  have hxs : xs.map (·.1) = ls.map fun z => (DataW.lit z : DataW H) := by
    have := congrArg Prod.fst hx
    simpa using this.symm
  have hzl : ls.length = fs.size := by
    have := congrArg List.length hxs
    simp at this
    omega
  apply List.ext_getElem?
  intro i
  by_cases hi : i < fs.size
  · obtain ⟨hu, ho, hc⟩ := hf i fs[i] (by simp [hi])
    have h1 := hall i fs[i] (by simp [hi])
    obtain ⟨b, hb⟩ : ∃ b, xs[i]? = some b := ⟨xs[i]'(by omega), List.getElem?_eq_getElem (by omega)⟩
    rw [hb, ho, hc] at h1
    have h3 : (xs.map (·.1))[i]? = some b.1 := by simp [hb]
    rw [hxs] at h3
    simp only [List.getElem?_map, Option.map_eq_some_iff] at h3
    obtain ⟨z', hz', hz2⟩ := h3
    rcases hu with ⟨k, hu⟩ | hu
    · obtain ⟨z, hcz, rfl, _⟩ := DataW.trod_int hu h1
      have h2 : cs[i]? = some (.int k z) := by
        have := congrArg (·[0]?) hcz
        simpa [List.getElem?_take, List.getElem?_drop] using this
      simp only [DataW.lit.injEq] at hz2
      subst hz2
      simp [h2, hz', litV]
    · obtain ⟨z, hcz, rfl⟩ := DataW.trod_bool hu h1
      have h2 : cs[i]? = some (.bool z) := by
        have := congrArg (·[0]?) hcz
        simpa [List.getElem?_take, List.getElem?_drop] using this
      simp only [DataW.lit.injEq] at hz2
      subst hz2
      simp [h2, hz', litV]
  · rw [List.getElem?_eq_none (by omega), List.getElem?_eq_none (by simp; omega)]
end

theorem var_cells {P : Program} {w : World} {n : String} {g : Nat} {ls : List Lit} {t : TypeId} {fs : Array Field} (h : Lib.VarReads P w n (.agg (ls.map .lit))) (hg : P.globalNamed n = some g) (hty : (P.globals[g]?).map (·.type) = some t)
    (ht : P.underlying t = some (.struct fs)) (hf : ∀ (i : Nat) (f : Field), fs[i]? = some f → ((∃ k, P.underlying f.type = some (.int k)) ∨ P.underlying f.type = some .bool) ∧ f.offset = i ∧ P.cellsOf f.type = 1) (hct : P.cellsOf t = fs.size)
    (i : Nat) : w.cell? ⟨g, i, none⟩ = (ls.map litV)[i]? := by
  obtain ⟨g', t', cs, fuel, p, hg', hty', hvar, hd⟩ := h
  obtain rfl := Option.some.inj (hg.symm.trans hg')
  obtain rfl := Option.some.inj (hty.symm.trans hty')
  have hcs := lits_of_struct ht hf hct hd
  rw [World.var?_cell hg hvar i, ← Array.getElem?_toList, hcs]

section
variable {H : Type} {enc : TypeId × Value → H} {P : Program} {w : World} {base : Nat} {sp : Nat → Bool} {held : Bool}
theorem iface_of_trod {fuel : Nat} {t : TypeId} {ms : Array (String × TypeId)} {cs : List Value} {nm : String} {d : DataW H} {p : List MemPlace} (ht : P.underlying t = some (.interface ms)) (h : DataW.trod enc P w base sp held fuel t cs = some (.iface nm d, p)) : ∃ u v, cs = [.iface u v] := by
  cases fuel with
  | zero => simp [DataW.trod] at h
  | succ n =>
    unfold DataW.trod at h
    rw [ht] at h
    split at h <;> simp_all
end
/-- A package variable of an interface type that holds something. -/
def Sent (g : Nat) (w : World) : Prop := ∃ u v, w.cell? ⟨g, 0, none⟩ = some (.iface u v)
theorem Sent.below {g : Nat} {w w' : World} (h : Sent g w) (hb : Below w.heap.size w w') : Sent g w' := by
  obtain ⟨u, v, hc⟩ := h
  exact ⟨u, v, (hb.cell (cell_lt hc)).trans hc⟩
theorem sent_of {P : Program} {w : World} {n nm : String} {d : DataW Unit} {g : Nat} {t : TypeId} {ms : Array (String × TypeId)} (h : Lib.VarReads P w n (.iface nm d)) (hg : P.globalNamed n = some g) (hty : (P.globals[g]?).map (·.type) = some t) (ht : P.underlying t = some (.interface ms)) : Sent g w := by
  obtain ⟨g', t', cs, fuel, p, hg', hty', hvar, hd⟩ := h
  obtain rfl := Option.some.inj (hg.symm.trans hg')
  obtain rfl := Option.some.inj (hty.symm.trans hty')
  obtain ⟨u, v, hcs⟩ := iface_of_trod ht hd
  refine ⟨u, v, ?_⟩
  rw [World.var?_cell hg hvar 0, ← Array.getElem?_toList, hcs]
  rfl

end Go.Proofs.YtkhgbacbnkgafaaDoor.LaidL

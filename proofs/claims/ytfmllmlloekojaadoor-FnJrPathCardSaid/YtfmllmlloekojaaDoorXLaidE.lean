/- Words: sentinel errors (errors.New of a text) and tables of numbers that package variables hold: where the errors' pointers lie. -/
import Derived.Test.YtfmllmlloekojaaDoorXLaid
import Derived.LaidLaws
import Derived.Lib.LaidTab
set_option linter.unusedVariables false
namespace Go.Proofs.YtfmllmlloekojaaDoor.LaidL
open Go Go.RowKit

/-- Where the sentinel errors lie: of each variable's number its error's address. -/
abbrev ErrTab := Int → Addr

/-- An error by its number: none is nil, a number the error that this variable holds. -/
def errE (E : ErrTab) : Option Int → Value
  | none => .nilIface
  | some c => .iface 128 (.pointer (some (E c)))
theorem errE_none (E : ErrTab) : errE E none = .nilIface := rfl
theorem errE_some (E : ErrTab) (c : Int) : errE E (some c) = .iface 128 (.pointer (some (E c))) := rfl

/-- Where the errors lie in a world. -/
def tab (w : World) (c : Int) : Addr :=
  match w.cell? ⟨c.toNat, 0, none⟩ with
  | some (.iface _ (.pointer (some a))) => a
  | _ => ⟨0, 0, none⟩

/-- Each listed variable (its number, its error's text) holds its error. -/
def Sents (E : ErrTab) (L : List (Nat × List UInt8)) (w : World) : Prop :=
  ∀ p ∈ L, w.cell? ⟨p.1, 0, none⟩ = some (.iface 128 (.pointer (some (E p.1)))) ∧ w.cell? (E p.1) = some (.string ⟨p.2.toArray⟩) ∧ ∃ c u, w.heap[(E p.1).block]? = some (.cells c u (0, 0))

theorem Sents.below {E : ErrTab} {L : List (Nat × List UInt8)} {w w' : World} (h : Sents E L w) (hb : Below w.heap.size w w') : Sents E L w' :=
  fun p hp => by
    obtain ⟨h1, h2, c, u, h3⟩ := h p hp
    exact ⟨(hb.cell (cell_lt h1)).trans h1, (hb.cell (cell_lt h2)).trans h2, c, u, (hb.block _ (cell_lt h2)).trans h3⟩

theorem Sents.ne {E : ErrTab} {L : List (Nat × List UInt8)} {w : World} (h : Sents E L w) {p q : Nat × List UInt8} (hp : p ∈ L) (hq : q ∈ L) (hn : p.2 ≠ q.2) : E p.1 ≠ E q.1 := by
  intro e
  have h1 := (h p hp).2.1
  rw [e, (h q hq).2.1] at h1
  injection h1 with h1
  injection h1 with h1
  apply hn
  have := congrArg (fun b : ByteArray => b.data.toList) h1
  simpa using this.symm

theorem LaidVars_in {P : Program} {w : World} : ∀ {l : List (String × DataW Unit)} {ps : List MemPlace}, DataW.LaidVars P w l ps → ∀ n d, (n, d) ∈ l →
    ∃ g t cs fuel p, P.globalNamed n = some g ∧ (P.globals[g]?).map (·.type) = some t ∧ w.var? P n = some cs ∧ DataW.trod (fun _ => ()) P w 0 (fun _ => true) false fuel t cs.toList = some (d, p) ∧ ∀ x ∈ MemPlace.row ⟨g, 0, none⟩ cs.size ++ p, x ∈ ps
  | [], _, _, _, _, hm => by cases hm
  | (n', d') :: r, ps, h, n, d, hm => by
    obtain ⟨g, t, cs, fuel, p, q, h1, h2, h3, h4, h5, rfl⟩ := h
    rcases List.mem_cons.1 hm with e | e
    · cases e
      exact ⟨g, t, cs, fuel, p, h1, h2, h3, h4, fun x hx => List.mem_append.2 (.inl hx)⟩
    · obtain ⟨g', t', cs', f', p', k1, k2, k3, k4, k5⟩ := LaidVars_in h5 n d e
      exact ⟨g', t', cs', f', p', k1, k2, k3, k4, fun x hx => List.mem_append.2 (.inr (k5 x hx))⟩

open Go.ChangeShapes in
theorem sentp_of {P : Program} {w : World} {l : List (String × DataW Unit)} (h : laidMet P l w) {n nm : String} {text : List UInt8} (hm : (n, .iface nm (.ptr (.agg [.lit (.string text)]))) ∈ l)
    {g ti te ts : TypeId} {ms : Array (String × TypeId)} {f : Field} (hg : P.globalNamed n = some g) (hty : (P.globals[g]?).map (·.type) = some ti)
    (hi : P.underlying ti = some (.interface ms)) (hrow : ∀ u, P.typeName? 3 u = some nm → u = 128)
    (hp : P.underlying 128 = some (.pointer te)) (he : P.underlying te = some (.struct #[f])) (hft : f.type = ts) (hfo : f.offset = 0) (hs : P.underlying ts = some .string) (hc : P.cellsOf te = 1) (hcs : P.cellsOf ts = 1) :
    w.cell? ⟨g, 0, none⟩ = some (.iface 128 (.pointer (some (tab w g)))) ∧ w.cell? (tab w g) = some (.string ⟨text.toArray⟩) ∧ ∃ c u, w.heap[(tab w g).block]? = some (.cells c u (0, 0)) := by
  obtain ⟨ps, hv, hnd, hrows⟩ := h
  obtain ⟨g', t', cs, fuel, p, hg', hty', hvar, hd, hin⟩ := LaidVars_in hv _ _ hm
  obtain rfl := Option.some.inj (hg.symm.trans hg')
  obtain rfl := Option.some.inj (hty.symm.trans hty')
  obtain ⟨cl⟩ := cs
  have ok : ∀ u v, cl = [.iface u v] → Value.okWide P w .any 0 u v := fun u v e => by
    subst e
    exact (hrows g 0 (hin _ (by simp [MemPlace.row]))).2 u v (by simpa using World.var?_cell hg hvar 0)
  obtain ⟨a, s, rfl, hca, hsa, _, rfl⟩ := errorString_of_trod hi hrow hp he hft hfo hs hc hcs hd ok
  have hcell : w.cell? ⟨g, 0, none⟩ = some (.iface 128 (.pointer (some a))) := by simpa using World.var?_cell hg hvar 0
  have ht : tab w g = a := by
    unfold tab
    rw [Int.toNat_natCast, hcell]
  rw [ht]
  refine ⟨hcell, ?_, (hrows a.block a.off (hin _ (List.mem_append.2 (.inr (by simp [MemPlace.row]))))).1⟩
  rw [hca, ← hsa]

/-- Each cell of a table of numbers of one byte. -/
def TabU8 (g : Nat) (zs : List Int) (w : World) : Prop := ∀ i, i < zs.length → w.cell? ⟨g, i, none⟩ = some (.int .u8 (zs.getD i 0))
theorem TabU8.below {g : Nat} {zs : List Int} {w w' : World} (h : TabU8 g zs w) (hb : Below w.heap.size w w') : TabU8 g zs w' := fun i hi => (hb.cell (cell_lt (h i hi))).trans (h i hi)
theorem tabu8_of {P : Program} {w : World} {n : String} {zs : List Int} (h : Lib.VarReads P w n (Lib.tabData .u8 zs)) {g : Nat} {t e : TypeId} {m : Nat}
    (hg : P.globalNamed n = some g) (hty : (P.globals[g]?).map (·.type) = some t) (ht : P.underlying t = some (.array m e)) (he : P.underlying e = some (.int .u8)) (hce : P.cellsOf e = 1) (hct : P.cellsOf t = m) : TabU8 g zs w := by
  obtain ⟨g', t', cs, fuel, p, hg', hty', hvar, hd⟩ := h
  obtain rfl := Option.some.inj (hg.symm.trans hg')
  obtain rfl := Option.some.inj (hty.symm.trans hty')
  intro i hi
  rw [World.var?_cell hg hvar i, ← Array.getElem?_toList, Lib.cells_of_tab ht he hce hct hd]
  simp [List.getD, hi]

end Go.Proofs.YtfmllmlloekojaaDoor.LaidL

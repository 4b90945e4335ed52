/- What a piece of the way leaves as it was, cell by cell. -/
import Derived.Test.YtkhgbacbnkgafaaDoorXWords
import Derived.Test.YtkhgbacbnkgafaaDoorProg
import Derived.Test.YtkhgbacbnkgafaaDoorWMore
import Derived.Lib.Hide
set_option linter.unusedVariables false
namespace Go.Proofs.YtkhgbacbnkgafaaDoor.Fjh
open Go Go.RowKit Go.Proofs.YtkhgbacbnkgafaaDoorW.PrintWords

/-- A cell that holds v and may be written. -/
def Cel (w : World) (a : Addr) (v : Value) : Prop := w.cell? a = some v ∧ w.frozen? a = false
theorem Cel.mono {w w' : World} {a : Addr} {v : Value} (h : Cel w a v) (e : w'.cell? a = w.cell? a ∧ w'.frozen? a = w.frozen? a) : Cel w' a v := ⟨e.1.trans h.1, e.2.trans h.2⟩

/-! ### what a piece of the way leaves as it was -/
/-- From w to w' at most the cells in X have turned, of those that were there. -/
structure Frame (X : Addr → Prop) (w w' : World) : Prop where
  os : w'.os = w.os
  tape : w'.tape = w.tape
  output : w'.output = w.output
  size : w.heap.size ≤ w'.heap.size
  block : ∀ k, k < w.heap.size → (∀ x, X x → x.block ≠ k) → w'.heap[k]? = w.heap[k]?
  shape : ∀ (k : Nat) (cur : Array Value) (t : TypeId) (fr : Nat × Nat), w.heap[k]? = some (.cells cur t fr) → ∃ cur', w'.heap[k]? = some (.cells cur' t fr) ∧ cur'.size = cur.size
  cell : ∀ a, ¬ X a → a.block < w.heap.size → w'.cell? a = w.cell? a
  frozen : ∀ a, a.block < w.heap.size → w'.frozen? a = w.frozen? a

theorem Frame.refl (X : Addr → Prop) (w : World) : Frame X w w := ⟨rfl, rfl, rfl, Nat.le_refl _, fun _ _ _ => rfl, fun k cur t fr h => ⟨cur, h, rfl⟩, fun _ _ _ => rfl, fun _ _ => rfl⟩
theorem Frame.mono {X Y : Addr → Prop} {w w' : World} (h : Frame X w w') (hXY : ∀ x, X x → Y x) : Frame Y w w' :=
  ⟨h.os, h.tape, h.output, h.size, fun k hk hy => h.block k hk (fun x hx => hy x (hXY x hx)), h.shape, fun a ha => h.cell a (fun hx => ha (hXY a hx)), h.frozen⟩
theorem Frame.trans {X : Addr → Prop} {a b c : World} (h : Frame X a b) (k : Frame X b c) : Frame X a c :=
  ⟨k.os.trans h.os, k.tape.trans h.tape, k.output.trans h.output, Nat.le_trans h.size k.size,
   fun i hi hx => (k.block i (Nat.lt_of_lt_of_le hi h.size) hx).trans (h.block i hi hx),
   fun i cur t fr hg => by
     obtain ⟨c1, g1, s1⟩ := h.shape i cur t fr hg
     obtain ⟨c2, g2, s2⟩ := k.shape i c1 t fr g1
     exact ⟨c2, g2, s2.trans s1⟩,
   fun x hx hk => (k.cell x hx (Nat.lt_of_lt_of_le hk h.size)).trans (h.cell x hx hk),
   fun x hk => (k.frozen x (Nat.lt_of_lt_of_le hk h.size)).trans (h.frozen x hk)⟩
theorem Frame.drewN {X : Addr → Prop} {w w' : World} (h : Frame X w w') (n : Nat) : Frame X w (w'.drewN n) :=
  ⟨h.os, h.tape, h.output, h.size, h.block, h.shape, h.cell, h.frozen⟩
theorem Frame.drew {X : Addr → Prop} {w w' : World} (h : Frame X w w') : Frame X w w'.drew :=
  ⟨h.os, h.tape, h.output, h.size, h.block, h.shape, h.cell, h.frozen⟩
theorem Frame.drewL {X : Addr → Prop} {w w' : World} {n : Nat} (h : Frame X (w.drewN n) w') : Frame X w w' :=
  ⟨h.os, h.tape, h.output, h.size, h.block, h.shape, h.cell, h.frozen⟩
theorem Frame.below {X : Addr → Prop} {w w' : World} (h : Below w.heap.size w w') : Frame X w w' :=
  ⟨h.os, h.tape, h.output, h.size, fun k hk _ => h.block k hk, fun k cur t fr hg => ⟨cur, (h.block k (by
    rcases Nat.lt_or_ge k w.heap.size with h' | h'
    · exact h'
    · rw [Array.getElem?_eq_none h'] at hg; cases hg)).trans hg, rfl⟩, fun a _ ha => h.cell ha, fun a ha => h.frozen ha⟩
theorem Frame.setCell {X : Addr → Prop} {w w' : World} (h : Frame X w w') {x : Addr} (hx : X x) (v : Value) : Frame X w (w'.setCell x v) := by
  refine h.trans ⟨rfl, rfl, rfl, by simp [World.setCell], fun k hk hy => Below.heap_setCell _ _ _ _ (fun e => hy x hx e.symm), fun k cur t fr hg => ?_, fun a ha hk => World.cell?_setCell_other _ _ _ _ (fun e => ha (e ▸ hx)), fun a _ => World.frozen?_setCell _ _ _ _⟩
  simp only [World.setCell, Array.getElem?_modify]
  by_cases e : x.block = k
  · rw [if_pos e, hg]
    refine ⟨_, rfl, ?_⟩
    split
    · rfl
    · simp
  · rw [if_neg e]
    exact ⟨cur, hg, rfl⟩
theorem Frame.alloc {X : Addr → Prop} {w w' : World} (h : Frame X w w') (o : Obj) : Frame X w (w'.alloc o) :=
  h.trans (Frame.below ((Below.refl _ _).alloc (Nat.le_refl _) o))

/-- A cell by its place in the block. -/
theorem cell_at {w : World} {k : Nat} {cur : Array Value} {t : TypeId} {fr : Nat × Nat} (h : w.heap[k]? = some (.cells cur t fr)) (i : Nat) : w.cell? ⟨k, i, none⟩ = cur[i]? := by
  simp only [World.cell?, h]; rfl

/-- What is there stays there. -/
theorem Frame.some {X : Addr → Prop} {w w' : World} (f : Frame X w w') (a : Addr) (ha : a.block < w.heap.size) (h : (w.cell? a).isSome = true) : (w'.cell? a).isSome = true := by
  obtain ⟨v, hv⟩ := Option.isSome_iff_exists.mp h
  unfold World.cell? at hv ⊢
  cases hb : w.heap[a.block]? with
  | none => simp [hb] at hv
  | some o =>
    cases o with
    | cells cur t fr =>
      obtain ⟨cur', hg', hs'⟩ := f.shape _ cur t fr hb
      simp only [hb] at hv
      rw [hg']
      simp only
      split
      · rename_i hsp
        simp [hsp] at hv
      · rename_i hsp
        simp only [hsp] at hv
        have hlt : a.off < cur.size := by
          rcases Nat.lt_or_ge a.off cur.size with h' | h'
          · exact h'
          · simp [Array.getElem?_eq_none h'] at hv
        rw [Array.getElem?_eq_getElem (by omega)]; rfl
    | _ => simp [hb] at hv

end Go.Proofs.YtkhgbacbnkgafaaDoor.Fjh

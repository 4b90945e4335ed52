/- What a piece of the way leaves as it was, cell by cell. -/
import Derived.Test.YtfoloneeibgoiaaDoorXWords
import Derived.Test.YtfoloneeibgoiaaDoorProg
import Derived.Test.YtfoloneeibgoiaaDoorWMore
import Derived.Lib.Hide
import Derived.Deep.QuietTactic
import Derived.BigQuiet
import Derived.BigRegion
set_option linter.unusedVariables false
namespace Go.Proofs.YtfoloneeibgoiaaDoor.Fjh
open Go Go.RowKit Go.Proofs.YtfoloneeibgoiaaDoorW.PrintWords

/-- A cell that holds v and may be written. -/
def Cel (w : World) (a : Addr) (v : Value) : Prop := w.cell? a = some v ∧ w.frozen? a = false
theorem Cel.mono {w w' : World} {a : Addr} {v : Value} (h : Cel w a v) (e : w'.cell? a = w.cell? a ∧ w'.frozen? a = w.frozen? a) : Cel w' a v := ⟨e.1.trans h.1, e.2.trans h.2⟩

/-! ### what a piece of the way leaves as it was -/
/-- From w to w' at most the cells in X have turned, of those that were there. -/
structure Frame (X : Addr → Prop) (w w' : World) : Prop where
  os : w'.os = w.os
  tape : w'.tape = w.tape
  output : w'.output = w.output
  size : w.heap.size ≤ w'.heap.size
  block : ∀ k, k < w.heap.size → (∀ x, X x → x.block ≠ k) → w'.heap[k]? = w.heap[k]?
  shape : ∀ (k : Nat) (cur : Array Value) (t : TypeId) (fr : Nat × Nat), w.heap[k]? = some (.cells cur t fr) → ∃ cur', w'.heap[k]? = some (.cells cur' t fr) ∧ cur'.size = cur.size
  cell : ∀ a, ¬ X a → a.block < w.heap.size → w'.cell? a = w.cell? a
  frozen : ∀ a, a.block < w.heap.size → w'.frozen? a = w.frozen? a

theorem Frame.refl (X : Addr → Prop) (w : World) : Frame X w w := ⟨rfl, rfl, rfl, Nat.le_refl _, fun _ _ _ => rfl, fun k cur t fr h => ⟨cur, h, rfl⟩, fun _ _ _ => rfl, fun _ _ => rfl⟩
theorem Frame.mono {X Y : Addr → Prop} {w w' : World} (h : Frame X w w') (hXY : ∀ x, X x → Y x) : Frame Y w w' :=
  ⟨h.os, h.tape, h.output, h.size, fun k hk hy => h.block k hk (fun x hx => hy x (hXY x hx)), h.shape, fun a ha => h.cell a (fun hx => ha (hXY a hx)), h.frozen⟩
theorem Frame.trans {X : Addr → Prop} {a b c : World} (h : Frame X a b) (k : Frame X b c) : Frame X a c :=
  ⟨k.os.trans h.os, k.tape.trans h.tape, k.output.trans h.output, Nat.le_trans h.size k.size,
   fun i hi hx => (k.block i (Nat.lt_of_lt_of_le hi h.size) hx).trans (h.block i hi hx),
   fun i cur t fr hg => by
     obtain ⟨c1, g1, s1⟩ := h.shape i cur t fr hg
     obtain ⟨c2, g2, s2⟩ := k.shape i c1 t fr g1
     exact ⟨c2, g2, s2.trans s1⟩,
   fun x hx hk => (k.cell x hx (Nat.lt_of_lt_of_le hk h.size)).trans (h.cell x hx hk),
   fun x hk => (k.frozen x (Nat.lt_of_lt_of_le hk h.size)).trans (h.frozen x hk)⟩
theorem Frame.drewN {X : Addr → Prop} {w w' : World} (h : Frame X w w') (n : Nat) : Frame X w (w'.drewN n) :=
  ⟨h.os, h.tape, h.output, h.size, h.block, h.shape, h.cell, h.frozen⟩
theorem Frame.drew {X : Addr → Prop} {w w' : World} (h : Frame X w w') : Frame X w w'.drew :=
  ⟨h.os, h.tape, h.output, h.size, h.block, h.shape, h.cell, h.frozen⟩
theorem Frame.drewL {X : Addr → Prop} {w w' : World} {n : Nat} (h : Frame X (w.drewN n) w') : Frame X w w' :=
  ⟨h.os, h.tape, h.output, h.size, h.block, h.shape, h.cell, h.frozen⟩
theorem Frame.below {X : Addr → Prop} {w w' : World} (h : Below w.heap.size w w') : Frame X w w' :=
  ⟨h.os, h.tape, h.output, h.size, fun k hk _ => h.block k hk, fun k cur t fr hg => ⟨cur, (h.block k (by
    rcases Nat.lt_or_ge k w.heap.size with h' | h'
    · exact h'
    · rw [Array.getElem?_eq_none h'] at hg; cases hg)).trans hg, rfl⟩, fun a _ ha => h.cell ha, fun a ha => h.frozen ha⟩
theorem Frame.setCell {X : Addr → Prop} {w w' : World} (h : Frame X w w') {x : Addr} (hx : X x) (v : Value) : Frame X w (w'.setCell x v) := by
  refine h.trans ⟨rfl, rfl, rfl, by simp [World.setCell], fun k hk hy => Below.heap_setCell _ _ _ _ (fun e => hy x hx e.symm), fun k cur t fr hg => ?_, fun a ha hk => World.cell?_setCell_other _ _ _ _ (fun e => ha (e ▸ hx)), fun a _ => World.frozen?_setCell _ _ _ _⟩
  simp only [World.setCell, Array.getElem?_modify]
  by_cases e : x.block = k
  · rw [if_pos e, hg]
    refine ⟨_, rfl, ?_⟩
    split
    · rfl
    · simp
  · rw [if_neg e]
    exact ⟨cur, hg, rfl⟩
theorem Frame.alloc {X : Addr → Prop} {w w' : World} (h : Frame X w w') (o : Obj) : Frame X w (w'.alloc o) :=
  h.trans (Frame.below ((Below.refl _ _).alloc (Nat.le_refl _) o))

/-- A cell by its place in the block. -/
theorem cell_at {w : World} {k : Nat} {cur : Array Value} {t : TypeId} {fr : Nat × Nat} (h : w.heap[k]? = some (.cells cur t fr)) (i : Nat) : w.cell? ⟨k, i, none⟩ = cur[i]? := by
  simp only [World.cell?, h]; rfl

/-- What is there stays there. -/
theorem Frame.some {X : Addr → Prop} {w w' : World} (f : Frame X w w') (a : Addr) (ha : a.block < w.heap.size) (h : (w.cell? a).isSome = true) : (w'.cell? a).isSome = true := by
  obtain ⟨v, hv⟩ := Option.isSome_iff_exists.mp h
  unfold World.cell? at hv ⊢
  cases hb : w.heap[a.block]? with
  | none => simp [hb] at hv
  | some o =>
    cases o with
    | cells cur t fr =>
      obtain ⟨cur', hg', hs'⟩ := f.shape _ cur t fr hb
      simp only [hb] at hv
      rw [hg']
      simp only
      split
      · rename_i hsp
        simp [hsp] at hv
      · rename_i hsp
        simp only [hsp] at hv
        have hlt : a.off < cur.size := by
          rcases Nat.lt_or_ge a.off cur.size with h' | h'
          · exact h'
          · simp [Array.getElem?_eq_none h'] at hv
        rw [Array.getElem?_eq_getElem (by omega)]; rfl
    | _ => simp [hb] at hv

end Go.Proofs.YtfoloneeibgoiaaDoor.Fjh

/- fastjson's values in memory: what a pointer to a Value leads to, as a tree; the cache of values, what of its array is still free; steps that leave all else as it is. -/
set_option linter.unusedVariables false
namespace Go.Proofs.YtfoloneeibgoiaaDoor.Fjh
open Go Go.RowKit Go.Proofs.YtfoloneeibgoiaaDoorW.PrintWords

/-- A value: kind 1 object (u: its names are taken for their characters), 2 array, 4 number, 5 true, 6 false, 0 null, 7 a string as it stands, 3 a string's characters. -/
inductive JV where
  | obj (u : Bool) (ks : List ByteArray) (vs : List JV)
  | arr (vs : List JV)
  | num (s : ByteArray)
  | raw (s : ByteArray)
  | dec (s : ByteArray)
  | lit (t : Int)

def emptyS : ByteArray := ⟨#[]⟩

/-- The address of field i (a cell) of the struct at p. -/
def fld (p : Addr) (i : Nat) : Addr := ⟨p.block, p.off + i, none⟩

/-- A row of n elements (sz cells each) with room for c: its cells are there, may be written, and are own; it lies in another block than pb. -/
structure RowR (w : World) (own : Addr → Prop) (pb : Nat) (A : Option Addr) (n c sz : Nat) : Prop where
  le : n ≤ c
  room : c ≤ 9223372036854775807
  arr : 0 < c → ∃ b, A = some ⟨b, 0, none⟩ ∧ b ≠ pb ∧ ∀ i, i < c * sz → (w.cell? ⟨b, i, none⟩).isSome = true ∧ w.frozen? ⟨b, i, none⟩ = false ∧ own ⟨b, i, none⟩
  nil : c = 0 → A = none
theorem RowR.mono {w w' : World} {own own' : Addr → Prop} (hm : ∀ a, own a → own' a ∧ w'.cell? a = w.cell? a ∧ w'.frozen? a = w.frozen? a) {pb : Nat} {A : Option Addr} {n c sz : Nat} (h : RowR w own pb A n c sz) : RowR w' own' pb A n c sz := by
  refine ⟨h.le, h.room, fun h0 => ?_, h.nil⟩
  obtain ⟨b, e, hb, hc⟩ := h.arr h0
  refine ⟨b, e, hb, fun i hi => ?_⟩
  obtain ⟨c1, c2, c3⟩ := hc i hi
  obtain ⟨m1, m2, m3⟩ := hm _ c3
  exact ⟨by rw [m2]; exact c1, by rw [m3]; exact c2, m1⟩

/-- What a pointer to a Value leads to; every cell that is read lies in 'own', and what the kids own is own too, apart from this value's cells and from the other kids'. -/
inductive Rep (w : World) : (Addr → Prop) → Addr → JV → Prop
  | raw {own : Addr → Prop} {p : Addr} {s : ByteArray} (hp : p.spot = none) (h3 : Cel w (fld p 3) (.string s)) (h4 : Cel w (fld p 4) (.int .i64 7)) (o3 : own (fld p 3)) (o4 : own (fld p 4)) : Rep w own p (.raw s)
  | dec {own : Addr → Prop} {p : Addr} {s : ByteArray} (hp : p.spot = none) (h3 : Cel w (fld p 3) (.string s)) (h4 : Cel w (fld p 4) (.int .i64 3)) (o3 : own (fld p 3)) (o4 : own (fld p 4)) : Rep w own p (.dec s)
  | num {own : Addr → Prop} {p : Addr} {s : ByteArray} (hp : p.spot = none) (h3 : Cel w (fld p 3) (.string s)) (h4 : Cel w (fld p 4) (.int .i64 4)) (o3 : own (fld p 3)) (o4 : own (fld p 4)) : Rep w own p (.num s)
  | lit {own : Addr → Prop} {p : Addr} {t : Int} (hp : p.spot = none) (ht : t = 0 ∨ t = 5 ∨ t = 6) (h4 : Cel w (fld p 4) (.int .i64 t)) (o4 : own (fld p 4)) : Rep w own p (.lit t)
  | arr {own : Addr → Prop} {p : Addr} {vs : List JV} {A : Option Addr} {c : Nat} {ps : Nat → Addr} {O : Nat → Addr → Prop} (hp : p.spot = none) (h2 : Cel w (fld p 2) (.slice A vs.length c)) (h4 : Cel w (fld p 4) (.int .i64 2)) (o2 : own (fld p 2)) (o4 : own (fld p 4))
      (hR : RowR w own p.block A vs.length c 1) (hA : ∀ b, A = some b → ∀ i, i < vs.length → w.cell? ⟨b.block, i, none⟩ = some (.pointer (some (ps i))))
      (hO : ∀ i a, O i a → own a ∧ (∀ j, j < 5 → a ≠ fld p j) ∧ ∀ b, A = some b → a.block ≠ b.block) (hD : ∀ i j a, i < j → O i a → O j a → False)
      (hk : ∀ (i : Nat) (v : JV), vs[i]? = some v → Rep w (O i) (ps i) v) : Rep w own p (.arr vs)
  | obj {own : Addr → Prop} {p : Addr} {u : Bool} {ks : List ByteArray} {vs : List JV} {A : Option Addr} {c : Nat} {ps : Nat → Addr} {O : Nat → Addr → Prop} (hp : p.spot = none) (hl : ks.length = vs.length) (h0 : Cel w (fld p 0) (.slice A vs.length c)) (h1 : Cel w (fld p 1) (.bool u)) (h4 : Cel w (fld p 4) (.int .i64 1))
      (o0 : own (fld p 0)) (o1 : own (fld p 1)) (o4 : own (fld p 4))
      (hR : RowR w own p.block A vs.length c 2) (hA : ∀ b, A = some b → ∀ i, i < vs.length → w.cell? ⟨b.block, 2 * i, none⟩ = some (.string (ks.getD i emptyS)) ∧ w.cell? ⟨b.block, 2 * i + 1, none⟩ = some (.pointer (some (ps i))))
      (hO : ∀ i a, O i a → own a ∧ (∀ j, j < 5 → a ≠ fld p j) ∧ ∀ b, A = some b → a.block ≠ b.block) (hD : ∀ i j a, i < j → O i a → O j a → False)
      (hk : ∀ (i : Nat) (v : JV), vs[i]? = some v → Rep w (O i) (ps i) v) : Rep w own p (.obj u ks vs)

theorem Rep.spot {w : World} {own : Addr → Prop} {p : Addr} {t : JV} (h : Rep w own p t) : p.spot = none := by cases h <;> assumption

theorem RowR.cellKeep {w w' : World} {own own' : Addr → Prop} (hm : ∀ a, own a → own' a ∧ w'.cell? a = w.cell? a ∧ w'.frozen? a = w.frozen? a) {pb : Nat} {A : Option Addr} {n c sz : Nat} (h : RowR w own pb A n c sz) {b : Addr} (hb : A = some b) {i : Nat} (hi : i < c * sz) : w'.cell? ⟨b.block, i, none⟩ = w.cell? ⟨b.block, i, none⟩ := by
  have hc : 0 < c := by
    rcases Nat.eq_zero_or_pos c with h0 | h0
    · rw [h0, Nat.zero_mul] at hi; omega
    · exact h0
  obtain ⟨b', e, _, hg⟩ := h.arr hc
  rw [hb] at e
  obtain rfl := Option.some.inj e
  exact (hm _ (hg i hi).2.2).2.1

theorem Rep.mono {w w' : World} {own own' : Addr → Prop} (hm : ∀ a, own a → own' a ∧ w'.cell? a = w.cell? a ∧ w'.frozen? a = w.frozen? a) {p : Addr} {t : JV} (h : Rep w own p t) : Rep w' own' p t := by
  induction h generalizing own' with
  | raw hp h3 h4 o3 o4 => exact .raw hp (h3.mono (hm _ o3).2) (h4.mono (hm _ o4).2) (hm _ o3).1 (hm _ o4).1
  | dec hp h3 h4 o3 o4 => exact .dec hp (h3.mono (hm _ o3).2) (h4.mono (hm _ o4).2) (hm _ o3).1 (hm _ o4).1
  | num hp h3 h4 o3 o4 => exact .num hp (h3.mono (hm _ o3).2) (h4.mono (hm _ o4).2) (hm _ o3).1 (hm _ o4).1
  | lit hp ht h4 o4 => exact .lit hp ht (h4.mono (hm _ o4).2) (hm _ o4).1
  | arr hp h2 h4 o2 o4 hR hA hO hD hk ih =>
    refine .arr hp (h2.mono (hm _ o2).2) (h4.mono (hm _ o4).2) (hm _ o2).1 (hm _ o4).1 (hR.mono hm) (fun b hb i hi => ?_) (fun i a ha => ⟨(hm a (hO i a ha).1).1, (hO i a ha).2⟩) hD (fun i v hv => ih i v hv (fun a ha => ⟨ha, (hm a (hO i a ha).1).2⟩))
    exact (hR.cellKeep hm hb (i := i) (by have := hR.le; omega)).trans (hA b hb i hi)
  | obj hp hl h0 h1 h4 o0 o1 o4 hR hA hO hD hk ih =>
    refine .obj hp hl (h0.mono (hm _ o0).2) (h1.mono (hm _ o1).2) (h4.mono (hm _ o4).2) (hm _ o0).1 (hm _ o1).1 (hm _ o4).1 (hR.mono hm) (fun b hb i hi => ?_) (fun i a ha => ⟨(hm a (hO i a ha).1).1, (hO i a ha).2⟩) hD (fun i v hv => ih i v hv (fun a ha => ⟨ha, (hm a (hO i a ha).1).2⟩))
    have := hR.le
    exact ⟨(hR.cellKeep hm hb (i := 2 * i) (by omega)).trans (hA b hb i hi).1, (hR.cellKeep hm hb (i := 2 * i + 1) (by omega)).trans (hA b hb i hi).2⟩

/-! ### the cache -/
/-- A Value that nobody has written: its five cells. -/
def zeroV : List Value := [.slice none 0 0, .bool false, .slice none 0 0, .string emptyS, .int .i64 0]

/-- A cell of the cache's array that is still free. -/
def Free (w : World) (cp a : Addr) : Prop := ∃ vb n c, w.cell? cp = some (.slice (some ⟨vb, 0, none⟩) n c) ∧ a.block = vb ∧ 5 * n ≤ a.off
/-- A cell that the parser leaves as it is. -/
def Stable (w : World) (cp a : Addr) : Prop := a.block < w.heap.size ∧ a ≠ cp ∧ a.spot = none ∧ ¬ Free w cp a

/-- From w to w' the parser has gone on: what was stable is so still, and as it was; below B nothing has turned. -/
structure Step (B : Nat) (cp : Addr) (w w' : World) : Prop where
  below : Below B w w'
  keep : ∀ a, Stable w cp a → Stable w' cp a ∧ w'.cell? a = w.cell? a ∧ w'.frozen? a = w.frozen? a

theorem Step.refl (B : Nat) (cp : Addr) (w : World) : Step B cp w w := ⟨Below.refl B w, fun a h => ⟨h, rfl, rfl⟩⟩
theorem Step.trans {B : Nat} {cp : Addr} {a b c : World} (h : Step B cp a b) (k : Step B cp b c) : Step B cp a c :=
  ⟨h.below.trans k.below, fun x hx => by
    obtain ⟨h1, h2, h3⟩ := h.keep x hx
    obtain ⟨k1, k2, k3⟩ := k.keep x h1
    exact ⟨k1, k2.trans h2, k3.trans h3⟩⟩

/-- What is new and stable. -/
def Own (cp : Addr) (w w' : World) (a : Addr) : Prop := Stable w' cp a ∧ ¬ Stable w cp a

/-- A tree that was read ahead lies there still. -/
theorem Rep.step {B : Nat} {cp : Addr} {w w1 w2 : World} {p : Addr} {t : JV} (h : Rep w1 (Own cp w w1) p t) (k : Step B cp w1 w2) : Rep w2 (Own cp w w2) p t :=
  h.mono (fun a ha => ⟨⟨(k.keep a ha.1).1, ha.2⟩, (k.keep a ha.1).2⟩)
/-- .. and is new for whoever began earlier. -/
theorem Rep.elder {B : Nat} {cp : Addr} {w w0 w1 : World} {p : Addr} {t : JV} (h : Rep w1 (Own cp w w1) p t) (k : Step B cp w0 w) : Rep w1 (Own cp w0 w1) p t :=
  h.mono (fun a ha => ⟨⟨ha.1, fun h0 => ha.2 (k.keep a h0).1⟩, rfl, rfl⟩)

/-- The parser has gone on, and beyond it cells of its own have turned. -/
theorem Step.frame {B : Nat} {cp : Addr} {X : Addr → Prop} {w w1 w2 : World} (h : Step B cp w w1) (f : Frame X w1 w2) (hs : B ≤ w1.heap.size) (hcp : ¬ X cp) (hcb : cp.block < w1.heap.size) (hB : ∀ x, X x → B ≤ x.block) (hX : ∀ x, X x → ¬ Stable w cp x) : Step B cp w w2 := by
  have ecp := f.cell cp hcp hcb
  refine ⟨h.below.trans ⟨f.os, f.tape, f.output, f.size, fun k hk => f.block k (by omega) (fun x hx e => by have := hB x hx; omega)⟩, fun a ha => ?_⟩
  obtain ⟨h1, h2, h3⟩ := h.keep a ha
  have hn : ¬ X a := fun hx => hX a hx ha
  refine ⟨⟨Nat.lt_of_lt_of_le h1.1 f.size, h1.2.1, h1.2.2.1, ?_⟩, (f.cell a hn h1.1).trans h2, (f.frozen a h1.1).trans h3⟩
  rintro ⟨vb, n, c, e, k1, k2⟩
  exact h1.2.2.2 ⟨vb, n, c, ecp.symm.trans e, k1, k2⟩

/-- What is stable stays so. -/
theorem Stable.frame {cp : Addr} {X : Addr → Prop} {w1 w2 : World} (f : Frame X w1 w2) (hcp : ¬ X cp) (hcb : cp.block < w1.heap.size) {a : Addr} (h : Stable w1 cp a) : Stable w2 cp a := by
  refine ⟨Nat.lt_of_lt_of_le h.1 f.size, h.2.1, h.2.2.1, ?_⟩
  rintro ⟨vb, n, c, e, k1, k2⟩
  exact h.2.2.2 ⟨vb, n, c, (f.cell cp hcp hcb).symm.trans e, k1, k2⟩

/-! ### an append that has no room: the new array, cell for cell -/
theorem wpList_append_full {P : Program} {w : World} {ops : Array Oper} {rest : List Oper} {o : Oper} {a : Act} {Q : Exit → Act → World → Prop} (hgd : o.guard = none) (s x : Operand) (t : TypeId)
    (ho : o.op = .call { callee := .builtin .append, args := #[s, x], argTypes := #[t, t] })
    (e : TypeId) (i : TypeInfo) (z : Value) (size bytes : Nat) (ht : P.underlying t = some (.slice e)) (hi : P.info? e = some i) (hz : i.zero = some z) (hsize : i.size = size) (hby : i.bytes = bytes)
    (A : Option Addr) (n cap : Nat) (olds : List Value) (hs : a.eval s = .slice A n cap) (hlo : olds.length = n * size) (hA : A = none → n = 0 ∧ cap = 0) (holds : ∀ b, A = some b → ∀ j v, olds[j]? = some v → w.cell? (b.add j) = some v)
    (ad : Addr) (m c : Nat) (news : List Value) (hx : a.eval x = .slice (some ad) m c) (hl : news.length = m * size) (hnews : ∀ j v, news[j]? = some v → w.cell? (ad.add j) = some v)
    (hm : 0 < m) (hg : cap < n + m) (h63 : n + m ≤ 9223372036854775807) (hbytes : (n + m) * bytes ≤ 140737488355328)
    (h : ∀ C w', n + m ≤ C → C ≤ 9223372036854775807 → Hid (w' = w.drew.alloc (.cells (olds.toArray ++ news.toArray ++ Builtin.zeroCells z.cells (C - (n + m))) e)) → wpList P ops Q rest (a.put o.dst (.slice (some ⟨w.heap.size, 0, none⟩) (n + m) C)) w') :
    wpList P ops Q (o :: rest) a w := by
  subst hsize
  subst hby
  have hcap := fun old => grownCap_le_maxLen w (n + m) old e (by unfold maxLen; omega)
  unfold maxLen at hcap
  refine wpList_plain hgd fun K hK => ?_
  cases A with
  | none =>
    obtain ⟨rfl, rfl⟩ := hA rfl
    obtain rfl : olds = [] := List.eq_nil_of_length_eq_zero (by simpa using hlo)
    have hr := run_append_nil (P := P) w t o.type e i z ht hi hz ad m c news hl hnews hm (by omega) (by simp only [Nat.zero_add] at hbytes; omega)
    have h1 := h (grownCap w (0 + m) 0 e) _ (grownCap_ge w (0 + m) 0 e) (hcap 0) rfl
    simp only [Nat.zero_add] at h1 hs
    unfold Oper.wp execOp
    simp only [ho, resolve, invoke, builtin, Sem.run_bind, Sem.run_pure, Result.andThen_ok, List.map_toArray, List.map_cons, List.map_nil, hs, hx, hr]
    refine hK _ _ ?_
    simpa using h1
  | some b =>
    have hr := run_append_grow (P := P) w t o.type e i z ht hi hz b n cap olds hlo (holds b rfl) ad m c news hl hnews hg (by omega) (growslice_fits hg hbytes)
    have h1 := h (grownCap w (n + m) cap e) _ (grownCap_ge w (n + m) cap e) (hcap cap) rfl
    unfold Oper.wp execOp
    simp only [ho, resolve, invoke, builtin, Sem.run_bind, Sem.run_pure, Result.andThen_ok, List.map_toArray, List.map_cons, List.map_nil, hs, hx, hr]
    exact hK _ _ h1

end Go.Proofs.YtfoloneeibgoiaaDoor.Fjh

/- Rows that grow by one element (fastjson's getValue, getKV): what is known of such a row, and what one step leaves. -/
set_option linter.unusedVariables false
namespace Go.Proofs.YtfoloneeibgoiaaDoor.Fjh
open Go Go.RowKit Go.Proofs.YtfoloneeibgoiaaDoorW.PrintWords

/-- The slice behind cp holds n elements (type T, sz cells each); what of its array is not in use is as made (Z). -/
structure RowI (T : TypeId) (sz : Nat) (Z : List Value) (w : World) (cp : Addr) (V : Option Addr) (n c : Nat) : Prop where
  cell : w.cell? cp = some (.slice V n c)
  free : w.frozen? cp = false
  spot : cp.spot = none
  le : n ≤ c
  room : c ≤ 9223372036854775807
  arr : 0 < c → ∃ vb, V = some ⟨vb, 0, none⟩ ∧ vb ≠ cp.block ∧ vb < w.heap.size ∧ (∀ i, i < c * sz → (w.cell? ⟨vb, i, none⟩).isSome = true ∧ w.frozen? ⟨vb, i, none⟩ = false) ∧ ∀ i j, n ≤ i → i < c → j < sz → w.cell? ⟨vb, sz * i + j, none⟩ = Z[j]?
  nil : c = 0 → V = none

/-- From w to w' the cell cp alone of what was has turned. -/
abbrev Frame1 (cp : Addr) (w w' : World) : Prop := Frame (fun x => x = cp) w w'

/-- What one step leaves: an element more, a pointer to it. -/
def GR (T : TypeId) (sz : Nat) (Z : List Value) (cp : Addr) (V : Option Addr) (n : Nat) (w : World) (e : Ending) (w' : World) : Prop :=
  ∃ pb c, e = .returned (.pointer (some ⟨pb, n * sz, none⟩)) ∧ RowI T sz Z w' cp (some ⟨pb, 0, none⟩) (n + 1) c ∧ Frame1 cp w w' ∧ (V = some ⟨pb, 0, none⟩ ∨ w.heap.size ≤ pb) ∧ pb < w'.heap.size ∧ pb ≠ cp.block ∧
    (∀ j v, Z[j]? = some v → w'.cell? ⟨pb, n * sz + j, none⟩ = some v) ∧ (∀ j, j < sz → w'.frozen? ⟨pb, n * sz + j, none⟩ = false) ∧
    (∀ vb, V = some ⟨vb, 0, none⟩ → ∀ i, i < n * sz → w'.cell? ⟨pb, i, none⟩ = w.cell? ⟨vb, i, none⟩)

theorem RowI.block {T : TypeId} {sz : Nat} {Z : List Value} {w : World} {cp : Addr} {V : Option Addr} {n c : Nat} (h : RowI T sz Z w cp V n c) : cp.block < w.heap.size := World.block_lt_of_cell? w cp h.cell

theorem frame_eq {cp : Addr} {w w' : World} {v : Value} {a b : Nat} (hw' : w' = ((w.drewN a).setCell cp v).drewN b) :
    (∀ x, x ≠ cp → w'.cell? x = w.cell? x) ∧ (∀ x, w'.frozen? x = w.frozen? x) ∧ w'.heap.size = w.heap.size ∧ (∀ k, k ≠ cp.block → w'.heap[k]? = w.heap[k]?) ∧ w'.os = w.os ∧ w'.tape = w.tape ∧ w'.output = w.output := by
  subst hw'
  exact ⟨fun x hx => World.cell?_setCell_other (w.drewN a) cp x _ (fun e => hx e.symm), fun x => World.frozen?_setCell (w.drewN a) cp x _, by simp [World.setCell], fun k hk => Below.heap_setCell (w.drewN a) _ _ _ hk, rfl, rfl, rfl⟩

theorem gr_room {T : TypeId} {sz : Nat} {Z : List Value} (hZ : Z.length = sz) {cp : Addr} {vb n c a b : Nat} {w : World} (h : RowI T sz Z w cp (some ⟨vb, 0, none⟩) n c) (hlt : n < c) :
    GR T sz Z cp (some ⟨vb, 0, none⟩) n w (.returned (.pointer (some ⟨vb, n * sz, none⟩))) (((w.drewN a).setCell cp (.slice (some ⟨vb, 0, none⟩) (n + 1) c)).drewN b) := by
  obtain ⟨vb', e, hne, hvb, hg, hz⟩ := h.arr (by omega)
  simp only [Option.some.injEq, Addr.mk.injEq, and_true] at e
  subst e
  obtain ⟨w', hw'⟩ : ∃ w', w' = ((w.drewN a).setCell cp (.slice (some ⟨vb, 0, none⟩) (n + 1) c)).drewN b := ⟨_, rfl⟩
  rw [← hw']
  obtain ⟨hoth, hfro, hsize, hblk, o1, o2, o3⟩ := frame_eq hw'
  have hcell : w'.cell? cp = some (.slice (some ⟨vb, 0, none⟩) (n + 1) c) := by rw [hw']; exact World.cell?_setCell_same (w.drewN a) cp _ h.cell
  have hnp : ∀ j, (⟨vb, j, none⟩ : Addr) ≠ cp := fun j e => hne (by rw [← e])
  have hlt2 : ∀ j, j < sz → n * sz + j < c * sz := by
    intro j hj
    have h1 : (n + 1) * sz ≤ c * sz := Nat.mul_le_mul_right _ hlt
    rw [Nat.add_mul, Nat.one_mul] at h1
    omega
  refine ⟨vb, c, rfl, ⟨hcell, by rw [hfro]; exact h.free, h.spot, by omega, h.room, fun _ => ⟨vb, rfl, hne, by omega, fun i hi => ⟨by rw [hoth _ (hnp _)]; exact (hg i hi).1, by rw [hfro]; exact (hg i hi).2⟩, fun i j h1 h2 h3 => (hoth _ (hnp _)).trans (hz i j (by omega) h2 h3)⟩, fun e => by omega⟩,
    by rw [hw']; exact (((Frame.refl (fun x => x = cp) w).drewN a).setCell (x := cp) rfl _).drewN b, .inl rfl, by omega, hne, fun j v hj => ?_, fun j hj => ?_, fun vb2 hv i hi => ?_⟩
  · have hj5 : j < sz := by
      rcases Nat.lt_or_ge j sz with h' | h'
      · exact h'
      · rw [List.getElem?_eq_none (by omega)] at hj; cases hj
    rw [hoth _ (hnp _), Nat.mul_comm n sz, hz n j (Nat.le_refl _) hlt hj5, hj]
  · rw [hfro]
    exact (hg _ (hlt2 j hj)).2
  · simp only [Option.some.injEq, Addr.mk.injEq, and_true] at hv
    subst hv
    exact hoth _ (hnp _)

theorem zeros_at {Z : List Value} {sz : Nat} (hZ : Z.length = sz) (m : Nat) {i j : Nat} (hi : i < m) (hj : j < sz) : (Builtin.zeroCells Z.toArray m)[sz * i + j]? = Z[j]? := by
  have hs : Z.toArray.size = sz := by rw [List.size_toArray, hZ]
  have hlt : sz * i + j < m * sz := by
    have : sz * i + j < sz * (i + 1) := by rw [Nat.mul_add, Nat.mul_one]; omega
    have h2 : sz * (i + 1) ≤ sz * m := Nat.mul_le_mul_left _ hi
    rw [Nat.mul_comm m sz]; omega
  simp only [Builtin.zeroCells, hs]
  rw [Array.getElem?_map, Array.getElem?_range]
  simp only [hlt, if_true, Option.map_some]
  rw [Nat.mul_add_mod, Nat.mod_eq_of_lt hj, List.getElem?_eq_getElem (by omega)]
  simp [hZ, hj]

theorem full_at {Z olds : List Value} {sz n C : Nat} (hZ : Z.length = sz) (hol : olds.length = n * sz) {i j : Nat} (h1 : n ≤ i) (h2 : i < C) (hj : j < sz) :
    (olds.toArray ++ Z.toArray ++ Builtin.zeroCells Z.toArray (C - (n + 1)))[sz * i + j]? = Z[j]? := by
  have hsz : (olds.toArray ++ Z.toArray).size = n * sz + sz := by rw [Array.size_append, List.size_toArray, List.size_toArray, hol, hZ]
  by_cases hin : i = n
  · subst hin
    have e : sz * i = i * sz := Nat.mul_comm _ _
    rw [Array.getElem?_append_left (by omega), Array.getElem?_append_right (by rw [List.size_toArray, hol]; omega), List.size_toArray, hol, show sz * i + j - i * sz = j from by omega]
    simp
  · have e : sz * i = (n * sz + sz) + sz * (i - (n + 1)) := by
      obtain ⟨d, rfl⟩ : ∃ d, i = n + 1 + d := ⟨i - (n + 1), by omega⟩
      rw [show n + 1 + d - (n + 1) = d from by omega, Nat.mul_add, Nat.mul_add, Nat.mul_one, Nat.mul_comm sz n]
    rw [Array.getElem?_append_right (by omega), hsz, show sz * i + j - (n * sz + sz) = sz * (i - (n + 1)) + j from by omega]
    exact zeros_at hZ _ (by omega) hj

theorem cell_alloc_old {w : World} {a : Addr} {v : Value} (h : w.cell? a = some v) (o : Obj) : (w.alloc o).cell? a = some v := by
  rw [World.cell?_of_block (w := w) (Below.heap_alloc w o _ (World.block_lt_of_cell? w a h))]; exact h
theorem frozen_alloc_old {w : World} {a : Addr} (h : a.block < w.heap.size) (o : Obj) : (w.alloc o).frozen? a = w.frozen? a :=
  World.frozen?_of_block (w := w) (Below.heap_alloc w o _ h)

theorem gr_full {T : TypeId} {sz : Nat} {Z : List Value} (hZ : Z.length = sz) {cp : Addr} {V : Option Addr} {n C a b : Nat} {w w3 : World} {olds : List Value} (h : RowI T sz Z w cp V n n) (hol : olds.length = n * sz) (hC1 : n + 1 ≤ C) (hC2 : C ≤ 9223372036854775807)
    (hold2 : ∀ b, V = some b → ∀ j v, olds[j]? = some v → w.cell? (b.add j) = some v)
    (e3 : w3 = ((w.drewN a).alloc (.cells Z.toArray T)).drew.alloc (.cells (olds.toArray ++ Z.toArray ++ Builtin.zeroCells (Value.agg Z.toArray).cells (C - (n + 1))) T)) :
    GR T sz Z cp V n w (.returned (.pointer (some ⟨w.heap.size + 1, n * sz, none⟩))) ((w3.setCell cp (.slice (some ⟨w.heap.size + 1, 0, none⟩) (n + 1) C)).drewN b) := by
  have hcb := h.block
  have hs3 : w3.heap.size = w.heap.size + 2 := by rw [e3]; simp
  have hnew : w3.heap[w.heap.size + 1]? = some (.cells (olds.toArray ++ Z.toArray ++ Builtin.zeroCells Z.toArray (C - (n + 1))) T (0, 0)) := by
    rw [e3]
    have : w.heap.size + 1 = (((w.drewN a).alloc (.cells Z.toArray T)).drew).heap.size := by simp
    rw [this, heap_alloc_new]
    rfl
  have hold : ∀ k, k < w.heap.size → w3.heap[k]? = w.heap[k]? := by
    intro k hk
    rw [e3, Below.heap_alloc _ _ _ (by show k < (w.heap.push _).size; simp; omega)]
    exact Below.heap_alloc (w.drewN a) _ k hk
  have hc3 : w3.cell? cp = some (.slice V n n) := (World.cell?_of_block (w := w) (hold _ hcb)).trans h.cell
  obtain ⟨w', hw'⟩ : ∃ w', w' = (w3.setCell cp (.slice (some ⟨w.heap.size + 1, 0, none⟩) (n + 1) C)).drewN b := ⟨_, rfl⟩
  rw [← hw']
  obtain ⟨hoth, hfro, hsize, hblk, o1, o2, o3⟩ := frame_eq (w := w3) (a := 0) hw'
  have hcell : w'.cell? cp = some (.slice (some ⟨w.heap.size + 1, 0, none⟩) (n + 1) C) := by rw [hw']; exact World.cell?_setCell_same w3 cp _ hc3
  have hnp : ∀ j, (⟨w.heap.size + 1, j, none⟩ : Addr) ≠ cp := by
    intro j e
    have h1 : w.heap.size + 1 = cp.block := by rw [← e]
    omega
  have hw3 : w3.os = w.os ∧ w3.tape = w.tape ∧ w3.output = w.output := by rw [e3]; exact ⟨rfl, rfl, rfl⟩
  refine ⟨w.heap.size + 1, C, rfl, ⟨hcell, by rw [hfro, World.frozen?_of_block (w := w) (hold _ hcb)]; exact h.free, h.spot, hC1, hC2, fun _ => ⟨_, rfl, by omega, by omega, fun i hi => ⟨?_, ?_⟩, fun i j h1 h2 h3 => ?_⟩, fun e => by omega⟩,
    by rw [hw', e3]; exact (((((Frame.refl (fun x => x = cp) w).drewN a).alloc _).drew.alloc _).setCell (x := cp) rfl _).drewN b, .inr (by omega), by omega, by omega, fun j v hj => ?_, fun j hj => ?_, fun vb hv i hi => ?_⟩
  · have hsz : (olds.toArray ++ Z.toArray ++ Builtin.zeroCells Z.toArray (C - (n + 1))).size = C * sz := by
     rw [Array.size_append, Array.size_append, List.size_toArray, List.size_toArray, hol, hZ, size_zeroCells, List.size_toArray, hZ]
     obtain ⟨d, rfl⟩ : ∃ d, C = n + 1 + d := ⟨C - (n + 1), by omega⟩
     rw [show n + 1 + d - (n + 1) = d from by omega, Nat.add_mul, Nat.add_mul, Nat.one_mul]
    rw [hoth _ (hnp _), cell_at hnew, Array.getElem?_eq_getElem (by omega)]; rfl
  · rw [hfro]
    simp [World.frozen?, hnew]
  · rw [hoth _ (hnp _), cell_at hnew]
    exact full_at hZ hol (by omega) h2 h3
  · have hj5 : j < sz := by
      rcases Nat.lt_or_ge j sz with h' | h'
      · exact h'
      · rw [List.getElem?_eq_none (by omega)] at hj; cases hj
    rw [hoth _ (hnp _)]
    simp only [World.cell?, hnew]
    rw [Nat.mul_comm n sz, full_at hZ hol (Nat.le_refl _) (by omega) hj5, hj]
    rfl
  · rw [hfro]
    simp [World.frozen?, hnew]
  · rw [hoth _ (hnp _)]
    have hlt : i < olds.length := by omega
    have h1 := hold2 _ hv i olds[i] (List.getElem?_eq_getElem hlt)
    have e2 : (⟨vb, 0, none⟩ : Addr).add i = ⟨vb, i, none⟩ := by unfold Addr.add; split <;> simp_all
    rw [e2] at h1
    rw [h1]
    simp only [World.cell?, hnew]
    rw [Array.append_assoc, Array.getElem?_append_left (by rw [List.size_toArray]; exact hlt)]
    simp [hlt]

theorem news_at {Z : List Value} {T : TypeId} {w : World} {a : Nat} : ∀ j v, Z[j]? = some v → ((w.drewN a).alloc (.cells Z.toArray T)).cell? ((⟨w.heap.size, 0, none⟩ : Addr).add j) = some v := by
  intro j v hj
  have e2 : (⟨w.heap.size, 0, none⟩ : Addr).add j = ⟨w.heap.size, j, none⟩ := by unfold Addr.add; split <;> simp_all
  rw [e2]
  have hn := heap_alloc_new (w.drewN a) (.cells Z.toArray T)
  have : (w.drewN a).heap.size = w.heap.size := rfl
  rw [this] at hn
  simp only [World.cell?, hn]
  simpa using hj

theorem alloc2_cell {w w3 : World} {a : Addr} {v : Value} {o o' : Obj} {k : Nat} (h : w.cell? a = some v) (e : w3 = ((w.drewN k).alloc o).drew.alloc o') : w3.cell? a = some v := by
  subst e
  exact cell_alloc_old (w := ((w.drewN k).alloc o).drew) (cell_alloc_old (w := w.drewN k) h o) o'
theorem alloc2_frozen {w w3 : World} {a : Addr} {b : Bool} {o o' : Obj} {k : Nat} (h : a.block < w.heap.size) (hf : w.frozen? a = b) (e : w3 = ((w.drewN k).alloc o).drew.alloc o') : w3.frozen? a = b := by
  subst e
  rw [frozen_alloc_old (w := ((w.drewN k).alloc o).drew) (by show _ < (w.heap.push o).size; simp; omega)]
  exact (frozen_alloc_old (w := w.drewN k) h o).trans hf

/-- A row that the frame leaves (of its array at most cells in use have turned). -/
theorem RowI.frame {T : TypeId} {sz : Nat} {Z : List Value} {w w' : World} {cp : Addr} {V : Option Addr} {n c : Nat} {X : Addr → Prop} (h : RowI T sz Z w cp V n c) (f : Frame X w w') (hcp : ¬ X cp)
    (hX : ∀ x, X x → ∀ b, V = some b → x.block = b.block → x.off < n * sz) : RowI T sz Z w' cp V n c := by
  refine ⟨(f.cell cp hcp h.block).trans h.cell, (f.frozen cp h.block).trans h.free, h.spot, h.le, h.room, fun hc => ?_, h.nil⟩
  obtain ⟨vb, e, hne, hvb, hg, hz⟩ := h.arr hc
  refine ⟨vb, e, hne, Nat.lt_of_lt_of_le hvb f.size, fun i hi => ⟨f.some _ hvb (hg i hi).1, (f.frozen _ hvb).trans (hg i hi).2⟩, fun i j h1 h2 h3 => ?_⟩
  have hn : ¬ X ⟨vb, sz * i + j, none⟩ := by
    intro hx
    have := hX _ hx _ e rfl
    have h4 : sz * n ≤ sz * i := Nat.mul_le_mul_left _ h1
    rw [Nat.mul_comm n sz] at this
    simp only at this
    omega
  exact (f.cell ⟨vb, sz * i + j, none⟩ hn hvb).trans (hz i j h1 h2 h3)

/-- A row over a piece of the parser's way: its cells are stable. -/
theorem RowI.step {T : TypeId} {sz : Nat} {Z : List Value} {w w' : World} {cp : Addr} {V : Option Addr} {n c : Nat} (h : RowI T sz Z w cp V n c) (hs : w.heap.size ≤ w'.heap.size) (hcp : w'.cell? cp = w.cell? cp ∧ w'.frozen? cp = w.frozen? cp)
    (hV : ∀ b, V = some b → ∀ i, w'.cell? ⟨b.block, i, none⟩ = w.cell? ⟨b.block, i, none⟩ ∧ w'.frozen? ⟨b.block, i, none⟩ = w.frozen? ⟨b.block, i, none⟩) : RowI T sz Z w' cp V n c := by
  refine ⟨hcp.1.trans h.cell, hcp.2.trans h.free, h.spot, h.le, h.room, fun hc => ?_, h.nil⟩
  obtain ⟨vb, e, hne, hvb, hg, hz⟩ := h.arr hc
  have hv := hV _ e
  exact ⟨vb, e, hne, Nat.lt_of_lt_of_le hvb hs, fun i hi => ⟨by rw [(hv i).1]; exact (hg i hi).1, by rw [(hv i).2]; exact (hg i hi).2⟩, fun i j h1 h2 h3 => (hv _).1.trans (hz i j h1 h2 h3)⟩

/-- What the elements in use hold. -/
theorem RowI.olds {T : TypeId} {sz : Nat} {Z : List Value} {w : World} {cp : Addr} {V : Option Addr} {n : Nat} (hI : RowI T sz Z w cp V n n) :
    ∃ olds : List Value, olds.length = n * sz ∧ (V = none → n = 0 ∧ n = 0) ∧ ∀ b, V = some b → ∀ j v, olds[j]? = some v → w.cell? (b.add j) = some v := by
  rcases Nat.eq_zero_or_pos n with h0 | h0
  · exact ⟨[], by rw [h0]; simp, fun _ => ⟨h0, h0⟩, fun b hb j v hj => by simp at hj⟩
  · obtain ⟨vb, e, hne, hvb, hg, hz⟩ := hI.arr h0
    refine ⟨(List.range (n * sz)).map fun i => (w.cell? ⟨vb, i, none⟩).getD .nilIface, by simp, fun e' => absurd (e.symm.trans e') (by simp), fun b hb j v hj => ?_⟩
    rw [e] at hb
    obtain rfl := Option.some.inj hb
    have e2 : (⟨vb, 0, none⟩ : Addr).add j = ⟨vb, j, none⟩ := by unfold Addr.add; split <;> simp_all
    rw [e2]
    rw [List.getElem?_map] at hj
    rcases Nat.lt_or_ge j (n * sz) with hlt | hge
    · rw [List.getElem?_range hlt] at hj
      obtain ⟨o, ho'⟩ := Option.isSome_iff_exists.mp (hg j hlt).1
      rw [Option.map_some, ho'] at hj
      rw [ho', ← hj]; rfl
    · rw [List.getElem?_eq_none (by simpa using hge)] at hj
      cases hj

end Go.Proofs.YtfoloneeibgoiaaDoor.Fjh

/- fastjson's getValue and getKV: their contracts. -/
set_option linter.unusedVariables false
namespace Go.Proofs.YtfoloneeibgoiaaDoor.Fjh
open Go Go.RowKit Go.Proofs.YtfoloneeibgoiaaDoorW.PrintWords

/-- A name and a value that nobody has written. -/
def zeroK : List Value := [.string emptyS, .pointer none]

theorem infoV : (Tryd.prog.info? 72).map (fun i => (i.zero, i.size, i.bytes)) = some (some (.agg zeroV.toArray), 5, 80) := by kernel_rfl

set_option maxHeartbeats 4000000 in
theorem getValue_room (cp : Addr) (vb n c : Nat) (w : World) (hI : RowI 72 5 zeroV w cp (some ⟨vb, 0, none⟩) n c) (hn : n ≤ 1000000) (hlt : n < c) :
    Calls Tryd.prog 47 #[.pointer (some cp)] w (GR 72 5 zeroV cp (some ⟨vb, 0, none⟩) n w) := by
  have hc := hI.cell
  have hf := hI.free
  have hr := hI.room
  have HI := Lib.hid hI
  have hsp : cp = ⟨cp.block, cp.off, none⟩ := by
    have := hI.spot
    cases cp; simp_all
  obtain ⟨cb, co, hcb⟩ : ∃ cb co, cp = ⟨cb, co, none⟩ := ⟨_, _, hsp⟩
  subst hcb
  clear hI hsp
  have hd : decide ((n : Int) < (c : Int)) = true := decide_eq_true (by omega)
  go_enter Tryd.func47, Tryd.ntmps47
  go_wp2
  go_quiet (fail)
  go_wp2
  go_region
  go_wp2
  go_quiet (fail)
  go_wp2
  go_ret
  exact gr_room (Z := zeroV) (sz := 5) rfl HI.out hlt

set_option maxHeartbeats 4000000 in
set_option maxRecDepth 100000 in
theorem getValue_full (cp : Addr) (V : Option Addr) (n : Nat) (w : World) (hI : RowI 72 5 zeroV w cp V n n) (hn : n ≤ 1000000) :
    Calls Tryd.prog 47 #[.pointer (some cp)] w (GR 72 5 zeroV cp V n w) := by
  have hc := hI.cell
  have hf := hI.free
  have HI := Lib.hid hI
  have hsp : cp = ⟨cp.block, cp.off, none⟩ := by
    have := hI.spot
    cases cp; simp_all
  obtain ⟨cb, co, hcb⟩ : ∃ cb co, cp = ⟨cb, co, none⟩ := ⟨_, _, hsp⟩
  subst hcb
  have hblk : cb < w.heap.size := hI.block
  obtain ⟨olds, hol, hVn, hol2⟩ := hI.olds
  clear hI hsp
  obtain ⟨i0, hi, hz0, hz1, hz2⟩ := info_parts infoV
  have hd : decide ((n : Int) < (n : Int)) = false := decide_eq_false (by omega)
  have HOL := Lib.hid hol
  have HV := Lib.hid hVn
  have HO2 := Lib.hid hol2
  clear hol hVn hol2
  go_enter Tryd.func47, Tryd.ntmps47
  go_wp2
  go_quiet (fail)
  go_wp2_with (refine wpList_append_full rfl (.tmp 32) (.tmp 34) 35 rfl 72 i0 (.agg zeroV.toArray) 5 80 Tryd.underlying35 hi hz0 hz1 hz2 V n n olds rfl HOL.out HV.out (fun b hb j v hj => cell_alloc_old (HO2.out b hb j v hj) _) ⟨w.heap.size, 0, none⟩ 1 1 zeroV rfl rfl ?s1 (by omega) (by omega) (by omega) (by omega) ?_; (case s1 => exact news_at); intro C w3 hC1 hC2 HW3; have c3 := alloc2_cell (o := .cells zeroV.toArray 72) hc HW3.out; have f3 := alloc2_frozen (o := .cells zeroV.toArray 72) (a := ⟨cb, co, none⟩) hblk hf HW3.out)
  go_quiet (fail)
  go_wp2
  go_ret
  exact gr_full (Z := zeroV) (sz := 5) rfl HI.out HOL.out hC1 hC2 HO2.out HW3.out

/-- Whatever the row holds. -/
theorem getValue_calls (cp : Addr) (V : Option Addr) (n c : Nat) (w : World) (hI : RowI 72 5 zeroV w cp V n c) (hn : n ≤ 1000000) :
    Calls Tryd.prog 47 #[.pointer (some cp)] w (GR 72 5 zeroV cp V n w) := by
  rcases Nat.lt_or_ge n c with h | h
  · obtain ⟨vb, rfl, _⟩ := hI.arr (by omega)
    exact getValue_room cp vb n c w hI hn h
  · obtain rfl : c = n := Nat.le_antisymm h hI.le
    exact getValue_full cp V c w hI hn

theorem infoK : (Tryd.prog.info? 97).map (fun i => (i.zero, i.size, i.bytes)) = some (some (.agg zeroK.toArray), 2, 24) := by kernel_rfl

set_option maxHeartbeats 4000000 in
theorem getKV_room (cp : Addr) (vb n c : Nat) (w : World) (hI : RowI 97 2 zeroK w cp (some ⟨vb, 0, none⟩) n c) (hn : n ≤ 1000000) (hlt : n < c) :
    Calls Tryd.prog 67 #[.pointer (some cp)] w (GR 97 2 zeroK cp (some ⟨vb, 0, none⟩) n w) := by
  have hc := hI.cell
  have hf := hI.free
  have hr := hI.room
  have HI := Lib.hid hI
  have hsp : cp = ⟨cp.block, cp.off, none⟩ := by
    have := hI.spot
    cases cp; simp_all
  obtain ⟨cb, co, hcb⟩ : ∃ cb co, cp = ⟨cb, co, none⟩ := ⟨_, _, hsp⟩
  subst hcb
  clear hI hsp
  have hd : decide ((n : Int) < (c : Int)) = true := decide_eq_true (by omega)
  go_enter Tryd.func67, Tryd.ntmps67
  go_wp2
  go_quiet (fail)
  go_wp2
  go_region
  go_wp2
  go_quiet (fail)
  go_wp2
  go_ret
  exact gr_room (Z := zeroK) (sz := 2) rfl HI.out hlt

set_option maxHeartbeats 4000000 in
set_option maxRecDepth 100000 in
theorem getKV_full (cp : Addr) (V : Option Addr) (n : Nat) (w : World) (hI : RowI 97 2 zeroK w cp V n n) (hn : n ≤ 1000000) :
    Calls Tryd.prog 67 #[.pointer (some cp)] w (GR 97 2 zeroK cp V n w) := by
  have hc := hI.cell
  have hf := hI.free
  have HI := Lib.hid hI
  have hsp : cp = ⟨cp.block, cp.off, none⟩ := by
    have := hI.spot
    cases cp; simp_all
  obtain ⟨cb, co, hcb⟩ : ∃ cb co, cp = ⟨cb, co, none⟩ := ⟨_, _, hsp⟩
  subst hcb
  have hblk : cb < w.heap.size := hI.block
  obtain ⟨olds, hol, hVn, hol2⟩ := hI.olds
  clear hI hsp
  obtain ⟨i0, hi, hz0, hz1, hz2⟩ := info_parts infoK
  have hd : decide ((n : Int) < (n : Int)) = false := decide_eq_false (by omega)
  have HOL := Lib.hid hol
  have HV := Lib.hid hVn
  have HO2 := Lib.hid hol2
  clear hol hVn hol2
  go_enter Tryd.func67, Tryd.ntmps67
  go_wp2
  go_quiet (fail)
  go_wp2_with (refine wpList_append_full rfl (.tmp 32) (.tmp 34) 66 rfl 97 i0 (.agg zeroK.toArray) 2 24 Tryd.underlying66 hi hz0 hz1 hz2 V n n olds rfl HOL.out HV.out (fun b hb j v hj => cell_alloc_old (HO2.out b hb j v hj) _) ⟨w.heap.size, 0, none⟩ 1 1 zeroK rfl rfl ?s1 (by omega) (by omega) (by omega) (by omega) ?_; (case s1 => exact news_at); intro C w3 hC1 hC2 HW3; have c3 := alloc2_cell (o := .cells zeroK.toArray 97) hc HW3.out; have f3 := alloc2_frozen (o := .cells zeroK.toArray 97) (a := ⟨cb, co, none⟩) hblk hf HW3.out)
  go_quiet (fail)
  go_wp2
  go_ret
  exact gr_full (Z := zeroK) (sz := 2) rfl HI.out HOL.out hC1 hC2 HO2.out HW3.out

/-- Whatever the row holds. -/
theorem getKV_calls (cp : Addr) (V : Option Addr) (n c : Nat) (w : World) (hI : RowI 97 2 zeroK w cp V n c) (hn : n ≤ 1000000) :
    Calls Tryd.prog 67 #[.pointer (some cp)] w (GR 97 2 zeroK cp V n w) := by
  rcases Nat.lt_or_ge n c with h | h
  · obtain ⟨vb, rfl, _⟩ := hI.arr (by omega)
    exact getKV_room cp vb n c w hI hn h
  · obtain rfl : c = n := Nat.le_antisymm h hI.le
    exact getKV_full cp V c w hI hn

/-! ### the cache -/
/-- The cache behind cp holds n values; it and its array lie from B on. -/
structure CI (B : Nat) (w : World) (cp : Addr) (V : Option Addr) (n c : Nat) : Prop where
  row : RowI 72 5 zeroV w cp V n c
  b1 : B ≤ cp.block
  b2 : ∀ b, V = some b → B ≤ b.block

theorem free_iff {w : World} {cp a : Addr} {vb n c : Nat} (h : w.cell? cp = some (.slice (some ⟨vb, 0, none⟩) n c)) : Free w cp a ↔ a.block = vb ∧ 5 * n ≤ a.off := by
  constructor
  · rintro ⟨vb', n', c', h1, h2, h3⟩
    rw [h] at h1
    simp only [Option.some.injEq, Value.slice.injEq, Addr.mk.injEq, and_true] at h1
    obtain ⟨rfl, rfl, rfl⟩ := h1
    exact ⟨h2, h3⟩
  · rintro ⟨h2, h3⟩
    exact ⟨vb, n, c, h, h2, h3⟩

theorem CI.low {B : Nat} {w : World} {cp : Addr} {V : Option Addr} {n c : Nat} (h : CI B w cp V n c) : B ≤ w.heap.size := Nat.le_trans h.b1 (Nat.le_of_lt h.row.block)

/-- A cell that is no stable one of an earlier world lies from B on. -/
theorem CI.own {B : Nat} {w w' : World} {cp : Addr} {V : Option Addr} {n c : Nat} (h : CI B w cp V n c) {a : Addr} (ha : Own cp w w' a) : B ≤ a.block := by
  rcases Nat.lt_or_ge a.block w.heap.size with hk | hk
  · by_cases hf : Free w cp a
    · obtain ⟨vb, n', c', h1, h2, h3⟩ := hf
      rw [h.row.cell] at h1
      simp only [Option.some.injEq, Value.slice.injEq] at h1
      have := h.b2 _ h1.1
      simp only at this
      omega
    · exact absurd ⟨hk, ha.1.2.1, ha.1.2.2.1, hf⟩ ha.2
  · exact Nat.le_trans h.low hk

/-- The cache over a frame that turns own cells. -/
theorem CI.frame {B : Nat} {w w' : World} {cp : Addr} {V : Option Addr} {n c : Nat} {X : Addr → Prop} (h : CI B w cp V n c) (f : Frame X w w') (hX : ∀ x, X x → Stable w cp x) : CI B w' cp V n c := by
  refine ⟨h.row.frame f (fun hx => (hX _ hx).2.1 rfl) (fun x hx b hb e => ?_), h.b1, h.b2⟩
  rcases Nat.lt_or_ge x.off (n * 5) with hlt | hge
  · exact hlt
  · refine absurd ?_ (hX x hx).2.2.2
    have hc : 0 < c := by
      rcases Nat.eq_zero_or_pos c with h0 | h0
      · rw [h.row.nil h0] at hb; cases hb
      · exact h0
    obtain ⟨vb, e2, _⟩ := h.row.arr hc
    obtain rfl := Option.some.inj (hb.symm.trans e2)
    exact ⟨vb, n, c, by rw [h.row.cell, e2], e, by omega⟩

/-- What getValue leaves: one value more in the cache, a pointer to it. -/
def GV (B : Nat) (cp : Addr) (n : Nat) (w : World) (e : Ending) (w' : World) : Prop :=
  ∃ (p : Addr) (V : Option Addr) (c : Nat), e = .returned (.pointer (some p)) ∧ p.spot = none ∧ CI B w' cp V (n + 1) c ∧ Step B cp w w' ∧ ∀ j v, zeroV[j]? = some v → w'.cell? (fld p j) = some v ∧ w'.frozen? (fld p j) = false ∧ Own cp w w' (fld p j)

theorem gv_of {B : Nat} {cp : Addr} {V : Option Addr} {n c : Nat} {w w' : World} {e : Ending} (hC : CI B w cp V n c) (h : GR 72 5 zeroV cp V n w e w') : GV B cp n w e w' := by
  have hI := hC.row
  obtain ⟨pb, c', rfl, hI', hF, hV, hpb, hne, hz, hf, _⟩ := h
  have hfr : ∀ x, Free w' cp x → x.block < w.heap.size → Free w cp x := by
    intro x hx hlt
    obtain ⟨h1, h2⟩ := (free_iff hI'.cell).1 hx
    rcases hV with rfl | hV
    · exact (free_iff hI.cell).2 ⟨h1, by omega⟩
    · omega
  have hpB : B ≤ pb := by
    rcases hV with rfl | hV
    · exact hC.b2 _ rfl
    · exact Nat.le_trans hC.low hV
  refine ⟨⟨pb, n * 5, none⟩, some ⟨pb, 0, none⟩, c', rfl, rfl, ⟨hI', hC.b1, fun b hb => by obtain rfl := Option.some.inj hb; exact hpB⟩,
    ⟨⟨hF.os, hF.tape, hF.output, hF.size, fun k hk => hF.block k (Nat.lt_of_lt_of_le hk hC.low) (fun x hx e => by have := hC.b1; rw [hx] at e; omega)⟩,
     fun x hx => ⟨⟨Nat.lt_of_lt_of_le hx.1 hF.size, hx.2.1, hx.2.2.1, fun hf => hx.2.2.2 (hfr x hf hx.1)⟩, hF.cell x hx.2.1 hx.1, hF.frozen x hx.1⟩⟩, fun j v hj => ?_⟩
  have hj5 : j < 5 := by
    rcases Nat.lt_or_ge j 5 with h' | h'
    · exact h'
    · rw [List.getElem?_eq_none (by simpa [zeroV] using h')] at hj; cases hj
  refine ⟨hz j v hj, hf j hj5, ⟨hpb, fun e => hne (by rw [← e]; rfl), rfl, fun hx => ?_⟩, fun hs => ?_⟩
  · have := ((free_iff hI'.cell).1 hx).2
    simp only [fld] at this
    omega
  · rcases hV with rfl | hV
    · exact hs.2.2.2 ((free_iff hI.cell).2 ⟨rfl, by simp only [fld]; omega⟩)
    · have := hs.1
      simp only [fld] at this
      omega

theorem getValue_gv {B : Nat} (cp : Addr) (V : Option Addr) (n c : Nat) (w : World) (hI : CI B w cp V n c) (hn : n ≤ 1000000) :
    Calls Tryd.prog 47 #[.pointer (some cp)] w (GV B cp n w) :=
  (getValue_calls cp V n c w hI.row hn).mono fun _ _ h => gv_of hI h

end Go.Proofs.YtfoloneeibgoiaaDoor.Fjh

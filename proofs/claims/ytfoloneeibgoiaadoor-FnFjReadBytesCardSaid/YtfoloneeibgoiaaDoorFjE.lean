/- What an object's member leaves (the end of fjObject's closure), as facts of worlds alone. -/
import Derived.Test.YtfoloneeibgoiaaDoorFjUk
set_option linter.unusedVariables false
set_option linter.unusedSimpArgs false
namespace Go.Proofs.YtfoloneeibgoiaaDoor.Fjh
open Go Go.RowKit Go.Proofs.YtfoloneeibgoiaaDoorW.PrintWords Go.Proofs.YtfoloneeibgoiaaDoor.Un Go.Proofs.YtfoloneeibgoiaaDoor.JTr Go.Proofs.YtfoloneeibgoiaaDoor.Ndr

/-- As Frame, but only of the blocks below B. -/
structure FrB (B : Nat) (X : Addr → Prop) (w w' : World) : Prop where
  os : w'.os = w.os
  tape : w'.tape = w.tape
  output : w'.output = w.output
  size : w.heap.size ≤ w'.heap.size
  block : ∀ k, k < B → (∀ x, X x → x.block ≠ k) → w'.heap[k]? = w.heap[k]?
  shape : ∀ (k : Nat) (cur : Array Value) (t : TypeId) (fr : Nat × Nat), k < B → w.heap[k]? = some (.cells cur t fr) → ∃ cur', w'.heap[k]? = some (.cells cur' t fr) ∧ cur'.size = cur.size
  cell : ∀ a, ¬ X a → a.block < B → w'.cell? a = w.cell? a
  frozen : ∀ a, a.block < B → w'.frozen? a = w.frozen? a

theorem FrB.refl (B : Nat) (X : Addr → Prop) (w : World) : FrB B X w w := ⟨rfl, rfl, rfl, Nat.le_refl _, fun _ _ _ => rfl, fun k cur t fr _ h => ⟨cur, h, rfl⟩, fun _ _ _ => rfl, fun _ _ => rfl⟩
theorem FrB.mono {B : Nat} {X Y : Addr → Prop} {w w' : World} (h : FrB B X w w') (hXY : ∀ x, X x → Y x) : FrB B Y w w' :=
  ⟨h.os, h.tape, h.output, h.size, fun k hk hy => h.block k hk (fun x hx => hy x (hXY x hx)), h.shape, fun a ha => h.cell a (fun hx => ha (hXY a hx)), h.frozen⟩
theorem FrB.trans {B : Nat} {X : Addr → Prop} {a b c : World} (h : FrB B X a b) (k : FrB B X b c) : FrB B X a c :=
  ⟨k.os.trans h.os, k.tape.trans h.tape, k.output.trans h.output, Nat.le_trans h.size k.size,
   fun i hi hx => (k.block i hi hx).trans (h.block i hi hx),
   fun i cur t fr hi hg => by
     obtain ⟨c1, g1, s1⟩ := h.shape i cur t fr hi hg
     obtain ⟨c2, g2, s2⟩ := k.shape i c1 t fr hi g1
     exact ⟨c2, g2, s2.trans s1⟩,
   fun x hx hk => (k.cell x hx hk).trans (h.cell x hx hk),
   fun x hk => (k.frozen x hk).trans (h.frozen x hk)⟩
theorem FrB.below {B : Nat} {X : Addr → Prop} {w w' : World} (h : Below B w w') : FrB B X w w' :=
  ⟨h.os, h.tape, h.output, h.size, fun k hk _ => h.block k hk, fun k cur t fr hk hg => ⟨cur, (h.block k hk).trans hg, rfl⟩, fun a _ ha => h.cell ha, fun a ha => h.frozen ha⟩
theorem FrB.frame {B : Nat} {X : Addr → Prop} {w w' : World} (h : Frame X w w') (hB : B ≤ w.heap.size) : FrB B X w w' :=
  ⟨h.os, h.tape, h.output, h.size, fun k hk hx => h.block k (Nat.lt_of_lt_of_le hk hB) hx, fun k cur t fr hk hg => h.shape k cur t fr hg, fun a ha hk => h.cell a ha (Nat.lt_of_lt_of_le hk hB), fun a hk => h.frozen a (Nat.lt_of_lt_of_le hk hB)⟩
theorem FrB.toFrame {B : Nat} {X : Addr → Prop} {w w' : World} (h : FrB B X w w') (hB : w.heap.size ≤ B) : Frame X w w' :=
  ⟨h.os, h.tape, h.output, h.size, fun k hk hx => h.block k (Nat.lt_of_lt_of_le hk hB) hx, fun k cur t fr hg => h.shape k cur t fr (Nat.lt_of_lt_of_le (by
    rcases Nat.lt_or_ge k w.heap.size with h' | h'
    · exact h'
    · rw [Array.getElem?_eq_none h'] at hg; cases hg) hB) hg, fun a ha hk => h.cell a ha (Nat.lt_of_lt_of_le hk hB), fun a hk => h.frozen a (Nat.lt_of_lt_of_le hk hB)⟩
theorem FrB.belowB {B C : Nat} {X : Addr → Prop} {w w' : World} (h : FrB B X w w') (hX : ∀ a, X a → C ≤ a.block) (hC : C ≤ B) : Below C w w' :=
  ⟨h.os, h.tape, h.output, h.size, fun k hk => h.block k (by omega) (fun x hx e => by have := hX x hx; omega)⟩
theorem FrB.le {B C : Nat} {X : Addr → Prop} {w w' : World} (h : FrB B X w w') (hC : C ≤ B) : FrB C X w w' :=
  ⟨h.os, h.tape, h.output, h.size, fun k hk hx => h.block k (Nat.lt_of_lt_of_le hk hC) hx, fun k cur t fr hk hg => h.shape k cur t fr (Nat.lt_of_lt_of_le hk hC) hg, fun a ha hk => h.cell a ha (Nat.lt_of_lt_of_le hk hC), fun a hk => h.frozen a (Nat.lt_of_lt_of_le hk hC)⟩

/-- The blocks made since 'bs0', but the two rows' own. -/
def Oown (bs0 : Nat) (w : World) (N K : Value) (k : Nat) : Prop := (bs0 ≤ k ∧ k < w.heap.size) ∧ N.ownBlock ≠ some k ∧ K.ownBlock ≠ some k

/-- What the node's object holds behind a member. -/
structure ObS (bs0 g : Nat) (w : World) (bs : List ByteArray) (ds : List (Array Value)) (N K : Value) : Prop where
  at_ : w.heap[g]? = some (.cells #[.int .i64 6, .string ⟨#[]⟩, N, K] 25 (0, 0))
  names : w.ownsRow bs0 9 1 N bs.length (bs.map Value.string)
  kids : w.ownsRow bs0 25 4 K ds.length (flat ds)
  sz : ∀ a ∈ ds, a.size = 4
  low : g < bs0
  size : bs0 ≤ w.heap.size

def ObP (g bs0 : Nat) (X : Addr → Prop) (w : World) (t : JT) (kb : ByteArray) (bs : List ByteArray) (ds : List (Array Value)) (N K : Value) (w' : World) : Prop :=
  ∃ (b : Array Value) (N' K' : Value), ObS bs0 g w' (bs ++ [kb]) (ds ++ [b]) N' K' ∧ NRep w' (Oown bs0 w' N' K') b t ∧ (∀ k, Oown bs0 w N K k → Oown bs0 w' N' K' k ∧ w'.heap[k]? = w.heap[k]?) ∧ FrB g X w w'

/-- What the last two stores leave. -/
structure EndF (g g6 bs0 : Nat) (w6 wz : World) (N K : Value) (ds : List (Array Value)) : Prop where
  os : wz.os = w6.os
  tape : wz.tape = w6.tape
  output : wz.output = w6.output
  size : wz.heap.size = w6.heap.size
  block : ∀ k, k ≠ g → k ≠ g6 → wz.heap[k]? = w6.heap[k]?
  at_ : wz.heap[g]? = some (.cells #[.int .i64 6, .string ⟨#[]⟩, N, K] 25 (0, 0))
  kids : wz.ownsRow bs0 25 4 K ds.length (flat ds)

theorem setCells_keeps {b : Nat} : ∀ (vs : List Value) (o : Nat) (w : World), (w.setCells b o vs).os = w.os ∧ (w.setCells b o vs).tape = w.tape ∧ (w.setCells b o vs).output = w.output ∧ (w.setCells b o vs).heap.size = w.heap.size ∧ ∀ k, k ≠ b → (w.setCells b o vs).heap[k]? = w.heap[k]?
  | [], _, _ => ⟨rfl, rfl, rfl, rfl, fun _ _ => rfl⟩
  | v :: vs, o, w => by
    obtain ⟨h1, h2, h3, h4, h5⟩ := setCells_keeps vs (o + 1) (w.setCell ⟨b, o, none⟩ v) (b := b)
    exact ⟨h1, h2, h3, h4.trans (by simp [World.setCell]), fun k hk => (h5 k hk).trans (Below.heap_setCell _ _ _ _ hk)⟩

/-- The last element of an owned row written anew. -/
theorem own_put {w : World} {base n c g : Nat} {e : TypeId} {xs zs ys : List Value} (h : w.ownsRow base e 4 (.slice (some ⟨g, 0, none⟩) (n + 1) c) (n + 1) (xs ++ zs)) (hx : xs.length = n * 4) (hz : zs.length = 4) (hy : ys.length = 4) :
    (w.setCells g (n * 4) ys).ownsRow base e 4 (.slice (some ⟨g, 0, none⟩) (n + 1) c) (n + 1) (xs ++ ys) := by
  obtain ⟨h1, h2⟩ := h
  rcases h2 with ⟨h3, _⟩ | ⟨g', cap, cur, hv, hb, hh, hnc, hcm, hcs, ht⟩
  · cases h3
  · injection hv with e1 e2 e3
    injection e1 with e1
    injection e1 with e1 _ _
    subst e1; subst e3
    have hle : (n + 1) * 4 ≤ c * 4 := Nat.mul_le_mul_right _ hnc
    obtain ⟨cur', k1, k2, k3⟩ := setCells_row ys (n * 4) w cur hh (by omega)
    refine ⟨by rw [List.length_append]; omega, .inr ⟨g, c, cur', rfl, hb, k1, hnc, hcm, by omega, ?_⟩⟩
    have hp : cur.toList.take (n * 4) = xs := by
      have := congrArg (List.take (n * 4)) ht
      rw [List.take_take, Nat.min_eq_left (by omega), ← hx, List.take_left] at this
      rw [← hx]; exact this
    rw [k3, hp]
    rw [show (n + 1) * 4 = (xs ++ ys).length from by rw [List.length_append]; omega, List.take_left]

theorem flat_len {ds : List (Array Value)} (h : ∀ a ∈ ds, a.size = 4) : (flat ds).length = ds.length * 4 := by
  induction ds with
  | nil => rfl
  | cons a ds ih =>
    have h1 := h a List.mem_cons_self
    have h2 := ih (fun x hx => h x (List.mem_cons_of_mem _ hx))
    show (a.toList ++ flat ds).length = _
    rw [List.length_append, h2]
    simp [h1]; omega

theorem kids_put {w6 : World} {bs0 g6 c6 : Nat} {ds : List (Array Value)} {b : Array Value} (hsz : ∀ a ∈ ds, a.size = 4) (hb : b.size = 4)
    (hrow6 : w6.ownsRow bs0 25 4 (.slice (some ⟨g6, 0, none⟩) (ds.length + 1) c6) (ds ++ [nd 0 ByteArray.empty nilS nilS]).length (flat (ds ++ [nd 0 ByteArray.empty nilS nilS]))) :
    (w6.setCells g6 (ds.length * 4) b.toList).ownsRow bs0 25 4 (.slice (some ⟨g6, 0, none⟩) (ds.length + 1) c6) (ds ++ [b]).length (flat (ds ++ [b])) := by
  have h := own_put (ys := b.toList) (zs := (nd 0 ByteArray.empty nilS nilS).toList) (xs := flat ds) (n := ds.length) (by simpa [flat_append, flat] using hrow6) (flat_len hsz) rfl (by simpa using hb)
  simpa [flat_append, flat] using h

theorem end_a {w6 : World} {g g6 bs0 c6 : Nat} {A1 AK : Option Addr} {n1 c1 cK nK : Nat} {ds : List (Array Value)} {b : Array Value} (hg6 : w6.heap[g]? = some (.cells #[.int .i64 6, .string ⟨#[]⟩, .slice A1 n1 c1, .slice AK nK cK] 25 (0, 0))) (hlow : g < bs0) (hne : g ≠ g6) (hsz : ∀ a ∈ ds, a.size = 4) (hb : b.size = 4)
    (hrow6 : w6.ownsRow bs0 25 4 (.slice (some ⟨g6, 0, none⟩) (ds.length + 1) c6) (ds ++ [nd 0 ByteArray.empty nilS nilS]).length (flat (ds ++ [nd 0 ByteArray.empty nilS nilS]))) :
    EndF g g6 bs0 w6 ((w6.setCells g6 (ds.length * 4) b.toList).setCell ⟨g, 3, none⟩ (.slice (some ⟨g6, 0, none⟩) (ds.length + 1) c6)) (.slice A1 n1 c1) (.slice (some ⟨g6, 0, none⟩) (ds.length + 1) c6) (ds ++ [b]) := by
  obtain ⟨h1, h2, h3, h4, h5⟩ := setCells_keeps b.toList (ds.length * 4) w6 (b := g6)
  exact ⟨h1, h2, h3, by simpa [World.setCell] using h4, fun k k1 k2 => (Below.heap_setCell _ _ _ _ k1).trans (h5 k k2), blk_put ((h5 g hne).trans hg6) 3 _ rfl, ownsRow_setCell_below (kids_put hsz hb hrow6) (a := ⟨g, 3, none⟩) hlow _⟩

theorem end_b {w6 : World} {g g6 bs0 c6 : Nat} {A1 AK : Option Addr} {n1 c1 cK nK : Nat} {ds : List (Array Value)} {b : Array Value} (hg6 : w6.heap[g]? = some (.cells #[.int .i64 6, .string ⟨#[]⟩, .slice A1 n1 c1, .slice AK nK cK] 25 (0, 0))) (hlow : g < bs0) (hne : g ≠ g6) (hsz : ∀ a ∈ ds, a.size = 4) (hb : b.size = 4)
    (hrow6 : w6.ownsRow bs0 25 4 (.slice (some ⟨g6, 0, none⟩) (ds.length + 1) c6) (ds ++ [nd 0 ByteArray.empty nilS nilS]).length (flat (ds ++ [nd 0 ByteArray.empty nilS nilS]))) :
    EndF g g6 bs0 w6 ((w6.setCell ⟨g, 3, none⟩ (.slice (some ⟨g6, 0, none⟩) (ds.length + 1) c6)).setCells g6 (ds.length * 4) b.toList) (.slice A1 n1 c1) (.slice (some ⟨g6, 0, none⟩) (ds.length + 1) c6) (ds ++ [b]) := by
  obtain ⟨h1, h2, h3, h4, h5⟩ := setCells_keeps b.toList (ds.length * 4) (w6.setCell ⟨g, 3, none⟩ (.slice (some ⟨g6, 0, none⟩) (ds.length + 1) c6)) (b := g6)
  exact ⟨h1, h2, h3, h4.trans (by simp [World.setCell]), fun k k1 k2 => (h5 k k2).trans (Below.heap_setCell _ _ _ _ k1), (h5 g hne).trans (blk_put hg6 3 _ rfl), kids_put hsz hb (ownsRow_setCell_below hrow6 (a := ⟨g, 3, none⟩) hlow _)⟩

theorem end_a4 {w6 : World} {g g6 bs0 c6 : Nat} {A1 AK D1 D2 : Option Addr} {n1 c1 cK nK d1 e1 d2 e2 : Nat} {kx : Int} {xx : ByteArray} {ds : List (Array Value)} (hg6 : w6.heap[g]? = some (.cells #[.int .i64 6, .string ⟨#[]⟩, .slice A1 n1 c1, .slice AK nK cK] 25 (0, 0))) (hlow : g < bs0) (hne : g ≠ g6) (hsz : ∀ a ∈ ds, a.size = 4)
    (hrow6 : w6.ownsRow bs0 25 4 (.slice (some ⟨g6, 0, none⟩) (ds.length + 1) c6) (ds ++ [nd 0 ByteArray.empty nilS nilS]).length (flat (ds ++ [nd 0 ByteArray.empty nilS nilS]))) :
    EndF g g6 bs0 w6 (((((w6.setCell ⟨g6, ds.length * 4, none⟩ (.int .i64 kx)).setCell ⟨g6, ds.length * 4 + 1, none⟩ (.string xx)).setCell ⟨g6, ds.length * 4 + 2, none⟩ (.slice D1 d1 e1)).setCell ⟨g6, ds.length * 4 + 3, none⟩ (.slice D2 d2 e2)).setCell ⟨g, 3, none⟩ (.slice (some ⟨g6, 0, none⟩) (ds.length + 1) c6)) (.slice A1 n1 c1) (.slice (some ⟨g6, 0, none⟩) (ds.length + 1) c6) (ds ++ [nd kx xx (.slice D1 d1 e1) (.slice D2 d2 e2)]) :=
  end_a (b := nd kx xx (.slice D1 d1 e1) (.slice D2 d2 e2)) hg6 hlow hne hsz rfl hrow6
theorem end_b4 {w6 : World} {g g6 bs0 c6 : Nat} {A1 AK D1 D2 : Option Addr} {n1 c1 cK nK d1 e1 d2 e2 : Nat} {kx : Int} {xx : ByteArray} {ds : List (Array Value)} (hg6 : w6.heap[g]? = some (.cells #[.int .i64 6, .string ⟨#[]⟩, .slice A1 n1 c1, .slice AK nK cK] 25 (0, 0))) (hlow : g < bs0) (hne : g ≠ g6) (hsz : ∀ a ∈ ds, a.size = 4)
    (hrow6 : w6.ownsRow bs0 25 4 (.slice (some ⟨g6, 0, none⟩) (ds.length + 1) c6) (ds ++ [nd 0 ByteArray.empty nilS nilS]).length (flat (ds ++ [nd 0 ByteArray.empty nilS nilS]))) :
    EndF g g6 bs0 w6 (((((w6.setCell ⟨g, 3, none⟩ (.slice (some ⟨g6, 0, none⟩) (ds.length + 1) c6)).setCell ⟨g6, ds.length * 4, none⟩ (.int .i64 kx)).setCell ⟨g6, ds.length * 4 + 1, none⟩ (.string xx)).setCell ⟨g6, ds.length * 4 + 2, none⟩ (.slice D1 d1 e1)).setCell ⟨g6, ds.length * 4 + 3, none⟩ (.slice D2 d2 e2)) (.slice A1 n1 c1) (.slice (some ⟨g6, 0, none⟩) (ds.length + 1) c6) (ds ++ [nd kx xx (.slice D1 d1 e1) (.slice D2 d2 e2)]) :=
  end_b (b := nd kx xx (.slice D1 d1 e1) (.slice D2 d2 e2)) hg6 hlow hne hsz rfl hrow6

theorem FrB.grown {B bs0 : Nat} {X : Addr → Prop} {w w' : World} {v : Value} (h : w.grownBy w' v.ownBlock) (hv : ∀ k, v.ownBlock = some k → B ≤ k) (hw : B ≤ w.heap.size) : FrB B X w w' := by
  have hb : Below B w w' := ⟨h.os, h.tape, h.output, h.size, fun k hk => h.block k (Nat.lt_of_lt_of_le hk hw) (fun e => by have := hv k e.symm; omega)⟩
  exact FrB.below hb

/-- Two rows of different elements lie in different blocks. -/
theorem rows_ne {w : World} {b1 b2 n1 n2 s1 s2 : Nat} {e1 e2 : TypeId} {v1 v2 : Value} {xs ys : List Value} (h1 : w.ownsRow b1 e1 s1 v1 n1 xs) (h2 : w.ownsRow b2 e2 s2 v2 n2 ys) (he : e1 ≠ e2) {k : Nat} (hk1 : v1.ownBlock = some k) (hk2 : v2.ownBlock = some k) : False := by
  rcases h1.2 with ⟨rfl, _⟩ | ⟨g, cap, cur, rfl, _, hg, _⟩
  · cases hk1
  · rcases h2.2 with ⟨rfl, _⟩ | ⟨g', cap', cur', rfl, _, hg', _⟩
    · cases hk2
    · simp only [Value.ownBlock, Option.some.injEq] at hk1 hk2
      subst hk1; subst hk2
      rw [hg] at hg'
      injection hg' with hg'
      injection hg' with _ h _
      exact he h

theorem ob_fin {g g6 bs0 c6 : Nat} {X : Addr → Prop} {w w1 wB w5 w6 wz : World} {t : JT} {kb : ByteArray} {bs : List ByteArray} {ds : List (Array Value)} {b : Array Value} {N K N1 : Value}
    (hX : ∀ x, X x → x.block < g) (HG : g < bs0 ∧ bs0 ≤ w.heap.size) (hN : w.ownsRow bs0 9 1 N bs.length (bs.map Value.string)) (hK : w.ownsRow bs0 25 4 K ds.length (flat ds)) (hsz : ∀ a ∈ ds, a.size = 4)
    (row1 : w1.ownsRow bs0 9 1 N1 (bs.length + 1) (bs.map Value.string ++ [.string kb])) (bel1 : Below bs0 w w1) (gr1 : w.grownBy w1 N.ownBlock) (hat1 : N1.ownBlock = N.ownBlock ∨ ∃ c, N1.ownBlock = some c ∧ w.heap.size ≤ c)
    (hB : ∀ k, k < w1.heap.size → k ≠ g → wB.heap[k]? = w1.heap[k]?) (sB : w1.heap.size ≤ wB.heap.size) (oB : Below g w wB)
    (f5 : Frame X wB w5) (hN5 : NRep w5 (Btw wB w5) b t) (gr6 : w5.grownBy w6 K.ownBlock) (hat6 : some g6 = K.ownBlock ∨ w5.heap.size ≤ g6)
    (E : EndF g g6 bs0 w6 wz N1 (.slice (some ⟨g6, 0, none⟩) (ds.length + 1) c6) (ds ++ [b])) : ObP g bs0 X w t kb bs ds N K wz := by
  have hb4 : b.size = 4 := by
    obtain ⟨k, x, A1, A2, n1, c1, n2, c2, h⟩ := hN5.form
    rw [h]; rfl
  have eK : (Value.slice (some ⟨g6, 0, none⟩) (ds.length + 1) c6).ownBlock = some g6 := rfl
  have hKb : ∀ k, K.ownBlock = some k → bs0 ≤ k ∧ k < w.heap.size := fun k h => hK.lt k h
  have hNb : ∀ k, N1.ownBlock = some k → bs0 ≤ k ∧ k < w1.heap.size := fun k h => row1.lt k h
  have hw1 := bel1.size
  have h5 := f5.size
  have h6 := gr6.size
  have hz := E.size
  have hNK : ∀ k, N1.ownBlock = some k → K.ownBlock = some k → False := by
    intro k h1 h2
    have hk1 : w1.ownsRow bs0 25 4 K ds.length (flat ds) := own_keep hK (fun j hj => gr1.block j (hKb j hj).2 (fun e => rows_ne hN hK (by decide) e.symm hj))
    exact rows_ne row1 hk1 (by decide) h1 h2
  have hN6 : ∀ k, N1.ownBlock = some k → k ≠ g6 := by
    intro k h1 e
    subst e
    rcases hat6 with h | h
    · exact hNK k h1 h.symm
    · have := (hNb k h1).2; omega
  have hNz : wz.ownsRow bs0 9 1 N1 (bs.length + 1) (bs.map Value.string ++ [.string kb]) := by
    refine own_keep row1 (fun k h1 => ?_)
    have k1 := hNb k h1
    have hkg : k ≠ g := by omega
    exact (((E.block k hkg (hN6 k h1)).trans (gr6.block k (by omega) (fun e => hNK k h1 e.symm))).trans (f5.block k (by omega) (fun x hx e => by have := hX x hx; omega))).trans (hB k k1.2 hkg)
  refine ⟨b, N1, _, ⟨E.at_, by simpa using hNz, E.kids, fun a ha => ?_, HG.1, by omega⟩, hN5.mono (fun k hk => ?_), fun k hk => ?_, ?_⟩
  · rcases List.mem_append.mp ha with h | h
    · exact hsz a h
    · simp only [List.mem_singleton] at h; rw [h]; exact hb4
  · obtain ⟨k1, k2⟩ := hk
    have hkg : k ≠ g := by omega
    have hkn : N1.ownBlock ≠ some k := fun e => by have := (hNb k e).2; omega
    have hkK : K.ownBlock ≠ some k := fun e => by have := (hKb k e).2; omega
    have hk6 : k ≠ g6 := by
      rcases hat6 with h | h
      · intro e; subst e; exact hkK h.symm
      · omega
    exact ⟨⟨⟨by omega, by omega⟩, hkn, fun e => by rw [eK] at e; injection e with e; exact hk6 e.symm⟩, (E.block k hkg hk6).trans (gr6.block k (by omega) (fun e => hkK e.symm))⟩
  · obtain ⟨⟨k1, k2⟩, k3, k4⟩ := hk
    have hkg : k ≠ g := by omega
    have hk6 : k ≠ g6 := by
      rcases hat6 with h | h
      · intro e; subst e; exact k4 h.symm
      · omega
    refine ⟨⟨⟨k1, by omega⟩, fun e => ?_, fun e => by rw [eK] at e; injection e with e; exact hk6 e.symm⟩, ?_⟩
    · rcases hat1 with h | ⟨c, h, hc⟩
      · exact k3 (h ▸ e)
      · rw [h] at e; injection e with e; omega
    · exact ((((E.block k hkg hk6).trans (gr6.block k (by omega) (fun e => k4 e.symm))).trans (f5.block k (by omega) (fun x hx e => by have := hX x hx; omega))).trans (hB k (by omega) hkg)).trans (gr1.block k k2 (fun e => k3 e.symm))
  · have f6 : FrB g X w5 w6 := FrB.grown (bs0 := bs0) gr6 (fun k hk => by have := (hKb k hk).1; omega) (by have := oB.size; omega)
    have fz : FrB g X w6 wz := FrB.below ⟨E.os, E.tape, E.output, by omega, fun k hk => E.block k (by omega) (fun e => by
      rcases hat6 with h | h
      · have := (hKb g6 h.symm).1; omega
      · have := oB.size; omega)⟩
    exact (((FrB.below oB).trans (FrB.frame f5 (by have := oB.size; omega))).trans f6).trans fz

end Go.Proofs.YtfoloneeibgoiaaDoor.Fjh

/- The thin package's walk over a value (fjNode): an object's member (fjObject's closure). -/
set_option linter.unusedVariables false
set_option linter.unusedSimpArgs false
namespace Go.Proofs.YtfoloneeibgoiaaDoor.Fjh
open Go Go.RowKit Go.Proofs.YtfoloneeibgoiaaDoorW.PrintWords Go.Proofs.YtfoloneeibgoiaaDoorW.PrintLast Go.Proofs.YtfoloneeibgoiaaDoorW.PrintMore Go.Proofs.YtfoloneeibgoiaaDoor.Un Go.Proofs.YtfoloneeibgoiaaDoor.JTr Go.Proofs.YtfoloneeibgoiaaDoor.Ndr
open Go.Proofs.YtfoloneeibgoiaaDoor.PFnFjReadBytes (Laid)

section
variable {P : Program} {md : Region.Mode} {ops : Array Oper} {Q : Exit → Act → World → Prop} {S : World → Prop} {ds : List Nat}
/-- Two operations that come up together, behind both of which nothing more is shown. -/
theorem two_last_ {i j : Nat} {Ni Nj : Option Tmp} {oi oj : Oper} {fuel : Nat} {l : Array Bool} {a : Act} {w : World} (li lj : Array Bool) (hi : ops[i]? = some oi) (hj : ops[j]? = some oj) (hNi : oi.dst = Ni) (hNj : oj.dst = Nj)
    (hc : (Region.ready md ops l == [i, j] && l.setIfInBounds i true == li && l.setIfInBounds j true == lj) = true) (hdi : i ∈ ds) (hdj : j ∈ ds)
    (h1 : ∀ K : Act → World → Prop, Shut (∀ a' w', wpAnyLast P md ops Q S ds fuel li a' w' → K a' w') → if Region.wanted oi (yielded ops a.tmps) = true then Oper.wp P oi a w K Q else K (a.put Ni undef) w)
    (h2 : ∀ K : Act → World → Prop, Shut (∀ a' w', wpAnyLast P md ops Q S ds fuel lj a' w' → K a' w') → if Region.wanted oj (yielded ops a.tmps) = true then Oper.wp P oj a w K Q else K (a.put Nj undef) w) :
    wpAnyLast P md ops Q S ds (fuel + 1) l a w := by
  subst hNi
  subst hNj
  simp only [Bool.and_eq_true, beq_iff_eq] at hc
  obtain ⟨⟨h3, h4⟩, h5⟩ := hc
  subst h4
  subst h5
  exact wpAnyLast_ready h3 (by simp) (AllReadyL.cons_last hi hdi (fun K hK => h1 K hK) (AllReadyL.cons_last hj hdj (fun K hK => h2 K hK) AllReadyL.nil))
end

def Ob1_T : Bool × List (List Nat × List Nat) := (true, [([], []), ([0], [0]), ([], []), ([2], [2]), ([1], [1]), ([], []), ([1, 5, 3, 0, 1, 2, 3, 4, 5], [1, 5]), ([6, 4, 0, 1, 2, 3, 4, 5, 6], [4, 6]), ([7, 3, 6, 0, 1, 2, 3, 4, 5, 6], [3, 7]), ([0, 1, 2, 3, 4, 5, 6], []), ([9, 6, 6, 0, 1, 2, 3, 4, 5, 6], [6, 9])])
def Ob1_B : List Nat := [0, 1, 0, 4, 3, 0, 63, 127, 255, 127, 639]
theorem Ob1_tab : rtab .any (opsOf Tryd.f54 1) = Ob1_T := by kernel_rfl
theorem Ob1_bits : waitsOk Ob1_T.2 Ob1_B = true := by kernel_rfl
theorem infoSt : (Tryd.prog.info? 9).map (fun i => (i.zero, i.size, i.bytes)) = some (some (.string ByteArray.empty), 1, 16) := by kernel_rfl

section
variable {P : Program} {ops : Array Oper} {o : Oper} {a : Act} {Q : Exit → Act → World → Prop} {Kc : Act → World → Prop}
/-- append of one element (of 'size' cells) as a step of a region that draws. -/
theorem append_cells_step {W : World} (base : Nat) (hw : Region.wanted o (yielded ops a.tmps) = true) (s x : Operand) (t e : TypeId) (z : Value) (size bytes : Nat)
    (ho : o.op = .call { callee := .builtin .append, args := #[s, x], argTypes := #[t, t] })
    (ht : P.underlying t = some (.slice e)) (hinfo : (P.info? e).map (fun i => (i.zero, i.size, i.bytes)) = some (some z, size, bytes)) (hz : z.cells.size = size) (hs0 : 0 < size) (hb0 : 0 < bytes)
    (v : Value) (n : Nat) (xs ys : List Value) (hs : a.eval s = v) (hx : a.eval x = .slice (some ⟨W.heap.size, 0, none⟩) 1 1) (hys : ys.length = size) (h1 : ∀ u ∈ ys, u.oneCell' = true)
    (HO : W.ownsRow base e size v n xs) (hbase : base ≤ W.heap.size) (hl : (n + 1) * bytes ≤ 140737488355328)
    (h : ∀ v1 w1, w1.ownsRow base e size v1 (n + 1) (xs ++ ys) → W.grownBy w1 v.ownBlock → (v1.ownBlock = v.ownBlock ∨ ∃ b, v1.ownBlock = some b ∧ W.heap.size ≤ b) → Kc (a.put o.dst v1) w1) :
    if Region.wanted o (yielded ops a.tmps) = true then Oper.wp P o a (W.alloc (.cells ys.toArray e)) Kc Q else Kc (a.put o.dst undef) (W.alloc (.cells ys.toArray e)) := by
  obtain ⟨i0, hi, hzz⟩ := Option.map_eq_some_iff.1 hinfo
  simp only [Prod.mk.injEq] at hzz
  obtain ⟨hz0, hz1, hz2⟩ := hzz
  have hlen : n + 1 ≤ 140737488355328 := Nat.le_trans (Nat.le_mul_of_pos_right _ hb0) hl
  obtain ⟨v1, w1, hr, h2, h3, h4, h5⟩ := run_append_own_at (P := P) (W.alloc (.cells ys.toArray e)) base t o.type e i0 z size bytes ht hi hz0 hz1 hz2 hz hs0 v n xs (HO.alloc _) ⟨W.heap.size, 0, none⟩ 1 1 ys (by rw [hys]; simp)
    (by simpa using World.news_of_block (cs := ys.toArray) (t := e) (fr := (0, 0)) (heap_alloc_new W (.cells ys.toArray e))) h1 (by simp only [maxLen]; omega) hl (by simp; omega)
  rw [if_pos hw]
  unfold Oper.wp execOp
  simp only [ho, resolve, invoke, builtin, Sem.run_bind, Sem.run_pure, Result.andThen_ok, List.map_toArray, List.map_cons, List.map_nil, hs, hx, hr]
  refine h _ _ h2 (World.grownBy.trans (World.grownBy_alloc W _ _) h3) ?_
  rcases h5 with h5 | h5
  · exact .inl h5
  · exact .inr ⟨_, h5, by simp⟩
theorem append_at_step {W : World} (base : Nat) (hw : Region.wanted o (yielded ops a.tmps) = true) (s x : Operand) (t e : TypeId) (z : Value) (size bytes : Nat)
    (ho : o.op = .call { callee := .builtin .append, args := #[s, x], argTypes := #[t, t] })
    (ht : P.underlying t = some (.slice e)) (hinfo : (P.info? e).map (fun i => (i.zero, i.size, i.bytes)) = some (some z, size, bytes)) (hz : z.cells.size = size) (hs0 : 0 < size) (hb0 : 0 < bytes)
    (v : Value) (n : Nat) (xs ys : List Value) (gz : Nat) (hs : a.eval s = v) (hx : a.eval x = .slice (some ⟨gz, 0, none⟩) 1 1) (hys : ys.length = size) (hnews : ∀ j u, ys[j]? = some u → W.cell? ((⟨gz, 0, none⟩ : Addr).add j) = some u) (h1 : ∀ u ∈ ys, u.oneCell' = true)
    (HO : W.ownsRow base e size v n xs) (hbase : base ≤ W.heap.size) (hl : (n + 1) * bytes ≤ 140737488355328)
    (h : ∀ v1 w1, w1.ownsRow base e size v1 (n + 1) (xs ++ ys) → W.grownBy w1 v.ownBlock → (v1.ownBlock = v.ownBlock ∨ ∃ b, v1.ownBlock = some b ∧ W.heap.size ≤ b) → Kc (a.put o.dst v1) w1) :
    if Region.wanted o (yielded ops a.tmps) = true then Oper.wp P o a W Kc Q else Kc (a.put o.dst undef) W := by
  obtain ⟨i0, hi, hzz⟩ := Option.map_eq_some_iff.1 hinfo
  simp only [Prod.mk.injEq] at hzz
  obtain ⟨hz0, hz1, hz2⟩ := hzz
  have hlen : n + 1 ≤ 140737488355328 := Nat.le_trans (Nat.le_mul_of_pos_right _ hb0) hl
  obtain ⟨v1, w1, hr, h2, h3, h4, h5⟩ := run_append_own_at (P := P) W base t o.type e i0 z size bytes ht hi hz0 hz1 hz2 hz hs0 v n xs HO ⟨gz, 0, none⟩ 1 1 ys (by rw [hys]; simp) hnews h1 (by simp only [maxLen]; omega) hl hbase
  rw [if_pos hw]
  unfold Oper.wp execOp
  simp only [ho, resolve, invoke, builtin, Sem.run_bind, Sem.run_pure, Result.andThen_ok, List.map_toArray, List.map_cons, List.map_nil, hs, hx, hr]
  refine h _ _ h2 h3 ?_
  rcases h5 with h5 | h5
  · exact .inl h5
  · exact .inr ⟨_, h5, Nat.le_refl _⟩
end

set_option maxRecDepth 100000 in
set_option maxHeartbeats 8000000 in
theorem ob_one {bs0 g base : Nat} {w : World} {v : Value} {kb : ByteArray} {q : Addr} {AN AK : Option Addr} {nN cN nK cK : Nat} {bs : List ByteArray} {ds : List (Array Value)} {X : Addr → Prop} {t : JT}
    (hX : ∀ x, X x → x.block < g) (HCC : ∀ w2, (∀ k, k < bs0 → k ≠ g → w2.heap[k]? = w.heap[k]?) → Below g w w2 → Calls Tryd.prog 17 #[.pointer (some q)] w2 (NdP X w2 t))
    (hg : w.heap[g]? = some (.cells #[.int .i64 6, .string ⟨#[]⟩, .slice AN nN cN, .slice AK nK cK] 25 (0, 0))) (hgb : g < bs0) (hbw : bs0 ≤ w.heap.size) (hv : BR w base v (bytesOf kb))
    (hN : w.ownsRow bs0 9 1 (.slice AN nN cN) bs.length (bs.map Value.string)) (hK : w.ownsRow bs0 25 4 (.slice AK nK cK) ds.length (flat ds)) (hn : bs.length ≤ 1000000000) (hd : ds.length ≤ 1000000000) (hsz : ∀ a ∈ ds, a.size = 4) :
    Calls Tryd.prog 54 #[v, .pointer (some q), .pointer (some ⟨g, 0, none⟩)] w (fun e w' => e = .returned (.tuple #[]) ∧ ObP g bs0 X w t kb bs ds (.slice AN nN cN) (.slice AK nK cK) w') := by
  obtain rfl : nK = ds.length := row_len hK
  have hcv := br_string (P := Tryd.prog) (dst := 9) Tryd.underlying34 Tryd.underlying5 Tryd.underlying9 hv
  rw [show strOfNums (bytesOf kb) = kb from StrL.strOfNums_ints kb] at hcv
  obtain ⟨gv, cv, rfl, -, -, -⟩ := hv.form
  have HG := Lib.hid hg
  have HGB := Lib.hid (And.intro hgb hbw)
  have HN := Lib.hid hN
  have HK := Lib.hid hK
  have HL := Lib.hid (And.intro hn hd)
  obtain ⟨q0, q1, q2, q3⟩ := four hg
  obtain ⟨f0, f1, f2, f3⟩ := four_f hg
  have HSZ0 := Lib.hid (show ∀ a ∈ ds ++ [nd 0 ByteArray.empty nilS nilS], a.size = 4 from fun a ha => by rcases List.mem_append.mp ha with h | h; exact hsz a h; simp only [List.mem_singleton] at h; rw [h]; rfl)
  have hsz0 := hsz
  clear hsz
  have HX := Lib.hid (show ∀ x, X x → x.block < bs0 ∧ x.block ≠ g from fun x hx => by have h1 := hX x hx; exact ⟨by omega, by omega⟩)
  have HXL := Lib.hid hX
  have HSZD := Lib.hid hsz0
  have HC0 := Lib.hid HCC
  clear hg hgb hbw hv hN hK hn hd hX HCC hsz0
  go_enter Tryd.func54, Tryd.ntmps54
  go_upto_region 1 with (first
    | (at_builtin; refine print_append_cells (w0 := w) bs0 rfl (.tmp 6) (.tmp 9) 22 9 (.string ByteArray.empty) 1 16 rfl Tryd.underlying22 infoSt rfl (by omega) (by omega) (.slice AN nN cN) bs.length (bs.map Value.string) [.string kb] rfl rfl rfl (by simp [Value.oneCell']) HN.out (Below.refl _ _) HGB.out.2 (by have := HL.out; omega) ?_; intro v1 w1 row1 bel1 gr1 hat1; obtain ⟨A1, n1, c1, rfl⟩ := row_form row1; have HN1 := Lib.hid row1; have BEL1 := Lib.hid bel1; have HGR := Lib.hid gr1; have HAT1 := Lib.hid hat1; have hg1 := (bel1.block g HGB.out.1).trans HG.out; obtain ⟨x0, x1, x2, x3⟩ := four hg1; obtain ⟨y0, y1, y2, y3⟩ := four_f hg1; have HG1 := Lib.hid hg1; clear row1 bel1 gr1 hat1 hg1))
  have hgA : (w1.setCell ⟨g, 2, none⟩ (.slice A1 n1 c1)).heap[g]? = some (.cells #[.int .i64 6, .string ⟨#[]⟩, .slice A1 n1 c1, .slice AK ds.length cK] 25 (0, 0)) := blk_put HG1.out 2 _ rfl
  have hNA := ownsRow_setCell_below HN1.out (a := ⟨g, 2, none⟩) HGB.out.1 (.slice A1 n1 c1)
  have hKA := ownsRow_setCell_below (own_keep HK.out (fun k hk => HGR.out.block k (HK.out.lt k hk).2 (fun e => rows_ne HN.out HK.out (by decide) e.symm hk))) (a := ⟨g, 2, none⟩) HGB.out.1 (.slice A1 n1 c1)
  have hbA : Below g w (w1.setCell ⟨g, 2, none⟩ (.slice A1 n1 c1)) := (BEL1.out.mono (Nat.le_of_lt HGB.out.1)).setCell (Nat.le_refl _) _
  have hkA : ∀ k, k < bs0 → k ≠ g → (w1.setCell ⟨g, 2, none⟩ (.slice A1 n1 c1)).heap[k]? = w.heap[k]? := fun k h1 h2 => (Below.heap_setCell _ _ _ k h2).trans (BEL1.out.block k h1)
  have hkB : ∀ k, k ≠ g → (w1.setCell ⟨g, 2, none⟩ (.slice A1 n1 c1)).heap[k]? = w1.heap[k]? := fun k hk => Below.heap_setCell _ _ _ k hk
  have hsB : (w1.setCell ⟨g, 2, none⟩ (.slice A1 n1 c1)).heap.size = w1.heap.size := by simp [World.setCell]
  generalize hwA : w1.setCell ⟨g, 2, none⟩ (.slice A1 n1 c1) = wA at hgA hNA hKA hbA hkA hkB hsB ⊢
  have HCA := Lib.hid (HC0.out wA.drew hkA hbA.drew)
  have HGA := Lib.hid hgA
  have HNA := Lib.hid hNA
  have HKA := Lib.hid hKA
  have HBA := Lib.hid hbA
  have HKK := Lib.hid hkA
  have HKB := Lib.hid (And.intro hkB hsB)
  have HSA := Lib.hid (show w.heap.size ≤ wA.heap.size from by have := BEL1.out.size; rw [← hwA]; simpa [World.setCell] using this)
  clear hNA hKA hbA hkA hkB hsB
  have c3 : wA.drew.cell? ⟨g, 3, none⟩ = some (.slice AK ds.length cK) := blk_cell hgA 3
  refine start_ (n := 11) (S := fun w' => w'.cell? ⟨g, 3, none⟩ = some (.slice AK ds.length cK)) (ds := [8, 10]) #[false, false, false, false, false, false, false, false, false, false, false] (by kernel_rfl) rfl rfl c3 (fun hHeld => ?_); refine with_tabW Ob1_tab Ob1_bits (fun HT_ HW_ => ?_)
  refine pure_ (i := 0) (N := some 12) (v := ?_) (a' := ?_) #[true, false, false, false, false, false, false, false, false, false, false] rfl rfl (any_of HT_.out (by kernel_rfl)) (fun _ _ _ h => h) (Or.inl ⟨by rfl, ?_⟩) ?_ ?_
  rotate_left
  · intro w'
    go_simp
    with_reducible rfl
  rotate_left
  · simp only [Act.put, List.setIfInBounds_toArray, List.set_cons_zero, List.set_cons_succ, i64_w, i32_w]
    rfl
  refine pure_ (i := 2) (N := some 14) (v := ?_) (a' := ?_) #[true, false, true, false, false, false, false, false, false, false, false] rfl rfl (any_of HT_.out (by kernel_rfl)) (fun _ _ _ h => h) (Or.inl ⟨by rfl, ?_⟩) ?_ ?_
  rotate_left
  · intro w'
    go_simp
    with_reducible rfl
  rotate_left
  · simp only [Act.put, List.setIfInBounds_toArray, List.set_cons_zero, List.set_cons_succ, i64_w, i32_w]
    rfl
  refine take_ (i := 1) (N := some 13) (v := ?_) (a' := ?_) #[true, true, true, false, false, false, false, false, false, false, false] rfl rfl (take_ofW HT_.out HW_.out (by kernel_rfl)) (fun _ _ _ h => h) (Or.inl ⟨by rfl, ?_⟩) hHeld ?_ ?_
  rotate_left
  · rintro w' s0
    go_simp
    with_reducible rfl
  rotate_left
  · simp only [Act.put, List.setIfInBounds_toArray, List.set_cons_zero, List.set_cons_succ, i64_w, i32_w]
    rfl
  refine pure_ (i := 4) (N := some 16) (v := ?_) (a' := ?_) #[true, true, true, false, true, false, false, false, false, false, false] rfl rfl (any_of HT_.out (by kernel_rfl)) (fun _ _ _ h => h) (Or.inl ⟨by rfl, ?_⟩) ?_ ?_
  rotate_left
  · intro w'
    go_simp
    with_reducible rfl
  rotate_left
  · simp only [Act.put, List.setIfInBounds_toArray, List.set_cons_zero, List.set_cons_succ, i64_w, i32_w]
    rfl
  refine two_ (i := 3) (j := 5) (Ni := some 15) (Nj := some 17) #[true, true, true, true, true, false, false, false, false, false, false] #[true, true, true, false, true, true, false, false, false, false, false] rfl rfl rfl rfl (by kernel_rfl) (by decide) (by decide) (fun K hK => ?_) (fun K hK => ?_)
  · refine goes_ Tryd.func17 (by kernel_rfl) rfl #[.pointer (some q)] (by rfl) rfl rfl (by (try simp only [List.map_toArray, List.map_cons, List.map_nil]); first | done | rfl) ?_
    refine HCA.out.mono ?_
    rintro e w5 ⟨b5, rfl, hN5, hf5⟩
    refine ⟨_, rfl, ?_⟩
    obtain ⟨kx, xx, D1, D2, d1, e1, d2, e2, rfl⟩ := hN5.form
    have hb5 : ∀ k, k < wA.heap.size → (∀ x, X x → x.block ≠ k) → w5.heap[k]? = wA.heap[k]? := hf5.block
    have hg5 := (hb5 g (blk_lt HGA.out) (fun x hx => (HX.out x hx).2)).trans HGA.out
    have hN5r := own_keep HNA.out (fun k hk => hb5 k (HNA.out.lt k hk).2 (fun x hx e => by have h1 := (HX.out x hx).1; have h2 := (HNA.out.lt k hk).1; omega))
    have hK5r := own_keep HKA.out (fun k hk => hb5 k (HKA.out.lt k hk).2 (fun x hx e => by have h1 := (HX.out x hx).1; have h2 := (HKA.out.lt k hk).1; omega))
    have c35 : w5.cell? ⟨g, 3, none⟩ = some (.slice AK ds.length cK) := blk_cell hg5 3
    refine hK.out _ _ c35 (fun hHeld => ?_)
    clear hK K
    refine norm_ (a' := ?_) ?_ ?_
    rotate_left
    · show Act.put _ (some 15) _ = _
      simp only [Act.put, List.setIfInBounds_toArray, List.set_cons_zero, List.set_cons_succ, i64_w, i32_w]
      rfl
    refine one_ (i := 5) (N := some 17) #[true, true, true, true, true, true, false, false, false, false, false] rfl rfl (one_of HT_.out (by kernel_rfl)) (by decide) (fun K hK => ?_)
    refine value_ (w1 := ?_) (v := ?_) (by rfl) rfl ?_ ?_
    rotate_left 2
    · go_simp
      constructor
      · rfl
      · rfl
    refine hK.out _ _ ((World.cell?_alloc_lt _ _ _ (World.block_lt_of_cell? _ _ c35)).trans c35) (fun hHeld => ?_)
    clear hK K
    refine norm_ (a' := ?_) ?_ ?_
    rotate_left
    · show Act.put _ (some 17) _ = _
      simp only [Act.put, List.setIfInBounds_toArray, List.set_cons_zero, List.set_cons_succ, i64_w, i32_w]
      rfl
    refine one_ (i := 6) (N := some 18) #[true, true, true, true, true, true, true, false, false, false, false] rfl rfl (one_of HT_.out (by kernel_rfl)) (by decide) (fun K hK => ?_)
    refine append_cells_step bs0 rfl (.tmp 13) (.tmp 17) 23 25 (.agg (nd 0 ByteArray.empty nilS nilS)) 4 72 rfl Tryd.underlying23 infoNd rfl (by omega) (by omega) (.slice AK ds.length cK) ds.length (flat ds) (nd 0 ByteArray.empty nilS nilS).toList rfl rfl rfl (by simp [nd, Value.oneCell']) hK5r (Nat.le_trans HGB.out.2 (Nat.le_trans (by have := BEL1.out.size; rw [← hwA]; simpa [World.setCell] using this) hf5.size)) (by have := HL.out; omega) ?_
    intro v6 w6 row6 gr6 hat6
    obtain ⟨g6, c6, rfl, hg6b, hg6l⟩ := row6.form (by omega)
    have hg6 := (gr6.block g (blk_lt hg5) (fun e => by have h1 := (HKA.out.lt g e.symm).1; have h2 := HGB.out.1; omega)).trans hg5
    refine hK.out _ _ (blk_cell hg6 3) (fun hHeld => ?_)
    clear hK K
    refine norm_ (a' := ?_) ?_ ?_
    rotate_left
    · show Act.put _ (some 18) _ = _
      simp only [Act.put, List.setIfInBounds_toArray, List.set_cons_zero, List.set_cons_succ, i64_w, i32_w]
      rfl
    have i0 : (0 : Int) ≤ (ds.length : Int) := by omega
    have i1 : (ds.length : Int) < ((ds.length + 1 : Nat) : Int) := by omega
    have i2 : (ds.length : Int) < (ds.length : Int) + 1 := by omega
    refine pure_ (i := 7) (N := some 19) (v := ?_) (a' := ?_) #[true, true, true, true, true, true, true, true, false, false, false] rfl rfl (any_of HT_.out (by kernel_rfl)) (fun _ _ _ h => h) (Or.inl ⟨by rfl, ?_⟩) ?_ ?_
    rotate_left
    · intro w'
      go_simp
      with_reducible rfl
    rotate_left
    · simp only [Act.put, List.setIfInBounds_toArray, List.set_cons_zero, List.set_cons_succ, i64_w, i32_w]
      rfl
    refine pure_ (i := 9) (N := some 20) (v := ?_) (a' := ?_) #[true, true, true, true, true, true, true, true, false, true, false] rfl rfl (any_of HT_.out (by kernel_rfl)) (fun _ _ _ h => h) (Or.inl ⟨by rfl, ?_⟩) ?_ ?_
    rotate_left
    · intro w'
      go_simp
      with_reducible rfl
    rotate_left
    · simp only [Act.put, List.setIfInBounds_toArray, List.set_cons_zero, List.set_cons_succ, i64_w, i32_w]
      rfl
    have hrow6 : w6.ownsRow bs0 25 4 (.slice (some ⟨g6, 0, none⟩) (ds.length + 1) c6) (ds ++ [nd 0 ByteArray.empty nilS nilS]).length (flat (ds ++ [nd 0 ByteArray.empty nilS nilS])) := by simpa [flat_append, flat] using row6
    obtain ⟨cur6, hh6⟩ : ∃ cur6, w6.heap[g6]? = some (.cells cur6 25 (0, 0)) := by
      rcases row6.2 with ⟨h, _⟩ | ⟨g', cap, cur, hv, _, hh, _⟩
      · cases h
      · injection hv with e1 _ _
        injection e1 with e1
        injection e1 with e1 _ _
        subst e1
        exact ⟨cur, hh⟩
    have HSZ := Lib.hid (show ∀ a ∈ ds ++ [nd 0 ByteArray.empty nilS nilS], a.size = 4 from HSZ0.out)
    obtain ⟨g6', hg6', -, -, hc6⟩ := el_cell hrow6 HSZ.out (i := ds.length) (a := nd 0 ByteArray.empty nilS nilS) (by simp)
    obtain rfl : g6' = g6 := by injection hg6' with h; injection h with h _ _; exact h.symm
    have z0 := hc6 0 (by omega)
    have z1 := hc6 1 (by omega)
    have z2 := hc6 2 (by omega)
    have z3 := hc6 3 (by omega)
    rw [Nat.add_zero] at z0
    simp only [List.getElem?_toArray, List.size_toArray] at z0 z1 z2 z3
    have u0 := blk_frozen hh6 (ds.length * 4)
    have u1 := blk_frozen hh6 (ds.length * 4 + 1)
    have u2 := blk_frozen hh6 (ds.length * 4 + 2)
    have u3 := blk_frozen hh6 (ds.length * 4 + 3)
    have x3 := blk_cell hg6 3
    have y3 := blk_frozen hg6 3
    have ne1 : g ≠ g6' := by have := HGB.out.1; omega
    have ne2 := ne1.symm
    refine two_last_ (i := 8) (j := 10) (Ni := none) (Nj := none) #[true, true, true, true, true, true, true, true, true, true, false] #[true, true, true, true, true, true, true, true, false, true, true] rfl rfl rfl rfl (by kernel_rfl) (by decide) (by decide) (fun K hK => ?_) (fun K hK => ?_)
    · refine skip_ (w1 := ?_) (by rfl) rfl ?_ ?_
      rotate_left
      · go_simp
        rfl
      refine hK.out _ _ ?_
      clear hK K
      refine last_ (i := 10) (N := none) #[true, true, true, true, true, true, true, true, true, true, true] rfl rfl (one_of HT_.out (by kernel_rfl)) (by decide) (fun K hK => ?_)
      refine skip_ (w1 := ?_) (by rfl) rfl ?_ ?_
      rotate_left
      · go_simp
        rfl
      refine hK.out _ _ ?_
      clear hK K
      refine done_ (done_of HT_.out (by kernel_rfl)) ?_
      try go_wp2
      refine Go.Great.bodyPost_end0 rfl rfl ?_
      have hE := end_a4 (kx := kx) (xx := xx) (D1 := D1) (d1 := d1) (e1 := e1) (D2 := D2) (d2 := d2) (e2 := e2) hg6 HGB.out.1 ne1 HSZD.out hrow6
      have h66 : some g6' = (Value.slice AK ds.length cK).ownBlock ∨ w5.heap.size ≤ g6' := hat6.imp (fun h => h) (fun ⟨c, h, hc⟩ => by have h2 : g6' = c := Option.some.inj h; omega)
      exact ⟨rfl, ob_fin (wB := wA.drew) (hX := HXL.out) (HG := HGB.out) (hN := HN.out) (hK := HK.out) (hsz := HSZD.out) (row1 := HN1.out) (bel1 := BEL1.out) (gr1 := HGR.out) (hat1 := HAT1.out) (hB := fun k hk hg => HKB.out.1 k hg) (sB := Nat.le_of_eq HKB.out.2.symm) (oB := HBA.out.drew) (f5 := hf5) (hN5 := hN5) (gr6 := gr6) (hat6 := h66) (E := hE)⟩
    · refine skip_ (w1 := ?_) (by rfl) rfl ?_ ?_
      rotate_left
      · go_simp
        rfl
      refine hK.out _ _ ?_
      clear hK K
      refine last_ (i := 8) (N := none) #[true, true, true, true, true, true, true, true, true, true, true] rfl rfl (one_of HT_.out (by kernel_rfl)) (by decide) (fun K hK => ?_)
      refine skip_ (w1 := ?_) (by rfl) rfl ?_ ?_
      rotate_left
      · go_simp
        rfl
      refine hK.out _ _ ?_
      clear hK K
      refine done_ (done_of HT_.out (by kernel_rfl)) ?_
      try go_wp2
      refine Go.Great.bodyPost_end0 rfl rfl ?_
      have hE := end_b4 (kx := kx) (xx := xx) (D1 := D1) (d1 := d1) (e1 := e1) (D2 := D2) (d2 := d2) (e2 := e2) hg6 HGB.out.1 ne1 HSZD.out hrow6
      have h66 : some g6' = (Value.slice AK ds.length cK).ownBlock ∨ w5.heap.size ≤ g6' := hat6.imp (fun h => h) (fun ⟨c, h, hc⟩ => by have h2 : g6' = c := Option.some.inj h; omega)
      exact ⟨rfl, ob_fin (wB := wA.drew) (hX := HXL.out) (HG := HGB.out) (hN := HN.out) (hK := HK.out) (hsz := HSZD.out) (row1 := HN1.out) (bel1 := BEL1.out) (gr1 := HGR.out) (hat1 := HAT1.out) (hB := fun k hk hg => HKB.out.1 k hg) (sB := Nat.le_of_eq HKB.out.2.symm) (oB := HBA.out.drew) (f5 := hf5) (hN5 := hN5) (gr6 := gr6) (hat6 := h66) (E := hE)⟩
  · have HCB := Lib.hid (HC0.out (wA.drew.alloc (.cells #[.int .i64 0, .string ⟨#[]⟩, .slice none 0 0, .slice none 0 0] 25 (0, 0))) (fun k h1 h2 => (Below.heap_alloc wA.drew _ k (Nat.lt_of_lt_of_le h1 (Nat.le_trans HGB.out.2 HSA.out))).trans (HKK.out k h1 h2)) (HBA.out.drew.alloc (Nat.le_trans (Nat.le_of_lt HGB.out.1) (Nat.le_trans HGB.out.2 HSA.out)) _))
    have hqz := blk_new wA.drew (.cells #[.int .i64 0, .string ⟨#[]⟩, .slice none 0 0, .slice none 0 0] 25 (0, 0))
    have hgz := blk_alloc (show wA.drew.heap[g]? = _ from HGA.out) (.cells #[.int .i64 0, .string ⟨#[]⟩, .slice none 0 0, .slice none 0 0] 25 (0, 0))
    have hNz := HNA.out.alloc (.cells #[.int .i64 0, .string ⟨#[]⟩, .slice none 0 0, .slice none 0 0] 25 (0, 0))
    have hKz := HKA.out.alloc (.cells #[.int .i64 0, .string ⟨#[]⟩, .slice none 0 0, .slice none 0 0] 25 (0, 0))
    refine value_ (w1 := ?_) (v := ?_) (by rfl) rfl ?_ ?_
    rotate_left 2
    · go_simp
      constructor
      · rfl
      · rfl
    refine hK.out _ _ ((World.cell?_alloc_lt _ _ _ (World.block_lt_of_cell? _ _ c3)).trans c3) (fun hHeld => ?_)
    clear hK K
    refine norm_ (a' := ?_) ?_ ?_
    rotate_left
    · show Act.put _ (some 17) _ = _
      simp only [Act.put, List.setIfInBounds_toArray, List.set_cons_zero, List.set_cons_succ, i64_w, i32_w]
      rfl
    refine one_ (i := 3) (N := some 15) #[true, true, true, true, true, true, false, false, false, false, false] rfl rfl (one_of HT_.out (by kernel_rfl)) (by decide) (fun K hK => ?_)
    refine goes_ Tryd.func17 (by kernel_rfl) rfl #[.pointer (some q)] (by rfl) rfl rfl (by (try simp only [List.map_toArray, List.map_cons, List.map_nil]); first | done | rfl) ?_
    refine HCB.out.mono ?_
    rintro e w5 ⟨b5, rfl, hN5, hf5⟩
    refine ⟨_, rfl, ?_⟩
    obtain ⟨kx, xx, D1, D2, d1, e1, d2, e2, rfl⟩ := hN5.form
    have hgz0 := (wA.drew.alloc (.cells #[.int .i64 0, .string ⟨#[]⟩, .slice none 0 0, .slice none 0 0] 25 (0, 0))).heap.size
    have hb5 := hf5.block
    have hg5 := (hb5 g (blk_lt hgz) (fun x hx => (HX.out x hx).2)).trans hgz
    have hN5r := own_keep hNz (fun k hk => hb5 k (hNz.lt k hk).2 (fun x hx e => by have h1 := (HX.out x hx).1; have h2 := (hNz.lt k hk).1; omega))
    have hK5r := own_keep hKz (fun k hk => hb5 k (hKz.lt k hk).2 (fun x hx e => by have h1 := (HX.out x hx).1; have h2 := (hKz.lt k hk).1; omega))
    have hz5 := (hb5 _ (blk_lt hqz) (fun x hx e => by have h1 := (HX.out x hx).1; have h2 := HGB.out.2; have h3 := HSA.out; have h4 : wA.drew.heap.size = wA.heap.size := rfl; omega)).trans hqz
    have c35 : w5.cell? ⟨g, 3, none⟩ = some (.slice AK ds.length cK) := blk_cell hg5 3
    refine hK.out _ _ c35 (fun hHeld => ?_)
    clear hK K
    refine norm_ (a' := ?_) ?_ ?_
    rotate_left
    · show Act.put _ (some 15) _ = _
      simp only [Act.put, List.setIfInBounds_toArray, List.set_cons_zero, List.set_cons_succ, i64_w, i32_w]
      rfl
    refine one_ (i := 6) (N := some 18) #[true, true, true, true, true, true, true, false, false, false, false] rfl rfl (one_of HT_.out (by kernel_rfl)) (by decide) (fun K hK => ?_)
    refine append_at_step bs0 rfl (.tmp 13) (.tmp 17) 23 25 (.agg (nd 0 ByteArray.empty nilS nilS)) 4 72 rfl Tryd.underlying23 infoNd rfl (by omega) (by omega) (.slice AK ds.length cK) ds.length (flat ds) (nd 0 ByteArray.empty nilS nilS).toList wA.heap.size rfl rfl rfl (fun j u hj => World.news_of_block (cs := nd 0 ByteArray.empty nilS nilS) (t := 25) (fr := (0, 0)) hz5 j u (by simpa using hj)) (by simp [nd, Value.oneCell']) hK5r (Nat.le_trans HGB.out.2 (Nat.le_trans HSA.out (Nat.le_trans (Nat.le_of_lt (blk_lt hqz)) hf5.size))) (by have := HL.out; omega) ?_
    intro v6 w6 row6 gr6 hat6
    obtain ⟨g6, c6, rfl, hg6b, hg6l⟩ := row6.form (by omega)
    have hg6 := (gr6.block g (blk_lt hg5) (fun e => by have h1 := (HKA.out.lt g e.symm).1; have h2 := HGB.out.1; omega)).trans hg5
    refine hK.out _ _ (blk_cell hg6 3) (fun hHeld => ?_)
    clear hK K
    refine norm_ (a' := ?_) ?_ ?_
    rotate_left
    · show Act.put _ (some 18) _ = _
      simp only [Act.put, List.setIfInBounds_toArray, List.set_cons_zero, List.set_cons_succ, i64_w, i32_w]
      rfl
    have i0 : (0 : Int) ≤ (ds.length : Int) := by omega
    have i1 : (ds.length : Int) < ((ds.length + 1 : Nat) : Int) := by omega
    have i2 : (ds.length : Int) < (ds.length : Int) + 1 := by omega
    refine pure_ (i := 7) (N := some 19) (v := ?_) (a' := ?_) #[true, true, true, true, true, true, true, true, false, false, false] rfl rfl (any_of HT_.out (by kernel_rfl)) (fun _ _ _ h => h) (Or.inl ⟨by rfl, ?_⟩) ?_ ?_
    rotate_left
    · intro w'
      go_simp
      with_reducible rfl
    rotate_left
    · simp only [Act.put, List.setIfInBounds_toArray, List.set_cons_zero, List.set_cons_succ, i64_w, i32_w]
      rfl
    refine pure_ (i := 9) (N := some 20) (v := ?_) (a' := ?_) #[true, true, true, true, true, true, true, true, false, true, false] rfl rfl (any_of HT_.out (by kernel_rfl)) (fun _ _ _ h => h) (Or.inl ⟨by rfl, ?_⟩) ?_ ?_
    rotate_left
    · intro w'
      go_simp
      with_reducible rfl
    rotate_left
    · simp only [Act.put, List.setIfInBounds_toArray, List.set_cons_zero, List.set_cons_succ, i64_w, i32_w]
      rfl
    have hrow6 : w6.ownsRow bs0 25 4 (.slice (some ⟨g6, 0, none⟩) (ds.length + 1) c6) (ds ++ [nd 0 ByteArray.empty nilS nilS]).length (flat (ds ++ [nd 0 ByteArray.empty nilS nilS])) := by simpa [flat_append, flat] using row6
    obtain ⟨cur6, hh6⟩ : ∃ cur6, w6.heap[g6]? = some (.cells cur6 25 (0, 0)) := by
      rcases row6.2 with ⟨h, _⟩ | ⟨g', cap, cur, hv, _, hh, _⟩
      · cases h
      · injection hv with e1 _ _
        injection e1 with e1
        injection e1 with e1 _ _
        subst e1
        exact ⟨cur, hh⟩
    have HSZ := Lib.hid (show ∀ a ∈ ds ++ [nd 0 ByteArray.empty nilS nilS], a.size = 4 from HSZ0.out)
    obtain ⟨g6', hg6', -, -, hc6⟩ := el_cell hrow6 HSZ.out (i := ds.length) (a := nd 0 ByteArray.empty nilS nilS) (by simp)
    obtain rfl : g6' = g6 := by injection hg6' with h; injection h with h _ _; exact h.symm
    have z0 := hc6 0 (by omega)
    have z1 := hc6 1 (by omega)
    have z2 := hc6 2 (by omega)
    have z3 := hc6 3 (by omega)
    rw [Nat.add_zero] at z0
    simp only [List.getElem?_toArray, List.size_toArray] at z0 z1 z2 z3
    have u0 := blk_frozen hh6 (ds.length * 4)
    have u1 := blk_frozen hh6 (ds.length * 4 + 1)
    have u2 := blk_frozen hh6 (ds.length * 4 + 2)
    have u3 := blk_frozen hh6 (ds.length * 4 + 3)
    have x3 := blk_cell hg6 3
    have y3 := blk_frozen hg6 3
    have ne1 : g ≠ g6' := by have := HGB.out.1; omega
    have ne2 := ne1.symm
    refine two_last_ (i := 8) (j := 10) (Ni := none) (Nj := none) #[true, true, true, true, true, true, true, true, true, true, false] #[true, true, true, true, true, true, true, true, false, true, true] rfl rfl rfl rfl (by kernel_rfl) (by decide) (by decide) (fun K hK => ?_) (fun K hK => ?_)
    · refine skip_ (w1 := ?_) (by rfl) rfl ?_ ?_
      rotate_left
      · go_simp
        rfl
      refine hK.out _ _ ?_
      clear hK K
      refine last_ (i := 10) (N := none) #[true, true, true, true, true, true, true, true, true, true, true] rfl rfl (one_of HT_.out (by kernel_rfl)) (by decide) (fun K hK => ?_)
      refine skip_ (w1 := ?_) (by rfl) rfl ?_ ?_
      rotate_left
      · go_simp
        rfl
      refine hK.out _ _ ?_
      clear hK K
      refine done_ (done_of HT_.out (by kernel_rfl)) ?_
      try go_wp2
      refine Go.Great.bodyPost_end0 rfl rfl ?_
      have hE := end_a4 (kx := kx) (xx := xx) (D1 := D1) (d1 := d1) (e1 := e1) (D2 := D2) (d2 := d2) (e2 := e2) hg6 HGB.out.1 ne1 HSZD.out hrow6
      have h66 : some g6' = (Value.slice AK ds.length cK).ownBlock ∨ w5.heap.size ≤ g6' := hat6.imp (fun h => h) (fun ⟨c, h, hc⟩ => by have h2 : g6' = c := Option.some.inj h; omega)
      exact ⟨rfl, ob_fin (wB := wA.drew.alloc (.cells #[.int .i64 0, .string ⟨#[]⟩, .slice none 0 0, .slice none 0 0] 25 (0, 0))) (hX := HXL.out) (HG := HGB.out) (hN := HN.out) (hK := HK.out) (hsz := HSZD.out) (row1 := HN1.out) (bel1 := BEL1.out) (gr1 := HGR.out) (hat1 := HAT1.out) (hB := fun k hk hg => (Below.heap_alloc wA.drew _ k (Nat.lt_of_lt_of_le hk (Nat.le_of_eq HKB.out.2.symm))).trans (HKB.out.1 k hg)) (sB := Nat.le_trans (Nat.le_of_eq HKB.out.2.symm) (Nat.le_of_lt (blk_lt hqz))) (oB := HBA.out.drew.alloc (Nat.le_trans (Nat.le_of_lt HGB.out.1) (Nat.le_trans HGB.out.2 HSA.out)) _) (f5 := hf5) (hN5 := hN5) (gr6 := gr6) (hat6 := h66) (E := hE)⟩
    · refine skip_ (w1 := ?_) (by rfl) rfl ?_ ?_
      rotate_left
      · go_simp
        rfl
      refine hK.out _ _ ?_
      clear hK K
      refine last_ (i := 8) (N := none) #[true, true, true, true, true, true, true, true, true, true, true] rfl rfl (one_of HT_.out (by kernel_rfl)) (by decide) (fun K hK => ?_)
      refine skip_ (w1 := ?_) (by rfl) rfl ?_ ?_
      rotate_left
      · go_simp
        rfl
      refine hK.out _ _ ?_
      clear hK K
      refine done_ (done_of HT_.out (by kernel_rfl)) ?_
      try go_wp2
      refine Go.Great.bodyPost_end0 rfl rfl ?_
      have hE := end_b4 (kx := kx) (xx := xx) (D1 := D1) (d1 := d1) (e1 := e1) (D2 := D2) (d2 := d2) (e2 := e2) hg6 HGB.out.1 ne1 HSZD.out hrow6
      have h66 : some g6' = (Value.slice AK ds.length cK).ownBlock ∨ w5.heap.size ≤ g6' := hat6.imp (fun h => h) (fun ⟨c, h, hc⟩ => by have h2 : g6' = c := Option.some.inj h; omega)
      exact ⟨rfl, ob_fin (wB := wA.drew.alloc (.cells #[.int .i64 0, .string ⟨#[]⟩, .slice none 0 0, .slice none 0 0] 25 (0, 0))) (hX := HXL.out) (HG := HGB.out) (hN := HN.out) (hK := HK.out) (hsz := HSZD.out) (row1 := HN1.out) (bel1 := BEL1.out) (gr1 := HGR.out) (hat1 := HAT1.out) (hB := fun k hk hg => (Below.heap_alloc wA.drew _ k (Nat.lt_of_lt_of_le hk (Nat.le_of_eq HKB.out.2.symm))).trans (HKB.out.1 k hg)) (sB := Nat.le_trans (Nat.le_of_eq HKB.out.2.symm) (Nat.le_of_lt (blk_lt hqz))) (oB := HBA.out.drew.alloc (Nat.le_trans (Nat.le_of_lt HGB.out.1) (Nat.le_trans HGB.out.2 HSA.out)) _) (f5 := hf5) (hN5 := hN5) (gr6 := gr6) (hat6 := h66) (E := hE)⟩

end Go.Proofs.YtfoloneeibgoiaaDoor.Fjh

/- Object.Visit over an object's members, with fjObject's closure. -/
set_option linter.unusedVariables false
set_option linter.unusedSimpArgs false
namespace Go.Proofs.YtfoloneeibgoiaaDoor.Fjh
open Go Go.RowKit Go.Proofs.YtfoloneeibgoiaaDoorW.PrintWords Go.Proofs.YtfoloneeibgoiaaDoorW.PrintLast Go.Proofs.YtfoloneeibgoiaaDoorW.PrintMore Go.Proofs.YtfoloneeibgoiaaDoor.Un Go.Proofs.YtfoloneeibgoiaaDoor.JTr Go.Proofs.YtfoloneeibgoiaaDoor.Ndr
open Go.Proofs.YtfoloneeibgoiaaDoor.PFnFjReadBytes (Laid)

section
variable {P : Program} {ops : Array Oper} {Q : Exit → Act → World → Prop}
/-- A call of a function value that bears captured variables. -/
theorem goesv_ {oi : Oper} {N : Option Tmp} {a : Act} {w : World} {K : Act → World → Prop} {f : FuncId} {fn : Func} {ars : Array Operand} {ts : Array TypeId} {x : Operand} {cap : Array Value} (hf : P.funcs[f]? = some fn) (hname : (fn.name == "runtime.NumGoroutine") = false) (hb : fn.body.isSome = true) (args : Array Value)
    (hw : Region.wanted oi (yielded ops a.tmps) = true) (hN : oi.dst = N) (hop : oi.op = .call { callee := .value x, args := ars, argTypes := ts }) (hx : a.eval x = .func (.func f) #[] cap) (hargs : ars.map a.eval ++ cap = args)
    (h : Calls P f args w fun e w' => ∃ v, e = .returned v ∧ K (a.put N v) w') : if Region.wanted oi (yielded ops a.tmps) = true then Oper.wp P oi a w K Q else K (a.put N undef) w := by
  refine call_ f args hw hN ?_ h
  have he := enters_ hf hname hb args w
  unfold execOp
  simp [hop, resolve, hx, Deferred.ofValue, invoke, hargs, he]
end

/-- What a name stands for. -/
def nmF (u : Bool) (k : ByteArray) : ByteArray := if u = true then k else unF k
theorem nmF_size (u : Bool) (k : ByteArray) : (nmF u k).size ≤ 7 * k.size := by
  unfold nmF
  split
  · omega
  · exact unF_size k

theorem uk_any {B pb po ab c : Nat} {A : Option Addr} {u : Bool} {ks : List ByteArray} {w : World} (h0 : Cel w ⟨pb, po, none⟩ (.slice A ks.length c)) (h1 : Cel w ⟨pb, po + 1, none⟩ (.bool u)) (hA : 0 < ks.length → A = some ⟨ab, 0, none⟩) (hab : pb ≠ ab)
    (hk : ∀ i, i < ks.length → Cel w ⟨ab, i * 2, none⟩ (.string (ks.getD i emptyS))) (hs : ∀ k ∈ ks, k.size ≤ 1000000000) (hn : ks.length ≤ 1000000000) (hL : ∀ w', Below B w w' → Laid w') (hB : B ≤ w.heap.size) (hBp : B ≤ pb) (hBa : 0 < ks.length → B ≤ ab) :
    Calls Tryd.prog 74 #[.pointer (some ⟨pb, po, none⟩)] w (fun e w' => e = .returned (.tuple #[]) ∧ Frame (UkX pb po ab ks.length) w w' ∧ ∀ j, j < ks.length → w'.cell? ⟨ab, j * 2, none⟩ = some (.string (nmF u (ks.getD j emptyS)))) := by
  cases u with
  | true =>
    refine (uk_done h1).mono ?_
    rintro e w' ⟨rfl, rfl⟩
    exact ⟨rfl, Frame.refl _ _, fun j hj => (hk j hj).1⟩
  | false =>
    refine (uk_ok h0 h1 hA hab hk hs hn hL hB hBp hBa).mono ?_
    rintro e w' ⟨rfl, hf, hc⟩
    exact ⟨rfl, hf, hc⟩

def Vi7_T : Bool × List (List Nat × List Nat) := (true, [([],[]),([],[]),([1],[1]),([2],[2]),([3],[3]),([4],[4]),([],[]),([6],[6]),([7],[7]),([8],[8]),([0,5,9,5],[0,5,9])])
def Vi7_B : List Nat := [0, 0, 2, 6, 14, 30, 0, 64, 192, 448, 1023]
theorem Vi7_tab : rtab .any (opsOf Tryd.f53 7) = Vi7_T := by kernel_rfl
theorem Vi7_bits : waitsOk Vi7_T.2 Vi7_B = true := by kernel_rfl

theorem ObS.below {bs0 g : Nat} {w w' : World} {bs : List ByteArray} {ds : List (Array Value)} {N K : Value} (h : ObS bs0 g w bs ds N K) (hb : Below w.heap.size w w') : ObS bs0 g w' bs ds N K :=
  ⟨(hb.block g (blk_lt h.at_)).trans h.at_, own_keep h.names (fun k hk => hb.block k (h.names.lt k hk).2), own_keep h.kids (fun k hk => hb.block k (h.kids.lt k hk).2), h.sz, h.low, Nat.le_trans h.size hb.size⟩
theorem oown_below {bs0 : Nat} {w w' : World} {N K : Value} (hb : Below w.heap.size w w') {k : Nat} (h : Oown bs0 w N K k) : Oown bs0 w' N K k ∧ w'.heap[k]? = w.heap[k]? :=
  ⟨⟨⟨h.1.1, Nat.lt_of_lt_of_le h.1.2 hb.size⟩, h.2⟩, hb.block k h.1.2⟩

/-- What Visit leaves of fjObject's node. -/
def ViP (g : Nat) (own : Addr → Prop) (w : World) (u : Bool) (ks : List ByteArray) (vs : List JV) (w' : World) : Prop :=
  ∃ (ds : List (Array Value)) (N K : Value), ObS (g + 1) g w' (ks.map (nmF u)) ds N K ∧ ds.length = vs.length ∧ (∀ (i : Nat) (b : Array Value) (t : JT), ds[i]? = some b → (nts vs)[i]? = some t → NRep w' (Oown (g + 1) w' N K) b t) ∧ FrB g own w w'

theorem wszK_len : ∀ ks : List ByteArray, ks.length ≤ wszK ks
  | [] => Nat.le_refl _
  | k :: ks => by have := wszK_len ks; simp only [wszK, List.length_cons]; omega
theorem wszK_mem {ks : List ByteArray} {k : ByteArray} (h : k ∈ ks) : k.size ≤ wszK ks := by
  induction ks with
  | nil => cases h
  | cons a ks ih =>
    simp only [wszK]
    rcases List.mem_cons.mp h with rfl | h
    · omega
    · have := ih h; omega
theorem take_next {α : Type} {l : List α} {i : Nat} {x : α} (h : l[i]? = some x) : l.take (i + 1) = l.take i ++ [x] := by
  rw [List.take_add_one, h]; rfl

set_option maxRecDepth 100000 in
set_option maxHeartbeats 8000000 in
theorem visit_ok {B g pb po ab c : Nat} {A : Option Addr} {u : Bool} {ks : List ByteArray} {vs : List JV} {ps : Nat → Addr} {O : Nat → Addr → Prop} {own : Addr → Prop} {w : World} (IH : ∀ v ∈ vs, NdOk v)
    (hl : ks.length = vs.length) (h0 : Cel w ⟨pb, po, none⟩ (.slice A vs.length c)) (h1 : Cel w ⟨pb, po + 1, none⟩ (.bool u)) (hA0 : 0 < vs.length → A = some ⟨ab, 0, none⟩) (hab : pb ≠ ab)
    (hA : ∀ i, i < vs.length → Cel w ⟨ab, i * 2, none⟩ (.string (ks.getD i emptyS)) ∧ w.cell? ⟨ab, i * 2 + 1, none⟩ = some (.pointer (some (ps i))))
    (hO : ∀ i a, O i a → own a ∧ a ≠ ⟨pb, po + 1, none⟩ ∧ a.block ≠ ab) (hD : ∀ i j a, i < j → O i a → O j a → False) (hk : ∀ (i : Nat) (v : JV), vs[i]? = some v → Rep w (O i) (ps i) v) (hOk : ∀ i, i < vs.length → own ⟨ab, i * 2, none⟩) (hO0 : own ⟨pb, po, none⟩) (hO1 : own ⟨pb, po + 1, none⟩) (hOp : ∀ i, ¬ O i ⟨pb, po, none⟩)
    (hown : ∀ a, own a → B ≤ a.block ∧ a.block < g) (hL : ∀ w', Below B w w' → Laid w') (hB : B ≤ g) (hz : wszs vs ≤ 1000000000) (hzk : wszK ks ≤ 1000000000)
    (hg : w.heap[g]? = some (.cells #[.int .i64 6, .string ⟨#[]⟩, nilS, nilS] 25 (0, 0))) (hgw : g + 1 ≤ w.heap.size) :
    Calls Tryd.prog 53 #[.pointer (some ⟨pb, po, none⟩), .func (.func 54) #[] #[.pointer (some ⟨g, 0, none⟩)]] w (fun e w' => e = .returned (.tuple #[]) ∧ ViP g own w u ks vs w') := by
  have HUK := Lib.hid (uk_any (B := B) (hl ▸ h0) h1 (fun h => hA0 (by omega)) hab (fun i hi => (hA i (by omega)).1) (fun k hk => by have := wszK_mem hk; omega) (by have := wszs_len vs; omega) hL (by omega) (by have := (hown _ hO1).1; exact this) (fun h => (hown _ (hOk 0 (by omega))).1))
  have HFR := Lib.hid (show ∀ w', Frame (UkX pb po ab ks.length) w w' → FrB g own w w' from fun w' hf => FrB.frame (hf.mono (fun a ha => by rcases ha with ⟨j, hj, rfl⟩ | rfl; exact hOk j (by omega); exact hO1)) (by omega))
  have HG1 := Lib.hid (show ∀ w', Frame (UkX pb po ab ks.length) w w' → w'.heap[g]? = w.heap[g]? from fun w' hf => hf.block g (by omega) (fun a ha e => by rcases ha with ⟨j, hj, rfl⟩ | rfl; (have h2 : ab < g := (hown _ (hOk j (by omega))).2; have h3 : ab = g := e; omega); (have h2 : pb < g := (hown _ hO1).2; have h3 : pb = g := e; omega)))
  have HC0 := Lib.hid (show ∀ w', Frame (UkX pb po ab ks.length) w w' → w'.cell? ⟨pb, po, none⟩ = some (.slice A vs.length c) from fun w' hf => (hf.cell _ (fun h => by rcases h with ⟨j, hj, e⟩ | e; exact hab (congrArg Addr.block e); (have h := congrArg Addr.off e; simp only at h; omega)) (by have h2 : pb < g := (hown _ hO0).2; show pb < w.heap.size; omega)).trans h0.1)
  have HV := Lib.hid (show ∀ w', Frame (UkX pb po ab ks.length) w w' → ∀ i, i < vs.length → w'.cell? ⟨ab, i * 2 + 1, none⟩ = some (.pointer (some (ps i))) from fun w' hf i hi => (hf.cell _ (fun h => by rcases h with ⟨j, hj, e⟩ | e; (have h := congrArg Addr.off e; simp only at h; omega); exact hab (congrArg Addr.block e).symm) (World.block_lt_of_cell? w _ (hA i hi).2)).trans (hA i hi).2)
  have HRP := Lib.hid (show ∀ w', Frame (UkX pb po ab ks.length) w w' → ∀ (i : Nat) (v : JV), vs[i]? = some v → Rep w' (O i) (ps i) v from fun w' hf i v hv => (hk i v hv).mono (fun a ha => ⟨ha, hf.cell a (fun h => by rcases h with ⟨j, hj, e⟩ | e; exact (hO i a ha).2.2 (by rw [e]); exact (hO i a ha).2.1 e) (by have := (hown a (hO i a ha).1).2; omega), hf.frozen a (by have := (hown a (hO i a ha).1).2; omega)⟩))
  have HBL := Lib.hid (show ∀ w', FrB g own w w' → Below B w w' from fun w' hf => hf.belowB (fun a ha => (hown a ha).1) hB)
  have HLD := Lib.hid hL
  have HIH := Lib.hid IH
  have HA0 := Lib.hid hA0
  have HO := Lib.hid (show ∀ i a, O i a → own a ∧ a.block ≠ ab from fun i a h => ⟨(hO i a h).1, (hO i a h).2.2⟩)
  have HD := Lib.hid hD
  have HW := Lib.hid hown
  have HB := Lib.hid (And.intro hB hgw)
  have HG := Lib.hid hg
  have HAB := Lib.hid (show ∀ i, i < vs.length → ab < g from fun i hi => (hown _ (hOk i hi)).2)
  have HZ := Lib.hid (show wszs vs ≤ 1000000000 ∧ vs.length ≤ 1000000000 ∧ ks.length = vs.length ∧ ∀ i, i < vs.length → (nmF u (ks.getD i emptyS)).size ≤ 7000000000 from ⟨hz, Nat.le_trans (wszs_len vs) hz, hl, fun i hi => by
    have h1 := nmF_size u (ks.getD i emptyS)
    have h2 : (ks.getD i emptyS).size ≤ wszK ks := by
      rw [List.getD_eq_getElem?_getD, List.getElem?_eq_getElem (by omega)]
      exact wszK_mem (List.getElem_mem _)
    omega⟩)
  clear IH hl h0 h1 hA0 hab hA hO hD hk hOk hO0 hO1 hOp hown hL hB hz hzk hg hgw
  go_enter Tryd.func53, Tryd.ntmps53
  go_wp2_with (first
    | (go_at_call 74; refine HUK.out.mono ?_; rintro e w1 ⟨rfl, hf1, hn1⟩; have c0 := HC0.out w1 hf1; have HF1 := Lib.hid hf1; have HN1 := Lib.hid hn1; clear hf1 hn1))
  go_loopg [17] (vs.length + 1) (fun kq v17 w' => ∃ (i : Nat) (ds : List (Array Value)) (N K : Value), Hid (i ≤ vs.length ∧ kq = vs.length - i + 1) ∧ v17 = .int .i64 i ∧ Hid (ObS (g + 1) g w' ((ks.map (nmF u)).take i) ds N K ∧ ds.length = i) ∧ Hid (∀ (j : Nat) (b : Array Value) (t : JT), ds[j]? = some b → (nts vs)[j]? = some t → NRep w' (Oown (g + 1) w' N K) b t) ∧ Hid (FrB g (fun a => ∃ j, j < i ∧ O j a) w1 w'))
  case atStart =>
    exact ⟨0, [], nilS, nilS, Lib.hid ⟨Nat.zero_le _, rfl⟩, rfl, Lib.hid ⟨⟨(HG1.out w1 HF1.out).trans HG.out, World.ownsRow_nil _ _ _ _, World.ownsRow_nil _ _ _ _, fun a h => (by cases h), (by omega), Nat.le_trans HB.out.2 HF1.out.size⟩, rfl⟩, Lib.hid (fun j b t h => by simp at h), Lib.hid (FrB.refl _ _ _)⟩
  case round =>
    obtain ⟨i, ds, N, K, HI, rfl, HS, HK, HF⟩ := hrel
    by_cases hi : i < vs.length
    · obtain ⟨v, hv⟩ : ∃ v, vs[i]? = some v := ⟨_, List.getElem?_eq_getElem hi⟩
      obtain ⟨kx, hkx⟩ : ∃ kx, kx = nmF u (ks.getD i emptyS) := ⟨_, rfl⟩
      obtain rfl := HA0.out (by omega)
      have hnx : ∀ a, a.block = ab → ¬ ∃ j, j < i ∧ O j a := fun a h => by rintro ⟨j, _, hj⟩; exact (HO.out j _ hj).2 h
      have k0 := (HF.out.cell ⟨ab, i * 2, none⟩ (hnx _ rfl) (HAB.out i hi)).trans (HN1.out i (by have := HZ.out.2.2.1; omega))
      rw [← hkx] at k0
      have k1 := (HF.out.cell ⟨ab, i * 2 + 1, none⟩ (hnx _ rfl) (HAB.out i hi)).trans (HV.out w1 HF1.out i hi)
      have h0 : (0 : Int) ≤ (i : Int) := by omega
      have hlti : (i : Int) < (vs.length : Int) := by omega
      have hd1 : decide ((i : Int) < (vs.length : Int)) = true := decide_eq_true (by omega)
      have hd2 : decide (i < vs.length) = true := decide_eq_true (by omega)
      have hw1 : IntKind.i64.wrap ((i : Int) + 1) = (i : Int) + 1 := by rw [IntKind.wrap_i64]; have := HZ.out; omega
      have HSI := Lib.hid (show kx.size ≤ 140737488355328 from by have := HZ.out.2.2.2 i hi; rw [hkx]; omega)
      have HKX := Lib.hid (show (ks.map (nmF u))[i]? = some kx from by
        rw [List.getElem?_map, List.getElem?_eq_getElem (show i < ks.length from by have := HZ.out.2.2.1; omega), hkx, List.getD_eq_getElem?_getD, List.getElem?_eq_getElem (show i < ks.length from by have := HZ.out.2.2.1; omega)]
        rfl)
      have HNV := Lib.hid (show (nts vs)[ds.length]? = some (nt v) from by rw [nts_get, HS.out.2, hv]; rfl)
      have HX := Lib.hid (show ∀ x, O i x → x.block < g from fun x hx => (HW.out x (HO.out i x hx).1).2)
      obtain ⟨AN, nN, cN, rfl⟩ := row_form HS.out.1.names
      obtain ⟨AK, nK, cK, rfl⟩ := row_form HS.out.1.kids
      have hbn : ((ks.map (nmF u)).take i).length = i := by rw [List.length_take, List.length_map]; have := HZ.out.2.2.1; omega
      have HBN := Lib.hid hbn
      have HOB := Lib.hid (show ∀ (v5 : Value) (w5 : World), BR w5 wr.heap.size v5 (bytesOf kx) → Below wr.heap.size wr w5 → Calls Tryd.prog 54 #[v5, .pointer (some (ps i)), .pointer (some ⟨g, 0, none⟩)] w5 (fun e w' => e = .returned (.tuple #[]) ∧ ObP g (g + 1) (O i) w5 (nt v) kx ((ks.map (nmF u)).take i) ds (.slice AN nN cN) (.slice AK nK cK) w') from fun v5 w5 row5 bel5 => by
        have hs5 := HS.out.1.below bel5
        refine ob_one (base := wr.heap.size) HX.out (fun w2 he hb2 => ?_) hs5.at_ (by omega) hs5.size row5 hs5.names hs5.kids (by rw [hbn]; have := HZ.out; have := HI.out; omega) (by have := HS.out.2; have := HZ.out; have := HI.out; omega) hs5.sz
        have hlow : Below g w1 w5 → True := fun _ => trivial
        have hcell : ∀ a, O i a → w2.cell? a = w1.cell? a ∧ w2.frozen? a = w1.frozen? a := fun a ha => by
          have hag := HX.out a ha
          have hgs : g ≤ wr.heap.size := by have := HS.out.1.size; omega
          have hb5 : Below g wr w5 := bel5.mono hgs
          refine ⟨((hb2.cell hag).trans (hb5.cell hag)).trans (HF.out.cell a (fun ⟨j, hj, hj2⟩ => HD.out j i a hj hj2 ha) hag), ((hb2.frozen hag).trans (hb5.frozen hag)).trans (HF.out.frozen a hag)⟩
        have hgs : g ≤ wr.heap.size := by have := HS.out.1.size; omega
        have hBg : Below B w w2 := ((HBL.out _ (HFR.out w1 HF1.out)).trans (HF.out.belowB (fun a ⟨j, _, hj⟩ => (HW.out a (HO.out j a hj).1).1) HB.out.1)).trans (((bel5.mono hgs).trans hb2).mono HB.out.1)
        refine HIH.out v (List.mem_of_getElem? hv) B (O i) (ps i) w2 ((HRP.out w1 HF1.out i v hv).mono (fun a ha => ⟨ha, hcell a ha⟩)) (fun a ha => ⟨(HW.out a (HO.out i a ha).1).1, ?_⟩) (fun w' hb => HLD.out w' (hBg.trans hb)) ?_ (by have := wszs_mem (List.mem_of_getElem? hv); have := HZ.out; omega)
        · have := HX.out a ha; have := hb2.size; have := bel5.size; omega
        · have := hb2.size; have := bel5.size; have := HB.out.1; omega)
      clear hkx hnx hv hbn
      go_wp2
      refine start_ (n := 11) (S := fun w' => w'.cell? ⟨ab, i * 2, none⟩ = some (.string kx) ∧ w'.cell? ⟨ab, i * 2 + 1, none⟩ = some (.pointer (some (ps i)))) (ds := [10]) #[false, false, false, false, false, false, false, false, false, false, false] (by kernel_rfl) rfl rfl ⟨k0, k1⟩ (fun hHeld => ?_); refine with_tabW Vi7_tab Vi7_bits (fun HT_ HW_ => ?_)
      refine pure_ (i := 0) (N := some 23) (v := ?_) (a' := ?_) #[true, false, false, false, false, false, false, false, false, false, false] rfl rfl (any_of HT_.out (by kernel_rfl)) (fun _ _ _ h => h) (Or.inl ⟨by rfl, ?_⟩) ?_ ?_
      rotate_left
      · intro w'
        go_simp
        with_reducible rfl
      rotate_left
      · simp only [Act.put, List.setIfInBounds_toArray, List.set_cons_zero, List.set_cons_succ, i64_w, i32_w]
        rfl
      refine pure_ (i := 1) (N := some 24) (v := ?_) (a' := ?_) #[true, true, false, false, false, false, false, false, false, false, false] rfl rfl (any_of HT_.out (by kernel_rfl)) (fun _ _ _ h => h) (Or.inl ⟨by rfl, ?_⟩) ?_ ?_
      rotate_left
      · intro w'
        go_simp
        with_reducible rfl
      rotate_left
      · simp only [Act.put, List.setIfInBounds_toArray, List.set_cons_zero, List.set_cons_succ, i64_w, i32_w]
        rfl
      refine pure_ (i := 2) (N := some 25) (v := ?_) (a' := ?_) #[true, true, true, false, false, false, false, false, false, false, false] rfl rfl (any_of HT_.out (by kernel_rfl)) (fun _ _ _ h => h) (Or.inl ⟨by rfl, ?_⟩) ?_ ?_
      rotate_left
      · intro w'
        go_simp
        with_reducible rfl
      rotate_left
      · simp only [Act.put, List.setIfInBounds_toArray, List.set_cons_zero, List.set_cons_succ, i64_w, i32_w]
        rfl
      refine pure_ (i := 3) (N := some 26) (v := ?_) (a' := ?_) #[true, true, true, true, false, false, false, false, false, false, false] rfl rfl (any_of HT_.out (by kernel_rfl)) (fun _ _ _ h => h) (Or.inl ⟨by rfl, ?_⟩) ?_ ?_
      rotate_left
      · intro w'
        go_simp
        with_reducible rfl
      rotate_left
      · simp only [Act.put, List.setIfInBounds_toArray, List.set_cons_zero, List.set_cons_succ, i64_w, i32_w]
        rfl
      refine take_ (i := 4) (N := some 27) (v := ?_) (a' := ?_) #[true, true, true, true, true, false, false, false, false, false, false] rfl rfl (take_ofW HT_.out HW_.out (by kernel_rfl)) (fun _ _ _ h => h) (Or.inl ⟨by rfl, ?_⟩) hHeld ?_ ?_
      rotate_left
      · rintro w' ⟨s0, s1⟩
        go_simp
        with_reducible rfl
      rotate_left
      · simp only [Act.put, List.setIfInBounds_toArray, List.set_cons_zero, List.set_cons_succ, i64_w, i32_w]
        rfl
      refine pure_ (i := 6) (N := some 29) (v := ?_) (a' := ?_) #[true, true, true, true, true, false, true, false, false, false, false] rfl rfl (any_of HT_.out (by kernel_rfl)) (fun _ _ _ h => h) (Or.inl ⟨by rfl, ?_⟩) ?_ ?_
      rotate_left
      · intro w'
        go_simp
        with_reducible rfl
      rotate_left
      · simp only [Act.put, List.setIfInBounds_toArray, List.set_cons_zero, List.set_cons_succ, i64_w, i32_w]
        rfl
      refine pure_ (i := 7) (N := some 30) (v := ?_) (a' := ?_) #[true, true, true, true, true, false, true, true, false, false, false] rfl rfl (any_of HT_.out (by kernel_rfl)) (fun _ _ _ h => h) (Or.inl ⟨by rfl, ?_⟩) ?_ ?_
      rotate_left
      · intro w'
        go_simp
        with_reducible rfl
      rotate_left
      · simp only [Act.put, List.setIfInBounds_toArray, List.set_cons_zero, List.set_cons_succ, i64_w, i32_w]
        rfl
      refine pure_ (i := 8) (N := some 31) (v := ?_) (a' := ?_) #[true, true, true, true, true, false, true, true, true, false, false] rfl rfl (any_of HT_.out (by kernel_rfl)) (fun _ _ _ h => h) (Or.inl ⟨by rfl, ?_⟩) ?_ ?_
      rotate_left
      · intro w'
        go_simp
        with_reducible rfl
      rotate_left
      · simp only [Act.put, List.setIfInBounds_toArray, List.set_cons_zero, List.set_cons_succ, i64_w, i32_w]
        rfl
      refine take_ (i := 9) (N := some 32) (v := ?_) (a' := ?_) #[true, true, true, true, true, false, true, true, true, true, false] rfl rfl (take_ofW HT_.out HW_.out (by kernel_rfl)) (fun _ _ _ h => h) (Or.inl ⟨by rfl, ?_⟩) hHeld ?_ ?_
      rotate_left
      · rintro w' ⟨s0, s1⟩
        go_simp
        with_reducible rfl
      rotate_left
      · simp only [Act.put, List.setIfInBounds_toArray, List.set_cons_zero, List.set_cons_succ, i64_w, i32_w]
        rfl
      refine one_ (i := 5) (N := some 28) #[true, true, true, true, true, true, true, true, true, true, false] rfl rfl (one_of HT_.out (by kernel_rfl)) (by decide) (fun K hK => ?_)
      refine goes_ Tryd.func56 (by kernel_rfl) rfl #[.string kx] (by rfl) rfl rfl (by (try simp only [List.map_toArray, List.map_cons, List.map_nil]); first | done | rfl) ?_
      refine (s2b_calls HSI.out).mono ?_
      rintro e w5 ⟨v5, rfl, row5, bel5⟩
      have bel5w : Below wr.heap.size wr w5 := ⟨bel5.os, bel5.tape, bel5.output, bel5.size, bel5.block⟩
      refine ⟨_, rfl, ?_⟩
      refine hK.out _ _ ⟨cell_keep bel5 k0, cell_keep bel5 k1⟩ (fun hHeld => ?_)
      clear hK K
      refine norm_ (a' := ?_) ?_ ?_
      rotate_left
      · show Act.put _ (some 28) _ = _
        simp only [Act.put, List.setIfInBounds_toArray, List.set_cons_zero, List.set_cons_succ, i64_w, i32_w]
        rfl
      refine last_ (i := 10) (N := some 33) #[true, true, true, true, true, true, true, true, true, true, true] rfl rfl (one_of HT_.out (by kernel_rfl)) (by decide) (fun K hK => ?_)
      refine goesv_ Tryd.func54 (by kernel_rfl) rfl #[v5, .pointer (some (ps i)), .pointer (some ⟨g, 0, none⟩)] (by rfl) rfl rfl (by first | rfl | (go_simp; rfl)) (by (try simp only [List.map_toArray, List.map_cons, List.map_nil]); first | done | rfl) ?_
      refine (HOB.out v5 w5 row5 bel5w).mono ?_
      rintro e w6 ⟨rfl, hP⟩
      refine ⟨_, rfl, ?_⟩
      refine hK.out _ _ ?_
      clear hK K
      refine done_ (done_of HT_.out (by kernel_rfl)) ?_
      try go_wp2
      go_roundg (vs.length - i)
      case measure => have := HI.out; omega
      case rel =>
        obtain ⟨b, N', K', hs6, hn6, hold, hf6⟩ := hP
        have hgs : g ≤ wr.heap.size := by have := HS.out.1.size; omega
        exact ⟨i + 1, ds ++ [b], N', K', Lib.hid ⟨hi, by have := HI.out; omega⟩, by congr 1, Lib.hid ⟨by rw [take_next HKX.out]; exact hs6, by simp [HS.out.2]⟩, Lib.hid (kids_push (fun j b' t h1 h2 => (HK.out j b' t h1 h2).mono (fun k hk => by
          obtain ⟨o1, o2⟩ := oown_below bel5w hk
          obtain ⟨o3, o4⟩ := hold k o1
          exact ⟨o3, o4.trans o2⟩)) HNV.out hn6), Lib.hid (((HF.out.mono (fun a ⟨j, h1, h2⟩ => ⟨j, by omega, h2⟩)).trans (FrB.below (bel5w.mono hgs))).trans (hf6.mono (fun a ha => ⟨i, by omega, ha⟩)))⟩
    · have hd1 : decide ((i : Int) < (vs.length : Int)) = false := decide_eq_false (by omega)
      have hd2 : decide (i < vs.length) = false := decide_eq_false (by omega)
      go_wp2
      refine Go.Great.bodyPost_end0 rfl rfl ?_
      have hin : i = vs.length := by have := HI.out; omega
      subst hin
      refine ⟨rfl, ds, N, K, ?_, HS.out.2, HK.out, (HFR.out w1 HF1.out).trans (HF.out.mono (fun a ⟨j, _, h2⟩ => (HO.out j a h2).1))⟩
      have := HS.out.1
      rwa [List.take_of_length_le (by rw [List.length_map]; have := HZ.out.2.2.1; omega)] at this

end Go.Proofs.YtfoloneeibgoiaaDoor.Fjh

/- The thin package's walk over a value (fjNode): objects, and so every value. -/
set_option linter.unusedVariables false
set_option linter.unusedSimpArgs false
namespace Go.Proofs.YtfoloneeibgoiaaDoor.Fjh
open Go Go.RowKit Go.Proofs.YtfoloneeibgoiaaDoorW.PrintWords Go.Proofs.YtfoloneeibgoiaaDoor.Un Go.Proofs.YtfoloneeibgoiaaDoor.JTr Go.Proofs.YtfoloneeibgoiaaDoor.Ndr
open Go.Proofs.YtfoloneeibgoiaaDoor.PFnFjReadBytes (Laid)

theorem nput_ne {w : World} {g k : Nat} {a b c d : Value} (h : k ≠ g) : (nput w g a b c d).heap[k]? = w.heap[k]? := by
  unfold nput
  rw [Below.heap_setCell _ _ _ _ h, Below.heap_setCell _ _ _ _ h, Below.heap_setCell _ _ _ _ h, Below.heap_setCell _ _ _ _ h]
theorem nput_size {w : World} {g : Nat} {a b c d : Value} : (nput w g a b c d).heap.size = w.heap.size := by simp [nput, World.setCell]

theorem keys_map (f : ByteArray → ByteArray) : ∀ ks : List ByteArray, Keys (ks.map f) (ks.map fun k => bytesOf (f k))
  | [] => trivial
  | k :: ks => ⟨rfl, keys_map f ks⟩

set_option maxRecDepth 100000 in
set_option maxHeartbeats 8000000 in
theorem obj_ok {B pb po ab c : Nat} {A : Option Addr} {u : Bool} {ks : List ByteArray} {vs : List JV} {ps : Nat → Addr} {O : Nat → Addr → Prop} {own : Addr → Prop} {w : World} (IH : ∀ v ∈ vs, NdOk v)
    (hl : ks.length = vs.length) (h0 : Cel w ⟨pb, po, none⟩ (.slice A vs.length c)) (h1 : Cel w ⟨pb, po + 1, none⟩ (.bool u)) (hA0 : 0 < vs.length → A = some ⟨ab, 0, none⟩) (hab : pb ≠ ab)
    (hA : ∀ i, i < vs.length → Cel w ⟨ab, i * 2, none⟩ (.string (ks.getD i emptyS)) ∧ w.cell? ⟨ab, i * 2 + 1, none⟩ = some (.pointer (some (ps i))))
    (hO : ∀ i a, O i a → own a ∧ a ≠ ⟨pb, po + 1, none⟩ ∧ a.block ≠ ab) (hD : ∀ i j a, i < j → O i a → O j a → False) (hk : ∀ (i : Nat) (v : JV), vs[i]? = some v → Rep w (O i) (ps i) v) (hOk : ∀ i, i < vs.length → own ⟨ab, i * 2, none⟩) (hO0 : own ⟨pb, po, none⟩) (hO1 : own ⟨pb, po + 1, none⟩) (hOp : ∀ i, ¬ O i ⟨pb, po, none⟩)
    (hown : ∀ a, own a → B ≤ a.block ∧ a.block < w.heap.size) (hL : ∀ w', Below B w w' → Laid w') (hB : B ≤ w.heap.size) (hz : wszs vs ≤ 1000000000) (hzk : wszK ks ≤ 1000000000) :
    Calls Tryd.prog 33 #[.pointer (some ⟨pb, po, none⟩)] w (NdP own w (nt (.obj u ks vs))) := by
  have HVI := Lib.hid (show ∀ (g : Nat) (w3 : World), Below w.heap.size w w3 → w.heap.size ≤ g → w3.heap[g]? = some (.cells #[.int .i64 6, .string ⟨#[]⟩, nilS, nilS] 25 (0, 0)) → Calls Tryd.prog 53 #[.pointer (some ⟨pb, po, none⟩), .func (.func 54) #[] #[.pointer (some ⟨g, 0, none⟩)]] w3 (fun e w' => e = .returned (.tuple #[]) ∧ ViP g own w3 u ks vs w') from fun g w3 hb hg hg3 => by
    have mv : ∀ {a : Addr} {v : Value}, own a → Cel w a v → Cel w3 a v := fun ha h => h.mono ⟨hb.cell (hown _ ha).2, hb.frozen (hown _ ha).2⟩
    exact visit_ok (B := B) (A := A) (c := c) (ab := ab) (ps := ps) (O := O) IH hl (mv hO0 h0) (mv hO1 h1) hA0 hab (fun i hi => ⟨mv (hOk i hi) (hA i hi).1, cell_keep hb (hA i hi).2⟩) hO hD (fun i v hv => (hk i v hv).mono (fun a ha => ⟨ha, hb.cell (hown _ (hO i a ha).1).2, hb.frozen (hown _ (hO i a ha).1).2⟩)) hOk hO0 hO1 hOp (fun a ha => ⟨(hown a ha).1, by have := (hown a ha).2; omega⟩) (fun w' h => hL w' ((hb.mono hB).trans h)) (by omega) hz hzk hg3 (blk_lt hg3))
  have HL := Lib.hid (And.intro hl hown)
  clear IH hl h0 h1 hA0 hab hA hO hD hk hOk hO0 hO1 hOp hown hL hB hz hzk
  have hmf : ∀ fn first cap w, (Instr.makeFunc fn first cap).run Tryd.prog w = .ok (.func fn first cap) w := fun _ _ _ _ => rfl
  go_enter Tryd.func33, Tryd.ntmps33
  go_wp2_with (first
    | ((with_reducible refine gate_dst (N := 2) rfl ?_); refine box_event ?hg (N := 2) ?hd (cs := nd 0 ByteArray.empty nilS nilS) (t := 25) ?hr ?_; (case hd => rfl); (case hg => rfl); (case hr => first | (go_simp; done) | (go_simp; rfl)); intro g2 hg2 w2 hb2 hbel2; have HB2 := Lib.hid hb2; have BEL := Lib.hid hbel2; have HG2 := Lib.hid (show w.heap.size ≤ g2 from by omega); clear hb2 hbel2 hg2)
    | ((with_reducible refine gate_dst (N := 3) rfl ?_); refine box_event ?hg (N := 3) ?hd (cs := nd 0 ByteArray.empty nilS nilS) (t := 25) ?hr ?_; (case hd => rfl); (case hg => rfl); (case hr => first | (go_simp; done) | (go_simp; rfl)); intro g3 hg3 w3 hb3 hbel3; have HB3 := Lib.hid hb3; have HG3 := Lib.hid (show w.heap.size ≤ g3 ∧ g2 ≠ g3 ∧ g2 < g3 from (by have h1 := BEL.out.size; have h2 := blk_lt HB2.out; exact ⟨by omega, by omega, by omega⟩)); replace HB2 := Lib.hid ((hbel3.block g2 (blk_lt HB2.out)).trans HB2.out); replace BEL := Lib.hid (BEL.out.trans (hbel3.mono BEL.out.size)); obtain ⟨p0, p1, p2, p3⟩ := four HB3.out; obtain ⟨e0, e1, e2, e3⟩ := four_f HB3.out; clear hb3 hbel3 hg3)
    | (go_at_call 53; refine (HVI.out g3 _ ((((BEL.out.setCell HG3.out.1 _).setCell HG3.out.1 _).setCell HG3.out.1 _).setCell HG3.out.1 _) HG3.out.1 (nput_at HB3.out)).mono ?_; rintro e w6 ⟨rfl, hP⟩; have HP := Lib.hid hP; obtain ⟨ds, N, K, hs6, hl6, hn6, hf6⟩ := hP; obtain ⟨AN, nN, cN, rfl⟩ := row_form hs6.names; obtain ⟨AK, nK, cK, rfl⟩ := row_form hs6.kids; obtain ⟨p0, p1, p2, p3⟩ := four hs6.at_; have HS6 := Lib.hid hs6; have HN6 := Lib.hid (And.intro hl6 hn6); replace HB2 := Lib.hid ((hf6.block g2 HG3.out.2.2 (fun x hx e => by have h1 := (HL.out.2 x hx).2; have h2 := HG2.out; omega)).trans ((nput_ne HG3.out.2.1).trans HB2.out)); have FR := Lib.hid (((FrB.below (X := own) ((((BEL.out.setCell HG3.out.1 _).setCell HG3.out.1 _).setCell HG3.out.1 _).setCell HG3.out.1 _)).trans (hf6.le HG3.out.1)).toFrame (Nat.le_refl _)); obtain ⟨q0, q1, q2, q3⟩ := four HB2.out; obtain ⟨f0, f1, f2, f3⟩ := four_f HB2.out; clear hs6 hl6 hn6 hf6))
  refine bodyPost_ret (results_cell_row rfl _ _ g2 25 _ (0, 0) _ rfl (nput_at HB2.out) Tryd.underlying25 rfl (by kernel_rfl)) rfl ?_
  have hs6 := HS6.out
  have hsz := nput_size (w := w6) (g := g2) (a := .int .i64 6) (b := .string ⟨#[]⟩) (c := .slice AN nN cN) (d := .slice AK nK cK)
  have h1 := HG3.out
  have h2 := HG2.out
  refine ⟨_, rfl, .obj (O := Oown (g3 + 1) w6 (.slice AN nN cN) (.slice AK nK cK)) (bs := ks.map (nmF u)) (cs := ds) (keys_map (nmF u) ks) (own_keep (own_le hs6.names (Nat.zero_le _)) (fun k hk => nput_ne (by have := (hs6.names.lt k hk).1; omega))) (by rw [nts_len]; exact HN6.out.1) (by rw [nts_len, List.length_map]; exact HL.out.1) (own_keep (own_le hs6.kids (Nat.zero_le _)) (fun k hk => nput_ne (by have := (hs6.kids.lt k hk).1; omega))) (fun k hk => ⟨by have := (hs6.names.lt k hk).1; omega, by rw [hsz]; exact (hs6.names.lt k hk).2⟩) (fun k hk => ⟨by have := (hs6.kids.lt k hk).1; omega, by rw [hsz]; exact (hs6.kids.lt k hk).2⟩) (fun k hk => ⟨by have := hk.1.1; omega, by rw [hsz]; exact hk.1.2⟩) (fun i a t k1 k2 => (HN6.out.2 i a t k1 k2).mono (fun k hk => ⟨hk, nput_ne (by have := hk.1.1; omega)⟩)), nput_frame FR.out HG2.out⟩

set_option maxRecDepth 100000 in
set_option maxHeartbeats 8000000 in
theorem nd_obj {u : Bool} {ks : List ByteArray} {vs : List JV} (IH : ∀ v ∈ vs, NdOk v) : NdOk (.obj u ks vs) := by
  intro B own p w hR hown hL hB hz
  cases hR with
  | obj hp hl h0 h1 h4 o0 o1 o4 hRR hA hO hD hk =>
    rename_i A c ps O
    obtain ⟨pb, po, rfl⟩ : ∃ pb po, p = ⟨pb, po, none⟩ := ⟨p.block, p.off, by cases p; simp_all⟩
    simp only [fld, Nat.add_zero] at h0 h1 h4 o0 o1 o4
    have hz1 : wszs vs ≤ 1000000000 := by simp only [wsz] at hz; omega
    have hz2 : wszK ks ≤ 1000000000 := by simp only [wsz] at hz; omega
    have HCALL := Lib.hid (fun (w2 : World) (hb : Below w.heap.size w w2) => show Calls Tryd.prog 33 #[.pointer (some ⟨pb, po, none⟩)] w2 (NdP own w2 (nt (.obj u ks vs))) from by
      have mv : ∀ {a : Addr} {v : Value}, own a → Cel w a v → Cel w2 a v := fun ha h => h.mono ⟨hb.cell (hown _ ha).2, hb.frozen (hown _ ha).2⟩
      rcases Nat.eq_zero_or_pos vs.length with h00 | h00
      · exact obj_ok (ab := pb + 1) (B := B) (A := A) (c := c) (ps := ps) (O := fun _ _ => False) IH hl (mv o0 h0) (mv o1 h1) (fun h => by omega) (by omega) (fun i h => by omega) (fun i a h => h.elim) (fun i j a _ h => h.elim) (fun i v h => by rw [List.length_eq_zero_iff.1 h00] at h; simp at h) (fun i h => by omega) o0 o1 (fun i h => h) (fun a ha => ⟨(hown a ha).1, Nat.lt_of_lt_of_le (hown a ha).2 hb.size⟩) (fun w' h => hL w' ((hb.mono hB).trans h)) (Nat.le_trans hB hb.size) hz1 hz2
      · obtain ⟨ab, rfl, hab, hcs⟩ := hRR.arr (by have := hRR.le; omega)
        have hle := hRR.le
        refine obj_ok (ab := ab) (B := B) (c := c) (ps := ps) (O := O) IH hl (mv o0 h0) (mv o1 h1) (fun _ => rfl) (fun e => hab e.symm) (fun i hi => ?_) (fun i a h => ⟨(hO i a h).1, (hO i a h).2.1 1 (by omega), (hO i a h).2.2 _ rfl⟩) hD (fun i v h => (hk i v h).mono (fun a ha => ⟨ha, hb.cell (hown _ (hO i a ha).1).2, hb.frozen (hown _ (hO i a ha).1).2⟩)) (fun i hi => (hcs (i * 2) (by omega)).2.2) o0 o1 (fun i h => (hO i _ h).2.1 0 (by omega) rfl) (fun a ha => ⟨(hown a ha).1, Nat.lt_of_lt_of_le (hown a ha).2 hb.size⟩) (fun w' h => hL w' ((hb.mono hB).trans h)) (Nat.le_trans hB hb.size) hz1 hz2
        obtain ⟨e1, e2⟩ := hA _ rfl i hi
        simp only [Nat.mul_comm 2 i] at e1 e2
        exact ⟨mv (hcs (i * 2) (by omega)).2.2 ⟨e1, (hcs (i * 2) (by omega)).2.1⟩, cell_keep hb e2⟩)
    have H4 := Lib.hid h4
    have HO := Lib.hid (hown _ o4)
    have HX := Lib.hid hown
    clear hown hL hB hz h0 h1 h4 o0 o1 o4 hp hl hRR hA hO hD hk IH hz1 hz2
    go_enter Tryd.func17, Tryd.ntmps17
    go_wp2_with (first
      | ((with_reducible refine gate_dst (N := 2) rfl ?_); refine box_event ?hg (N := 2) ?hd (cs := nd 0 ByteArray.empty nilS nilS) (t := 25) ?hr ?_; (case hd => rfl); (case hg => rfl); (case hr => first | (go_simp; done) | (go_simp; rfl)); intro g2 hg2 w2 hb2 hbel2; have HB2 := Lib.hid hb2; have BEL := Lib.hid hbel2; have HG2 := Lib.hid (show w.heap.size ≤ g2 from by omega); clear hb2 hbel2 hg2)
      | (go_at_call 32; refine (type_other (by omega) (H4.out.mono ⟨BEL.out.cell HO.out.2, BEL.out.frozen HO.out.2⟩)).mono ?_; rintro e w3 ⟨rfl, rfl⟩)
      | (go_at_call 34; refine (getobj (pb := pb) (po := po) (H4.out.mono ⟨BEL.out.cell HO.out.2, BEL.out.frozen HO.out.2⟩)).mono ?_; rintro e w4 ⟨rfl, rfl⟩)
      | (go_at_call 33; refine (HCALL.out _ BEL.out).mono ?_; rintro e w6 ⟨b6, rfl, hN6, hf6⟩; obtain ⟨kx, xx, A1, A2, n1, c1, n2, c2, rfl⟩ := hN6.form; have HN6 := Lib.hid hN6; have HS6 := Lib.hid (And.intro BEL.out.size hf6.size); have HG26 := Lib.hid (blk_lt HB2.out); replace HB2 := Lib.hid ((hf6.block g2 (blk_lt HB2.out) (fun x hx e => by have h1 := (HX.out x hx).2; have h2 := HG2.out; omega)).trans HB2.out); have FR := Lib.hid ((Frame.below (X := own) BEL.out).trans hf6); obtain ⟨q0, q1, q2, q3⟩ := four HB2.out; obtain ⟨f0, f1, f2, f3⟩ := four_f HB2.out; clear hN6 hf6))
    refine bodyPost_ret (results_cell_row rfl _ _ g2 25 _ (0, 0) _ rfl (nput_at HB2.out) Tryd.underlying25 rfl (by kernel_rfl)) rfl ?_
    have hsz := nput_size (w := w6) (g := g2) (a := .int .i64 kx) (b := .string xx) (c := .slice A1 n1 c1) (d := .slice A2 n2 c2)
    have h26 := HG26.out
    have hs6 := HS6.out
    exact ⟨_, rfl, HN6.out.mono (fun k hk => ⟨⟨by have := hk.1; omega, by rw [hsz]; exact hk.2⟩, nput_ne (by have := hk.1; omega)⟩), nput_frame FR.out HG2.out⟩

theorem nd_any : ∀ (n : Nat) (v : JV), SizeOf.sizeOf v < n → NdOk v
  | 0, _, h => absurd h (Nat.not_lt_zero _)
  | n + 1, .num s, _ => nd_num
  | n + 1, .raw s, _ => nd_raw
  | n + 1, .dec s, _ => nd_dec
  | n + 1, .lit s, _ => nd_lit
  | n + 1, .arr vs, h => nd_arr (fun v hv => nd_any n v (by have := List.sizeOf_lt_of_mem hv; simp only [JV.arr.sizeOf_spec] at h; omega))
  | n + 1, .obj u ks vs, h => nd_obj (fun v hv => nd_any n v (by have := List.sizeOf_lt_of_mem hv; simp only [JV.obj.sizeOf_spec] at h; omega))
/-- fjNode answers for every value. -/
theorem nd_all (v : JV) : NdOk v := nd_any (SizeOf.sizeOf v + 1) v (by omega)

end Go.Proofs.YtfoloneeibgoiaaDoor.Fjh

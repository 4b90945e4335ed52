/- Words for walks beyond the print's own: the conversion of a text to bytes as an event. -/
import Derived.Test.YtkhgbacbnkgafaaDoorWMore
import Derived.SizedLaws
import Derived.SliceStrings
import Derived.ScopeJumps
import Derived.WalkMore
import Derived.Deep.LoopGhost
namespace Go.Proofs.YtkhgbacbnkgafaaDoorW.PrintWords
open Go.RowKit Go.Proofs.YtkhgbacbnkgafaaDoorW.PrintMore Go.ChangeShapes Go.WideShapes

section
variable {P : Program} {ops : Array Oper} {rest : List Oper} {o : Oper} {a : Act} {Q : Exit → Act → World → Prop}

/-- '[]byte(s)': a row of its own block that is only read. -/
theorem conv_event {s : ByteArray} {src dst e : Nat} {W : World} (hgd : o.guard = none) {N : Tmp} (_hd : o.dst = some N) (x : Operand) (ho : o.op = .convert src dst x) (hx : a.eval x = .string s)
    (hsrc : P.underlying src = some .string) (hdst : P.underlying dst = some (.slice e)) (he : P.underlying e = some (.int .u8)) (hs : s.size ≤ 9223372036854775807)
    (h : ∀ v w1, Kd.V (Kd.int .u8) e w1 W.heap.size (fun k => W.heap.size ≤ k) v (bytesOf s) → Below W.heap.size W w1 → wpList P ops Q rest (a.put o.dst v) w1) :
    wpList P ops Q (o :: rest) a W := by
  have hl := bytesOf_length s
  refine Kd.event_run (v := .slice (some ⟨W.heap.size, 0, none⟩) s.size (grownCap W s.size 0 e)) (w1 := Lib.bytesWorld W e s) hgd ?_ (h _ _ ?_ ?_)
  · simp [execOp, ho, hx, print_bytes (P := P) src dst e hsrc hdst he s W]
  · refine ⟨some ⟨W.heap.size, 0, none⟩, grownCap W s.size 0 e, ?_, ?_, ?_⟩
    · rw [hl]
    · rw [hl]; exact grownCap_ge W s.size 0 e
    · rw [hl]
      intro W' hW
      have hr := bytes_reads W e s hs
      have hb : W'.heap[W.heap.size]? = (Lib.bytesWorld W e s).heap[W.heap.size]? := hW _ (Nat.le_refl _) (by rw [Lib.bytesWorld_size]; omega)
      have hr' : ReadsInt W' .u8 (some ⟨W.heap.size, 0, none⟩) s.size (bytesOf s) := by
        refine ⟨hr.1, hr.2.1, fun hn => ?_⟩
        obtain ⟨ad, e1, hc⟩ := hr.2.2 hn
        refine ⟨ad, e1, fun j hj => ?_⟩
        injection e1 with e1
        subst e1
        rw [← hc j hj]
        rw [add_plain]
        exact World.cell?_of_block hb
      exact Kd.C_of_reads (d := (0 : Int)) (h1 := fun _ => rfl) hr'
  · exact bytes_below (Below.refl _ _) (Nat.le_refl _) e s
end

/-! ### Rows of the call's own whose block may bear the model's mark behind (or ahead of) its cells: what '[]byte(s)' makes -/
def rowB (w : World) (base e : Nat) (v : Value) (n : Nat) (xs : List Value) : Prop :=
  xs.length = n ∧ ((v = .slice none 0 0 ∧ n = 0) ∨
   ∃ g cap cur fr, v = .slice (some ⟨g, 0, none⟩) n cap ∧ base ≤ g ∧ w.heap[g]? = some (.cells cur e fr) ∧ (∀ j, j < cur.size → (decide (fr.1 ≤ j) && decide (j < fr.2)) = false) ∧ n ≤ cap ∧ cap ≤ maxLen ∧ cur.size = cap ∧ cur.toList.take n = xs)

theorem rowB_of {w : World} {base e n : Nat} {v : Value} {xs : List Value} (h : w.ownsRow base e 1 v n xs) : rowB w base e v n xs := by
  obtain ⟨h1, h2⟩ := h
  refine ⟨by omega, ?_⟩
  rcases h2 with h2 | ⟨g, cap, cur, rfl, hg, hh, hn, hc, hs, ht⟩
  · exact .inl h2
  · exact .inr ⟨g, cap, cur, (0, 0), rfl, hg, hh, fun j _ => by simp, hn, hc, by omega, by simpa using ht⟩

/-- A row of numbers (or of other things of one cell) as such a row. -/
def Kd.B {α : Type} (d : Kd α) (e : Nat) (w : World) (base : Nat) (ok : Nat → Prop) (v : Value) (xs : List α) : Prop :=
  (∀ k, v.ownBlock = some k → ok k) ∧ (d.sz = 1 ∧ ∀ (w w' : World) (b b' : Nat) (o o' : Nat → Prop) (x : α) (cs : List Value), d.M w b o x cs → d.M w' b' o' x cs) ∧ ∃ inner, rowB w base e v xs.length inner ∧ Reps (fun x cs => ∀ (w : World) (b : Nat) (o : Nat → Prop), d.M w b o x cs) 1 xs inner

namespace Kd
section
variable {α β : Type} {d : Kd α} {d' : Kd β} {e e' : Nat} {w w1 W : World} {base b base' : Nat} {ok ok' oku : Nat → Prop} {u v v1 : Value} {xs : List α} {ys : List β}
theorem B_mono (h : d.B e w base ok v xs) (hok : ∀ k, ok k → ok' k) : d.B e w base ok' v xs := ⟨fun k hk => hok k (h.1 k hk), h.2⟩
theorem B_lt (h : d.B e w base ok v xs) : ∀ k, v.ownBlock = some k → k < w.heap.size := by
  obtain ⟨_, _, inner, ⟨_, h2⟩, _⟩ := h
  intro k hk
  rcases h2 with ⟨rfl, _⟩ | ⟨g, cap, cur, fr, rfl, _, hh, _⟩
  · simp [Value.ownBlock] at hk
  · obtain rfl : g = k := by simpa [Value.ownBlock] using hk
    exact (Array.getElem?_eq_some_iff.1 hh).1
theorem B_base (h : d.B e w base ok v xs) : ∀ k, v.ownBlock = some k → base ≤ k := by
  obtain ⟨_, _, inner, ⟨_, h2⟩, _⟩ := h
  intro k hk
  rcases h2 with ⟨rfl, _⟩ | ⟨g, cap, cur, fr, rfl, hb, _⟩
  · simp [Value.ownBlock] at hk
  · obtain rfl : g = k := by simpa [Value.ownBlock] using hk
    exact hb
theorem B_move (h : d.B e w base ok v xs) (hm : ∀ k, v.ownBlock = some k → w1.heap[k]? = w.heap[k]?) : d.B e w1 base ok v xs := by
  obtain ⟨h0, hs, inner, ⟨h1, h2⟩, hr⟩ := h
  refine ⟨h0, hs, inner, ⟨h1, ?_⟩, hr⟩
  rcases h2 with h2 | ⟨g, cap, cur, fr, rfl, hb, hh, r⟩
  · exact .inl h2
  · exact .inr ⟨g, cap, cur, fr, rfl, hb, (hm g (by simp [Value.ownBlock])).trans hh, r⟩
theorem B_below (h : d.B e w base ok v xs) (hb : Below w.heap.size w w1) : d.B e w1 base ok v xs := B_move h (fun k hk => hb.block k (B_lt h k hk))
theorem B_alloc (h : d.B e w base ok v xs) (o : Obj) : d.B e (w.alloc o) base ok v xs := B_below h (below_alloc (Below.refl _ _) o)
theorem B_drew (h : d.B e w base ok v xs) : d.B e w.drew base ok v xs := B_below h (below_drew (Below.refl _ _))
theorem B_drewN (h : d.B e w base ok v xs) (m : Nat) : d.B e (w.drewN m) base ok v xs := B_below h (pw_below_drewN (Below.refl _ _) m)
theorem B_lower (h : d.B e w base ok v xs) (hb : base' ≤ base) : d.B e w base' ok v xs := by
  obtain ⟨h0, hs, inner, ⟨h1, h2⟩, hr⟩ := h
  refine ⟨h0, hs, inner, ⟨h1, ?_⟩, hr⟩
  rcases h2 with h2 | ⟨g, cap, cur, fr, rfl, hg, r⟩
  · exact .inl h2
  · exact .inr ⟨g, cap, cur, fr, rfl, Nat.le_trans hb hg, r⟩
theorem B_after (h : d.B e W base (fun k => ok k ∧ some k ≠ v.ownBlock) u xs) (hg : W.grownBy w1 v.ownBlock) (hat : v1.ownBlock = v.ownBlock ∨ ∃ b, v1.ownBlock = some b ∧ W.heap.size ≤ b) : d.B e w1 base (fun k => ok k ∧ some k ≠ v1.ownBlock) u xs := by
  have h2 : d.B e w1 base (fun k => ok k ∧ some k ≠ v.ownBlock) u xs := B_move h (fun k hk => hg.block k (B_lt h k hk) (h.1 k hk).2)
  refine ⟨fun k hk => ⟨(h.1 k hk).1, ?_⟩, h2.2⟩
  rcases hat with hat | ⟨b, hb, hle⟩
  · rw [hat]; exact (h.1 k hk).2
  · rw [hb]
    intro he
    injection he with he
    have := B_lt h k hk
    omega
theorem B_ne (h : d.B e w base ok v xs) {g t : Nat} {cells : Array Value} (hb : w.heap[g]? = some (.cells cells t (0, 0))) (ht : e ≠ t) : some g ≠ v.ownBlock := by
  obtain ⟨_, _, inner, ⟨_, h2⟩, _⟩ := h
  rcases h2 with ⟨rfl, _⟩ | ⟨g', cap, cur, fr, rfl, _, hh, _⟩
  · simp [Value.ownBlock]
  · intro he
    obtain rfl : g = g' := by simpa [Value.ownBlock] using he
    rw [hb] at hh
    injection hh with hh
    injection hh with _ ht'
    exact ht ht'.symm
theorem B_elder' (hu : d.B e W base ok u xs) (hbase : ∀ k, v.ownBlock = some k → W.heap.size ≤ k) (hb : Below W.heap.size W w1) : d.B e w1 base (fun k => ok k ∧ some k ≠ v.ownBlock) u xs :=
  ⟨fun k hk => ⟨hu.1 k hk, fun he => by have := hbase k he.symm; have := B_lt hu k hk; omega⟩, (B_below hu hb).2⟩
theorem B_new' (h : d.B e w1 W.heap.size ok v xs) (hlt : ∀ k, u.ownBlock = some k → k < W.heap.size) : d.B e w1 W.heap.size (fun k => ok k ∧ some k ≠ u.ownBlock) v xs :=
  ⟨fun k hk => ⟨h.1 k hk, fun he => by have := hlt k he.symm; have := B_base h k hk; omega⟩, h.2⟩
theorem B_grown (h : d.B e w base ok v xs) {row : Option Nat} (hg : w.grownBy w1 row) (hok : ∀ k, ok k → some k ≠ row) : d.B e w1 base ok v xs := B_move h (fun k hk => hg.block k (B_lt h k hk) (hok k (h.1 k hk)))
theorem B_of_R {enc : α → Value} {h1 : ∀ x, (enc x).oneCell' = true} (h : (scalar enc h1).R e w base ok v xs) : (scalar enc h1).B e w base ok v xs := by
  obtain ⟨h0, inner, ho, hr⟩ := h
  exact ⟨h0, ⟨rfl, fun _ _ _ _ _ _ _ _ h => h⟩, inner, rowB_of ho, hr.imp_ (fun _ _ hp _ _ _ => hp)⟩
end
section
variable {P : Program} {ops : Array Oper} {rest : List Oper} {o : Oper} {a : Act} {Q : Exit → Act → World → Prop} {α : Type}
theorem B_append (d : Kd α) {w0 W : World} (base : Nat) (hgd : o.guard = none) (s x : Operand) (t e : TypeId) (z : Value) (bytes : Nat)
    (ho : o.op = .call { callee := .builtin .append, args := #[s, x], argTypes := #[t, t] })
    (ht : P.underlying t = some (.slice e)) (hinfo : (P.info? e).map (fun i => (i.zero, i.size, i.bytes)) = some (some z, d.sz, bytes)) (hz : z.cells.size = d.sz) (hs0 : 0 < d.sz) (hb0 : 0 < bytes)
    (v : Value) (xs : List α) (p : α) (cs : List Value) (ok okp : Nat → Prop) (hs : a.eval s = v) (hx : a.eval x = .slice (some ⟨W.heap.size, 0, none⟩) 1 1) (hp1 : d.M W base okp p cs) (_hokp : ∀ k, okp k → ok k ∧ some k ≠ v.ownBlock) (hfresh : ∀ k, W.heap.size ≤ k → ok k)
    (HO : d.B e W base ok v xs) (HB : Below base w0 W) (hbase : base ≤ W.heap.size) (hl : (xs.length + 1) * bytes ≤ 140737488355328)
    (h : ∀ v1 w1, d.B e w1 base ok v1 (xs ++ [p]) → Below base w0 w1 → W.grownBy w1 v.ownBlock → (v1.ownBlock = v.ownBlock ∨ ∃ b, v1.ownBlock = some b ∧ W.heap.size ≤ b) → wpList P ops Q rest (a.put o.dst v1) w1) :
    wpList P ops Q (o :: rest) a (W.alloc (.cells cs.toArray e)) := by
  obtain ⟨h0, hsz', inner, ⟨hl1, h2⟩, hr⟩ := HO
  have hsz := hsz'.1
  have hp : ∀ (w : World) (b : Nat) (o : Nat → Prop), d.M w b o p cs := fun w b o => hsz'.2 _ w _ b _ o _ _ hp1
  have hcs : cs.length = 1 := by rw [← hsz]; exact d.K_len (d.K_of_M (hp W 0 (fun _ => True)))
  have h1cs := d.K_one (d.K_of_M (hp W 0 (fun _ => True)))
  have hr' : Reps (fun x cs => ∀ (w : World) (b : Nat) (o : Nat → Prop), d.M w b o x cs) 1 (xs ++ [p]) (inner ++ cs) := hr.snoc hp hcs
  have plain : W.ownsRow base e 1 v xs.length inner → wpList P ops Q (o :: rest) a (W.alloc (.cells cs.toArray e)) := by
    intro hown
    refine print_append_cells base hgd s x t e z d.sz bytes ho ht hinfo hz hs0 hb0 v xs.length inner cs hs hx (d.K_len (d.K_of_M (hp W 0 (fun _ => True)))) h1cs (by rw [hsz]; exact hown) HB hbase hl ?_
    intro v1 w1 hown1 hb1 hg1 hat1
    refine h v1 w1 ⟨fun k hk => ?_, hsz', inner ++ cs, ?_, hr'⟩ hb1 hg1 hat1
    · rcases hat1 with hat | ⟨b, hb, hle⟩
      · exact h0 k (hat ▸ hk)
      · rw [hb] at hk; injection hk with hk; exact hfresh k (by omega)
    · rw [List.length_append, List.length_singleton]
      exact rowB_of (by rw [hsz] at hown1; exact hown1)
  rcases h2 with ⟨rfl, hn⟩ | ⟨g, cap, cur, fr, rfl, hb, hh, hfr, hn, hc, hcs', ht'⟩
  · exact plain ⟨by omega, .inl ⟨rfl, hn⟩⟩
  obtain ⟨i0, hi, hzz⟩ := Option.map_eq_some_iff.1 hinfo
  simp only [Prod.mk.injEq] at hzz
  obtain ⟨hz0, hz1, hz2⟩ := hzz
  have hgl : g < W.heap.size := (Array.getElem?_eq_some_iff.1 hh).1
  have hh' : (W.alloc (.cells cs.toArray e)).heap[g]? = some (.cells cur e fr) := ((below_alloc (Below.refl W.heap.size W) (.cells cs.toArray e)).block g hgl).trans hh
  have hlen : xs.length + 1 ≤ 140737488355328 := Nat.le_trans (Nat.le_mul_of_pos_right _ hb0) hl
  have hcell : ∀ j, j < cur.size → (W.alloc (.cells cs.toArray e)).cell? ⟨g, j, none⟩ = cur[j]? := by
    intro j hj
    simp [World.cell?, hh']
  obtain ⟨c0, rfl⟩ := List.length_eq_one_iff.1 hcs
  refine wpList_append_arg (W.alloc (.cells [c0].toArray e)) hgd s x t ho e i0 z d.sz bytes ht hi hz0 hz1 hz2 hz hs0 g 0 xs.length cap inner hs ?_ ?_ ⟨W.heap.size, 0, none⟩ 1 1 [c0] hx (by rw [hsz]; rfl) ?_ h1cs ?_ (by simp only [maxLen]; omega) hl ?_ ?_
  · rw [hsz]; omega
  · intro j u hj
    have hjl := (List.getElem?_eq_some_iff.1 hj).1
    rw [Nat.zero_add, hcell j (by omega), ← hj, ← ht', List.getElem?_take_of_lt (by omega), Array.getElem?_toList]
  · intro j u hj
    have := World.news_of_block (cs := [c0].toArray) (t := e) (fr := (0, 0)) (heap_alloc_new W (.cells [c0].toArray e))
    exact this j u (by simpa using hj)
  · intro hroom j hj
    have hj0 : j = 0 := by simpa using hj
    subst hj0
    rw [hsz]
    have hlt : xs.length < cur.size := by omega
    refine ⟨?_, ?_⟩
    · rw [show 0 + xs.length * 1 + 0 = xs.length by omega, hcell _ hlt, Array.getElem?_eq_getElem hlt]; rfl
    · rw [show 0 + xs.length * 1 + 0 = xs.length by omega]
      have := hfr _ hlt
      simp only [World.frozen?, hh']
      exact this
  · intro hroom
    have hlt : xs.length < cur.size := by omega
    rw [hsz, show 0 + xs.length * 1 = xs.length by omega]
    have hset : (W.alloc (.cells [c0].toArray e)).setCells g xs.length [c0] = (W.alloc (.cells [c0].toArray e)).setCell ⟨g, xs.length, none⟩ c0 := by
      simp [World.setCells]
    have hb1 : Below base w0 (W.alloc (.cells [c0].toArray e)) := HB.alloc hbase _
    have hg1 : (W.alloc (.cells [c0].toArray e)).grownBy ((W.alloc (.cells [c0].toArray e)).setCells g xs.length [c0]) (some g) := by
      rw [hset]
      exact ⟨rfl, rfl, rfl, by simp, fun k _ hk => Below.heap_setCell _ _ _ k (fun he => hk (by rw [he]))⟩
    refine h _ _ ⟨h0, hsz', inner ++ [c0], ⟨by simp [hl1], .inr ⟨g, cap, cur.setIfInBounds xs.length c0, fr, by rw [List.length_append]; rfl, hb, ?_, ?_, by rw [List.length_append, List.length_singleton]; exact hroom, hc, by simpa using hcs', ?_⟩⟩, hr'⟩ ?_ ?_ (.inl rfl)
    · rw [hset]
      simp [World.setCell, Array.getElem?_modify, hh']
    · intro j hj
      exact hfr j (by simpa using hj)
    · rw [List.length_append, List.length_singleton, ← ht']
      simp only [Array.toList_setIfInBounds]
      have hlt' : xs.length < cur.toList.length := by simpa using hlt
      rw [List.take_set, List.take_succ_eq_append_getElem hlt', List.set_append_right _ _ (by simp; omega)]
      simp [Nat.min_eq_left (Nat.le_of_lt hlt)]
    · exact hb1.grown hg1 (by simp; omega) (fun k hk => by injection hk with hk; omega)
    · exact World.grownBy.trans (World.grownBy_alloc W _ _) hg1
  · intro hgrow v' w' hown hg1
    rw [hsz] at hown
    have hown1 : w'.ownsRow base e 1 v' (xs.length + 1) (inner ++ [c0]) := own_weaken hown (by simp; omega)
    have hgb : W.grownBy w' none := World.grownBy.trans (World.grownBy_alloc W _ _) hg1
    have hfr' : ∃ b, v'.ownBlock = some b ∧ W.heap.size ≤ b := by
      obtain ⟨g', cap', rfl, hb', _⟩ := hown.form (by omega)
      exact ⟨g', rfl, by simp at hb'; omega⟩
    refine h v' w' ⟨fun k hk => ?_, hsz', inner ++ [c0], ?_, hr'⟩ ?_ ?_ (.inr hfr')
    · obtain ⟨b, hb', hle⟩ := hfr'
      rw [hb'] at hk; injection hk with hk; exact hfresh k (by omega)
    · rw [List.length_append, List.length_singleton]; exact rowB_of hown1
    · exact (HB.alloc hbase _).grown hg1 (by simp; omega) (fun k hk => by cases hk)
    · exact ⟨hgb.os, hgb.tape, hgb.output, hgb.size, fun k hk _ => hgb.block k hk (by simp)⟩
end
end Kd

/-- 'string(b)' of such a row. -/
theorem ownB_string {P : Program} {w : World} {base : Nat} {e' src dst e : TypeId} {ok : Nat → Prop} {v : Value} {xs : List Int} (hs : P.underlying src = some (.slice e)) (he : P.underlying e = some (.int .u8)) (hd : P.underlying dst = some .string)
    (h : (Kd.int .u8).B e' w base ok v xs) : (convert src dst v).run P w = .ok (.string (strOfNums xs)) w := by
  obtain ⟨_, _, inner, ⟨hl1, h2⟩, hr⟩ := h
  rcases h2 with ⟨rfl, hn⟩ | ⟨g, cap, cur, fr, rfl, hb, hh, hfr, hn, hc, hcs', ht'⟩
  · obtain rfl : xs = [] := List.eq_nil_of_length_eq_zero hn
    exact run_convert_bytes_nil w src e hs he 0 0 dst hd
  · refine run_convert_bytes_arg w src e hs he g 0 xs.length cap xs rfl (fun i hi => ?_) dst hd
    have h3 := hr.2 i _ (List.getElem?_eq_getElem hi) w 0 (fun _ => True)
    have h4 : ((inner.drop (i * 1)).take 1) = [.int .u8 (xs[i])] := h3
    have h5 : inner[i]? = some (.int .u8 xs[i]) := by
      have := congrArg (fun l => l[0]?) h4
      simpa [List.getElem?_take, List.getElem?_drop] using this
    have h6 : cur[i]? = some (.int .u8 xs[i]) := by
      rw [← h5, ← ht', List.getElem?_take_of_lt hi, Array.getElem?_toList]
    simp [World.cell?, hh, h6, List.getD_eq_getElem?_getD, List.getElem?_eq_getElem hi]

theorem Kd.B_set {α : Type} {d : Kd α} {e base g t : Nat} {w : World} {ok : Nat → Prop} {v : Value} {xs : List α} {cells : Array Value} (h : d.B e w base ok v xs) (hb : w.heap[g]? = some (.cells cells t (0, 0))) (ht : e ≠ t) (j : Nat) (u : Value) : d.B e (w.setCell ⟨g, j, none⟩ u) base ok v xs :=
  Kd.B_move h (fun k hk => Below.heap_setCell _ _ _ k (fun he => Kd.B_ne h hb ht (by rw [hk, he])))

/-- 'string(b)' behind a store, or two, into another block. -/
theorem ownB_string1 {P : Program} {w : World} {base g t : Nat} {e' src dst e : TypeId} {ok : Nat → Prop} {v : Value} {xs : List Int} {cells : Array Value} (hs : P.underlying src = some (.slice e)) (he : P.underlying e = some (.int .u8)) (hd : P.underlying dst = some .string)
    (h : (Kd.int .u8).B e' w base ok v xs) (hb : w.heap[g]? = some (.cells cells t (0, 0))) (ht : e' ≠ t) : ∀ (j : Nat) (u : Value), (convert src dst v).run P (w.setCell ⟨g, j, none⟩ u) = .ok (.string (strOfNums xs)) (w.setCell ⟨g, j, none⟩ u) :=
  fun j u => ownB_string hs he hd (Kd.B_set h hb ht j u)
theorem ownB_string2 {P : Program} {w : World} {base g t : Nat} {e' src dst e : TypeId} {ok : Nat → Prop} {v : Value} {xs : List Int} {cells : Array Value} (hs : P.underlying src = some (.slice e)) (he : P.underlying e = some (.int .u8)) (hd : P.underlying dst = some .string)
    (h : (Kd.int .u8).B e' w base ok v xs) (hb : w.heap[g]? = some (.cells cells t (0, 0))) (ht : e' ≠ t) : ∀ (j : Nat) (u : Value) (j' : Nat) (u' : Value), (convert src dst v).run P ((w.setCell ⟨g, j, none⟩ u).setCell ⟨g, j', none⟩ u') = .ok (.string (strOfNums xs)) ((w.setCell ⟨g, j, none⟩ u).setCell ⟨g, j', none⟩ u') :=
  fun j u j' u' => ownB_string1 hs he hd (Kd.B_set h hb ht j u) (blk_set hb j u) ht j' u'

section
variable {P : Program} {ops : Array Oper} {rest : List Oper} {o : Oper} {a : Act} {Q : Exit → Act → World → Prop}
/-- '[]byte(s)': a row of the call's own, its block marked behind its cells. -/
theorem conv_eventB {s : ByteArray} {src dst e : Nat} {W : World} (hgd : o.guard = none) {N : Tmp} (_hd : o.dst = some N) (x : Operand) (ho : o.op = .convert src dst x) (hx : a.eval x = .string s)
    (hsrc : P.underlying src = some .string) (hdst : P.underlying dst = some (.slice e)) (he : P.underlying e = some (.int .u8)) (hs : s.size ≤ 140737488355328)
    (h : ∀ v w1, (Kd.int .u8).B e w1 W.heap.size (fun k => W.heap.size ≤ k) v (bytesOf s) → Below W.heap.size W w1 → wpList P ops Q rest (a.put o.dst v) w1) :
    wpList P ops Q (o :: rest) a W := by
  have hl := bytesOf_length s
  refine Kd.event_run (v := .slice (some ⟨W.heap.size, 0, none⟩) s.size (grownCap W s.size 0 e)) (w1 := Lib.bytesWorld W e s) hgd ?_ (h _ _ ?_ ?_)
  · simp [execOp, ho, hx, print_bytes (P := P) src dst e hsrc hdst he s W]
  · have hge := grownCap_ge W s.size 0 e
    have hcm : grownCap W s.size 0 e ≤ maxLen := grownCap_le_maxLen W s.size 0 e (by simp only [maxLen]; omega)
    refine ⟨fun k hk => ?_, ⟨rfl, fun _ _ _ _ _ _ _ _ h => h⟩, nums .u8 (bytesOf s), ⟨by simp [nums], .inr ⟨W.heap.size, grownCap W s.size 0 e, Lib.bytesCells W e s, ((Lib.bytesCells W e s).size, (Lib.bytesCells W e s).size + 1), by rw [hl], Nat.le_refl _, ?_, ?_, by rw [hl]; exact hge, hcm, ?_, ?_⟩⟩, ?_⟩
    · obtain rfl : W.heap.size = k := by simpa [Value.ownBlock] using hk
      exact Nat.le_refl _
    · exact Lib.bytesWorld_at_new W e s
    · intro j hj
      simp; omega
    · have hd : s.data.size = s.size := rfl
      simp [Lib.bytesCells]; omega
    · rw [hl, Lib.bytesCells, Array.toList_append, List.take_append_of_le_length (by have hd : s.data.size = s.size := rfl; simp), List.take_of_length_le (by have hd : s.data.size = s.size := rfl; simp)]
      simp [nums, bytesOf]
    · exact (Kd.reps_scalar (enc := Value.int .u8) (bytesOf s)).imp_ (fun _ _ h _ _ _ => h)
  · exact bytes_below (Below.refl _ _) (Nat.le_refl _) e s
end

/-! ### A parameter of type []string, opened -/
def IsRowS (w : World) (a : Option Addr) (len cap : Nat) (zs : List ByteArray) : Prop :=
  (a = none ∧ len = 0 ∧ cap = 0 ∧ zs = []) ∨
  ∃ x, a = some x ∧ len ≤ cap ∧ cap ≤ maxLen ∧ zs.length = cap ∧ (∀ i, i < zs.length → w.cell? (x.add i) = some (.string (zs.getD i ByteArray.empty))) ∧ ∀ s ∈ zs, s.size ≤ maxLen

theorem ofRowS {w : World} {a : Option Addr} {len cap : Nat} {zs : List ByteArray} (h : IsRowS w a len cap zs) :
    ∃ l : List ByteArray, len = l.length ∧ Kd.string.C w a l.length l ∧ l.length ≤ maxLen ∧ (∀ s ∈ l, s.size ≤ maxLen) ∧ l.length ≤ cap := by
  rcases h with ⟨rfl, rfl, rfl, rfl⟩ | ⟨x, rfl, hl, hm, hz, hc, hs⟩
  · exact ⟨[], rfl, Kd.C_nil _ _, by simp, by simp, Nat.le_refl _⟩
  · have hlen : (zs.take len).length = len := by rw [List.length_take]; omega
    refine ⟨zs.take len, hlen.symm, ⟨rfl, by simp only [maxLen] at hm; omega, fun _ => ⟨x, rfl, fun j p hj => ⟨[.string p], rfl, rfl, fun i u hu => ?_⟩⟩⟩, by omega, fun s hs' => hs s (List.mem_of_mem_take hs'), by omega⟩
    have hi : i = 0 := by
      have := (List.getElem?_eq_some_iff.1 hu).1
      simpa using this
    subst hi
    have hu' : u = .string p := by simpa using hu.symm
    have hj2 := (List.getElem?_eq_some_iff.1 hj).1
    rw [List.getElem?_take_of_lt (by omega)] at hj
    have := hc j (by omega)
    rw [List.getD_eq_getElem?_getD, hj] at this
    rw [hu']
    show w.cell? (x.add (j * 1 + 0)) = _
    simpa using this

theorem strs_row {H : Type} {enc : TypeId × Value → H} {P : Program} {W : World} {t e : TypeId} {a : Option Addr} {len cap : Nat} {d : DataW H} {ps : List MemPlace}
    (hu : P.underlying t = some (.slice e)) (he : P.underlying e = some .string) (hc : P.cellsOf e = 1)
    (h : DataW.Trod enc P W 0 (fun _ => true) true t (.slice a len cap) d ps) : ∃ zs, IsRowS W a len cap zs := by
  obtain ⟨fuel, hf⟩ := h
  rcases open_strings hu he hc hf with ⟨hcs, _⟩ | ⟨x, l, c, zs, hcs, _, hl, hm, hz, _, hcell, hwz⟩
  · simp [Value.cells] at hcs
    obtain ⟨rfl, rfl, rfl⟩ := hcs
    exact ⟨[], .inl ⟨rfl, rfl, rfl, rfl⟩⟩
  · simp [Value.cells] at hcs
    obtain ⟨rfl, rfl, rfl⟩ := hcs
    exact ⟨zs, .inr ⟨_, rfl, hl, hm, by simpa using hz, hcell, hwz⟩⟩

theorem sized_strs {H : Type} {enc : TypeId × Value → H} {P : Program} {W : World} {base : Nat} {spare : Nat → Bool} {held : Bool} {t e : TypeId} {a : Option Addr} {len cap : Nat} {d : DataW H} {ps : List MemPlace} {ts : List TypeId} {ds : List (DataW H)} {j : Nat}
    (hsz : (DataW.weightsEach P ts ds).all (· ≤ reachBytes) = true) (ht : ts[j]? = some t) (hd : ds[j]? = some d) (hu : P.underlying t = some (.slice e)) (he : P.underlying e = some .string) (hc : P.cellsOf e = 1) {B : Nat} (hB : P.bytesOf e = B)
    (h : DataW.Trod enc P W base spare held t (.slice a len cap) d ps) : len * B ≤ 140737488351232 := by
  obtain ⟨fuel, hf⟩ := h
  rcases open_strings hu he hc hf with ⟨hcs, _⟩ | ⟨x, l, c, zs, hcs, _, hl, _, hz, hx, _, _⟩
  · simp [Value.cells] at hcs
    obtain ⟨rfl, rfl, rfl⟩ := hcs
    simp
  · simp [Value.cells] at hcs
    obtain ⟨rfl, rfl, rfl⟩ := hcs
    obtain ⟨hx, _⟩ := Prod.mk.inj hx
    subst hx
    have z := sized_slice hsz ht hd hu
    rw [hB] at z
    have hl2 : len ≤ zs.length := by
      rw [hz]
      split
      · exact hl
      · exact Nat.le_refl _
    have h1 : (strs (H := H) (zs.take len)).length + (strs (H := H) (zs.drop len)).length = zs.length := by
      simp [strs]
      omega
    rw [h1] at z
    exact Nat.le_trans (Nat.mul_le_mul_right _ hl2) z

/-! ### A scope that begins with a label, and jumps back to it: the relation bears a number that every jump lowers -/
section
variable {P : Program} {a : Act} {w : World} {Q : Exit → Act → World → Prop}
theorem wp_label_ghost {l : Nat} {rest : Code} (I : Nat → Act → World → Prop) (n₀ : Nat) (h₀ : I n₀ a w)
    (round : ∀ n a w, I n a w → ∀ K : Act → World → Prop, (∀ k a' w', k < n → I k a' w' → K a' w') → rest.wp P (Exit.jump l K Q) a w) : (Code.scope (.seq (.label l) rest)).wp P Q a w := by
  have hlab : findLabel (.seq (.label l) rest) l = some (.seq .skip rest) := by simp [findLabel]
  refine wp_scope_jumps l (fun a w => ∃ n, I n a w) (fun a w => leastOf (fun n => I n a w)) hlab ?_ ?_
  · refine wp_seq (wp_label ?_)
    exact round n₀ a w h₀ _ (fun k a' w' _ hi => ⟨k, hi⟩)
  · intro a w hI
    refine wp_seq (wp_skip ?_)
    exact round _ a w (leastOf_spec hI).1 _ (fun k a' w' hlt hi => ⟨⟨k, hi⟩, Nat.lt_of_le_of_lt ((leastOf_spec ⟨k, hi⟩).2 k hi) hlt⟩)
theorem hand_goto {l n : Nat} {I : Nat → Act → World → Prop} {K : Act → World → Prop} (h : ∀ k a' w', k < n → I k a' w' → K a' w') (k : Nat) (hk : k < n) (hI : I k a w) : l = l ∧ K a w := ⟨rfl, h k _ _ hk hI⟩
end

def noX : TypeId × Value := (0, .nilIface)
/-- An error that holds x, if there is one. -/
def errX (x : TypeId × Value) : Option Int → Value
  | none => .nilIface
  | some _ => .iface x.1 x.2
theorem errX_none (x : TypeId × Value) : errX x none = .nilIface := rfl
theorem errX_some (x : TypeId × Value) (c : Int) : errX x (some c) = .iface x.1 x.2 := rfl

theorem run_store_float (P : Program) (w : World) (a : Addr) (m : Mode) (k : FloatKind) (n : Nat) : (store a (.float k n) m).run P w = stored P w a (.float k n) m := run_store P w a _ m rfl

namespace Kd
section
variable {P : Program} {ops : Array Oper} {rest : List Oper} {o : Oper} {a : Act} {Q : Exit → Act → World → Prop} {α : Type}
/-- make([]T, n, m): a row of n elements with room for m. -/
theorem R_makec (d : Kd α) {w0 W : World} (base e : Nat) (hgd : o.guard = none) {N : Tmp} (_hd : o.dst = some N) (t : TypeId) (x y : Operand) (ho : o.op = .makeSlice t x y) (n m : Int) (hx : a.eval x = .int .i64 n) (hy : a.eval y = .int .i64 m)
    (ht : P.underlying t = some (.slice e)) (z : Value) (bytes : Nat) (hinfo : (P.info? e).map (fun i => (i.zero, i.size, i.bytes)) = some (some z, d.sz, bytes)) (hz : z.cells.size = d.sz) (hs0 : 0 < d.sz) (hb0 : 0 < bytes)
    (z0 : α) {ok okp : Nat → Prop} (hzero : d.M W base okp z0 z.cells.toList) (hok : ∀ k, okp k → ok k) (hfresh : ok W.heap.size) (h0 : 0 ≤ n) (hnm : n ≤ m) (hl : m.toNat * bytes ≤ 281474976710656) (HB : Below base w0 W) (hbase : base ≤ W.heap.size)
    (h : ∀ v1 w1, d.R e w1 base ok v1 (List.replicate n.toNat z0) → Below base w0 w1 → W.grownBy w1 none → (∃ b, v1.ownBlock = some b ∧ W.heap.size ≤ b) → wpList P ops Q rest (a.put o.dst v1) w1) : wpList P ops Q (o :: rest) a W := by
  obtain ⟨m, rfl⟩ := Int.eq_ofNat_of_zero_le (Int.le_trans h0 hnm)
  obtain ⟨n, rfl⟩ := Int.eq_ofNat_of_zero_le h0
  simp only [Int.toNat_natCast] at hl h
  obtain ⟨i0, hi, hzz⟩ := Option.map_eq_some_iff.1 hinfo
  simp only [Prod.mk.injEq] at hzz
  obtain ⟨hz0, hz1, hz2⟩ := hzz
  have hm : m ≤ 281474976710656 := Nat.le_trans (Nat.le_mul_of_pos_right _ hb0) hl
  have hr := run_make (P := P) W t e i0 z ht hi hz0 .i64 .i64 (n : Int) (m : Int) (by omega) hnm
    (by
      have h3 : ((i0.bytes * m : Nat) : Int) ≤ 281474976710656 := by rw [hz2, Nat.mul_comm]; omega
      rwa [Int.natCast_mul] at h3) (by omega)
  simp only [Int.toNat_natCast] at hr
  rw [hz1] at hr
  have hrep := reps_made (R := d.M W base okp) (size := d.sz) hz hs0 hzero m
  have full : d.R e (W.alloc (.cells (madeCells z.cells (m * d.sz)) e)) base ok (.slice (some ⟨W.heap.size, 0, none⟩) m m) (List.replicate m z0) := by
    refine ⟨fun k hk => ?_, (madeCells z.cells (m * d.sz)).toList, ?_, ?_⟩
    · have : W.heap.size = k := by simpa [Value.ownBlock] using hk
      subst this
      exact hfresh
    · have h2 := World.ownsRow_lit (base := base) (e := e) (size := d.sz) W (madeCells z.cells (m * d.sz)) m hbase (by simp only [maxLen]; omega) (by simpa using hrep.1)
      simpa using h2
    · refine hrep.imp_ (fun p c hp => d.M_mono (fun k hk => ⟨hok k hk.1, fun he => ?_⟩) (M_below (d.M_bound hp) (below_alloc (Below.refl _ _) _)))
      have h3 : k = W.heap.size := by simpa [Value.ownBlock] using he
      have := hk.2.2.1
      omega
  have hcut := R_take (m := n) full (by simp; omega)
  rw [List.take_replicate, Nat.min_eq_left (by omega)] at hcut
  exact event_run hgd (by simp [execOp, ho, hx, hy, hr]) (h _ _ hcut (HB.alloc hbase _) (World.grownBy_alloc W _ none) ⟨W.heap.size, by simp [Value.ownBlock], Nat.le_refl _⟩)
end
end Kd
end Go.Proofs.YtkhgbacbnkgafaaDoorW.PrintWords

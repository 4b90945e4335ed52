/- The reference's Tree: of a place the node. -/
import Derived.Test.YtfoloneeibgoiaaDoorSpC
set_option linter.unusedVariables false
set_option linter.unusedSimpArgs false
namespace Go.Proofs.YtfoloneeibgoiaaDoor.Spr
open Go Go.RowKit Go.Proofs.YtfoloneeibgoiaaDoorW.PrintWords Go.Proofs.YtfoloneeibgoiaaDoorW.PrintLast Go.Proofs.YtfoloneeibgoiaaDoorW.PrintMore Go.Proofs.YtfoloneeibgoiaaDoor.Fjh Go.Proofs.YtfoloneeibgoiaaDoor.JTr
attribute [local go_sem ↓] Go.wp_at_zero Go.wp_at_succ

mutual
/-- All strings and names of a tree. -/
def strsT : JT → List (List Int)
  | .obj ks vs => ks ++ strsL vs
  | .arr vs => strsL vs
  | .num _ => []
  | .str s => [s]
  | .lit _ => []
def strsL : List JT → List (List Int)
  | [] => []
  | v :: vs => strsT v ++ strsL vs
end
theorem strsL_mem {vs : List JT} {v : JT} (h : v ∈ vs) {l : List Int} (hl : l ∈ strsT v) : l ∈ strsL vs := by
  induction vs with
  | nil => cases h
  | cons a vs ih =>
    simp only [strsL, List.mem_append]
    rcases List.mem_cons.mp h with rfl | h
    · exact .inl hl
    · exact .inr (ih h)

mutual
/-- How many values and names a tree has. -/
def szT : JT → Nat
  | .obj ks vs => ks.length + szL vs + 1
  | .arr vs => szL vs + 1
  | .num _ => 1
  | .str _ => 1
  | .lit _ => 1
def szL : List JT → Nat
  | [] => 0
  | v :: vs => szT v + szL vs
end
theorem szT_pos (t : JT) : 1 ≤ szT t := by cases t <;> simp [szT]
theorem szL_len : ∀ vs : List JT, vs.length ≤ szL vs
  | [] => Nat.le_refl _
  | v :: vs => by have := szL_len vs; have := szT_pos v; simp only [szL, List.length_cons]; omega
theorem szL_mem {vs : List JT} {v : JT} (h : v ∈ vs) : szT v ≤ szL vs := by
  induction vs with
  | nil => cases h
  | cons a vs ih =>
    simp only [szL]
    rcases List.mem_cons.mp h with rfl | h
    · omega
    · have := ih h; omega

theorem seg_extract {s : ByteArray} {b e : Nat} {l : List Int} (h : Seg s b e l) : s.extract b e = strOfNums l := by
  obtain ⟨rfl, h2, h3⟩ := h
  rw [← StrL.strOfNums_ints (s.extract b (b + l.length)), StrL.ints_extract, Nat.add_sub_cancel_left]
  exact congrArg strOfNums h3

section
variable {P : Program} {ops : Array Oper} {o : Oper} {a : Act} {Q : Exit → Act → World → Prop} {Kc : Act → World → Prop}
/-- append of one element (of 'size' cells) as a step of a region that draws. -/
theorem append_cells_step {W : World} (base : Nat) (hw : Region.wanted o (yielded ops a.tmps) = true) (s x : Operand) (t e : TypeId) (z : Value) (size bytes : Nat)
    (ho : o.op = .call { callee := .builtin .append, args := #[s, x], argTypes := #[t, t] })
    (ht : P.underlying t = some (.slice e)) (hinfo : (P.info? e).map (fun i => (i.zero, i.size, i.bytes)) = some (some z, size, bytes)) (hz : z.cells.size = size) (hs0 : 0 < size) (hb0 : 0 < bytes)
    (v : Value) (n : Nat) (xs ys : List Value) (hs : a.eval s = v) (hx : a.eval x = .slice (some ⟨W.heap.size, 0, none⟩) 1 1) (hys : ys.length = size) (h1 : ∀ u ∈ ys, u.oneCell' = true)
    (HO : W.ownsRow base e size v n xs) (hbase : base ≤ W.heap.size) (hl : (n + 1) * bytes ≤ 140737488355328)
    (h : ∀ v1 w1, w1.ownsRow base e size v1 (n + 1) (xs ++ ys) → W.grownBy w1 v.ownBlock → (v1.ownBlock = v.ownBlock ∨ ∃ b, v1.ownBlock = some b ∧ W.heap.size ≤ b) → Kc (a.put o.dst v1) w1) :
    if Region.wanted o (yielded ops a.tmps) = true then Oper.wp P o a (W.alloc (.cells ys.toArray e)) Kc Q else Kc (a.put o.dst undef) (W.alloc (.cells ys.toArray e)) := by
  obtain ⟨i0, hi, hzz⟩ := Option.map_eq_some_iff.1 hinfo
  simp only [Prod.mk.injEq] at hzz
  obtain ⟨hz0, hz1, hz2⟩ := hzz
  have hlen : n + 1 ≤ 140737488355328 := Nat.le_trans (Nat.le_mul_of_pos_right _ hb0) hl
  obtain ⟨v1, w1, hr, h2, h3, h4, h5⟩ := run_append_own_at (P := P) (W.alloc (.cells ys.toArray e)) base t o.type e i0 z size bytes ht hi hz0 hz1 hz2 hz hs0 v n xs (HO.alloc _) ⟨W.heap.size, 0, none⟩ 1 1 ys (by rw [hys]; simp)
    (by simpa using World.news_of_block (cs := ys.toArray) (t := e) (fr := (0, 0)) (heap_alloc_new W (.cells ys.toArray e))) h1 (by simp only [maxLen]; omega) hl (by simp; omega)
  rw [if_pos hw]
  unfold Oper.wp execOp
  simp only [ho, resolve, invoke, builtin, Sem.run_bind, Sem.run_pure, Result.andThen_ok, List.map_toArray, List.map_cons, List.map_nil, hs, hx, hr]
  refine h _ _ h2 (World.grownBy.trans (World.grownBy_alloc W _ _) h3) ?_
  rcases h5 with h5 | h5
  · exact .inl h5
  · exact .inr ⟨_, h5, by simp⟩
end

theorem infoNd : (Tryd.prog.info? 25).map (fun i => (i.zero, i.size, i.bytes)) = some (some (.agg (nd 0 ByteArray.empty nilS nilS)), 4, 72) := by kernel_rfl
theorem infoSt : (Tryd.prog.info? 9).map (fun i => (i.zero, i.size, i.bytes)) = some (some (.string ByteArray.empty), 1, 16) := by kernel_rfl

def Tree10_T : Bool × List (List Nat × List Nat) := (true, [([], []), ([0], [0]), ([], []), ([], []), ([3], [3]), ([], []), ([4, 5], [4, 5]), ([6], [6]), ([7], [7]), ([], []), ([9], [9]), ([], []), ([10, 11], [10, 11]), ([12], [12]), ([13], [13]), ([2, 8, 14], [2, 8, 14]), ([15], [15]), ([16], [16]), ([1, 17, 16], [1, 17]), ([0, 1, 2, 3, 4, 5, 6, 7, 8, 9, 10, 11, 12, 13, 14, 15, 16, 17, 18], []), ([19, 18, 18, 0, 1, 2, 3, 4, 5, 6, 7, 8, 9, 10, 11, 12, 13, 14, 15, 16, 17, 18], [18, 19])])
def Tree10_B : List Nat := [0, 1, 0, 0, 8, 0, 56, 120, 248, 0, 512, 0, 3584, 7680, 15872, 32764, 65532, 131068, 262143, 524287, 1048575]
theorem Tree10_tab : rtab .any (opsOf Tryd.f24 10) = Tree10_T := by kernel_rfl
theorem Tree10_bits : waitsOk Tree10_T.2 Tree10_B = true := by kernel_rfl
def Tree14_T : Bool × List (List Nat × List Nat) := (true, [([], []), ([0], [0]), ([], []), ([], []), ([3], [3]), ([], []), ([4, 5], [4, 5]), ([6], [6]), ([2, 7], [2, 7]), ([8], [8]), ([1, 9, 8], [1, 9]), ([0, 1, 2, 3, 4, 5, 6, 7, 8, 9, 10], []), ([11, 10, 10, 0, 1, 2, 3, 4, 5, 6, 7, 8, 9, 10], [10, 11])])
def Tree14_B : List Nat := [0, 1, 0, 0, 8, 0, 56, 120, 252, 508, 1023, 2047, 4095]
theorem Tree14_tab : rtab .any (opsOf Tryd.f24 14) = Tree14_T := by kernel_rfl
theorem Tree14_bits : waitsOk Tree14_T.2 Tree14_B = true := by kernel_rfl

/-- What Tree leaves. -/
def TR (w : World) (t : JT) (e : Ending) (w' : World) : Prop := ∃ b, e = .returned (.agg b) ∧ NRep w' (Btw w w') b t ∧ Below w.heap.size w w'
def TrOk (t : JT) : Prop := ∀ (w : World) (s : ByteArray) (own : Nat → Prop) (a : Array Value), PRep w s own a t → (∀ k, own k → k < w.heap.size) → s.size ≤ 1000000000 → szT t ≤ 1000000000 → (∀ l ∈ strsT t, ∃ b, UQ l b) →
  Calls Tryd.prog 24 #[.string s, .agg a] w (TR w t)

/-- A node of a place: its text, its names, its kids. -/
theorem four_f {w : World} {g : Nat} {t : TypeId} {cs : Array Value} (h : w.heap[g]? = some (.cells cs t (0, 0))) :
    w.frozen? ⟨g, 0, none⟩ = false ∧ w.frozen? ⟨g, 1, none⟩ = false ∧ w.frozen? ⟨g, 2, none⟩ = false ∧ w.frozen? ⟨g, 3, none⟩ = false :=
  ⟨blk_frozen h 0, blk_frozen h 1, blk_frozen h 2, blk_frozen h 3⟩

theorem kb_drew {g : Nat} {w w' : World} (h : Kb g w w') (n : Nat) : Kb g w (w'.drewN n) := ⟨h.os, h.tape, h.output, h.size, h.block⟩
theorem kb_self {g i : Nat} {w0 w : World} (h : Kb g w0 w) (v : Value) : Kb g w0 (w.setCell ⟨g, i, none⟩ v) :=
  ⟨h.os, h.tape, h.output, by simpa [World.setCell] using h.size, fun k hk hg => (Below.heap_setCell w ⟨g, i, none⟩ v k hg).trans (h.block k hk hg)⟩
theorem Keys.push {b : ByteArray} {k : List Int} (h : UQ k b) : ∀ {bs : List ByteArray} {ks : List (List Int)}, Keys bs ks → Keys (bs ++ [b]) (ks ++ [k])
  | [], [], _ => ⟨h, trivial⟩
  | _ :: _, _ :: _, hn => ⟨hn.1, Keys.push h hn.2⟩
  | [], _ :: _, hn => hn.elim
  | _ :: _, [], hn => hn.elim
theorem take_more {α : Type} {l : List α} {i : Nat} {x : α} (h : l[i]? = some x) : l.take (i + 1) = l.take i ++ [x] := by
  rw [List.take_add_one, h]; rfl
theorem nk_step {w0 w w5 : World} {V : Value} {a : Array Value} {t : JT} (h : NRep w (Kown w0 w V) a t) (hb : Below w.heap.size w w5) : NRep w5 (Kown w0 w5 V) a t :=
  h.mono (fun k hk => ⟨⟨⟨hk.1.1, Nat.lt_of_lt_of_le hk.1.2 hb.size⟩, hk.2⟩, hb.block k hk.1.2⟩)
theorem nk_fresh {w0 w w5 : World} {V : Value} {a : Array Value} {t : JT} (h : NRep w5 (Btw w w5) a t) (hs : w0.heap.size ≤ w.heap.size) (hV : ∀ k, V.ownBlock = some k → k < w.heap.size) : NRep w5 (Kown w0 w5 V) a t :=
  h.mono (fun k hk => ⟨⟨⟨Nat.le_trans hs hk.1, hk.2⟩, fun e => by have := hV k e; have := hk.1; omega⟩, rfl⟩)
theorem nk_grown {w0 w5 w6 : World} {V V6 : Value} {a : Array Value} {t : JT} (h : NRep w5 (Kown w0 w5 V) a t) (hg : w5.grownBy w6 V.ownBlock) (hat : V6.ownBlock = V.ownBlock ∨ ∃ b, V6.ownBlock = some b ∧ w5.heap.size ≤ b) : NRep w6 (Kown w0 w6 V6) a t := by
  refine h.mono (fun k hk => ⟨⟨⟨hk.1.1, Nat.lt_of_lt_of_le hk.1.2 hg.size⟩, fun e => ?_⟩, hg.block k hk.1.2 (fun e => hk.2 e.symm)⟩)
  have hlt := hk.1.2
  rcases hat with h' | ⟨b, h', hb⟩
  · exact hk.2 (h' ▸ e)
  · rw [h'] at e; injection e with e; omega
theorem nk_set {w0 w : World} {V v : Value} {g i : Nat} {a : Array Value} {t : JT} (h : NRep w (Kown w0 w V) a t) (hg : g < w0.heap.size) : NRep (w.setCell ⟨g, i, none⟩ v) (Kown w0 (w.setCell ⟨g, i, none⟩ v) V) a t :=
  h.mono (fun k hk => ⟨⟨⟨hk.1.1, by simpa [World.setCell] using hk.1.2⟩, hk.2⟩, Below.heap_setCell w ⟨g, i, none⟩ v k (by have := hk.1.1; simp only; omega)⟩)
theorem kids_push {w : World} {O : Nat → Prop} {ds : List (Array Value)} {vs : List JT} {a : Array Value} {v : JT} (hk : ∀ (i : Nat) (b : Array Value) (t : JT), ds[i]? = some b → vs[i]? = some t → NRep w O b t) (hv : vs[ds.length]? = some v) (ha : NRep w O a v) :
    ∀ (i : Nat) (b : Array Value) (t : JT), (ds ++ [a])[i]? = some b → vs[i]? = some t → NRep w O b t := by
  intro i b t h1 h2
  rw [List.getElem?_append] at h1
  by_cases hi : i < ds.length
  · rw [if_pos hi] at h1
    exact hk i b t h1 h2
  · rw [if_neg hi] at h1
    have : i - ds.length = 0 := by
      rcases Nat.eq_zero_or_pos (i - ds.length) with h0 | h0
      · exact h0
      · rw [List.getElem?_eq_none (by simp; omega)] at h1; cases h1
    rw [this] at h1
    simp only [List.getElem?_cons_zero, Option.some.injEq] at h1
    subst h1
    obtain rfl : i = ds.length := by omega
    rw [hv] at h2
    injection h2 with h2
    subst h2
    exact ha

theorem own_le {w : World} {base base' : Nat} {e : TypeId} {size : Nat} {v : Value} {n : Nat} {xs : List Value} (h : w.ownsRow base e size v n xs) (hb' : base' ≤ base) : w.ownsRow base' e size v n xs := by
  refine ⟨h.1, ?_⟩
  rcases h.2 with h | ⟨g, cap, cur, rfl, hb, hg, r⟩
  · exact .inl h
  · exact .inr ⟨g, cap, cur, rfl, Nat.le_trans hb' hb, hg, r⟩
theorem nk_drew {w0 w : World} {V : Value} {a : Array Value} {t : JT} (h : NRep w (Kown w0 w V) a t) (n : Nat) : NRep (w.drewN n) (Kown w0 (w.drewN n) V) a t := NRep.mono (w := w) (w' := w.drewN n) (own := Kown w0 w V) (fun k hk => ⟨hk, rfl⟩) h
/-- Tree's last stores. -/
abbrev put4 (w : World) (g : Nat) (a b c d : Value) : World := (((w.setCell ⟨g, 0, none⟩ a).setCell ⟨g, 1, none⟩ b).setCell ⟨g, 2, none⟩ c).setCell ⟨g, 3, none⟩ d
theorem four_put {w : World} {g : Nat} {t : TypeId} {a b c d x y z u : Value} (h : w.heap[g]? = some (.cells #[x, y, z, u] t (0, 0))) : (put4 w g a b c d).heap[g]? = some (.cells #[a, b, c, d] t (0, 0)) :=
  blk_put (blk_put (blk_put (blk_put h 0 _ rfl) 1 _ rfl) 2 _ rfl) 3 _ rfl
theorem put4_below {B : Nat} {w0 w : World} {g : Nat} {a b c d : Value} (h : Below B w0 w) (hB : B ≤ g) : Below B w0 (put4 w g a b c d) := (((h.setCell hB _).setCell hB _).setCell hB _).setCell hB _
theorem put4_other {w : World} {g k : Nat} {a b c d : Value} (h : k ≠ g) : (put4 w g a b c d).heap[k]? = w.heap[k]? := by
  unfold put4
  rw [Below.heap_setCell _ _ _ _ h, Below.heap_setCell _ _ _ _ h, Below.heap_setCell _ _ _ _ h, Below.heap_setCell _ _ _ _ h]
theorem put4_size {w : World} {g : Nat} {a b c d : Value} : (put4 w g a b c d).heap.size = w.heap.size := by simp [put4, World.setCell]
theorem Names.get {s : ByteArray} : ∀ {cs : List (Array Value)} {ks : List (List Int)}, Names s cs ks → ∀ {i : Nat}, i < cs.length → ∃ (b e : Nat) (k : List Int), cs[i]? = some #[.int .i64 b, .int .i64 e] ∧ ks[i]? = some k ∧ Seg s b e (34 :: (k ++ [34]))
  | [], _, _, i, h => by simp at h
  | a :: cs, k :: ks, hn, 0, _ => by
    obtain ⟨b, e, rfl, hs⟩ := hn.1
    exact ⟨b, e, k, rfl, rfl, hs⟩
  | a :: cs, k :: ks, hn, i + 1, h => by
    obtain ⟨b, e, k', h1, h2, h3⟩ := Names.get hn.2 (i := i) (by simpa using h)
    exact ⟨b, e, k', by simpa using h1, by simpa using h2, h3⟩
  | _ :: _, [], hn, _, _ => hn.elim
theorem Names.sizes {s : ByteArray} : ∀ {cs : List (Array Value)} {ks : List (List Int)}, Names s cs ks → ∀ a ∈ cs, a.size = 2
  | [], _, _, a, h => by simp at h
  | c :: cs, k :: ks, hn, a, h => by
    rcases List.mem_cons.mp h with rfl | h
    · obtain ⟨b, e, rfl, hs⟩ := hn.1
      rfl
    · exact Names.sizes hn.2 a h
  | _ :: _, [], hn, _, _ => hn.elim

set_option maxRecDepth 100000 in
set_option maxHeartbeats 8000000 in
theorem tree_node {vs : List JT} (IH : ∀ v ∈ vs, TrOk v) {w : World} {s txt : ByteArray} {k : Int} {b e : Nat} {N K : Value} {ns cs : List (Array Value)} {ks : List (List Int)} {O : Nat → Prop}
    (hk : (k = 3 ∧ txt = s.extract b e ∧ b ≤ e ∧ e ≤ s.size) ∨ (k = 4 ∧ (∃ f, U8.spec_Unquote.f f (s.extract b e) = some txt) ∧ b ≤ e ∧ e ≤ s.size) ∨ ((k ≠ 3 ∧ k ≠ 4) ∧ txt = ByteArray.empty))
    (hn : Names s ns ks) (hN : w.ownsRow 0 86 2 N ns.length (flat ns)) (hl : cs.length = vs.length) (hK : w.ownsRow 0 56 5 K cs.length (flat cs))
    (hkk : ∀ (i : Nat) (a : Array Value) (v : JT), cs[i]? = some a → vs[i]? = some v → PRep w s O a v) (hO : ∀ k, O k → k < w.heap.size) (hs : s.size ≤ 1000000000) (hnl : ns.length ≤ 1000000000) (hvl : szL vs ≤ 1000000000) (hU : ∀ l ∈ ks, ∃ b, UQ l b) (hV : ∀ v ∈ vs, ∀ l ∈ strsT v, ∃ b, UQ l b) :
    Calls Tryd.prog 24 #[.string s, .agg (pl k b e N K)] w (fun e w' => ∃ (N' K' : Value) (bs : List ByteArray) (ds : List (Array Value)), e = .returned (.agg (nd k txt N' K')) ∧ Keys bs ks ∧ w'.ownsRow w.heap.size 9 1 N' bs.length (bs.map Value.string) ∧ ds.length = vs.length ∧ w'.ownsRow w.heap.size 25 4 K' ds.length (flat ds) ∧ (∀ (i : Nat) (a : Array Value) (v : JT), ds[i]? = some a → vs[i]? = some v → NRep w' (Btw w w') a v) ∧ Below w.heap.size w w' ∧ (ns.length = 0 → N' = nilS) ∧ (vs.length = 0 → K' = nilS)) := by
  obtain ⟨A1, n1, c1, rfl⟩ := row_form hN
  obtain ⟨A2, n2, c2, rfl⟩ := row_form hK
  have e1 := row_len hN
  have e2 := row_len hK
  rw [hl] at e2
  subst e1 e2
  have HL := Lib.hid hl
  have HN := Lib.hid (And.intro hN hn)
  have HK := Lib.hid (And.intro hK hkk)
  have HO := Lib.hid hO
  have HS := Lib.hid hs
  have HU := Lib.hid (And.intro hU hV)
  have HIH := Lib.hid IH
  have HNL := Lib.hid (And.intro hnl (And.intro (Nat.le_trans (szL_len vs) hvl) hvl))
  clear IH hn hN hl hK hkk hO hs hU hV hnl hvl
  rcases hk with ⟨rfl, rfl, hbe, hes⟩ | ⟨rfl, ⟨f, htx⟩, hbe, hes⟩ | ⟨⟨hk3, hk4⟩, rfl⟩
  · go_enter Tryd.func24, Tryd.ntmps24
    go_upto_region 2 with (first
      | ((with_reducible refine gate_dst (N := 3) rfl ?_); refine box_event ?hg (N := 3) ?hd (cs := pl 3 b e (.slice A1 ns.length c1) (.slice A2 vs.length c2)) (t := 56) ?hr ?_; (case hd => rfl); (case hg => rfl); (case hr => first | (go_simp; done) | (go_simp; rfl)); intro g3 hg3 w3 hb3 hbel3; have HB3 := Lib.hid hb3; have BEL := Lib.hid hbel3; have HG3 := Lib.hid (show w.heap.size ≤ g3 from by omega); clear hb3 hbel3 hg3)
      | ((with_reducible refine gate_dst (N := 4) rfl ?_); refine box_event ?hg (N := 4) ?hd (cs := nd 0 ByteArray.empty nilS nilS) (t := 25) ?hr ?_; (case hd => rfl); (case hg => rfl); (case hr => first | (go_simp; done) | (go_simp; rfl)); intro g4 hg4 w4 hb4 hbel4; have HB4 := Lib.hid hb4; have HG4 := Lib.hid (show w.heap.size ≤ g4 ∧ g3 ≠ g4 from ⟨by have := BEL.out.size; omega, by have := blk_lt HB3.out; omega⟩); replace HB3 := Lib.hid ((hbel4.block g3 (blk_lt HB3.out)).trans HB3.out); replace BEL := Lib.hid (BEL.out.trans (hbel4.mono BEL.out.size)); obtain ⟨q0, q1, q2, q3, q4⟩ := five HB3.out; clear hb4 hbel4 hg4))
    have hb37 := blk_alloc HB3.out (.cells #[.int .i64 3, .string ⟨#[]⟩, .slice none 0 0, .slice none 0 0] 25 (0, 0))
    have hb47 := blk_alloc HB4.out (.cells #[.int .i64 3, .string ⟨#[]⟩, .slice none 0 0, .slice none 0 0] 25 (0, 0))
    have hb57 := blk_new w4 (.cells #[.int .i64 3, .string ⟨#[]⟩, .slice none 0 0, .slice none 0 0] 25 (0, 0))
    have hbe7 := BEL.out.alloc BEL.out.size (.cells #[.int .i64 3, .string ⟨#[]⟩, .slice none 0 0, .slice none 0 0] 25 (0, 0))
    have HG5 := Lib.hid (show w4.heap.size ≠ g3 ∧ w4.heap.size ≠ g4 ∧ w.heap.size ≤ w4.heap.size from ⟨Nat.ne_of_gt (blk_lt HB3.out), Nat.ne_of_gt (blk_lt HB4.out), BEL.out.size⟩)
    clear q0 q1 q2 q3 q4
    generalize hw7 : w4.alloc _ = w5 at hb37 hb47 hb57 hbe7 ⊢
    clear hw7 HB3 HB4 BEL
    generalize hg5 : w4.heap.size = g5 at hb57 HG5 ⊢
    have HB3 := Lib.hid hb37
    have HB4 := Lib.hid hb47
    have HB5 := Lib.hid hb57
    have BEL := Lib.hid hbe7
    clear hb37 hb47 hb57 hbe7 hg5
    obtain ⟨q0, q1, q2, q3, q4⟩ := five HB3.out
    obtain ⟨z0, z1, z2, z3⟩ := four HB5.out
    obtain ⟨y0, y1, y2, y3⟩ := four_f HB5.out
    have h0b : (0 : Int) ≤ (b : Int) := by omega
    have hbe' : (b : Int) ≤ (e : Int) := by omega
    have hes' : (e : Int) ≤ (s.size : Int) := by omega
    go_upto_region 7 with fail
    have hb37 := blk_far HB3.out (p := ⟨g5, 1, none⟩) (fun e => HG5.out.1 e.symm) (.string (s.extract b e))
    have hb47 := blk_far HB4.out (p := ⟨g5, 1, none⟩) (fun e => HG5.out.2.1 e.symm) (.string (s.extract b e))
    have hb57 : (w5.setCell ⟨g5, 1, none⟩ (.string (s.extract b e))).heap[g5]? = some (.cells (nd 3 (s.extract b e) nilS nilS) 25 (0, 0)) := blk_put HB5.out 1 _ rfl
    have hbe7 := BEL.out.setCell (p := ⟨g5, 1, none⟩) HG5.out.2.2 (.string (s.extract b e))
    clear q0 q1 q2 q3 q4 z0 z1 z2 z3 y0 y1 y2 y3
    generalize hwA : w5.setCell ⟨g5, 1, none⟩ (.string (s.extract b e)) = wA at hb37 hb47 hb57 hbe7 ⊢
    clear hwA HB3 HB4 HB5 BEL
    have HB3 := Lib.hid hb37
    have HB4 := Lib.hid hb47
    have HB5 := Lib.hid hb57
    have BEL := Lib.hid hbe7
    have HB5L := Lib.hid (blk_lt hb57)
    clear hb37 hb47 hb57 hbe7
    go_wp2
    go_loopg [6] (ns.length + 1) (fun kq v6 w' => ∃ (i : Nat) (bs : List ByteArray) (N' : Value), Hid (i ≤ ns.length ∧ kq = ns.length - i + 1) ∧ v6 = .int .i64 i ∧ Hid (Kb g5 wA w') ∧ Hid (w'.heap[g5]? = some (.cells (nd 3 (s.extract b e) N' nilS) 25 (0, 0))) ∧ Hid (w'.ownsRow wA.heap.size 9 1 N' bs.length (bs.map Value.string)) ∧ Hid (Keys bs (ks.take i) ∧ bs.length = i ∧ (i = 0 → N' = nilS)))
    case atStart => exact ⟨0, [], nilS, Lib.hid ⟨Nat.zero_le _, rfl⟩, rfl, Lib.hid (Kb.refl _ _), HB5, Lib.hid (World.ownsRow_nil _ _ _ _), Lib.hid ⟨by simp [Keys], rfl, fun _ => rfl⟩⟩
    case round =>
      obtain ⟨i, bs, N', HI, rfl, HKB, HB5r, HR, HKS⟩ := hrel
      obtain ⟨AN, nN, cN, rfl⟩ := row_form HR.out
      obtain ⟨q0, q1, q2, q3, q4⟩ := five ((HKB.out.block g3 (blk_lt HB3.out) (fun e => HG5.out.1 e.symm)).trans HB3.out)
      obtain ⟨z0, z1, z2, z3⟩ := four HB5r.out
      obtain ⟨y0, y1, y2, y3⟩ := four_f HB5r.out
      by_cases hi : i < ns.length
      · obtain ⟨b', e', kk, ha, hkk', hseg⟩ := HN.out.2.get hi
        obtain ⟨bq, f2, hf2⟩ := HU.out.1 kk (List.mem_of_getElem? hkk')
        have HSQ := Lib.hid (seg_extract hseg)
        rw [← seg_extract hseg] at hf2
        obtain ⟨gn, rfl, -, -, hc⟩ := el_cell (own_keep HN.out.1 (fun b hb => (HKB.out.block b (by have := (HN.out.1.lt b hb).2; have := BEL.out.size; omega) (by have := (HN.out.1.lt b hb).2; have := HG5.out.2.2; omega)).trans (BEL.out.block b (HN.out.1.lt b hb).2))) HN.out.2.sizes ha
        have hgnl := (HN.out.1.lt gn rfl).2
        have e0 := hc 0 (by omega)
        have e1 := hc 1 (by omega)
        rw [Nat.add_zero] at e0
        simp only [List.getElem?_toArray, List.size_toArray] at e0 e1
        have h0 : (0 : Int) ≤ (i : Int) := by omega
        have hlti : (i : Int) < (ns.length : Int) := by omega
        have hd1 : decide ((i : Int) < (ns.length : Int)) = true := decide_eq_true (by omega)
        have hd2 : decide (i < ns.length) = true := decide_eq_true (by omega)
        have hw1 : IntKind.i64.wrap ((i : Int) + 1) = (i : Int) + 1 := by rw [IntKind.wrap_i64]; have := HNL.out; omega
        have h0b : (0 : Int) ≤ (b' : Int) := by omega
        have hbe' : (b' : Int) ≤ (e' : Int) := by have := hseg.1; omega
        have hes' : (e' : Int) ≤ (s.size : Int) := by have := hseg.2.1; omega
        have HSG := Lib.hid (And.intro hkk' hf2)
        have n1 : gn ≠ g5 := by have := HG5.out.2.2; omega
        have n2 := n1.symm
        have n3 := HG5.out.1
        have n4 := n3.symm
        have HRN3 : some g3 ≠ Value.ownBlock (.slice AN nN cN) := fun h => by have := own_range HR.out h.symm; have := blk_lt HB3.out; omega
        have HRN0 : some gn ≠ Value.ownBlock (.slice AN nN cN) := fun h => by have := own_range HR.out h.symm; have := BEL.out.size; omega
        clear hc ha hkk' hseg
        go_wp2
        refine start_ (n := 21) (S := fun w' => w'.cell? ⟨g5, 2, none⟩ = some (.slice AN nN cN) ∧ w'.cell? ⟨g3, 3, none⟩ = some (.slice (some ⟨gn, 0, none⟩) ns.length c1) ∧ w'.cell? ⟨gn, i * 2, none⟩ = some (.int .i64 b') ∧ w'.cell? ⟨gn, i * 2 + 1, none⟩ = some (.int .i64 e')) (ds := [20]) #[false, false, false, false, false, false, false, false, false, false, false, false, false, false, false, false, false, false, false, false, false] (by kernel_rfl) rfl rfl ⟨z2, q3, e0, e1⟩ (fun hHeld => ?_); refine with_tabW Tree10_tab Tree10_bits (fun HT_ HW_ => ?_)
        refine pure_ (i := 0) (N := some 39) (v := ?_) (a' := ?_) #[true, false, false, false, false, false, false, false, false, false, false, false, false, false, false, false, false, false, false, false, false] rfl rfl (any_of HT_.out (by kernel_rfl)) (fun _ _ _ h => h) (Or.inl ⟨by rfl, ?_⟩) ?_ ?_
        rotate_left
        · intro w'
          go_simp
          with_reducible rfl
        rotate_left
        · simp only [Act.put, List.setIfInBounds_toArray, List.set_cons_zero, List.set_cons_succ, i64_w, i32_w]
          rfl
        refine pure_ (i := 2) (N := some 41) (v := ?_) (a' := ?_) #[true, false, true, false, false, false, false, false, false, false, false, false, false, false, false, false, false, false, false, false, false] rfl rfl (any_of HT_.out (by kernel_rfl)) (fun _ _ _ h => h) (Or.inl ⟨by rfl, ?_⟩) ?_ ?_
        rotate_left
        · intro w'
          go_simp
          with_reducible rfl
        rotate_left
        · simp only [Act.put, List.setIfInBounds_toArray, List.set_cons_zero, List.set_cons_succ, i64_w, i32_w]
          rfl
        refine pure_ (i := 3) (N := some 42) (v := ?_) (a' := ?_) #[true, false, true, true, false, false, false, false, false, false, false, false, false, false, false, false, false, false, false, false, false] rfl rfl (any_of HT_.out (by kernel_rfl)) (fun _ _ _ h => h) (Or.inl ⟨by rfl, ?_⟩) ?_ ?_
        rotate_left
        · intro w'
          go_simp
          with_reducible rfl
        rotate_left
        · simp only [Act.put, List.setIfInBounds_toArray, List.set_cons_zero, List.set_cons_succ, i64_w, i32_w]
          rfl
        refine pure_ (i := 5) (N := some 44) (v := ?_) (a' := ?_) #[true, false, true, true, false, true, false, false, false, false, false, false, false, false, false, false, false, false, false, false, false] rfl rfl (any_of HT_.out (by kernel_rfl)) (fun _ _ _ h => h) (Or.inl ⟨by rfl, ?_⟩) ?_ ?_
        rotate_left
        · intro w'
          go_simp
          with_reducible rfl
        rotate_left
        · simp only [Act.put, List.setIfInBounds_toArray, List.set_cons_zero, List.set_cons_succ, i64_w, i32_w]
          rfl
        refine pure_ (i := 9) (N := some 48) (v := ?_) (a' := ?_) #[true, false, true, true, false, true, false, false, false, true, false, false, false, false, false, false, false, false, false, false, false] rfl rfl (any_of HT_.out (by kernel_rfl)) (fun _ _ _ h => h) (Or.inl ⟨by rfl, ?_⟩) ?_ ?_
        rotate_left
        · intro w'
          go_simp
          with_reducible rfl
        rotate_left
        · simp only [Act.put, List.setIfInBounds_toArray, List.set_cons_zero, List.set_cons_succ, i64_w, i32_w]
          rfl
        refine pure_ (i := 11) (N := some 50) (v := ?_) (a' := ?_) #[true, false, true, true, false, true, false, false, false, true, false, true, false, false, false, false, false, false, false, false, false] rfl rfl (any_of HT_.out (by kernel_rfl)) (fun _ _ _ h => h) (Or.inl ⟨by rfl, ?_⟩) ?_ ?_
        rotate_left
        · intro w'
          go_simp
          with_reducible rfl
        rotate_left
        · simp only [Act.put, List.setIfInBounds_toArray, List.set_cons_zero, List.set_cons_succ, i64_w, i32_w]
          rfl
        refine take_ (i := 1) (N := some 40) (v := ?_) (a' := ?_) #[true, true, true, true, false, true, false, false, false, true, false, true, false, false, false, false, false, false, false, false, false] rfl rfl (take_ofW HT_.out HW_.out (by kernel_rfl)) (fun _ _ _ h => h) (Or.inl ⟨by rfl, ?_⟩) hHeld ?_ ?_
        rotate_left
        · rintro w' ⟨s0, s1, s2, s3⟩
          go_simp
          with_reducible rfl
        rotate_left
        · simp only [Act.put, List.setIfInBounds_toArray, List.set_cons_zero, List.set_cons_succ, i64_w, i32_w]
          rfl
        refine take_ (i := 4) (N := some 43) (v := ?_) (a' := ?_) #[true, true, true, true, true, true, false, false, false, true, false, true, false, false, false, false, false, false, false, false, false] rfl rfl (take_ofW HT_.out HW_.out (by kernel_rfl)) (fun _ _ _ h => h) (Or.inl ⟨by rfl, ?_⟩) hHeld ?_ ?_
        rotate_left
        · rintro w' ⟨s0, s1, s2, s3⟩
          go_simp
          with_reducible rfl
        rotate_left
        · simp only [Act.put, List.setIfInBounds_toArray, List.set_cons_zero, List.set_cons_succ, i64_w, i32_w]
          rfl
        refine pure_ (i := 6) (N := some 45) (v := ?_) (a' := ?_) #[true, true, true, true, true, true, true, false, false, true, false, true, false, false, false, false, false, false, false, false, false] rfl rfl (any_of HT_.out (by kernel_rfl)) (fun _ _ _ h => h) (Or.inl ⟨by rfl, ?_⟩) ?_ ?_
        rotate_left
        · intro w'
          go_simp
          with_reducible rfl
        rotate_left
        · simp only [Act.put, List.setIfInBounds_toArray, List.set_cons_zero, List.set_cons_succ, i64_w, i32_w]
          rfl
        refine pure_ (i := 7) (N := some 46) (v := ?_) (a' := ?_) #[true, true, true, true, true, true, true, true, false, true, false, true, false, false, false, false, false, false, false, false, false] rfl rfl (any_of HT_.out (by kernel_rfl)) (fun _ _ _ h => h) (Or.inl ⟨by rfl, ?_⟩) ?_ ?_
        rotate_left
        · intro w'
          go_simp
          with_reducible rfl
        rotate_left
        · simp only [Act.put, List.setIfInBounds_toArray, List.set_cons_zero, List.set_cons_succ, i64_w, i32_w]
          rfl
        refine take_ (i := 8) (N := some 47) (v := ?_) (a' := ?_) #[true, true, true, true, true, true, true, true, true, true, false, true, false, false, false, false, false, false, false, false, false] rfl rfl (take_ofW HT_.out HW_.out (by kernel_rfl)) (fun _ _ _ h => h) (Or.inl ⟨by rfl, ?_⟩) hHeld ?_ ?_
        rotate_left
        · rintro w' ⟨s0, s1, s2, s3⟩
          go_simp
          with_reducible rfl
        rotate_left
        · simp only [Act.put, List.setIfInBounds_toArray, List.set_cons_zero, List.set_cons_succ, i64_w, i32_w]
          rfl
        refine take_ (i := 10) (N := some 49) (v := ?_) (a' := ?_) #[true, true, true, true, true, true, true, true, true, true, true, true, false, false, false, false, false, false, false, false, false] rfl rfl (take_ofW HT_.out HW_.out (by kernel_rfl)) (fun _ _ _ h => h) (Or.inl ⟨by rfl, ?_⟩) hHeld ?_ ?_
        rotate_left
        · rintro w' ⟨s0, s1, s2, s3⟩
          go_simp
          with_reducible rfl
        rotate_left
        · simp only [Act.put, List.setIfInBounds_toArray, List.set_cons_zero, List.set_cons_succ, i64_w, i32_w]
          rfl
        refine pure_ (i := 12) (N := some 51) (v := ?_) (a' := ?_) #[true, true, true, true, true, true, true, true, true, true, true, true, true, false, false, false, false, false, false, false, false] rfl rfl (any_of HT_.out (by kernel_rfl)) (fun _ _ _ h => h) (Or.inl ⟨by rfl, ?_⟩) ?_ ?_
        rotate_left
        · intro w'
          go_simp
          with_reducible rfl
        rotate_left
        · simp only [Act.put, List.setIfInBounds_toArray, List.set_cons_zero, List.set_cons_succ, i64_w, i32_w]
          rfl
        refine pure_ (i := 13) (N := some 52) (v := ?_) (a' := ?_) #[true, true, true, true, true, true, true, true, true, true, true, true, true, true, false, false, false, false, false, false, false] rfl rfl (any_of HT_.out (by kernel_rfl)) (fun _ _ _ h => h) (Or.inl ⟨by rfl, ?_⟩) ?_ ?_
        rotate_left
        · intro w'
          go_simp
          with_reducible rfl
        rotate_left
        · simp only [Act.put, List.setIfInBounds_toArray, List.set_cons_zero, List.set_cons_succ, i64_w, i32_w]
          rfl
        refine take_ (i := 14) (N := some 53) (v := ?_) (a' := ?_) #[true, true, true, true, true, true, true, true, true, true, true, true, true, true, true, false, false, false, false, false, false] rfl rfl (take_ofW HT_.out HW_.out (by kernel_rfl)) (fun _ _ _ h => h) (Or.inl ⟨by rfl, ?_⟩) hHeld ?_ ?_
        rotate_left
        · rintro w' ⟨s0, s1, s2, s3⟩
          go_simp
          with_reducible rfl
        rotate_left
        · simp only [Act.put, List.setIfInBounds_toArray, List.set_cons_zero, List.set_cons_succ, i64_w, i32_w]
          rfl
        refine pure_ (i := 15) (N := some 54) (v := ?_) (a' := ?_) #[true, true, true, true, true, true, true, true, true, true, true, true, true, true, true, true, false, false, false, false, false] rfl rfl (any_of HT_.out (by kernel_rfl)) (fun _ _ _ h => h) (Or.inl ⟨by rfl, ?_⟩) ?_ ?_
        rotate_left
        · intro w'
          go_simp
          with_reducible rfl
        rotate_left
        · simp only [Act.put, List.setIfInBounds_toArray, List.set_cons_zero, List.set_cons_succ, i64_w, i32_w]
          rfl
        refine one_ (i := 16) (N := some 55) #[true, true, true, true, true, true, true, true, true, true, true, true, true, true, true, true, true, false, false, false, false] rfl rfl (one_of HT_.out (by kernel_rfl)) (by decide) (fun K hK => ?_)
        refine goes_ Tryd.func41 (by kernel_rfl) rfl #[.string (s.extract b' e')] (by rfl) rfl rfl (by (try simp only [List.map_toArray, List.map_cons, List.map_nil]); first | done | rfl) ?_
        refine (U8.spec_Unquote.calls f2 _ _ _ hf2).mono ?_
        rintro e' w5 ⟨rfl, hb5⟩
        refine ⟨_, rfl, ?_⟩
        have HR5 := Lib.hid (own_keep HR.out (fun k hk => hb5.block k (own_range HR.out hk).2))
        have HKB5 := Lib.hid ((kb_drew HKB.out _).trans (Kb.below hb5))
        have hb55 := (hb5.block g5 (blk_lt HB5r.out)).trans HB5r.out
        obtain ⟨u0, u1, u2, u3⟩ := four hb55
        have m2 := World.new_ne w5 ⟨g5, 2, none⟩ u2
        have a2 : ∀ o, (w5.alloc o).cell? ⟨g5, 2, none⟩ = some (.slice AN nN cN) := fun o => (((Below.refl _ w5).alloc (Nat.le_refl _) o).cell (World.block_lt_of_cell? w5 _ u2)).trans u2
        have a3 : ∀ n o, ((w5.drewN n).alloc o).cell? ⟨g5, 2, none⟩ = some (.slice AN nN cN) := fun n o => (((Below.refl _ (w5.drewN n)).alloc (Nat.le_refl _) o).cell (World.block_lt_of_cell? w5 _ u2)).trans u2
        have l3 := cell_keep hb5 q3
        have l0 := cell_keep hb5 e0
        have l1 := cell_keep hb5 e1
        have m3 := World.new_ne w5 _ l3
        have m0 := World.new_ne w5 _ l0
        have m1 := World.new_ne w5 _ l1
        have HB55 := Lib.hid hb55
        clear hb5 hb55
        refine hK.out _ _ ⟨u2, l3, l0, l1⟩ (fun hHeld => ?_)
        clear hK K
        refine norm_ (a' := ?_) ?_ ?_
        rotate_left
        · show Act.put _ (some 55) _ = _
          simp only [Act.put, List.setIfInBounds_toArray, List.set_cons_zero, List.set_cons_succ, i64_w, i32_w]
          rfl
        refine one_ (i := 17) (N := some 56) #[true, true, true, true, true, true, true, true, true, true, true, true, true, true, true, true, true, true, false, false, false] rfl rfl (one_of HT_.out (by kernel_rfl)) (by decide) (fun K hK => ?_)
        refine value_ (w1 := ?_) (v := ?_) (by rfl) rfl ?_ ?_
        rotate_left 2
        · go_simp
          constructor
          · rfl
          · rfl
        refine hK.out _ _ ⟨a2 _, (World.cell?_alloc_lt _ _ _ (World.block_lt_of_cell? _ _ l3)).trans l3, (World.cell?_alloc_lt _ _ _ (World.block_lt_of_cell? _ _ l0)).trans l0, (World.cell?_alloc_lt _ _ _ (World.block_lt_of_cell? _ _ l1)).trans l1⟩ (fun hHeld => ?_)
        clear hK K
        refine norm_ (a' := ?_) ?_ ?_
        rotate_left
        · show Act.put _ (some 56) _ = _
          simp only [Act.put, List.setIfInBounds_toArray, List.set_cons_zero, List.set_cons_succ, i64_w, i32_w]
          rfl
        refine one_ (i := 18) (N := some 57) #[true, true, true, true, true, true, true, true, true, true, true, true, true, true, true, true, true, true, true, false, false] rfl rfl (one_of HT_.out (by kernel_rfl)) (by decide) (fun K hK => ?_)
        refine append_cells_step wA.heap.size rfl (.tmp 40) (.tmp 56) 22 9 (.string ByteArray.empty) 1 16 rfl Tryd.underlying22 infoSt rfl (by omega) (by omega) _ bs.length (bs.map Value.string) [.string bq] rfl rfl rfl (by simp [Value.oneCell']) HR5.out (Nat.le_trans HKB5.out.size (Nat.le_refl _)) (by have := HI.out; have := HKS.out.2.1; have := HNL.out; omega) ?_
        intro v6 w6 row6 gr6 hat6
        obtain ⟨A6, n6, c6, rfl⟩ := row_form row6
        have j3 := gr6.cell l3 HRN3
        have j0 := gr6.cell l0 HRN0
        have j1 := gr6.cell l1 HRN0
        have HROW := Lib.hid row6
        have HGR := Lib.hid gr6
        have hb6 := blk_grown HB55.out gr6 (fun h => by have := own_range HR5.out h.symm; have := HB5L.out; omega)
        obtain ⟨x0, x1, x2, x3⟩ := four hb6
        obtain ⟨v0, v1, v2, v3⟩ := four_f hb6
        have HB56 := Lib.hid hb6
        clear row6 gr6 hat6 hb6
        refine hK.out _ _ ⟨x2, j3, j0, j1⟩ (fun hHeld => ?_)
        clear hK K
        refine norm_ (a' := ?_) ?_ ?_
        rotate_left
        · show Act.put _ (some 57) _ = _
          simp only [Act.put, List.setIfInBounds_toArray, List.set_cons_zero, List.set_cons_succ, i64_w, i32_w]
          rfl
        refine pure_ (i := 19) (N := some 58) (v := ?_) (a' := ?_) #[true, true, true, true, true, true, true, true, true, true, true, true, true, true, true, true, true, true, true, true, false] rfl rfl (any_of HT_.out (by kernel_rfl)) (fun _ _ _ h => h) (Or.inl ⟨by rfl, ?_⟩) ?_ ?_
        rotate_left
        · intro w'
          go_simp
          with_reducible rfl
        rotate_left
        · simp only [Act.put, List.setIfInBounds_toArray, List.set_cons_zero, List.set_cons_succ, i64_w, i32_w]
          rfl
        refine last_ (i := 20) (N := none) #[true, true, true, true, true, true, true, true, true, true, true, true, true, true, true, true, true, true, true, true, true] rfl rfl (one_of HT_.out (by kernel_rfl)) (by decide) (fun K hK => ?_)
        refine skip_ (w1 := ?_) (by rfl) rfl ?_ ?_
        rotate_left
        · go_simp
          rfl
        refine hK.out _ _ ?_
        clear hK K
        refine done_ (done_of HT_.out (by kernel_rfl)) ?_
        try go_wp2
        go_roundg (ns.length - i)
        case measure => have := HI.out; omega
        case rel => exact ⟨i + 1, bs ++ [bq], _, Lib.hid ⟨hi, by have := HI.out; omega⟩, by congr 1, Lib.hid (kb_self (Kb.grown (B := 0) HKB5.out HGR.out (fun k hk => (own_range HR5.out hk).1)) _), Lib.hid (blk_put HB56.out 2 _ rfl), Lib.hid (by simpa using ownsRow_setCell_below HROW.out (a := ⟨g5, 2, none⟩) HB5L.out (.slice A6 n6 c6)), Lib.hid ⟨by rw [take_more HSG.out.1]; exact Keys.push ⟨f2, by rw [← HSQ.out]; exact HSG.out.2⟩ HKS.out.1, by simp [HKS.out.2.1], by simp⟩⟩
      · have hd1 : decide ((i : Int) < (ns.length : Int)) = false := decide_eq_false (by omega)
        have hd2 : decide (i < ns.length) = false := decide_eq_false (by omega)
        go_wp2
        obtain ⟨wB, hwB⟩ : ∃ wB, wB = wr := ⟨_, rfl⟩
        subst hwB
        have hin : i = ns.length := by have := HI.out; omega
        subst hin
        have HB5M := Lib.hid (blk_lt HB5r.out)
        have HB5B := HB5r
        clear q0 q1 q2 q3 q4 z0 z1 z2 z3 y0 y1 y2 y3 hd1 hd2 hi HI HB5r
        go_loopg [7] (vs.length + 1) (fun kq v7 w' => ∃ (j : Nat) (ds : List (Array Value)) (K' : Value), Hid (j ≤ vs.length ∧ kq = vs.length - j + 1) ∧ v7 = .int .i64 j ∧ Hid (Kb g5 wB w') ∧ Hid (w'.heap[g5]? = some (.cells (nd 3 (s.extract b e) (.slice AN nN cN) K') 25 (0, 0))) ∧ Hid (w'.ownsRow wB.heap.size 25 4 K' ds.length (flat ds) ∧ ds.length = j ∧ (j = 0 → K' = nilS)) ∧ Hid (∀ (i : Nat) (a : Array Value) (v : JT), ds[i]? = some a → vs[i]? = some v → NRep w' (Kown wB w' K') a v))
        case atStart => exact ⟨0, [], nilS, Lib.hid ⟨Nat.zero_le _, rfl⟩, rfl, Lib.hid (Kb.refl _ _), HB5B, Lib.hid ⟨World.ownsRow_nil _ _ _ _, rfl, fun _ => rfl⟩, Lib.hid (fun i a v h => by simp at h)⟩
        case round =>
          obtain ⟨j, ds, K', HI, rfl, HKB2, HB5r, HR2, HKD⟩ := hrel
          obtain ⟨AK, nK, cK, rfl⟩ := row_form HR2.out.1
          obtain ⟨q0, q1, q2, q3, q4⟩ := five ((HKB2.out.block g3 (Nat.lt_of_lt_of_le (blk_lt HB3.out) HKB.out.size) (fun e => HG5.out.1 e.symm)).trans ((HKB.out.block g3 (blk_lt HB3.out) (fun e => HG5.out.1 e.symm)).trans HB3.out))
          obtain ⟨z0, z1, z2, z3⟩ := four HB5r.out
          obtain ⟨y0, y1, y2, y3⟩ := four_f HB5r.out
          have HOLD := Lib.hid (show ∀ k, k < w.heap.size → wr.heap[k]? = w.heap[k]? from fun k hk => (HKB2.out.block k (by have := HKB.out.size; have := BEL.out.size; omega) (by have := HG5.out.2.2; omega)).trans ((HKB.out.block k (by have := BEL.out.size; omega) (by have := HG5.out.2.2; omega)).trans (BEL.out.block k hk)))
          by_cases hi : j < vs.length
          · obtain ⟨a, ha⟩ : ∃ a, cs[j]? = some a := ⟨_, List.getElem?_eq_getElem (by have := HL.out; omega)⟩
            obtain ⟨v, hv⟩ : ∃ v, vs[j]? = some v := ⟨_, List.getElem?_eq_getElem hi⟩
            have hR := HK.out.2 j a v ha hv
            have hsz : ∀ a ∈ cs, a.size = 5 := fun a ha => by
              obtain ⟨i, hi, rfl⟩ := List.getElem_of_mem ha
              obtain ⟨_, _, _, _, _, h, _⟩ := (HK.out.2 i cs[i] (vs[i]'(by have := HL.out; omega)) (List.getElem?_eq_getElem hi) (List.getElem?_eq_getElem (by have := HL.out; omega))).form
              rw [h]; rfl
            obtain ⟨k', b', e', N1, K1, rfl, ⟨M1, m1, o1, rfl⟩, ⟨M2, m2, o2, rfl⟩⟩ := hR.form
            obtain ⟨gp, rfl, -, -, hc⟩ := el_cell (own_keep HK.out.1 (fun b hb => HOLD.out b (HK.out.1.lt b hb).2)) hsz ha
            have hgpl := (HK.out.1.lt gp rfl).2
            have e0 := hc 0 (by omega)
            have e1 := hc 1 (by omega)
            have e2 := hc 2 (by omega)
            have e3 := hc 3 (by omega)
            have e4 := hc 4 (by omega)
            rw [Nat.add_zero] at e0
            simp only [List.getElem?_toArray, List.size_toArray] at e0 e1 e2 e3 e4
            have h0 : (0 : Int) ≤ (j : Int) := by omega
            have hlti : (j : Int) < (vs.length : Int) := by omega
            have hd1 : decide ((j : Int) < (vs.length : Int)) = true := decide_eq_true (by omega)
            have hd2 : decide (j < vs.length) = true := decide_eq_true (by omega)
            have hw1 : IntKind.i64.wrap ((j : Int) + 1) = (j : Int) + 1 := by rw [IntKind.wrap_i64]; have := HNL.out; omega
            have HC := Lib.hid (show ∀ n, Calls Tryd.prog 24 #[.string s, .agg (pl k' b' e' (.slice M1 m1 o1) (.slice M2 m2 o2))] (wr.drewN n) (TR (wr.drewN n) v) from fun n =>
              HIH.out v (List.mem_of_getElem? hv) _ s O _ (hR.mono (w' := wr.drewN n) (fun b hb => ⟨hb, HOLD.out b (HO.out b hb)⟩)) (fun b hb => by have h1 := HO.out b hb; have h2 := BEL.out.size; have h3 := HKB.out.size; have h4 := HKB2.out.size; show b < wr.heap.size; omega) HS.out (Nat.le_trans (szL_mem (List.mem_of_getElem? hv)) HNL.out.2.2) (HU.out.2 v (List.mem_of_getElem? hv)))
            have HV := Lib.hid hv
            have n1 : gp ≠ g5 := by have := HG5.out.2.2; omega
            have n2 := n1.symm
            have n3 := HG5.out.1
            have n4 := n3.symm
            have HRN3 : some g3 ≠ Value.ownBlock (.slice AK nK cK) := fun h => by have := own_range HR2.out.1 h.symm; have := blk_lt HB3.out; have := HKB.out.size; omega
            have HRN0 : some gp ≠ Value.ownBlock (.slice AK nK cK) := fun h => by have := own_range HR2.out.1 h.symm; have := BEL.out.size; have := HKB.out.size; omega
            clear hc ha hv hR hsz
            go_wp2
            refine start_ (n := 13) (S := fun w' => w'.cell? ⟨g5, 3, none⟩ = some (.slice AK nK cK) ∧ w'.cell? ⟨g3, 4, none⟩ = some (.slice (some ⟨gp, 0, none⟩) vs.length c2) ∧ w'.cell? ⟨gp, j * 5, none⟩ = some (.int .i64 k') ∧ w'.cell? ⟨gp, j * 5 + 1, none⟩ = some (.int .i64 b') ∧ w'.cell? ⟨gp, j * 5 + 2, none⟩ = some (.int .i64 e') ∧ w'.cell? ⟨gp, j * 5 + 3, none⟩ = some (.slice M1 m1 o1) ∧ w'.cell? ⟨gp, j * 5 + 4, none⟩ = some (.slice M2 m2 o2)) (ds := [12]) #[false, false, false, false, false, false, false, false, false, false, false, false, false] (by kernel_rfl) rfl rfl ⟨z3, q4, e0, e1, e2, e3, e4⟩ (fun hHeld => ?_); refine with_tabW Tree14_tab Tree14_bits (fun HT_ HW_ => ?_)
            refine pure_ (i := 0) (N := some 66) (v := ?_) (a' := ?_) #[true, false, false, false, false, false, false, false, false, false, false, false, false] rfl rfl (any_of HT_.out (by kernel_rfl)) (fun _ _ _ h => h) (Or.inl ⟨by rfl, ?_⟩) ?_ ?_
            rotate_left
            · intro w'
              go_simp
              with_reducible rfl
            rotate_left
            · simp only [Act.put, List.setIfInBounds_toArray, List.set_cons_zero, List.set_cons_succ, i64_w, i32_w]
              rfl
            refine pure_ (i := 2) (N := some 68) (v := ?_) (a' := ?_) #[true, false, true, false, false, false, false, false, false, false, false, false, false] rfl rfl (any_of HT_.out (by kernel_rfl)) (fun _ _ _ h => h) (Or.inl ⟨by rfl, ?_⟩) ?_ ?_
            rotate_left
            · intro w'
              go_simp
              with_reducible rfl
            rotate_left
            · simp only [Act.put, List.setIfInBounds_toArray, List.set_cons_zero, List.set_cons_succ, i64_w, i32_w]
              rfl
            refine pure_ (i := 3) (N := some 69) (v := ?_) (a' := ?_) #[true, false, true, true, false, false, false, false, false, false, false, false, false] rfl rfl (any_of HT_.out (by kernel_rfl)) (fun _ _ _ h => h) (Or.inl ⟨by rfl, ?_⟩) ?_ ?_
            rotate_left
            · intro w'
              go_simp
              with_reducible rfl
            rotate_left
            · simp only [Act.put, List.setIfInBounds_toArray, List.set_cons_zero, List.set_cons_succ, i64_w, i32_w]
              rfl
            refine pure_ (i := 5) (N := some 71) (v := ?_) (a' := ?_) #[true, false, true, true, false, true, false, false, false, false, false, false, false] rfl rfl (any_of HT_.out (by kernel_rfl)) (fun _ _ _ h => h) (Or.inl ⟨by rfl, ?_⟩) ?_ ?_
            rotate_left
            · intro w'
              go_simp
              with_reducible rfl
            rotate_left
            · simp only [Act.put, List.setIfInBounds_toArray, List.set_cons_zero, List.set_cons_succ, i64_w, i32_w]
              rfl
            refine take_ (i := 1) (N := some 67) (v := ?_) (a' := ?_) #[true, true, true, true, false, true, false, false, false, false, false, false, false] rfl rfl (take_ofW HT_.out HW_.out (by kernel_rfl)) (fun _ _ _ h => h) (Or.inl ⟨by rfl, ?_⟩) hHeld ?_ ?_
            rotate_left
            · rintro w' ⟨s0, s1, s2, s3, s4, s5, s6⟩
              go_simp
              with_reducible rfl
            rotate_left
            · simp only [Act.put, List.setIfInBounds_toArray, List.set_cons_zero, List.set_cons_succ, i64_w, i32_w]
              rfl
            refine take_ (i := 4) (N := some 70) (v := ?_) (a' := ?_) #[true, true, true, true, true, true, false, false, false, false, false, false, false] rfl rfl (take_ofW HT_.out HW_.out (by kernel_rfl)) (fun _ _ _ h => h) (Or.inl ⟨by rfl, ?_⟩) hHeld ?_ ?_
            rotate_left
            · rintro w' ⟨s0, s1, s2, s3, s4, s5, s6⟩
              go_simp
              with_reducible rfl
            rotate_left
            · simp only [Act.put, List.setIfInBounds_toArray, List.set_cons_zero, List.set_cons_succ, i64_w, i32_w]
              rfl
            refine pure_ (i := 6) (N := some 72) (v := ?_) (a' := ?_) #[true, true, true, true, true, true, true, false, false, false, false, false, false] rfl rfl (any_of HT_.out (by kernel_rfl)) (fun _ _ _ h => h) (Or.inl ⟨by rfl, ?_⟩) ?_ ?_
            rotate_left
            · intro w'
              go_simp
              with_reducible rfl
            rotate_left
            · simp only [Act.put, List.setIfInBounds_toArray, List.set_cons_zero, List.set_cons_succ, i64_w, i32_w]
              rfl
            refine take_ (i := 7) (N := some 73) (v := ?_) (a' := ?_) #[true, true, true, true, true, true, true, true, false, false, false, false, false] rfl rfl (take_ofW HT_.out HW_.out (by kernel_rfl)) (fun _ _ _ h => h) (Or.inl ⟨by rfl, ?_⟩) hHeld ?_ ?_
            rotate_left
            · rintro w' ⟨s0, s1, s2, s3, s4, s5, s6⟩
              go_simp
              with_reducible rfl
            rotate_left
            · simp only [Act.put, List.setIfInBounds_toArray, List.set_cons_zero, List.set_cons_succ, i64_w, i32_w]
              rfl
            refine one_ (i := 8) (N := some 74) #[true, true, true, true, true, true, true, true, true, false, false, false, false] rfl rfl (one_of HT_.out (by kernel_rfl)) (by decide) (fun K hK => ?_)
            refine goes_ Tryd.func24 (by kernel_rfl) rfl #[.string s, .agg #[.int .i64 k', .int .i64 b', .int .i64 e', .slice M1 m1 o1, .slice M2 m2 o2]] (by rfl) rfl rfl (by (try simp only [List.map_toArray, List.map_cons, List.map_nil]); first | done | rfl) ?_
            refine (HC.out 1).mono ?_
            rintro e5 w5 ⟨a5, rfl, hN5, hb5⟩
            refine ⟨_, rfl, ?_⟩
            obtain ⟨kx, xx, D1, D2, d1, f1, d2, f2', rfl⟩ := hN5.form
            have HN5 := Lib.hid hN5
            have HBW := Lib.hid hb5
            have HR5 := Lib.hid (own_keep HR2.out.1 (fun k hk => hb5.block k (own_range HR2.out.1 hk).2))
            have HKB5 := Lib.hid ((kb_drew HKB2.out _).trans (Kb.below hb5))
            have hb55 := (hb5.block g5 (blk_lt HB5r.out)).trans HB5r.out
            obtain ⟨u0, u1, u2, u3⟩ := four hb55
            have m2 := World.new_ne w5 ⟨g5, 3, none⟩ u3
            have a2 : ∀ o, (w5.alloc o).cell? ⟨g5, 3, none⟩ = some (.slice AK nK cK) := fun o => (((Below.refl _ w5).alloc (Nat.le_refl _) o).cell (World.block_lt_of_cell? w5 _ u3)).trans u3
            have l0 := cell_keep hb5 q4
            have m10 := World.new_ne w5 _ l0
            have l1 := cell_keep hb5 e0
            have m11 := World.new_ne w5 _ l1
            have l2 := cell_keep hb5 e1
            have m12 := World.new_ne w5 _ l2
            have l3 := cell_keep hb5 e2
            have m13 := World.new_ne w5 _ l3
            have l4 := cell_keep hb5 e3
            have m14 := World.new_ne w5 _ l4
            have l5 := cell_keep hb5 e4
            have m15 := World.new_ne w5 _ l5
            have HB55 := Lib.hid hb55
            clear hb5 hb55 hN5
            refine hK.out _ _ ⟨u3, l0, l1, l2, l3, l4, l5⟩ (fun hHeld => ?_)
            clear hK K
            refine norm_ (a' := ?_) ?_ ?_
            rotate_left
            · show Act.put _ (some 74) _ = _
              simp only [Act.put, List.setIfInBounds_toArray, List.set_cons_zero, List.set_cons_succ, i64_w, i32_w]
              rfl
            refine one_ (i := 9) (N := some 75) #[true, true, true, true, true, true, true, true, true, true, false, false, false] rfl rfl (one_of HT_.out (by kernel_rfl)) (by decide) (fun K hK => ?_)
            refine value_ (w1 := ?_) (v := ?_) (by rfl) rfl ?_ ?_
            rotate_left 2
            · go_simp
              constructor
              · rfl
              · rfl
            refine hK.out _ _ ⟨a2 _, (World.cell?_alloc_lt _ _ _ (World.block_lt_of_cell? _ _ l0)).trans l0, (World.cell?_alloc_lt _ _ _ (World.block_lt_of_cell? _ _ l1)).trans l1, (World.cell?_alloc_lt _ _ _ (World.block_lt_of_cell? _ _ l2)).trans l2, (World.cell?_alloc_lt _ _ _ (World.block_lt_of_cell? _ _ l3)).trans l3, (World.cell?_alloc_lt _ _ _ (World.block_lt_of_cell? _ _ l4)).trans l4, (World.cell?_alloc_lt _ _ _ (World.block_lt_of_cell? _ _ l5)).trans l5⟩ (fun hHeld => ?_)
            clear hK K
            refine norm_ (a' := ?_) ?_ ?_
            rotate_left
            · show Act.put _ (some 75) _ = _
              simp only [Act.put, List.setIfInBounds_toArray, List.set_cons_zero, List.set_cons_succ, i64_w, i32_w]
              rfl
            refine one_ (i := 10) (N := some 76) #[true, true, true, true, true, true, true, true, true, true, true, false, false] rfl rfl (one_of HT_.out (by kernel_rfl)) (by decide) (fun K hK => ?_)
            refine append_cells_step wB.heap.size rfl (.tmp 67) (.tmp 75) 23 25 (.agg (nd 0 ByteArray.empty nilS nilS)) 4 72 rfl Tryd.underlying23 infoNd rfl (by omega) (by omega) _ ds.length (flat ds) (nd kx xx (.slice D1 d1 f1) (.slice D2 d2 f2')).toList rfl rfl rfl (by simp [nd, Value.oneCell']) HR5.out (Nat.le_trans HKB5.out.size (Nat.le_refl _)) (by have := HI.out; have := HR2.out.2.1; have := HNL.out; omega) ?_
            intro v6 w6 row6 gr6 hat6
            obtain ⟨A6, n6, c6, rfl⟩ := row_form row6
            have j0 := gr6.cell l0 HRN3
            have j1 := gr6.cell l1 HRN0
            have j2 := gr6.cell l2 HRN0
            have j3 := gr6.cell l3 HRN0
            have j4 := gr6.cell l4 HRN0
            have j5 := gr6.cell l5 HRN0
            have HROW := Lib.hid row6
            have HGR := Lib.hid gr6
            have HAT := Lib.hid hat6
            have hb6 := blk_grown HB55.out gr6 (fun h => by have := own_range HR5.out h.symm; have := HB5M.out; omega)
            obtain ⟨x0, x1, x2, x3⟩ := four hb6
            obtain ⟨v0, v1, v2, v3⟩ := four_f hb6
            have HB56 := Lib.hid hb6
            clear row6 gr6 hat6 hb6
            refine hK.out _ _ ⟨x3, j0, j1, j2, j3, j4, j5⟩ (fun hHeld => ?_)
            clear hK K
            refine norm_ (a' := ?_) ?_ ?_
            rotate_left
            · show Act.put _ (some 76) _ = _
              simp only [Act.put, List.setIfInBounds_toArray, List.set_cons_zero, List.set_cons_succ, i64_w, i32_w]
              rfl
            refine pure_ (i := 11) (N := some 77) (v := ?_) (a' := ?_) #[true, true, true, true, true, true, true, true, true, true, true, true, false] rfl rfl (any_of HT_.out (by kernel_rfl)) (fun _ _ _ h => h) (Or.inl ⟨by rfl, ?_⟩) ?_ ?_
            rotate_left
            · intro w'
              go_simp
              with_reducible rfl
            rotate_left
            · simp only [Act.put, List.setIfInBounds_toArray, List.set_cons_zero, List.set_cons_succ, i64_w, i32_w]
              rfl
            refine last_ (i := 12) (N := none) #[true, true, true, true, true, true, true, true, true, true, true, true, true] rfl rfl (one_of HT_.out (by kernel_rfl)) (by decide) (fun K hK => ?_)
            refine skip_ (w1 := ?_) (by rfl) rfl ?_ ?_
            rotate_left
            · go_simp
              rfl
            refine hK.out _ _ ?_
            clear hK K
            refine done_ (done_of HT_.out (by kernel_rfl)) ?_
            try go_wp2
            go_roundg (vs.length - j)
            case measure => have := HI.out; omega
            case rel => exact ⟨j + 1, ds ++ [nd kx xx (.slice D1 d1 f1) (.slice D2 d2 f2')], _, Lib.hid ⟨hi, by have := HI.out; omega⟩, by congr 1, Lib.hid (kb_self (Kb.grown (B := 0) HKB5.out HGR.out (fun k hk => (own_range HR5.out hk).1)) _), Lib.hid (blk_put HB56.out 3 _ rfl), Lib.hid ⟨by simpa [flat_append, flat] using ownsRow_setCell_below HROW.out (a := ⟨g5, 3, none⟩) HB5M.out (.slice A6 n6 c6), by simp [HR2.out.2.1], by simp⟩, Lib.hid (kids_push (fun i b t h1 h2 => nk_set (nk_grown (nk_step (nk_drew (HKD.out i b t h1 h2) _) HBW.out) HGR.out HAT.out) HB5M.out) (by rw [HR2.out.2.1]; exact HV.out) (nk_set (nk_grown (nk_fresh HN5.out HKB2.out.size (fun k hk => (own_range HR2.out.1 hk).2)) HGR.out HAT.out) HB5M.out))⟩
          · have hd1 : decide ((j : Int) < (vs.length : Int)) = false := decide_eq_false (by omega)
            have hd2 : decide (j < vs.length) = false := decide_eq_false (by omega)
            have hb4 := (HKB2.out.block g4 (Nat.lt_of_lt_of_le (blk_lt HB4.out) HKB.out.size) (fun e => HG5.out.2.1 e.symm)).trans ((HKB.out.block g4 (blk_lt HB4.out) (fun e => HG5.out.2.1 e.symm)).trans HB4.out)
            have HB4r := Lib.hid hb4
            obtain ⟨x0, x1, x2, x3⟩ := four hb4
            obtain ⟨v0, v1, v2, v3⟩ := four_f hb4
            have n1 := HG5.out.2.1
            have n2 := n1.symm
            have HW := Lib.hid (kb_below (kb_below BEL.out HKB.out HG5.out.2.2 BEL.out.size) HKB2.out HG5.out.2.2 (Nat.le_trans BEL.out.size HKB.out.size))
            clear hb4
            go_wp2
            refine bodyPost_ret (results_cell_row rfl _ _ g4 25 _ (0, 0) _ rfl (four_put HB4r.out) Tryd.underlying25 rfl (by kernel_rfl)) rfl ?_
            have hj : j = vs.length := by have := HI.out; omega
            have hsz : wA.heap.size ≤ wB.heap.size := HKB.out.size
            have hg4 : g4 < wA.heap.size := blk_lt HB4.out
            have hwA := BEL.out.size
            refine ⟨_, _, bs, ds, rfl, ?_, ?_, by rw [HR2.out.2.1, hj], ?_, ?_, put4_below HW.out HG4.out.1, fun h => HKS.out.2.2 h, fun h => HR2.out.2.2 (by omega)⟩
            · have h := HKS.out.1
              rwa [List.take_of_length_le (by rw [HN.out.2.len]; exact Nat.le_refl _)] at h
            · exact own_le (own_keep HR.out (fun k hk => by
                have h1 := own_range HR.out hk
                rw [put4_other (by omega)]
                exact HKB2.out.block k h1.2 (by have := HB5L.out; omega))) hwA
            · exact own_le (own_keep HR2.out.1 (fun k hk => by
                have h1 := own_range HR2.out.1 hk
                rw [put4_other (by omega)])) (by omega)
            · intro i a v h1 h2
              refine (HKD.out i a v h1 h2).mono (fun k hk => ?_)
              have h3 := hk.1.1
              have h4 := hk.1.2
              exact ⟨⟨by omega, by rw [put4_size]; exact h4⟩, put4_other (by omega)⟩
  · go_enter Tryd.func24, Tryd.ntmps24
    go_upto_region 2 with (first
      | ((with_reducible refine gate_dst (N := 3) rfl ?_); refine box_event ?hg (N := 3) ?hd (cs := pl 4 b e (.slice A1 ns.length c1) (.slice A2 vs.length c2)) (t := 56) ?hr ?_; (case hd => rfl); (case hg => rfl); (case hr => first | (go_simp; done) | (go_simp; rfl)); intro g3 hg3 w3 hb3 hbel3; have HB3 := Lib.hid hb3; have BEL := Lib.hid hbel3; have HG3 := Lib.hid (show w.heap.size ≤ g3 from by omega); clear hb3 hbel3 hg3)
      | ((with_reducible refine gate_dst (N := 4) rfl ?_); refine box_event ?hg (N := 4) ?hd (cs := nd 0 ByteArray.empty nilS nilS) (t := 25) ?hr ?_; (case hd => rfl); (case hg => rfl); (case hr => first | (go_simp; done) | (go_simp; rfl)); intro g4 hg4 w4 hb4 hbel4; have HB4 := Lib.hid hb4; have HG4 := Lib.hid (show w.heap.size ≤ g4 ∧ g3 ≠ g4 from ⟨by have := BEL.out.size; omega, by have := blk_lt HB3.out; omega⟩); replace HB3 := Lib.hid ((hbel4.block g3 (blk_lt HB3.out)).trans HB3.out); replace BEL := Lib.hid (BEL.out.trans (hbel4.mono BEL.out.size)); obtain ⟨q0, q1, q2, q3, q4⟩ := five HB3.out; clear hb4 hbel4 hg4))
    have hb37 := blk_alloc HB3.out (.cells #[.int .i64 4, .string ⟨#[]⟩, .slice none 0 0, .slice none 0 0] 25 (0, 0))
    have hb47 := blk_alloc HB4.out (.cells #[.int .i64 4, .string ⟨#[]⟩, .slice none 0 0, .slice none 0 0] 25 (0, 0))
    have hb57 := blk_new w4 (.cells #[.int .i64 4, .string ⟨#[]⟩, .slice none 0 0, .slice none 0 0] 25 (0, 0))
    have hbe7 := BEL.out.alloc BEL.out.size (.cells #[.int .i64 4, .string ⟨#[]⟩, .slice none 0 0, .slice none 0 0] 25 (0, 0))
    have HG5 := Lib.hid (show w4.heap.size ≠ g3 ∧ w4.heap.size ≠ g4 ∧ w.heap.size ≤ w4.heap.size from ⟨Nat.ne_of_gt (blk_lt HB3.out), Nat.ne_of_gt (blk_lt HB4.out), BEL.out.size⟩)
    clear q0 q1 q2 q3 q4
    generalize hw7 : w4.alloc _ = w5 at hb37 hb47 hb57 hbe7 ⊢
    clear hw7 HB3 HB4 BEL
    generalize hg5 : w4.heap.size = g5 at hb57 HG5 ⊢
    have HB3 := Lib.hid hb37
    have HB4 := Lib.hid hb47
    have HB5 := Lib.hid hb57
    have BEL := Lib.hid hbe7
    clear hb37 hb47 hb57 hbe7 hg5
    obtain ⟨q0, q1, q2, q3, q4⟩ := five HB3.out
    obtain ⟨z0, z1, z2, z3⟩ := four HB5.out
    obtain ⟨y0, y1, y2, y3⟩ := four_f HB5.out
    have h0b : (0 : Int) ≤ (b : Int) := by omega
    have hbe' : (b : Int) ≤ (e : Int) := by omega
    have hes' : (e : Int) ≤ (s.size : Int) := by omega
    go_upto_region 7 with (first
      | (go_at_call 41; refine (U8.spec_Unquote.calls f _ _ _ htx).mono ?_; rintro e' w6 ⟨rfl, hb6⟩; have HB36 := Lib.hid ((hb6.block g3 (blk_lt HB3.out)).trans HB3.out); replace HB3 := HB36; replace HB4 := Lib.hid ((hb6.block g4 (blk_lt HB4.out)).trans HB4.out); replace HB5 := Lib.hid ((hb6.block g5 (blk_lt HB5.out)).trans HB5.out); replace BEL := Lib.hid (BEL.out.trans (hb6.mono BEL.out.size)); obtain ⟨q0, q1, q2, q3, q4⟩ := five HB3.out; obtain ⟨z0, z1, z2, z3⟩ := four HB5.out; obtain ⟨y0, y1, y2, y3⟩ := four_f HB5.out; clear hb6))
    have hb37 := blk_far HB3.out (p := ⟨g5, 1, none⟩) (fun e => HG5.out.1 e.symm) (.string txt)
    have hb47 := blk_far HB4.out (p := ⟨g5, 1, none⟩) (fun e => HG5.out.2.1 e.symm) (.string txt)
    have hb57 : (w6.setCell ⟨g5, 1, none⟩ (.string txt)).heap[g5]? = some (.cells (nd 4 txt nilS nilS) 25 (0, 0)) := blk_put HB5.out 1 _ rfl
    have hbe7 := BEL.out.setCell (p := ⟨g5, 1, none⟩) HG5.out.2.2 (.string txt)
    clear q0 q1 q2 q3 q4 z0 z1 z2 z3 y0 y1 y2 y3
    generalize hwA : w6.setCell ⟨g5, 1, none⟩ (.string txt) = wA at hb37 hb47 hb57 hbe7 ⊢
    clear hwA HB3 HB4 HB5 BEL
    have HB3 := Lib.hid hb37
    have HB4 := Lib.hid hb47
    have HB5 := Lib.hid hb57
    have BEL := Lib.hid hbe7
    have HB5L := Lib.hid (blk_lt hb57)
    clear hb37 hb47 hb57 hbe7
    go_wp2
    go_loopg [6] (ns.length + 1) (fun kq v6 w' => ∃ (i : Nat) (bs : List ByteArray) (N' : Value), Hid (i ≤ ns.length ∧ kq = ns.length - i + 1) ∧ v6 = .int .i64 i ∧ Hid (Kb g5 wA w') ∧ Hid (w'.heap[g5]? = some (.cells (nd 4 txt N' nilS) 25 (0, 0))) ∧ Hid (w'.ownsRow wA.heap.size 9 1 N' bs.length (bs.map Value.string)) ∧ Hid (Keys bs (ks.take i) ∧ bs.length = i ∧ (i = 0 → N' = nilS)))
    case atStart => exact ⟨0, [], nilS, Lib.hid ⟨Nat.zero_le _, rfl⟩, rfl, Lib.hid (Kb.refl _ _), HB5, Lib.hid (World.ownsRow_nil _ _ _ _), Lib.hid ⟨by simp [Keys], rfl, fun _ => rfl⟩⟩
    case round =>
      obtain ⟨i, bs, N', HI, rfl, HKB, HB5r, HR, HKS⟩ := hrel
      obtain ⟨AN, nN, cN, rfl⟩ := row_form HR.out
      obtain ⟨q0, q1, q2, q3, q4⟩ := five ((HKB.out.block g3 (blk_lt HB3.out) (fun e => HG5.out.1 e.symm)).trans HB3.out)
      obtain ⟨z0, z1, z2, z3⟩ := four HB5r.out
      obtain ⟨y0, y1, y2, y3⟩ := four_f HB5r.out
      by_cases hi : i < ns.length
      · obtain ⟨b', e', kk, ha, hkk', hseg⟩ := HN.out.2.get hi
        obtain ⟨bq, f2, hf2⟩ := HU.out.1 kk (List.mem_of_getElem? hkk')
        have HSQ := Lib.hid (seg_extract hseg)
        rw [← seg_extract hseg] at hf2
        obtain ⟨gn, rfl, -, -, hc⟩ := el_cell (own_keep HN.out.1 (fun b hb => (HKB.out.block b (by have := (HN.out.1.lt b hb).2; have := BEL.out.size; omega) (by have := (HN.out.1.lt b hb).2; have := HG5.out.2.2; omega)).trans (BEL.out.block b (HN.out.1.lt b hb).2))) HN.out.2.sizes ha
        have hgnl := (HN.out.1.lt gn rfl).2
        have e0 := hc 0 (by omega)
        have e1 := hc 1 (by omega)
        rw [Nat.add_zero] at e0
        simp only [List.getElem?_toArray, List.size_toArray] at e0 e1
        have h0 : (0 : Int) ≤ (i : Int) := by omega
        have hlti : (i : Int) < (ns.length : Int) := by omega
        have hd1 : decide ((i : Int) < (ns.length : Int)) = true := decide_eq_true (by omega)
        have hd2 : decide (i < ns.length) = true := decide_eq_true (by omega)
        have hw1 : IntKind.i64.wrap ((i : Int) + 1) = (i : Int) + 1 := by rw [IntKind.wrap_i64]; have := HNL.out; omega
        have h0b : (0 : Int) ≤ (b' : Int) := by omega
        have hbe' : (b' : Int) ≤ (e' : Int) := by have := hseg.1; omega
        have hes' : (e' : Int) ≤ (s.size : Int) := by have := hseg.2.1; omega
        have HSG := Lib.hid (And.intro hkk' hf2)
        have n1 : gn ≠ g5 := by have := HG5.out.2.2; omega
        have n2 := n1.symm
        have n3 := HG5.out.1
        have n4 := n3.symm
        have HRN3 : some g3 ≠ Value.ownBlock (.slice AN nN cN) := fun h => by have := own_range HR.out h.symm; have := blk_lt HB3.out; omega
        have HRN0 : some gn ≠ Value.ownBlock (.slice AN nN cN) := fun h => by have := own_range HR.out h.symm; have := BEL.out.size; omega
        clear hc ha hkk' hseg
        go_wp2
        refine start_ (n := 21) (S := fun w' => w'.cell? ⟨g5, 2, none⟩ = some (.slice AN nN cN) ∧ w'.cell? ⟨g3, 3, none⟩ = some (.slice (some ⟨gn, 0, none⟩) ns.length c1) ∧ w'.cell? ⟨gn, i * 2, none⟩ = some (.int .i64 b') ∧ w'.cell? ⟨gn, i * 2 + 1, none⟩ = some (.int .i64 e')) (ds := [20]) #[false, false, false, false, false, false, false, false, false, false, false, false, false, false, false, false, false, false, false, false, false] (by kernel_rfl) rfl rfl ⟨z2, q3, e0, e1⟩ (fun hHeld => ?_); refine with_tabW Tree10_tab Tree10_bits (fun HT_ HW_ => ?_)
        refine pure_ (i := 0) (N := some 39) (v := ?_) (a' := ?_) #[true, false, false, false, false, false, false, false, false, false, false, false, false, false, false, false, false, false, false, false, false] rfl rfl (any_of HT_.out (by kernel_rfl)) (fun _ _ _ h => h) (Or.inl ⟨by rfl, ?_⟩) ?_ ?_
        rotate_left
        · intro w'
          go_simp
          with_reducible rfl
        rotate_left
        · simp only [Act.put, List.setIfInBounds_toArray, List.set_cons_zero, List.set_cons_succ, i64_w, i32_w]
          rfl
        refine pure_ (i := 2) (N := some 41) (v := ?_) (a' := ?_) #[true, false, true, false, false, false, false, false, false, false, false, false, false, false, false, false, false, false, false, false, false] rfl rfl (any_of HT_.out (by kernel_rfl)) (fun _ _ _ h => h) (Or.inl ⟨by rfl, ?_⟩) ?_ ?_
        rotate_left
        · intro w'
          go_simp
          with_reducible rfl
        rotate_left
        · simp only [Act.put, List.setIfInBounds_toArray, List.set_cons_zero, List.set_cons_succ, i64_w, i32_w]
          rfl
        refine pure_ (i := 3) (N := some 42) (v := ?_) (a' := ?_) #[true, false, true, true, false, false, false, false, false, false, false, false, false, false, false, false, false, false, false, false, false] rfl rfl (any_of HT_.out (by kernel_rfl)) (fun _ _ _ h => h) (Or.inl ⟨by rfl, ?_⟩) ?_ ?_
        rotate_left
        · intro w'
          go_simp
          with_reducible rfl
        rotate_left
        · simp only [Act.put, List.setIfInBounds_toArray, List.set_cons_zero, List.set_cons_succ, i64_w, i32_w]
          rfl
        refine pure_ (i := 5) (N := some 44) (v := ?_) (a' := ?_) #[true, false, true, true, false, true, false, false, false, false, false, false, false, false, false, false, false, false, false, false, false] rfl rfl (any_of HT_.out (by kernel_rfl)) (fun _ _ _ h => h) (Or.inl ⟨by rfl, ?_⟩) ?_ ?_
        rotate_left
        · intro w'
          go_simp
          with_reducible rfl
        rotate_left
        · simp only [Act.put, List.setIfInBounds_toArray, List.set_cons_zero, List.set_cons_succ, i64_w, i32_w]
          rfl
        refine pure_ (i := 9) (N := some 48) (v := ?_) (a' := ?_) #[true, false, true, true, false, true, false, false, false, true, false, false, false, false, false, false, false, false, false, false, false] rfl rfl (any_of HT_.out (by kernel_rfl)) (fun _ _ _ h => h) (Or.inl ⟨by rfl, ?_⟩) ?_ ?_
        rotate_left
        · intro w'
          go_simp
          with_reducible rfl
        rotate_left
        · simp only [Act.put, List.setIfInBounds_toArray, List.set_cons_zero, List.set_cons_succ, i64_w, i32_w]
          rfl
        refine pure_ (i := 11) (N := some 50) (v := ?_) (a' := ?_) #[true, false, true, true, false, true, false, false, false, true, false, true, false, false, false, false, false, false, false, false, false] rfl rfl (any_of HT_.out (by kernel_rfl)) (fun _ _ _ h => h) (Or.inl ⟨by rfl, ?_⟩) ?_ ?_
        rotate_left
        · intro w'
          go_simp
          with_reducible rfl
        rotate_left
        · simp only [Act.put, List.setIfInBounds_toArray, List.set_cons_zero, List.set_cons_succ, i64_w, i32_w]
          rfl
        refine take_ (i := 1) (N := some 40) (v := ?_) (a' := ?_) #[true, true, true, true, false, true, false, false, false, true, false, true, false, false, false, false, false, false, false, false, false] rfl rfl (take_ofW HT_.out HW_.out (by kernel_rfl)) (fun _ _ _ h => h) (Or.inl ⟨by rfl, ?_⟩) hHeld ?_ ?_
        rotate_left
        · rintro w' ⟨s0, s1, s2, s3⟩
          go_simp
          with_reducible rfl
        rotate_left
        · simp only [Act.put, List.setIfInBounds_toArray, List.set_cons_zero, List.set_cons_succ, i64_w, i32_w]
          rfl
        refine take_ (i := 4) (N := some 43) (v := ?_) (a' := ?_) #[true, true, true, true, true, true, false, false, false, true, false, true, false, false, false, false, false, false, false, false, false] rfl rfl (take_ofW HT_.out HW_.out (by kernel_rfl)) (fun _ _ _ h => h) (Or.inl ⟨by rfl, ?_⟩) hHeld ?_ ?_
        rotate_left
        · rintro w' ⟨s0, s1, s2, s3⟩
          go_simp
          with_reducible rfl
        rotate_left
        · simp only [Act.put, List.setIfInBounds_toArray, List.set_cons_zero, List.set_cons_succ, i64_w, i32_w]
          rfl
        refine pure_ (i := 6) (N := some 45) (v := ?_) (a' := ?_) #[true, true, true, true, true, true, true, false, false, true, false, true, false, false, false, false, false, false, false, false, false] rfl rfl (any_of HT_.out (by kernel_rfl)) (fun _ _ _ h => h) (Or.inl ⟨by rfl, ?_⟩) ?_ ?_
        rotate_left
        · intro w'
          go_simp
          with_reducible rfl
        rotate_left
        · simp only [Act.put, List.setIfInBounds_toArray, List.set_cons_zero, List.set_cons_succ, i64_w, i32_w]
          rfl
        refine pure_ (i := 7) (N := some 46) (v := ?_) (a' := ?_) #[true, true, true, true, true, true, true, true, false, true, false, true, false, false, false, false, false, false, false, false, false] rfl rfl (any_of HT_.out (by kernel_rfl)) (fun _ _ _ h => h) (Or.inl ⟨by rfl, ?_⟩) ?_ ?_
        rotate_left
        · intro w'
          go_simp
          with_reducible rfl
        rotate_left
        · simp only [Act.put, List.setIfInBounds_toArray, List.set_cons_zero, List.set_cons_succ, i64_w, i32_w]
          rfl
        refine take_ (i := 8) (N := some 47) (v := ?_) (a' := ?_) #[true, true, true, true, true, true, true, true, true, true, false, true, false, false, false, false, false, false, false, false, false] rfl rfl (take_ofW HT_.out HW_.out (by kernel_rfl)) (fun _ _ _ h => h) (Or.inl ⟨by rfl, ?_⟩) hHeld ?_ ?_
        rotate_left
        · rintro w' ⟨s0, s1, s2, s3⟩
          go_simp
          with_reducible rfl
        rotate_left
        · simp only [Act.put, List.setIfInBounds_toArray, List.set_cons_zero, List.set_cons_succ, i64_w, i32_w]
          rfl
        refine take_ (i := 10) (N := some 49) (v := ?_) (a' := ?_) #[true, true, true, true, true, true, true, true, true, true, true, true, false, false, false, false, false, false, false, false, false] rfl rfl (take_ofW HT_.out HW_.out (by kernel_rfl)) (fun _ _ _ h => h) (Or.inl ⟨by rfl, ?_⟩) hHeld ?_ ?_
        rotate_left
        · rintro w' ⟨s0, s1, s2, s3⟩
          go_simp
          with_reducible rfl
        rotate_left
        · simp only [Act.put, List.setIfInBounds_toArray, List.set_cons_zero, List.set_cons_succ, i64_w, i32_w]
          rfl
        refine pure_ (i := 12) (N := some 51) (v := ?_) (a' := ?_) #[true, true, true, true, true, true, true, true, true, true, true, true, true, false, false, false, false, false, false, false, false] rfl rfl (any_of HT_.out (by kernel_rfl)) (fun _ _ _ h => h) (Or.inl ⟨by rfl, ?_⟩) ?_ ?_
        rotate_left
        · intro w'
          go_simp
          with_reducible rfl
        rotate_left
        · simp only [Act.put, List.setIfInBounds_toArray, List.set_cons_zero, List.set_cons_succ, i64_w, i32_w]
          rfl
        refine pure_ (i := 13) (N := some 52) (v := ?_) (a' := ?_) #[true, true, true, true, true, true, true, true, true, true, true, true, true, true, false, false, false, false, false, false, false] rfl rfl (any_of HT_.out (by kernel_rfl)) (fun _ _ _ h => h) (Or.inl ⟨by rfl, ?_⟩) ?_ ?_
        rotate_left
        · intro w'
          go_simp
          with_reducible rfl
        rotate_left
        · simp only [Act.put, List.setIfInBounds_toArray, List.set_cons_zero, List.set_cons_succ, i64_w, i32_w]
          rfl
        refine take_ (i := 14) (N := some 53) (v := ?_) (a' := ?_) #[true, true, true, true, true, true, true, true, true, true, true, true, true, true, true, false, false, false, false, false, false] rfl rfl (take_ofW HT_.out HW_.out (by kernel_rfl)) (fun _ _ _ h => h) (Or.inl ⟨by rfl, ?_⟩) hHeld ?_ ?_
        rotate_left
        · rintro w' ⟨s0, s1, s2, s3⟩
          go_simp
          with_reducible rfl
        rotate_left
        · simp only [Act.put, List.setIfInBounds_toArray, List.set_cons_zero, List.set_cons_succ, i64_w, i32_w]
          rfl
        refine pure_ (i := 15) (N := some 54) (v := ?_) (a' := ?_) #[true, true, true, true, true, true, true, true, true, true, true, true, true, true, true, true, false, false, false, false, false] rfl rfl (any_of HT_.out (by kernel_rfl)) (fun _ _ _ h => h) (Or.inl ⟨by rfl, ?_⟩) ?_ ?_
        rotate_left
        · intro w'
          go_simp
          with_reducible rfl
        rotate_left
        · simp only [Act.put, List.setIfInBounds_toArray, List.set_cons_zero, List.set_cons_succ, i64_w, i32_w]
          rfl
        refine one_ (i := 16) (N := some 55) #[true, true, true, true, true, true, true, true, true, true, true, true, true, true, true, true, true, false, false, false, false] rfl rfl (one_of HT_.out (by kernel_rfl)) (by decide) (fun K hK => ?_)
        refine goes_ Tryd.func41 (by kernel_rfl) rfl #[.string (s.extract b' e')] (by rfl) rfl rfl (by (try simp only [List.map_toArray, List.map_cons, List.map_nil]); first | done | rfl) ?_
        refine (U8.spec_Unquote.calls f2 _ _ _ hf2).mono ?_
        rintro e' w5 ⟨rfl, hb5⟩
        refine ⟨_, rfl, ?_⟩
        have HR5 := Lib.hid (own_keep HR.out (fun k hk => hb5.block k (own_range HR.out hk).2))
        have HKB5 := Lib.hid ((kb_drew HKB.out _).trans (Kb.below hb5))
        have hb55 := (hb5.block g5 (blk_lt HB5r.out)).trans HB5r.out
        obtain ⟨u0, u1, u2, u3⟩ := four hb55
        have m2 := World.new_ne w5 ⟨g5, 2, none⟩ u2
        have a2 : ∀ o, (w5.alloc o).cell? ⟨g5, 2, none⟩ = some (.slice AN nN cN) := fun o => (((Below.refl _ w5).alloc (Nat.le_refl _) o).cell (World.block_lt_of_cell? w5 _ u2)).trans u2
        have a3 : ∀ n o, ((w5.drewN n).alloc o).cell? ⟨g5, 2, none⟩ = some (.slice AN nN cN) := fun n o => (((Below.refl _ (w5.drewN n)).alloc (Nat.le_refl _) o).cell (World.block_lt_of_cell? w5 _ u2)).trans u2
        have l3 := cell_keep hb5 q3
        have l0 := cell_keep hb5 e0
        have l1 := cell_keep hb5 e1
        have m3 := World.new_ne w5 _ l3
        have m0 := World.new_ne w5 _ l0
        have m1 := World.new_ne w5 _ l1
        have HB55 := Lib.hid hb55
        clear hb5 hb55
        refine hK.out _ _ ⟨u2, l3, l0, l1⟩ (fun hHeld => ?_)
        clear hK K
        refine norm_ (a' := ?_) ?_ ?_
        rotate_left
        · show Act.put _ (some 55) _ = _
          simp only [Act.put, List.setIfInBounds_toArray, List.set_cons_zero, List.set_cons_succ, i64_w, i32_w]
          rfl
        refine one_ (i := 17) (N := some 56) #[true, true, true, true, true, true, true, true, true, true, true, true, true, true, true, true, true, true, false, false, false] rfl rfl (one_of HT_.out (by kernel_rfl)) (by decide) (fun K hK => ?_)
        refine value_ (w1 := ?_) (v := ?_) (by rfl) rfl ?_ ?_
        rotate_left 2
        · go_simp
          constructor
          · rfl
          · rfl
        refine hK.out _ _ ⟨a2 _, (World.cell?_alloc_lt _ _ _ (World.block_lt_of_cell? _ _ l3)).trans l3, (World.cell?_alloc_lt _ _ _ (World.block_lt_of_cell? _ _ l0)).trans l0, (World.cell?_alloc_lt _ _ _ (World.block_lt_of_cell? _ _ l1)).trans l1⟩ (fun hHeld => ?_)
        clear hK K
        refine norm_ (a' := ?_) ?_ ?_
        rotate_left
        · show Act.put _ (some 56) _ = _
          simp only [Act.put, List.setIfInBounds_toArray, List.set_cons_zero, List.set_cons_succ, i64_w, i32_w]
          rfl
        refine one_ (i := 18) (N := some 57) #[true, true, true, true, true, true, true, true, true, true, true, true, true, true, true, true, true, true, true, false, false] rfl rfl (one_of HT_.out (by kernel_rfl)) (by decide) (fun K hK => ?_)
        refine append_cells_step wA.heap.size rfl (.tmp 40) (.tmp 56) 22 9 (.string ByteArray.empty) 1 16 rfl Tryd.underlying22 infoSt rfl (by omega) (by omega) _ bs.length (bs.map Value.string) [.string bq] rfl rfl rfl (by simp [Value.oneCell']) HR5.out (Nat.le_trans HKB5.out.size (Nat.le_refl _)) (by have := HI.out; have := HKS.out.2.1; have := HNL.out; omega) ?_
        intro v6 w6 row6 gr6 hat6
        obtain ⟨A6, n6, c6, rfl⟩ := row_form row6
        have j3 := gr6.cell l3 HRN3
        have j0 := gr6.cell l0 HRN0
        have j1 := gr6.cell l1 HRN0
        have HROW := Lib.hid row6
        have HGR := Lib.hid gr6
        have hb6 := blk_grown HB55.out gr6 (fun h => by have := own_range HR5.out h.symm; have := HB5L.out; omega)
        obtain ⟨x0, x1, x2, x3⟩ := four hb6
        obtain ⟨v0, v1, v2, v3⟩ := four_f hb6
        have HB56 := Lib.hid hb6
        clear row6 gr6 hat6 hb6
        refine hK.out _ _ ⟨x2, j3, j0, j1⟩ (fun hHeld => ?_)
        clear hK K
        refine norm_ (a' := ?_) ?_ ?_
        rotate_left
        · show Act.put _ (some 57) _ = _
          simp only [Act.put, List.setIfInBounds_toArray, List.set_cons_zero, List.set_cons_succ, i64_w, i32_w]
          rfl
        refine pure_ (i := 19) (N := some 58) (v := ?_) (a' := ?_) #[true, true, true, true, true, true, true, true, true, true, true, true, true, true, true, true, true, true, true, true, false] rfl rfl (any_of HT_.out (by kernel_rfl)) (fun _ _ _ h => h) (Or.inl ⟨by rfl, ?_⟩) ?_ ?_
        rotate_left
        · intro w'
          go_simp
          with_reducible rfl
        rotate_left
        · simp only [Act.put, List.setIfInBounds_toArray, List.set_cons_zero, List.set_cons_succ, i64_w, i32_w]
          rfl
        refine last_ (i := 20) (N := none) #[true, true, true, true, true, true, true, true, true, true, true, true, true, true, true, true, true, true, true, true, true] rfl rfl (one_of HT_.out (by kernel_rfl)) (by decide) (fun K hK => ?_)
        refine skip_ (w1 := ?_) (by rfl) rfl ?_ ?_
        rotate_left
        · go_simp
          rfl
        refine hK.out _ _ ?_
        clear hK K
        refine done_ (done_of HT_.out (by kernel_rfl)) ?_
        try go_wp2
        go_roundg (ns.length - i)
        case measure => have := HI.out; omega
        case rel => exact ⟨i + 1, bs ++ [bq], _, Lib.hid ⟨hi, by have := HI.out; omega⟩, by congr 1, Lib.hid (kb_self (Kb.grown (B := 0) HKB5.out HGR.out (fun k hk => (own_range HR5.out hk).1)) _), Lib.hid (blk_put HB56.out 2 _ rfl), Lib.hid (by simpa using ownsRow_setCell_below HROW.out (a := ⟨g5, 2, none⟩) HB5L.out (.slice A6 n6 c6)), Lib.hid ⟨by rw [take_more HSG.out.1]; exact Keys.push ⟨f2, by rw [← HSQ.out]; exact HSG.out.2⟩ HKS.out.1, by simp [HKS.out.2.1], by simp⟩⟩
      · have hd1 : decide ((i : Int) < (ns.length : Int)) = false := decide_eq_false (by omega)
        have hd2 : decide (i < ns.length) = false := decide_eq_false (by omega)
        go_wp2
        obtain ⟨wB, hwB⟩ : ∃ wB, wB = wr := ⟨_, rfl⟩
        subst hwB
        have hin : i = ns.length := by have := HI.out; omega
        subst hin
        have HB5M := Lib.hid (blk_lt HB5r.out)
        have HB5B := HB5r
        clear q0 q1 q2 q3 q4 z0 z1 z2 z3 y0 y1 y2 y3 hd1 hd2 hi HI HB5r
        go_loopg [7] (vs.length + 1) (fun kq v7 w' => ∃ (j : Nat) (ds : List (Array Value)) (K' : Value), Hid (j ≤ vs.length ∧ kq = vs.length - j + 1) ∧ v7 = .int .i64 j ∧ Hid (Kb g5 wB w') ∧ Hid (w'.heap[g5]? = some (.cells (nd 4 txt (.slice AN nN cN) K') 25 (0, 0))) ∧ Hid (w'.ownsRow wB.heap.size 25 4 K' ds.length (flat ds) ∧ ds.length = j ∧ (j = 0 → K' = nilS)) ∧ Hid (∀ (i : Nat) (a : Array Value) (v : JT), ds[i]? = some a → vs[i]? = some v → NRep w' (Kown wB w' K') a v))
        case atStart => exact ⟨0, [], nilS, Lib.hid ⟨Nat.zero_le _, rfl⟩, rfl, Lib.hid (Kb.refl _ _), HB5B, Lib.hid ⟨World.ownsRow_nil _ _ _ _, rfl, fun _ => rfl⟩, Lib.hid (fun i a v h => by simp at h)⟩
        case round =>
          obtain ⟨j, ds, K', HI, rfl, HKB2, HB5r, HR2, HKD⟩ := hrel
          obtain ⟨AK, nK, cK, rfl⟩ := row_form HR2.out.1
          obtain ⟨q0, q1, q2, q3, q4⟩ := five ((HKB2.out.block g3 (Nat.lt_of_lt_of_le (blk_lt HB3.out) HKB.out.size) (fun e => HG5.out.1 e.symm)).trans ((HKB.out.block g3 (blk_lt HB3.out) (fun e => HG5.out.1 e.symm)).trans HB3.out))
          obtain ⟨z0, z1, z2, z3⟩ := four HB5r.out
          obtain ⟨y0, y1, y2, y3⟩ := four_f HB5r.out
          have HOLD := Lib.hid (show ∀ k, k < w.heap.size → wr.heap[k]? = w.heap[k]? from fun k hk => (HKB2.out.block k (by have := HKB.out.size; have := BEL.out.size; omega) (by have := HG5.out.2.2; omega)).trans ((HKB.out.block k (by have := BEL.out.size; omega) (by have := HG5.out.2.2; omega)).trans (BEL.out.block k hk)))
          by_cases hi : j < vs.length
          · obtain ⟨a, ha⟩ : ∃ a, cs[j]? = some a := ⟨_, List.getElem?_eq_getElem (by have := HL.out; omega)⟩
            obtain ⟨v, hv⟩ : ∃ v, vs[j]? = some v := ⟨_, List.getElem?_eq_getElem hi⟩
            have hR := HK.out.2 j a v ha hv
            have hsz : ∀ a ∈ cs, a.size = 5 := fun a ha => by
              obtain ⟨i, hi, rfl⟩ := List.getElem_of_mem ha
              obtain ⟨_, _, _, _, _, h, _⟩ := (HK.out.2 i cs[i] (vs[i]'(by have := HL.out; omega)) (List.getElem?_eq_getElem hi) (List.getElem?_eq_getElem (by have := HL.out; omega))).form
              rw [h]; rfl
            obtain ⟨k', b', e', N1, K1, rfl, ⟨M1, m1, o1, rfl⟩, ⟨M2, m2, o2, rfl⟩⟩ := hR.form
            obtain ⟨gp, rfl, -, -, hc⟩ := el_cell (own_keep HK.out.1 (fun b hb => HOLD.out b (HK.out.1.lt b hb).2)) hsz ha
            have hgpl := (HK.out.1.lt gp rfl).2
            have e0 := hc 0 (by omega)
            have e1 := hc 1 (by omega)
            have e2 := hc 2 (by omega)
            have e3 := hc 3 (by omega)
            have e4 := hc 4 (by omega)
            rw [Nat.add_zero] at e0
            simp only [List.getElem?_toArray, List.size_toArray] at e0 e1 e2 e3 e4
            have h0 : (0 : Int) ≤ (j : Int) := by omega
            have hlti : (j : Int) < (vs.length : Int) := by omega
            have hd1 : decide ((j : Int) < (vs.length : Int)) = true := decide_eq_true (by omega)
            have hd2 : decide (j < vs.length) = true := decide_eq_true (by omega)
            have hw1 : IntKind.i64.wrap ((j : Int) + 1) = (j : Int) + 1 := by rw [IntKind.wrap_i64]; have := HNL.out; omega
            have HC := Lib.hid (show ∀ n, Calls Tryd.prog 24 #[.string s, .agg (pl k' b' e' (.slice M1 m1 o1) (.slice M2 m2 o2))] (wr.drewN n) (TR (wr.drewN n) v) from fun n =>
              HIH.out v (List.mem_of_getElem? hv) _ s O _ (hR.mono (w' := wr.drewN n) (fun b hb => ⟨hb, HOLD.out b (HO.out b hb)⟩)) (fun b hb => by have h1 := HO.out b hb; have h2 := BEL.out.size; have h3 := HKB.out.size; have h4 := HKB2.out.size; show b < wr.heap.size; omega) HS.out (Nat.le_trans (szL_mem (List.mem_of_getElem? hv)) HNL.out.2.2) (HU.out.2 v (List.mem_of_getElem? hv)))
            have HV := Lib.hid hv
            have n1 : gp ≠ g5 := by have := HG5.out.2.2; omega
            have n2 := n1.symm
            have n3 := HG5.out.1
            have n4 := n3.symm
            have HRN3 : some g3 ≠ Value.ownBlock (.slice AK nK cK) := fun h => by have := own_range HR2.out.1 h.symm; have := blk_lt HB3.out; have := HKB.out.size; omega
            have HRN0 : some gp ≠ Value.ownBlock (.slice AK nK cK) := fun h => by have := own_range HR2.out.1 h.symm; have := BEL.out.size; have := HKB.out.size; omega
            clear hc ha hv hR hsz
            go_wp2
            refine start_ (n := 13) (S := fun w' => w'.cell? ⟨g5, 3, none⟩ = some (.slice AK nK cK) ∧ w'.cell? ⟨g3, 4, none⟩ = some (.slice (some ⟨gp, 0, none⟩) vs.length c2) ∧ w'.cell? ⟨gp, j * 5, none⟩ = some (.int .i64 k') ∧ w'.cell? ⟨gp, j * 5 + 1, none⟩ = some (.int .i64 b') ∧ w'.cell? ⟨gp, j * 5 + 2, none⟩ = some (.int .i64 e') ∧ w'.cell? ⟨gp, j * 5 + 3, none⟩ = some (.slice M1 m1 o1) ∧ w'.cell? ⟨gp, j * 5 + 4, none⟩ = some (.slice M2 m2 o2)) (ds := [12]) #[false, false, false, false, false, false, false, false, false, false, false, false, false] (by kernel_rfl) rfl rfl ⟨z3, q4, e0, e1, e2, e3, e4⟩ (fun hHeld => ?_); refine with_tabW Tree14_tab Tree14_bits (fun HT_ HW_ => ?_)
            refine pure_ (i := 0) (N := some 66) (v := ?_) (a' := ?_) #[true, false, false, false, false, false, false, false, false, false, false, false, false] rfl rfl (any_of HT_.out (by kernel_rfl)) (fun _ _ _ h => h) (Or.inl ⟨by rfl, ?_⟩) ?_ ?_
            rotate_left
            · intro w'
              go_simp
              with_reducible rfl
            rotate_left
            · simp only [Act.put, List.setIfInBounds_toArray, List.set_cons_zero, List.set_cons_succ, i64_w, i32_w]
              rfl
            refine pure_ (i := 2) (N := some 68) (v := ?_) (a' := ?_) #[true, false, true, false, false, false, false, false, false, false, false, false, false] rfl rfl (any_of HT_.out (by kernel_rfl)) (fun _ _ _ h => h) (Or.inl ⟨by rfl, ?_⟩) ?_ ?_
            rotate_left
            · intro w'
              go_simp
              with_reducible rfl
            rotate_left
            · simp only [Act.put, List.setIfInBounds_toArray, List.set_cons_zero, List.set_cons_succ, i64_w, i32_w]
              rfl
            refine pure_ (i := 3) (N := some 69) (v := ?_) (a' := ?_) #[true, false, true, true, false, false, false, false, false, false, false, false, false] rfl rfl (any_of HT_.out (by kernel_rfl)) (fun _ _ _ h => h) (Or.inl ⟨by rfl, ?_⟩) ?_ ?_
            rotate_left
            · intro w'
              go_simp
              with_reducible rfl
            rotate_left
            · simp only [Act.put, List.setIfInBounds_toArray, List.set_cons_zero, List.set_cons_succ, i64_w, i32_w]
              rfl
            refine pure_ (i := 5) (N := some 71) (v := ?_) (a' := ?_) #[true, false, true, true, false, true, false, false, false, false, false, false, false] rfl rfl (any_of HT_.out (by kernel_rfl)) (fun _ _ _ h => h) (Or.inl ⟨by rfl, ?_⟩) ?_ ?_
            rotate_left
            · intro w'
              go_simp
              with_reducible rfl
            rotate_left
            · simp only [Act.put, List.setIfInBounds_toArray, List.set_cons_zero, List.set_cons_succ, i64_w, i32_w]
              rfl
            refine take_ (i := 1) (N := some 67) (v := ?_) (a' := ?_) #[true, true, true, true, false, true, false, false, false, false, false, false, false] rfl rfl (take_ofW HT_.out HW_.out (by kernel_rfl)) (fun _ _ _ h => h) (Or.inl ⟨by rfl, ?_⟩) hHeld ?_ ?_
            rotate_left
            · rintro w' ⟨s0, s1, s2, s3, s4, s5, s6⟩
              go_simp
              with_reducible rfl
            rotate_left
            · simp only [Act.put, List.setIfInBounds_toArray, List.set_cons_zero, List.set_cons_succ, i64_w, i32_w]
              rfl
            refine take_ (i := 4) (N := some 70) (v := ?_) (a' := ?_) #[true, true, true, true, true, true, false, false, false, false, false, false, false] rfl rfl (take_ofW HT_.out HW_.out (by kernel_rfl)) (fun _ _ _ h => h) (Or.inl ⟨by rfl, ?_⟩) hHeld ?_ ?_
            rotate_left
            · rintro w' ⟨s0, s1, s2, s3, s4, s5, s6⟩
              go_simp
              with_reducible rfl
            rotate_left
            · simp only [Act.put, List.setIfInBounds_toArray, List.set_cons_zero, List.set_cons_succ, i64_w, i32_w]
              rfl
            refine pure_ (i := 6) (N := some 72) (v := ?_) (a' := ?_) #[true, true, true, true, true, true, true, false, false, false, false, false, false] rfl rfl (any_of HT_.out (by kernel_rfl)) (fun _ _ _ h => h) (Or.inl ⟨by rfl, ?_⟩) ?_ ?_
            rotate_left
            · intro w'
              go_simp
              with_reducible rfl
            rotate_left
            · simp only [Act.put, List.setIfInBounds_toArray, List.set_cons_zero, List.set_cons_succ, i64_w, i32_w]
              rfl
            refine take_ (i := 7) (N := some 73) (v := ?_) (a' := ?_) #[true, true, true, true, true, true, true, true, false, false, false, false, false] rfl rfl (take_ofW HT_.out HW_.out (by kernel_rfl)) (fun _ _ _ h => h) (Or.inl ⟨by rfl, ?_⟩) hHeld ?_ ?_
            rotate_left
            · rintro w' ⟨s0, s1, s2, s3, s4, s5, s6⟩
              go_simp
              with_reducible rfl
            rotate_left
            · simp only [Act.put, List.setIfInBounds_toArray, List.set_cons_zero, List.set_cons_succ, i64_w, i32_w]
              rfl
            refine one_ (i := 8) (N := some 74) #[true, true, true, true, true, true, true, true, true, false, false, false, false] rfl rfl (one_of HT_.out (by kernel_rfl)) (by decide) (fun K hK => ?_)
            refine goes_ Tryd.func24 (by kernel_rfl) rfl #[.string s, .agg #[.int .i64 k', .int .i64 b', .int .i64 e', .slice M1 m1 o1, .slice M2 m2 o2]] (by rfl) rfl rfl (by (try simp only [List.map_toArray, List.map_cons, List.map_nil]); first | done | rfl) ?_
            refine (HC.out 1).mono ?_
            rintro e5 w5 ⟨a5, rfl, hN5, hb5⟩
            refine ⟨_, rfl, ?_⟩
            obtain ⟨kx, xx, D1, D2, d1, f1, d2, f2', rfl⟩ := hN5.form
            have HN5 := Lib.hid hN5
            have HBW := Lib.hid hb5
            have HR5 := Lib.hid (own_keep HR2.out.1 (fun k hk => hb5.block k (own_range HR2.out.1 hk).2))
            have HKB5 := Lib.hid ((kb_drew HKB2.out _).trans (Kb.below hb5))
            have hb55 := (hb5.block g5 (blk_lt HB5r.out)).trans HB5r.out
            obtain ⟨u0, u1, u2, u3⟩ := four hb55
            have m2 := World.new_ne w5 ⟨g5, 3, none⟩ u3
            have a2 : ∀ o, (w5.alloc o).cell? ⟨g5, 3, none⟩ = some (.slice AK nK cK) := fun o => (((Below.refl _ w5).alloc (Nat.le_refl _) o).cell (World.block_lt_of_cell? w5 _ u3)).trans u3
            have l0 := cell_keep hb5 q4
            have m10 := World.new_ne w5 _ l0
            have l1 := cell_keep hb5 e0
            have m11 := World.new_ne w5 _ l1
            have l2 := cell_keep hb5 e1
            have m12 := World.new_ne w5 _ l2
            have l3 := cell_keep hb5 e2
            have m13 := World.new_ne w5 _ l3
            have l4 := cell_keep hb5 e3
            have m14 := World.new_ne w5 _ l4
            have l5 := cell_keep hb5 e4
            have m15 := World.new_ne w5 _ l5
            have HB55 := Lib.hid hb55
            clear hb5 hb55 hN5
            refine hK.out _ _ ⟨u3, l0, l1, l2, l3, l4, l5⟩ (fun hHeld => ?_)
            clear hK K
            refine norm_ (a' := ?_) ?_ ?_
            rotate_left
            · show Act.put _ (some 74) _ = _
              simp only [Act.put, List.setIfInBounds_toArray, List.set_cons_zero, List.set_cons_succ, i64_w, i32_w]
              rfl
            refine one_ (i := 9) (N := some 75) #[true, true, true, true, true, true, true, true, true, true, false, false, false] rfl rfl (one_of HT_.out (by kernel_rfl)) (by decide) (fun K hK => ?_)
            refine value_ (w1 := ?_) (v := ?_) (by rfl) rfl ?_ ?_
            rotate_left 2
            · go_simp
              constructor
              · rfl
              · rfl
            refine hK.out _ _ ⟨a2 _, (World.cell?_alloc_lt _ _ _ (World.block_lt_of_cell? _ _ l0)).trans l0, (World.cell?_alloc_lt _ _ _ (World.block_lt_of_cell? _ _ l1)).trans l1, (World.cell?_alloc_lt _ _ _ (World.block_lt_of_cell? _ _ l2)).trans l2, (World.cell?_alloc_lt _ _ _ (World.block_lt_of_cell? _ _ l3)).trans l3, (World.cell?_alloc_lt _ _ _ (World.block_lt_of_cell? _ _ l4)).trans l4, (World.cell?_alloc_lt _ _ _ (World.block_lt_of_cell? _ _ l5)).trans l5⟩ (fun hHeld => ?_)
            clear hK K
            refine norm_ (a' := ?_) ?_ ?_
            rotate_left
            · show Act.put _ (some 75) _ = _
              simp only [Act.put, List.setIfInBounds_toArray, List.set_cons_zero, List.set_cons_succ, i64_w, i32_w]
              rfl
            refine one_ (i := 10) (N := some 76) #[true, true, true, true, true, true, true, true, true, true, true, false, false] rfl rfl (one_of HT_.out (by kernel_rfl)) (by decide) (fun K hK => ?_)
            refine append_cells_step wB.heap.size rfl (.tmp 67) (.tmp 75) 23 25 (.agg (nd 0 ByteArray.empty nilS nilS)) 4 72 rfl Tryd.underlying23 infoNd rfl (by omega) (by omega) _ ds.length (flat ds) (nd kx xx (.slice D1 d1 f1) (.slice D2 d2 f2')).toList rfl rfl rfl (by simp [nd, Value.oneCell']) HR5.out (Nat.le_trans HKB5.out.size (Nat.le_refl _)) (by have := HI.out; have := HR2.out.2.1; have := HNL.out; omega) ?_
            intro v6 w6 row6 gr6 hat6
            obtain ⟨A6, n6, c6, rfl⟩ := row_form row6
            have j0 := gr6.cell l0 HRN3
            have j1 := gr6.cell l1 HRN0
            have j2 := gr6.cell l2 HRN0
            have j3 := gr6.cell l3 HRN0
            have j4 := gr6.cell l4 HRN0
            have j5 := gr6.cell l5 HRN0
            have HROW := Lib.hid row6
            have HGR := Lib.hid gr6
            have HAT := Lib.hid hat6
            have hb6 := blk_grown HB55.out gr6 (fun h => by have := own_range HR5.out h.symm; have := HB5M.out; omega)
            obtain ⟨x0, x1, x2, x3⟩ := four hb6
            obtain ⟨v0, v1, v2, v3⟩ := four_f hb6
            have HB56 := Lib.hid hb6
            clear row6 gr6 hat6 hb6
            refine hK.out _ _ ⟨x3, j0, j1, j2, j3, j4, j5⟩ (fun hHeld => ?_)
            clear hK K
            refine norm_ (a' := ?_) ?_ ?_
            rotate_left
            · show Act.put _ (some 76) _ = _
              simp only [Act.put, List.setIfInBounds_toArray, List.set_cons_zero, List.set_cons_succ, i64_w, i32_w]
              rfl
            refine pure_ (i := 11) (N := some 77) (v := ?_) (a' := ?_) #[true, true, true, true, true, true, true, true, true, true, true, true, false] rfl rfl (any_of HT_.out (by kernel_rfl)) (fun _ _ _ h => h) (Or.inl ⟨by rfl, ?_⟩) ?_ ?_
            rotate_left
            · intro w'
              go_simp
              with_reducible rfl
            rotate_left
            · simp only [Act.put, List.setIfInBounds_toArray, List.set_cons_zero, List.set_cons_succ, i64_w, i32_w]
              rfl
            refine last_ (i := 12) (N := none) #[true, true, true, true, true, true, true, true, true, true, true, true, true] rfl rfl (one_of HT_.out (by kernel_rfl)) (by decide) (fun K hK => ?_)
            refine skip_ (w1 := ?_) (by rfl) rfl ?_ ?_
            rotate_left
            · go_simp
              rfl
            refine hK.out _ _ ?_
            clear hK K
            refine done_ (done_of HT_.out (by kernel_rfl)) ?_
            try go_wp2
            go_roundg (vs.length - j)
            case measure => have := HI.out; omega
            case rel => exact ⟨j + 1, ds ++ [nd kx xx (.slice D1 d1 f1) (.slice D2 d2 f2')], _, Lib.hid ⟨hi, by have := HI.out; omega⟩, by congr 1, Lib.hid (kb_self (Kb.grown (B := 0) HKB5.out HGR.out (fun k hk => (own_range HR5.out hk).1)) _), Lib.hid (blk_put HB56.out 3 _ rfl), Lib.hid ⟨by simpa [flat_append, flat] using ownsRow_setCell_below HROW.out (a := ⟨g5, 3, none⟩) HB5M.out (.slice A6 n6 c6), by simp [HR2.out.2.1], by simp⟩, Lib.hid (kids_push (fun i b t h1 h2 => nk_set (nk_grown (nk_step (nk_drew (HKD.out i b t h1 h2) _) HBW.out) HGR.out HAT.out) HB5M.out) (by rw [HR2.out.2.1]; exact HV.out) (nk_set (nk_grown (nk_fresh HN5.out HKB2.out.size (fun k hk => (own_range HR2.out.1 hk).2)) HGR.out HAT.out) HB5M.out))⟩
          · have hd1 : decide ((j : Int) < (vs.length : Int)) = false := decide_eq_false (by omega)
            have hd2 : decide (j < vs.length) = false := decide_eq_false (by omega)
            have hb4 := (HKB2.out.block g4 (Nat.lt_of_lt_of_le (blk_lt HB4.out) HKB.out.size) (fun e => HG5.out.2.1 e.symm)).trans ((HKB.out.block g4 (blk_lt HB4.out) (fun e => HG5.out.2.1 e.symm)).trans HB4.out)
            have HB4r := Lib.hid hb4
            obtain ⟨x0, x1, x2, x3⟩ := four hb4
            obtain ⟨v0, v1, v2, v3⟩ := four_f hb4
            have n1 := HG5.out.2.1
            have n2 := n1.symm
            have HW := Lib.hid (kb_below (kb_below BEL.out HKB.out HG5.out.2.2 BEL.out.size) HKB2.out HG5.out.2.2 (Nat.le_trans BEL.out.size HKB.out.size))
            clear hb4
            go_wp2
            refine bodyPost_ret (results_cell_row rfl _ _ g4 25 _ (0, 0) _ rfl (four_put HB4r.out) Tryd.underlying25 rfl (by kernel_rfl)) rfl ?_
            have hj : j = vs.length := by have := HI.out; omega
            have hsz : wA.heap.size ≤ wB.heap.size := HKB.out.size
            have hg4 : g4 < wA.heap.size := blk_lt HB4.out
            have hwA := BEL.out.size
            refine ⟨_, _, bs, ds, rfl, ?_, ?_, by rw [HR2.out.2.1, hj], ?_, ?_, put4_below HW.out HG4.out.1, fun h => HKS.out.2.2 h, fun h => HR2.out.2.2 (by omega)⟩
            · have h := HKS.out.1
              rwa [List.take_of_length_le (by rw [HN.out.2.len]; exact Nat.le_refl _)] at h
            · exact own_le (own_keep HR.out (fun k hk => by
                have h1 := own_range HR.out hk
                rw [put4_other (by omega)]
                exact HKB2.out.block k h1.2 (by have := HB5L.out; omega))) hwA
            · exact own_le (own_keep HR2.out.1 (fun k hk => by
                have h1 := own_range HR2.out.1 hk
                rw [put4_other (by omega)])) (by omega)
            · intro i a v h1 h2
              refine (HKD.out i a v h1 h2).mono (fun k hk => ?_)
              have h3 := hk.1.1
              have h4 := hk.1.2
              exact ⟨⟨by omega, by rw [put4_size]; exact h4⟩, put4_other (by omega)⟩
  · go_enter Tryd.func24, Tryd.ntmps24
    go_upto_region 2 with (first
      | ((with_reducible refine gate_dst (N := 3) rfl ?_); refine box_event ?hg (N := 3) ?hd (cs := pl k b e (.slice A1 ns.length c1) (.slice A2 vs.length c2)) (t := 56) ?hr ?_; (case hd => rfl); (case hg => rfl); (case hr => first | (go_simp; done) | (go_simp; rfl)); intro g3 hg3 w3 hb3 hbel3; have HB3 := Lib.hid hb3; have BEL := Lib.hid hbel3; have HG3 := Lib.hid (show w.heap.size ≤ g3 from by omega); clear hb3 hbel3 hg3)
      | ((with_reducible refine gate_dst (N := 4) rfl ?_); refine box_event ?hg (N := 4) ?hd (cs := nd 0 ByteArray.empty nilS nilS) (t := 25) ?hr ?_; (case hd => rfl); (case hg => rfl); (case hr => first | (go_simp; done) | (go_simp; rfl)); intro g4 hg4 w4 hb4 hbel4; have HB4 := Lib.hid hb4; have HG4 := Lib.hid (show w.heap.size ≤ g4 ∧ g3 ≠ g4 from ⟨by have := BEL.out.size; omega, by have := blk_lt HB3.out; omega⟩); replace HB3 := Lib.hid ((hbel4.block g3 (blk_lt HB3.out)).trans HB3.out); replace BEL := Lib.hid (BEL.out.trans (hbel4.mono BEL.out.size)); obtain ⟨q0, q1, q2, q3, q4⟩ := five HB3.out; clear hb4 hbel4 hg4))
    have hb37 := blk_alloc HB3.out (.cells #[.int .i64 k, .string ⟨#[]⟩, .slice none 0 0, .slice none 0 0] 25 (0, 0))
    have hb47 := blk_alloc HB4.out (.cells #[.int .i64 k, .string ⟨#[]⟩, .slice none 0 0, .slice none 0 0] 25 (0, 0))
    have hb57 := blk_new w4 (.cells #[.int .i64 k, .string ⟨#[]⟩, .slice none 0 0, .slice none 0 0] 25 (0, 0))
    have hbe7 := BEL.out.alloc BEL.out.size (.cells #[.int .i64 k, .string ⟨#[]⟩, .slice none 0 0, .slice none 0 0] 25 (0, 0))
    have HG5 := Lib.hid (show w4.heap.size ≠ g3 ∧ w4.heap.size ≠ g4 ∧ w.heap.size ≤ w4.heap.size from ⟨Nat.ne_of_gt (blk_lt HB3.out), Nat.ne_of_gt (blk_lt HB4.out), BEL.out.size⟩)
    clear q0 q1 q2 q3 q4
    generalize hw7 : w4.alloc _ = w5 at hb37 hb47 hb57 hbe7 ⊢
    clear hw7 HB3 HB4 BEL
    generalize hg5 : w4.heap.size = g5 at hb57 HG5 ⊢
    have HB3 := Lib.hid hb37
    have HB4 := Lib.hid hb47
    have HB5 := Lib.hid hb57
    have BEL := Lib.hid hbe7
    clear hb37 hb47 hb57 hbe7 hg5
    obtain ⟨q0, q1, q2, q3, q4⟩ := five HB3.out
    obtain ⟨z0, z1, z2, z3⟩ := four HB5.out
    obtain ⟨y0, y1, y2, y3⟩ := four_f HB5.out
    have hk3' : (k == 3) = false := by simpa using hk3
    have hk4' : (k == 4) = false := by simpa using hk4
    go_upto_region 7 with fail
    have hb37 := HB3.out
    have hb47 := HB4.out
    have hb57 : (w5).heap[g5]? = some (.cells (nd k ByteArray.empty nilS nilS) 25 (0, 0)) := HB5.out
    have hbe7 := BEL.out
    clear q0 q1 q2 q3 q4 z0 z1 z2 z3 y0 y1 y2 y3
    generalize hwA : w5 = wA at hb37 hb47 hb57 hbe7 ⊢
    clear hwA HB3 HB4 HB5 BEL
    have HB3 := Lib.hid hb37
    have HB4 := Lib.hid hb47
    have HB5 := Lib.hid hb57
    have BEL := Lib.hid hbe7
    have HB5L := Lib.hid (blk_lt hb57)
    clear hb37 hb47 hb57 hbe7
    go_wp2
    go_loopg [6] (ns.length + 1) (fun kq v6 w' => ∃ (i : Nat) (bs : List ByteArray) (N' : Value), Hid (i ≤ ns.length ∧ kq = ns.length - i + 1) ∧ v6 = .int .i64 i ∧ Hid (Kb g5 wA w') ∧ Hid (w'.heap[g5]? = some (.cells (nd k ByteArray.empty N' nilS) 25 (0, 0))) ∧ Hid (w'.ownsRow wA.heap.size 9 1 N' bs.length (bs.map Value.string)) ∧ Hid (Keys bs (ks.take i) ∧ bs.length = i ∧ (i = 0 → N' = nilS)))
    case atStart => exact ⟨0, [], nilS, Lib.hid ⟨Nat.zero_le _, rfl⟩, rfl, Lib.hid (Kb.refl _ _), HB5, Lib.hid (World.ownsRow_nil _ _ _ _), Lib.hid ⟨by simp [Keys], rfl, fun _ => rfl⟩⟩
    case round =>
      obtain ⟨i, bs, N', HI, rfl, HKB, HB5r, HR, HKS⟩ := hrel
      obtain ⟨AN, nN, cN, rfl⟩ := row_form HR.out
      obtain ⟨q0, q1, q2, q3, q4⟩ := five ((HKB.out.block g3 (blk_lt HB3.out) (fun e => HG5.out.1 e.symm)).trans HB3.out)
      obtain ⟨z0, z1, z2, z3⟩ := four HB5r.out
      obtain ⟨y0, y1, y2, y3⟩ := four_f HB5r.out
      by_cases hi : i < ns.length
      · obtain ⟨b', e', kk, ha, hkk', hseg⟩ := HN.out.2.get hi
        obtain ⟨bq, f2, hf2⟩ := HU.out.1 kk (List.mem_of_getElem? hkk')
        have HSQ := Lib.hid (seg_extract hseg)
        rw [← seg_extract hseg] at hf2
        obtain ⟨gn, rfl, -, -, hc⟩ := el_cell (own_keep HN.out.1 (fun b hb => (HKB.out.block b (by have := (HN.out.1.lt b hb).2; have := BEL.out.size; omega) (by have := (HN.out.1.lt b hb).2; have := HG5.out.2.2; omega)).trans (BEL.out.block b (HN.out.1.lt b hb).2))) HN.out.2.sizes ha
        have hgnl := (HN.out.1.lt gn rfl).2
        have e0 := hc 0 (by omega)
        have e1 := hc 1 (by omega)
        rw [Nat.add_zero] at e0
        simp only [List.getElem?_toArray, List.size_toArray] at e0 e1
        have h0 : (0 : Int) ≤ (i : Int) := by omega
        have hlti : (i : Int) < (ns.length : Int) := by omega
        have hd1 : decide ((i : Int) < (ns.length : Int)) = true := decide_eq_true (by omega)
        have hd2 : decide (i < ns.length) = true := decide_eq_true (by omega)
        have hw1 : IntKind.i64.wrap ((i : Int) + 1) = (i : Int) + 1 := by rw [IntKind.wrap_i64]; have := HNL.out; omega
        have h0b : (0 : Int) ≤ (b' : Int) := by omega
        have hbe' : (b' : Int) ≤ (e' : Int) := by have := hseg.1; omega
        have hes' : (e' : Int) ≤ (s.size : Int) := by have := hseg.2.1; omega
        have HSG := Lib.hid (And.intro hkk' hf2)
        have n1 : gn ≠ g5 := by have := HG5.out.2.2; omega
        have n2 := n1.symm
        have n3 := HG5.out.1
        have n4 := n3.symm
        have HRN3 : some g3 ≠ Value.ownBlock (.slice AN nN cN) := fun h => by have := own_range HR.out h.symm; have := blk_lt HB3.out; omega
        have HRN0 : some gn ≠ Value.ownBlock (.slice AN nN cN) := fun h => by have := own_range HR.out h.symm; have := BEL.out.size; omega
        clear hc ha hkk' hseg
        go_wp2
        refine start_ (n := 21) (S := fun w' => w'.cell? ⟨g5, 2, none⟩ = some (.slice AN nN cN) ∧ w'.cell? ⟨g3, 3, none⟩ = some (.slice (some ⟨gn, 0, none⟩) ns.length c1) ∧ w'.cell? ⟨gn, i * 2, none⟩ = some (.int .i64 b') ∧ w'.cell? ⟨gn, i * 2 + 1, none⟩ = some (.int .i64 e')) (ds := [20]) #[false, false, false, false, false, false, false, false, false, false, false, false, false, false, false, false, false, false, false, false, false] (by kernel_rfl) rfl rfl ⟨z2, q3, e0, e1⟩ (fun hHeld => ?_); refine with_tabW Tree10_tab Tree10_bits (fun HT_ HW_ => ?_)
        refine pure_ (i := 0) (N := some 39) (v := ?_) (a' := ?_) #[true, false, false, false, false, false, false, false, false, false, false, false, false, false, false, false, false, false, false, false, false] rfl rfl (any_of HT_.out (by kernel_rfl)) (fun _ _ _ h => h) (Or.inl ⟨by rfl, ?_⟩) ?_ ?_
        rotate_left
        · intro w'
          go_simp
          with_reducible rfl
        rotate_left
        · simp only [Act.put, List.setIfInBounds_toArray, List.set_cons_zero, List.set_cons_succ, i64_w, i32_w]
          rfl
        refine pure_ (i := 2) (N := some 41) (v := ?_) (a' := ?_) #[true, false, true, false, false, false, false, false, false, false, false, false, false, false, false, false, false, false, false, false, false] rfl rfl (any_of HT_.out (by kernel_rfl)) (fun _ _ _ h => h) (Or.inl ⟨by rfl, ?_⟩) ?_ ?_
        rotate_left
        · intro w'
          go_simp
          with_reducible rfl
        rotate_left
        · simp only [Act.put, List.setIfInBounds_toArray, List.set_cons_zero, List.set_cons_succ, i64_w, i32_w]
          rfl
        refine pure_ (i := 3) (N := some 42) (v := ?_) (a' := ?_) #[true, false, true, true, false, false, false, false, false, false, false, false, false, false, false, false, false, false, false, false, false] rfl rfl (any_of HT_.out (by kernel_rfl)) (fun _ _ _ h => h) (Or.inl ⟨by rfl, ?_⟩) ?_ ?_
        rotate_left
        · intro w'
          go_simp
          with_reducible rfl
        rotate_left
        · simp only [Act.put, List.setIfInBounds_toArray, List.set_cons_zero, List.set_cons_succ, i64_w, i32_w]
          rfl
        refine pure_ (i := 5) (N := some 44) (v := ?_) (a' := ?_) #[true, false, true, true, false, true, false, false, false, false, false, false, false, false, false, false, false, false, false, false, false] rfl rfl (any_of HT_.out (by kernel_rfl)) (fun _ _ _ h => h) (Or.inl ⟨by rfl, ?_⟩) ?_ ?_
        rotate_left
        · intro w'
          go_simp
          with_reducible rfl
        rotate_left
        · simp only [Act.put, List.setIfInBounds_toArray, List.set_cons_zero, List.set_cons_succ, i64_w, i32_w]
          rfl
        refine pure_ (i := 9) (N := some 48) (v := ?_) (a' := ?_) #[true, false, true, true, false, true, false, false, false, true, false, false, false, false, false, false, false, false, false, false, false] rfl rfl (any_of HT_.out (by kernel_rfl)) (fun _ _ _ h => h) (Or.inl ⟨by rfl, ?_⟩) ?_ ?_
        rotate_left
        · intro w'
          go_simp
          with_reducible rfl
        rotate_left
        · simp only [Act.put, List.setIfInBounds_toArray, List.set_cons_zero, List.set_cons_succ, i64_w, i32_w]
          rfl
        refine pure_ (i := 11) (N := some 50) (v := ?_) (a' := ?_) #[true, false, true, true, false, true, false, false, false, true, false, true, false, false, false, false, false, false, false, false, false] rfl rfl (any_of HT_.out (by kernel_rfl)) (fun _ _ _ h => h) (Or.inl ⟨by rfl, ?_⟩) ?_ ?_
        rotate_left
        · intro w'
          go_simp
          with_reducible rfl
        rotate_left
        · simp only [Act.put, List.setIfInBounds_toArray, List.set_cons_zero, List.set_cons_succ, i64_w, i32_w]
          rfl
        refine take_ (i := 1) (N := some 40) (v := ?_) (a' := ?_) #[true, true, true, true, false, true, false, false, false, true, false, true, false, false, false, false, false, false, false, false, false] rfl rfl (take_ofW HT_.out HW_.out (by kernel_rfl)) (fun _ _ _ h => h) (Or.inl ⟨by rfl, ?_⟩) hHeld ?_ ?_
        rotate_left
        · rintro w' ⟨s0, s1, s2, s3⟩
          go_simp
          with_reducible rfl
        rotate_left
        · simp only [Act.put, List.setIfInBounds_toArray, List.set_cons_zero, List.set_cons_succ, i64_w, i32_w]
          rfl
        refine take_ (i := 4) (N := some 43) (v := ?_) (a' := ?_) #[true, true, true, true, true, true, false, false, false, true, false, true, false, false, false, false, false, false, false, false, false] rfl rfl (take_ofW HT_.out HW_.out (by kernel_rfl)) (fun _ _ _ h => h) (Or.inl ⟨by rfl, ?_⟩) hHeld ?_ ?_
        rotate_left
        · rintro w' ⟨s0, s1, s2, s3⟩
          go_simp
          with_reducible rfl
        rotate_left
        · simp only [Act.put, List.setIfInBounds_toArray, List.set_cons_zero, List.set_cons_succ, i64_w, i32_w]
          rfl
        refine pure_ (i := 6) (N := some 45) (v := ?_) (a' := ?_) #[true, true, true, true, true, true, true, false, false, true, false, true, false, false, false, false, false, false, false, false, false] rfl rfl (any_of HT_.out (by kernel_rfl)) (fun _ _ _ h => h) (Or.inl ⟨by rfl, ?_⟩) ?_ ?_
        rotate_left
        · intro w'
          go_simp
          with_reducible rfl
        rotate_left
        · simp only [Act.put, List.setIfInBounds_toArray, List.set_cons_zero, List.set_cons_succ, i64_w, i32_w]
          rfl
        refine pure_ (i := 7) (N := some 46) (v := ?_) (a' := ?_) #[true, true, true, true, true, true, true, true, false, true, false, true, false, false, false, false, false, false, false, false, false] rfl rfl (any_of HT_.out (by kernel_rfl)) (fun _ _ _ h => h) (Or.inl ⟨by rfl, ?_⟩) ?_ ?_
        rotate_left
        · intro w'
          go_simp
          with_reducible rfl
        rotate_left
        · simp only [Act.put, List.setIfInBounds_toArray, List.set_cons_zero, List.set_cons_succ, i64_w, i32_w]
          rfl
        refine take_ (i := 8) (N := some 47) (v := ?_) (a' := ?_) #[true, true, true, true, true, true, true, true, true, true, false, true, false, false, false, false, false, false, false, false, false] rfl rfl (take_ofW HT_.out HW_.out (by kernel_rfl)) (fun _ _ _ h => h) (Or.inl ⟨by rfl, ?_⟩) hHeld ?_ ?_
        rotate_left
        · rintro w' ⟨s0, s1, s2, s3⟩
          go_simp
          with_reducible rfl
        rotate_left
        · simp only [Act.put, List.setIfInBounds_toArray, List.set_cons_zero, List.set_cons_succ, i64_w, i32_w]
          rfl
        refine take_ (i := 10) (N := some 49) (v := ?_) (a' := ?_) #[true, true, true, true, true, true, true, true, true, true, true, true, false, false, false, false, false, false, false, false, false] rfl rfl (take_ofW HT_.out HW_.out (by kernel_rfl)) (fun _ _ _ h => h) (Or.inl ⟨by rfl, ?_⟩) hHeld ?_ ?_
        rotate_left
        · rintro w' ⟨s0, s1, s2, s3⟩
          go_simp
          with_reducible rfl
        rotate_left
        · simp only [Act.put, List.setIfInBounds_toArray, List.set_cons_zero, List.set_cons_succ, i64_w, i32_w]
          rfl
        refine pure_ (i := 12) (N := some 51) (v := ?_) (a' := ?_) #[true, true, true, true, true, true, true, true, true, true, true, true, true, false, false, false, false, false, false, false, false] rfl rfl (any_of HT_.out (by kernel_rfl)) (fun _ _ _ h => h) (Or.inl ⟨by rfl, ?_⟩) ?_ ?_
        rotate_left
        · intro w'
          go_simp
          with_reducible rfl
        rotate_left
        · simp only [Act.put, List.setIfInBounds_toArray, List.set_cons_zero, List.set_cons_succ, i64_w, i32_w]
          rfl
        refine pure_ (i := 13) (N := some 52) (v := ?_) (a' := ?_) #[true, true, true, true, true, true, true, true, true, true, true, true, true, true, false, false, false, false, false, false, false] rfl rfl (any_of HT_.out (by kernel_rfl)) (fun _ _ _ h => h) (Or.inl ⟨by rfl, ?_⟩) ?_ ?_
        rotate_left
        · intro w'
          go_simp
          with_reducible rfl
        rotate_left
        · simp only [Act.put, List.setIfInBounds_toArray, List.set_cons_zero, List.set_cons_succ, i64_w, i32_w]
          rfl
        refine take_ (i := 14) (N := some 53) (v := ?_) (a' := ?_) #[true, true, true, true, true, true, true, true, true, true, true, true, true, true, true, false, false, false, false, false, false] rfl rfl (take_ofW HT_.out HW_.out (by kernel_rfl)) (fun _ _ _ h => h) (Or.inl ⟨by rfl, ?_⟩) hHeld ?_ ?_
        rotate_left
        · rintro w' ⟨s0, s1, s2, s3⟩
          go_simp
          with_reducible rfl
        rotate_left
        · simp only [Act.put, List.setIfInBounds_toArray, List.set_cons_zero, List.set_cons_succ, i64_w, i32_w]
          rfl
        refine pure_ (i := 15) (N := some 54) (v := ?_) (a' := ?_) #[true, true, true, true, true, true, true, true, true, true, true, true, true, true, true, true, false, false, false, false, false] rfl rfl (any_of HT_.out (by kernel_rfl)) (fun _ _ _ h => h) (Or.inl ⟨by rfl, ?_⟩) ?_ ?_
        rotate_left
        · intro w'
          go_simp
          with_reducible rfl
        rotate_left
        · simp only [Act.put, List.setIfInBounds_toArray, List.set_cons_zero, List.set_cons_succ, i64_w, i32_w]
          rfl
        refine one_ (i := 16) (N := some 55) #[true, true, true, true, true, true, true, true, true, true, true, true, true, true, true, true, true, false, false, false, false] rfl rfl (one_of HT_.out (by kernel_rfl)) (by decide) (fun K hK => ?_)
        refine goes_ Tryd.func41 (by kernel_rfl) rfl #[.string (s.extract b' e')] (by rfl) rfl rfl (by (try simp only [List.map_toArray, List.map_cons, List.map_nil]); first | done | rfl) ?_
        refine (U8.spec_Unquote.calls f2 _ _ _ hf2).mono ?_
        rintro e' w5 ⟨rfl, hb5⟩
        refine ⟨_, rfl, ?_⟩
        have HR5 := Lib.hid (own_keep HR.out (fun k hk => hb5.block k (own_range HR.out hk).2))
        have HKB5 := Lib.hid ((kb_drew HKB.out _).trans (Kb.below hb5))
        have hb55 := (hb5.block g5 (blk_lt HB5r.out)).trans HB5r.out
        obtain ⟨u0, u1, u2, u3⟩ := four hb55
        have m2 := World.new_ne w5 ⟨g5, 2, none⟩ u2
        have a2 : ∀ o, (w5.alloc o).cell? ⟨g5, 2, none⟩ = some (.slice AN nN cN) := fun o => (((Below.refl _ w5).alloc (Nat.le_refl _) o).cell (World.block_lt_of_cell? w5 _ u2)).trans u2
        have a3 : ∀ n o, ((w5.drewN n).alloc o).cell? ⟨g5, 2, none⟩ = some (.slice AN nN cN) := fun n o => (((Below.refl _ (w5.drewN n)).alloc (Nat.le_refl _) o).cell (World.block_lt_of_cell? w5 _ u2)).trans u2
        have l3 := cell_keep hb5 q3
        have l0 := cell_keep hb5 e0
        have l1 := cell_keep hb5 e1
        have m3 := World.new_ne w5 _ l3
        have m0 := World.new_ne w5 _ l0
        have m1 := World.new_ne w5 _ l1
        have HB55 := Lib.hid hb55
        clear hb5 hb55
        refine hK.out _ _ ⟨u2, l3, l0, l1⟩ (fun hHeld => ?_)
        clear hK K
        refine norm_ (a' := ?_) ?_ ?_
        rotate_left
        · show Act.put _ (some 55) _ = _
          simp only [Act.put, List.setIfInBounds_toArray, List.set_cons_zero, List.set_cons_succ, i64_w, i32_w]
          rfl
        refine one_ (i := 17) (N := some 56) #[true, true, true, true, true, true, true, true, true, true, true, true, true, true, true, true, true, true, false, false, false] rfl rfl (one_of HT_.out (by kernel_rfl)) (by decide) (fun K hK => ?_)
        refine value_ (w1 := ?_) (v := ?_) (by rfl) rfl ?_ ?_
        rotate_left 2
        · go_simp
          constructor
          · rfl
          · rfl
        refine hK.out _ _ ⟨a2 _, (World.cell?_alloc_lt _ _ _ (World.block_lt_of_cell? _ _ l3)).trans l3, (World.cell?_alloc_lt _ _ _ (World.block_lt_of_cell? _ _ l0)).trans l0, (World.cell?_alloc_lt _ _ _ (World.block_lt_of_cell? _ _ l1)).trans l1⟩ (fun hHeld => ?_)
        clear hK K
        refine norm_ (a' := ?_) ?_ ?_
        rotate_left
        · show Act.put _ (some 56) _ = _
          simp only [Act.put, List.setIfInBounds_toArray, List.set_cons_zero, List.set_cons_succ, i64_w, i32_w]
          rfl
        refine one_ (i := 18) (N := some 57) #[true, true, true, true, true, true, true, true, true, true, true, true, true, true, true, true, true, true, true, false, false] rfl rfl (one_of HT_.out (by kernel_rfl)) (by decide) (fun K hK => ?_)
        refine append_cells_step wA.heap.size rfl (.tmp 40) (.tmp 56) 22 9 (.string ByteArray.empty) 1 16 rfl Tryd.underlying22 infoSt rfl (by omega) (by omega) _ bs.length (bs.map Value.string) [.string bq] rfl rfl rfl (by simp [Value.oneCell']) HR5.out (Nat.le_trans HKB5.out.size (Nat.le_refl _)) (by have := HI.out; have := HKS.out.2.1; have := HNL.out; omega) ?_
        intro v6 w6 row6 gr6 hat6
        obtain ⟨A6, n6, c6, rfl⟩ := row_form row6
        have j3 := gr6.cell l3 HRN3
        have j0 := gr6.cell l0 HRN0
        have j1 := gr6.cell l1 HRN0
        have HROW := Lib.hid row6
        have HGR := Lib.hid gr6
        have hb6 := blk_grown HB55.out gr6 (fun h => by have := own_range HR5.out h.symm; have := HB5L.out; omega)
        obtain ⟨x0, x1, x2, x3⟩ := four hb6
        obtain ⟨v0, v1, v2, v3⟩ := four_f hb6
        have HB56 := Lib.hid hb6
        clear row6 gr6 hat6 hb6
        refine hK.out _ _ ⟨x2, j3, j0, j1⟩ (fun hHeld => ?_)
        clear hK K
        refine norm_ (a' := ?_) ?_ ?_
        rotate_left
        · show Act.put _ (some 57) _ = _
          simp only [Act.put, List.setIfInBounds_toArray, List.set_cons_zero, List.set_cons_succ, i64_w, i32_w]
          rfl
        refine pure_ (i := 19) (N := some 58) (v := ?_) (a' := ?_) #[true, true, true, true, true, true, true, true, true, true, true, true, true, true, true, true, true, true, true, true, false] rfl rfl (any_of HT_.out (by kernel_rfl)) (fun _ _ _ h => h) (Or.inl ⟨by rfl, ?_⟩) ?_ ?_
        rotate_left
        · intro w'
          go_simp
          with_reducible rfl
        rotate_left
        · simp only [Act.put, List.setIfInBounds_toArray, List.set_cons_zero, List.set_cons_succ, i64_w, i32_w]
          rfl
        refine last_ (i := 20) (N := none) #[true, true, true, true, true, true, true, true, true, true, true, true, true, true, true, true, true, true, true, true, true] rfl rfl (one_of HT_.out (by kernel_rfl)) (by decide) (fun K hK => ?_)
        refine skip_ (w1 := ?_) (by rfl) rfl ?_ ?_
        rotate_left
        · go_simp
          rfl
        refine hK.out _ _ ?_
        clear hK K
        refine done_ (done_of HT_.out (by kernel_rfl)) ?_
        try go_wp2
        go_roundg (ns.length - i)
        case measure => have := HI.out; omega
        case rel => exact ⟨i + 1, bs ++ [bq], _, Lib.hid ⟨hi, by have := HI.out; omega⟩, by congr 1, Lib.hid (kb_self (Kb.grown (B := 0) HKB5.out HGR.out (fun k hk => (own_range HR5.out hk).1)) _), Lib.hid (blk_put HB56.out 2 _ rfl), Lib.hid (by simpa using ownsRow_setCell_below HROW.out (a := ⟨g5, 2, none⟩) HB5L.out (.slice A6 n6 c6)), Lib.hid ⟨by rw [take_more HSG.out.1]; exact Keys.push ⟨f2, by rw [← HSQ.out]; exact HSG.out.2⟩ HKS.out.1, by simp [HKS.out.2.1], by simp⟩⟩
      · have hd1 : decide ((i : Int) < (ns.length : Int)) = false := decide_eq_false (by omega)
        have hd2 : decide (i < ns.length) = false := decide_eq_false (by omega)
        go_wp2
        obtain ⟨wB, hwB⟩ : ∃ wB, wB = wr := ⟨_, rfl⟩
        subst hwB
        have hin : i = ns.length := by have := HI.out; omega
        subst hin
        have HB5M := Lib.hid (blk_lt HB5r.out)
        have HB5B := HB5r
        clear q0 q1 q2 q3 q4 z0 z1 z2 z3 y0 y1 y2 y3 hd1 hd2 hi HI HB5r
        go_loopg [7] (vs.length + 1) (fun kq v7 w' => ∃ (j : Nat) (ds : List (Array Value)) (K' : Value), Hid (j ≤ vs.length ∧ kq = vs.length - j + 1) ∧ v7 = .int .i64 j ∧ Hid (Kb g5 wB w') ∧ Hid (w'.heap[g5]? = some (.cells (nd k ByteArray.empty (.slice AN nN cN) K') 25 (0, 0))) ∧ Hid (w'.ownsRow wB.heap.size 25 4 K' ds.length (flat ds) ∧ ds.length = j ∧ (j = 0 → K' = nilS)) ∧ Hid (∀ (i : Nat) (a : Array Value) (v : JT), ds[i]? = some a → vs[i]? = some v → NRep w' (Kown wB w' K') a v))
        case atStart => exact ⟨0, [], nilS, Lib.hid ⟨Nat.zero_le _, rfl⟩, rfl, Lib.hid (Kb.refl _ _), HB5B, Lib.hid ⟨World.ownsRow_nil _ _ _ _, rfl, fun _ => rfl⟩, Lib.hid (fun i a v h => by simp at h)⟩
        case round =>
          obtain ⟨j, ds, K', HI, rfl, HKB2, HB5r, HR2, HKD⟩ := hrel
          obtain ⟨AK, nK, cK, rfl⟩ := row_form HR2.out.1
          obtain ⟨q0, q1, q2, q3, q4⟩ := five ((HKB2.out.block g3 (Nat.lt_of_lt_of_le (blk_lt HB3.out) HKB.out.size) (fun e => HG5.out.1 e.symm)).trans ((HKB.out.block g3 (blk_lt HB3.out) (fun e => HG5.out.1 e.symm)).trans HB3.out))
          obtain ⟨z0, z1, z2, z3⟩ := four HB5r.out
          obtain ⟨y0, y1, y2, y3⟩ := four_f HB5r.out
          have HOLD := Lib.hid (show ∀ k, k < w.heap.size → wr.heap[k]? = w.heap[k]? from fun k hk => (HKB2.out.block k (by have := HKB.out.size; have := BEL.out.size; omega) (by have := HG5.out.2.2; omega)).trans ((HKB.out.block k (by have := BEL.out.size; omega) (by have := HG5.out.2.2; omega)).trans (BEL.out.block k hk)))
          by_cases hi : j < vs.length
          · obtain ⟨a, ha⟩ : ∃ a, cs[j]? = some a := ⟨_, List.getElem?_eq_getElem (by have := HL.out; omega)⟩
            obtain ⟨v, hv⟩ : ∃ v, vs[j]? = some v := ⟨_, List.getElem?_eq_getElem hi⟩
            have hR := HK.out.2 j a v ha hv
            have hsz : ∀ a ∈ cs, a.size = 5 := fun a ha => by
              obtain ⟨i, hi, rfl⟩ := List.getElem_of_mem ha
              obtain ⟨_, _, _, _, _, h, _⟩ := (HK.out.2 i cs[i] (vs[i]'(by have := HL.out; omega)) (List.getElem?_eq_getElem hi) (List.getElem?_eq_getElem (by have := HL.out; omega))).form
              rw [h]; rfl
            obtain ⟨k', b', e', N1, K1, rfl, ⟨M1, m1, o1, rfl⟩, ⟨M2, m2, o2, rfl⟩⟩ := hR.form
            obtain ⟨gp, rfl, -, -, hc⟩ := el_cell (own_keep HK.out.1 (fun b hb => HOLD.out b (HK.out.1.lt b hb).2)) hsz ha
            have hgpl := (HK.out.1.lt gp rfl).2
            have e0 := hc 0 (by omega)
            have e1 := hc 1 (by omega)
            have e2 := hc 2 (by omega)
            have e3 := hc 3 (by omega)
            have e4 := hc 4 (by omega)
            rw [Nat.add_zero] at e0
            simp only [List.getElem?_toArray, List.size_toArray] at e0 e1 e2 e3 e4
            have h0 : (0 : Int) ≤ (j : Int) := by omega
            have hlti : (j : Int) < (vs.length : Int) := by omega
            have hd1 : decide ((j : Int) < (vs.length : Int)) = true := decide_eq_true (by omega)
            have hd2 : decide (j < vs.length) = true := decide_eq_true (by omega)
            have hw1 : IntKind.i64.wrap ((j : Int) + 1) = (j : Int) + 1 := by rw [IntKind.wrap_i64]; have := HNL.out; omega
            have HC := Lib.hid (show ∀ n, Calls Tryd.prog 24 #[.string s, .agg (pl k' b' e' (.slice M1 m1 o1) (.slice M2 m2 o2))] (wr.drewN n) (TR (wr.drewN n) v) from fun n =>
              HIH.out v (List.mem_of_getElem? hv) _ s O _ (hR.mono (w' := wr.drewN n) (fun b hb => ⟨hb, HOLD.out b (HO.out b hb)⟩)) (fun b hb => by have h1 := HO.out b hb; have h2 := BEL.out.size; have h3 := HKB.out.size; have h4 := HKB2.out.size; show b < wr.heap.size; omega) HS.out (Nat.le_trans (szL_mem (List.mem_of_getElem? hv)) HNL.out.2.2) (HU.out.2 v (List.mem_of_getElem? hv)))
            have HV := Lib.hid hv
            have n1 : gp ≠ g5 := by have := HG5.out.2.2; omega
            have n2 := n1.symm
            have n3 := HG5.out.1
            have n4 := n3.symm
            have HRN3 : some g3 ≠ Value.ownBlock (.slice AK nK cK) := fun h => by have := own_range HR2.out.1 h.symm; have := blk_lt HB3.out; have := HKB.out.size; omega
            have HRN0 : some gp ≠ Value.ownBlock (.slice AK nK cK) := fun h => by have := own_range HR2.out.1 h.symm; have := BEL.out.size; have := HKB.out.size; omega
            clear hc ha hv hR hsz
            go_wp2
            refine start_ (n := 13) (S := fun w' => w'.cell? ⟨g5, 3, none⟩ = some (.slice AK nK cK) ∧ w'.cell? ⟨g3, 4, none⟩ = some (.slice (some ⟨gp, 0, none⟩) vs.length c2) ∧ w'.cell? ⟨gp, j * 5, none⟩ = some (.int .i64 k') ∧ w'.cell? ⟨gp, j * 5 + 1, none⟩ = some (.int .i64 b') ∧ w'.cell? ⟨gp, j * 5 + 2, none⟩ = some (.int .i64 e') ∧ w'.cell? ⟨gp, j * 5 + 3, none⟩ = some (.slice M1 m1 o1) ∧ w'.cell? ⟨gp, j * 5 + 4, none⟩ = some (.slice M2 m2 o2)) (ds := [12]) #[false, false, false, false, false, false, false, false, false, false, false, false, false] (by kernel_rfl) rfl rfl ⟨z3, q4, e0, e1, e2, e3, e4⟩ (fun hHeld => ?_); refine with_tabW Tree14_tab Tree14_bits (fun HT_ HW_ => ?_)
            refine pure_ (i := 0) (N := some 66) (v := ?_) (a' := ?_) #[true, false, false, false, false, false, false, false, false, false, false, false, false] rfl rfl (any_of HT_.out (by kernel_rfl)) (fun _ _ _ h => h) (Or.inl ⟨by rfl, ?_⟩) ?_ ?_
            rotate_left
            · intro w'
              go_simp
              with_reducible rfl
            rotate_left
            · simp only [Act.put, List.setIfInBounds_toArray, List.set_cons_zero, List.set_cons_succ, i64_w, i32_w]
              rfl
            refine pure_ (i := 2) (N := some 68) (v := ?_) (a' := ?_) #[true, false, true, false, false, false, false, false, false, false, false, false, false] rfl rfl (any_of HT_.out (by kernel_rfl)) (fun _ _ _ h => h) (Or.inl ⟨by rfl, ?_⟩) ?_ ?_
            rotate_left
            · intro w'
              go_simp
              with_reducible rfl
            rotate_left
            · simp only [Act.put, List.setIfInBounds_toArray, List.set_cons_zero, List.set_cons_succ, i64_w, i32_w]
              rfl
            refine pure_ (i := 3) (N := some 69) (v := ?_) (a' := ?_) #[true, false, true, true, false, false, false, false, false, false, false, false, false] rfl rfl (any_of HT_.out (by kernel_rfl)) (fun _ _ _ h => h) (Or.inl ⟨by rfl, ?_⟩) ?_ ?_
            rotate_left
            · intro w'
              go_simp
              with_reducible rfl
            rotate_left
            · simp only [Act.put, List.setIfInBounds_toArray, List.set_cons_zero, List.set_cons_succ, i64_w, i32_w]
              rfl
            refine pure_ (i := 5) (N := some 71) (v := ?_) (a' := ?_) #[true, false, true, true, false, true, false, false, false, false, false, false, false] rfl rfl (any_of HT_.out (by kernel_rfl)) (fun _ _ _ h => h) (Or.inl ⟨by rfl, ?_⟩) ?_ ?_
            rotate_left
            · intro w'
              go_simp
              with_reducible rfl
            rotate_left
            · simp only [Act.put, List.setIfInBounds_toArray, List.set_cons_zero, List.set_cons_succ, i64_w, i32_w]
              rfl
            refine take_ (i := 1) (N := some 67) (v := ?_) (a' := ?_) #[true, true, true, true, false, true, false, false, false, false, false, false, false] rfl rfl (take_ofW HT_.out HW_.out (by kernel_rfl)) (fun _ _ _ h => h) (Or.inl ⟨by rfl, ?_⟩) hHeld ?_ ?_
            rotate_left
            · rintro w' ⟨s0, s1, s2, s3, s4, s5, s6⟩
              go_simp
              with_reducible rfl
            rotate_left
            · simp only [Act.put, List.setIfInBounds_toArray, List.set_cons_zero, List.set_cons_succ, i64_w, i32_w]
              rfl
            refine take_ (i := 4) (N := some 70) (v := ?_) (a' := ?_) #[true, true, true, true, true, true, false, false, false, false, false, false, false] rfl rfl (take_ofW HT_.out HW_.out (by kernel_rfl)) (fun _ _ _ h => h) (Or.inl ⟨by rfl, ?_⟩) hHeld ?_ ?_
            rotate_left
            · rintro w' ⟨s0, s1, s2, s3, s4, s5, s6⟩
              go_simp
              with_reducible rfl
            rotate_left
            · simp only [Act.put, List.setIfInBounds_toArray, List.set_cons_zero, List.set_cons_succ, i64_w, i32_w]
              rfl
            refine pure_ (i := 6) (N := some 72) (v := ?_) (a' := ?_) #[true, true, true, true, true, true, true, false, false, false, false, false, false] rfl rfl (any_of HT_.out (by kernel_rfl)) (fun _ _ _ h => h) (Or.inl ⟨by rfl, ?_⟩) ?_ ?_
            rotate_left
            · intro w'
              go_simp
              with_reducible rfl
            rotate_left
            · simp only [Act.put, List.setIfInBounds_toArray, List.set_cons_zero, List.set_cons_succ, i64_w, i32_w]
              rfl
            refine take_ (i := 7) (N := some 73) (v := ?_) (a' := ?_) #[true, true, true, true, true, true, true, true, false, false, false, false, false] rfl rfl (take_ofW HT_.out HW_.out (by kernel_rfl)) (fun _ _ _ h => h) (Or.inl ⟨by rfl, ?_⟩) hHeld ?_ ?_
            rotate_left
            · rintro w' ⟨s0, s1, s2, s3, s4, s5, s6⟩
              go_simp
              with_reducible rfl
            rotate_left
            · simp only [Act.put, List.setIfInBounds_toArray, List.set_cons_zero, List.set_cons_succ, i64_w, i32_w]
              rfl
            refine one_ (i := 8) (N := some 74) #[true, true, true, true, true, true, true, true, true, false, false, false, false] rfl rfl (one_of HT_.out (by kernel_rfl)) (by decide) (fun K hK => ?_)
            refine goes_ Tryd.func24 (by kernel_rfl) rfl #[.string s, .agg #[.int .i64 k', .int .i64 b', .int .i64 e', .slice M1 m1 o1, .slice M2 m2 o2]] (by rfl) rfl rfl (by (try simp only [List.map_toArray, List.map_cons, List.map_nil]); first | done | rfl) ?_
            refine (HC.out 1).mono ?_
            rintro e5 w5 ⟨a5, rfl, hN5, hb5⟩
            refine ⟨_, rfl, ?_⟩
            obtain ⟨kx, xx, D1, D2, d1, f1, d2, f2', rfl⟩ := hN5.form
            have HN5 := Lib.hid hN5
            have HBW := Lib.hid hb5
            have HR5 := Lib.hid (own_keep HR2.out.1 (fun k hk => hb5.block k (own_range HR2.out.1 hk).2))
            have HKB5 := Lib.hid ((kb_drew HKB2.out _).trans (Kb.below hb5))
            have hb55 := (hb5.block g5 (blk_lt HB5r.out)).trans HB5r.out
            obtain ⟨u0, u1, u2, u3⟩ := four hb55
            have m2 := World.new_ne w5 ⟨g5, 3, none⟩ u3
            have a2 : ∀ o, (w5.alloc o).cell? ⟨g5, 3, none⟩ = some (.slice AK nK cK) := fun o => (((Below.refl _ w5).alloc (Nat.le_refl _) o).cell (World.block_lt_of_cell? w5 _ u3)).trans u3
            have l0 := cell_keep hb5 q4
            have m10 := World.new_ne w5 _ l0
            have l1 := cell_keep hb5 e0
            have m11 := World.new_ne w5 _ l1
            have l2 := cell_keep hb5 e1
            have m12 := World.new_ne w5 _ l2
            have l3 := cell_keep hb5 e2
            have m13 := World.new_ne w5 _ l3
            have l4 := cell_keep hb5 e3
            have m14 := World.new_ne w5 _ l4
            have l5 := cell_keep hb5 e4
            have m15 := World.new_ne w5 _ l5
            have HB55 := Lib.hid hb55
            clear hb5 hb55 hN5
            refine hK.out _ _ ⟨u3, l0, l1, l2, l3, l4, l5⟩ (fun hHeld => ?_)
            clear hK K
            refine norm_ (a' := ?_) ?_ ?_
            rotate_left
            · show Act.put _ (some 74) _ = _
              simp only [Act.put, List.setIfInBounds_toArray, List.set_cons_zero, List.set_cons_succ, i64_w, i32_w]
              rfl
            refine one_ (i := 9) (N := some 75) #[true, true, true, true, true, true, true, true, true, true, false, false, false] rfl rfl (one_of HT_.out (by kernel_rfl)) (by decide) (fun K hK => ?_)
            refine value_ (w1 := ?_) (v := ?_) (by rfl) rfl ?_ ?_
            rotate_left 2
            · go_simp
              constructor
              · rfl
              · rfl
            refine hK.out _ _ ⟨a2 _, (World.cell?_alloc_lt _ _ _ (World.block_lt_of_cell? _ _ l0)).trans l0, (World.cell?_alloc_lt _ _ _ (World.block_lt_of_cell? _ _ l1)).trans l1, (World.cell?_alloc_lt _ _ _ (World.block_lt_of_cell? _ _ l2)).trans l2, (World.cell?_alloc_lt _ _ _ (World.block_lt_of_cell? _ _ l3)).trans l3, (World.cell?_alloc_lt _ _ _ (World.block_lt_of_cell? _ _ l4)).trans l4, (World.cell?_alloc_lt _ _ _ (World.block_lt_of_cell? _ _ l5)).trans l5⟩ (fun hHeld => ?_)
            clear hK K
            refine norm_ (a' := ?_) ?_ ?_
            rotate_left
            · show Act.put _ (some 75) _ = _
              simp only [Act.put, List.setIfInBounds_toArray, List.set_cons_zero, List.set_cons_succ, i64_w, i32_w]
              rfl
            refine one_ (i := 10) (N := some 76) #[true, true, true, true, true, true, true, true, true, true, true, false, false] rfl rfl (one_of HT_.out (by kernel_rfl)) (by decide) (fun K hK => ?_)
            refine append_cells_step wB.heap.size rfl (.tmp 67) (.tmp 75) 23 25 (.agg (nd 0 ByteArray.empty nilS nilS)) 4 72 rfl Tryd.underlying23 infoNd rfl (by omega) (by omega) _ ds.length (flat ds) (nd kx xx (.slice D1 d1 f1) (.slice D2 d2 f2')).toList rfl rfl rfl (by simp [nd, Value.oneCell']) HR5.out (Nat.le_trans HKB5.out.size (Nat.le_refl _)) (by have := HI.out; have := HR2.out.2.1; have := HNL.out; omega) ?_
            intro v6 w6 row6 gr6 hat6
            obtain ⟨A6, n6, c6, rfl⟩ := row_form row6
            have j0 := gr6.cell l0 HRN3
            have j1 := gr6.cell l1 HRN0
            have j2 := gr6.cell l2 HRN0
            have j3 := gr6.cell l3 HRN0
            have j4 := gr6.cell l4 HRN0
            have j5 := gr6.cell l5 HRN0
            have HROW := Lib.hid row6
            have HGR := Lib.hid gr6
            have HAT := Lib.hid hat6
            have hb6 := blk_grown HB55.out gr6 (fun h => by have := own_range HR5.out h.symm; have := HB5M.out; omega)
            obtain ⟨x0, x1, x2, x3⟩ := four hb6
            obtain ⟨v0, v1, v2, v3⟩ := four_f hb6
            have HB56 := Lib.hid hb6
            clear row6 gr6 hat6 hb6
            refine hK.out _ _ ⟨x3, j0, j1, j2, j3, j4, j5⟩ (fun hHeld => ?_)
            clear hK K
            refine norm_ (a' := ?_) ?_ ?_
            rotate_left
            · show Act.put _ (some 76) _ = _
              simp only [Act.put, List.setIfInBounds_toArray, List.set_cons_zero, List.set_cons_succ, i64_w, i32_w]
              rfl
            refine pure_ (i := 11) (N := some 77) (v := ?_) (a' := ?_) #[true, true, true, true, true, true, true, true, true, true, true, true, false] rfl rfl (any_of HT_.out (by kernel_rfl)) (fun _ _ _ h => h) (Or.inl ⟨by rfl, ?_⟩) ?_ ?_
            rotate_left
            · intro w'
              go_simp
              with_reducible rfl
            rotate_left
            · simp only [Act.put, List.setIfInBounds_toArray, List.set_cons_zero, List.set_cons_succ, i64_w, i32_w]
              rfl
            refine last_ (i := 12) (N := none) #[true, true, true, true, true, true, true, true, true, true, true, true, true] rfl rfl (one_of HT_.out (by kernel_rfl)) (by decide) (fun K hK => ?_)
            refine skip_ (w1 := ?_) (by rfl) rfl ?_ ?_
            rotate_left
            · go_simp
              rfl
            refine hK.out _ _ ?_
            clear hK K
            refine done_ (done_of HT_.out (by kernel_rfl)) ?_
            try go_wp2
            go_roundg (vs.length - j)
            case measure => have := HI.out; omega
            case rel => exact ⟨j + 1, ds ++ [nd kx xx (.slice D1 d1 f1) (.slice D2 d2 f2')], _, Lib.hid ⟨hi, by have := HI.out; omega⟩, by congr 1, Lib.hid (kb_self (Kb.grown (B := 0) HKB5.out HGR.out (fun k hk => (own_range HR5.out hk).1)) _), Lib.hid (blk_put HB56.out 3 _ rfl), Lib.hid ⟨by simpa [flat_append, flat] using ownsRow_setCell_below HROW.out (a := ⟨g5, 3, none⟩) HB5M.out (.slice A6 n6 c6), by simp [HR2.out.2.1], by simp⟩, Lib.hid (kids_push (fun i b t h1 h2 => nk_set (nk_grown (nk_step (nk_drew (HKD.out i b t h1 h2) _) HBW.out) HGR.out HAT.out) HB5M.out) (by rw [HR2.out.2.1]; exact HV.out) (nk_set (nk_grown (nk_fresh HN5.out HKB2.out.size (fun k hk => (own_range HR2.out.1 hk).2)) HGR.out HAT.out) HB5M.out))⟩
          · have hd1 : decide ((j : Int) < (vs.length : Int)) = false := decide_eq_false (by omega)
            have hd2 : decide (j < vs.length) = false := decide_eq_false (by omega)
            have hb4 := (HKB2.out.block g4 (Nat.lt_of_lt_of_le (blk_lt HB4.out) HKB.out.size) (fun e => HG5.out.2.1 e.symm)).trans ((HKB.out.block g4 (blk_lt HB4.out) (fun e => HG5.out.2.1 e.symm)).trans HB4.out)
            have HB4r := Lib.hid hb4
            obtain ⟨x0, x1, x2, x3⟩ := four hb4
            obtain ⟨v0, v1, v2, v3⟩ := four_f hb4
            have n1 := HG5.out.2.1
            have n2 := n1.symm
            have HW := Lib.hid (kb_below (kb_below BEL.out HKB.out HG5.out.2.2 BEL.out.size) HKB2.out HG5.out.2.2 (Nat.le_trans BEL.out.size HKB.out.size))
            clear hb4
            go_wp2
            refine bodyPost_ret (results_cell_row rfl _ _ g4 25 _ (0, 0) _ rfl (four_put HB4r.out) Tryd.underlying25 rfl (by kernel_rfl)) rfl ?_
            have hj : j = vs.length := by have := HI.out; omega
            have hsz : wA.heap.size ≤ wB.heap.size := HKB.out.size
            have hg4 : g4 < wA.heap.size := blk_lt HB4.out
            have hwA := BEL.out.size
            refine ⟨_, _, bs, ds, rfl, ?_, ?_, by rw [HR2.out.2.1, hj], ?_, ?_, put4_below HW.out HG4.out.1, fun h => HKS.out.2.2 h, fun h => HR2.out.2.2 (by omega)⟩
            · have h := HKS.out.1
              rwa [List.take_of_length_le (by rw [HN.out.2.len]; exact Nat.le_refl _)] at h
            · exact own_le (own_keep HR.out (fun k hk => by
                have h1 := own_range HR.out hk
                rw [put4_other (by omega)]
                exact HKB2.out.block k h1.2 (by have := HB5L.out; omega))) hwA
            · exact own_le (own_keep HR2.out.1 (fun k hk => by
                have h1 := own_range HR2.out.1 hk
                rw [put4_other (by omega)])) (by omega)
            · intro i a v h1 h2
              refine (HKD.out i a v h1 h2).mono (fun k hk => ?_)
              have h3 := hk.1.1
              have h4 := hk.1.2
              exact ⟨⟨by omega, by rw [put4_size]; exact h4⟩, put4_other (by omega)⟩

theorem tree_any : ∀ (n : Nat) (t : JT), SizeOf.sizeOf t < n → TrOk t
  | 0, _, h => absurd h (Nat.not_lt_zero _)
  | n + 1, .num l, _ => by
    intro w s own a hR hlow hs hz2 hU
    cases hR with
    | num h =>
      refine (tree_node (vs := []) (ns := []) (cs := []) (ks := []) (O := own) (by simp) (.inl ⟨rfl, rfl, by have := h.1; omega, h.2.1⟩) trivial (World.ownsRow_nil _ _ _ _) rfl (World.ownsRow_nil _ _ _ _) (by simp) hlow hs (by simp) (by simp [szL]) (by simp) (by simp)).mono ?_
      rintro e w' ⟨N', K', bs, ds, rfl, hk, -, -, -, -, hb, hN, hK⟩
      obtain rfl := hN rfl
      obtain rfl := hK rfl
      rw [seg_extract h]
      exact ⟨_, rfl, .num, hb⟩
  | n + 1, .str l, _ => by
    intro w s own a hR hlow hs hz2 hU
    cases hR with
    | str h =>
      obtain ⟨x, f, hx⟩ := hU l (by simp [strsT])
      refine (tree_node (vs := []) (ns := []) (cs := []) (ks := []) (O := own) (by simp) (.inr (.inl ⟨rfl, ⟨f, by rw [seg_extract h]; exact hx⟩, by have := h.1; omega, h.2.1⟩)) trivial (World.ownsRow_nil _ _ _ _) rfl (World.ownsRow_nil _ _ _ _) (by simp) hlow hs (by simp) (by simp [szL]) (by simp) (by simp)).mono ?_
      rintro e w' ⟨N', K', bs, ds, rfl, hk, -, -, -, -, hb, hN, hK⟩
      obtain rfl := hN rfl
      obtain rfl := hK rfl
      exact ⟨_, rfl, .str ⟨f, hx⟩, hb⟩
  | n + 1, .lit l, _ => by
    intro w s own a hR hlow hs hz2 hU
    cases hR with
    | lit h =>
      refine (tree_node (vs := []) (ns := []) (cs := []) (ks := []) (O := own) (by simp) (.inr (.inr ⟨by omega, rfl⟩)) trivial (World.ownsRow_nil _ _ _ _) rfl (World.ownsRow_nil _ _ _ _) (by simp) hlow hs (by simp) (by simp [szL]) (by simp) (by simp)).mono ?_
      rintro e w' ⟨N', K', bs, ds, rfl, hk, -, -, -, -, hb, hN, hK⟩
      obtain rfl := hN rfl
      obtain rfl := hK rfl
      exact ⟨_, rfl, .lit h, hb⟩
  | n + 1, .arr vs, hz => by
    intro w s own a hR hlow hs hz2 hU
    cases hR with
    | arr hl hK ho hO hk =>
      simp only [szT] at hz2
      refine (tree_node (ns := []) (ks := []) (fun v hv => tree_any n v (by have := List.sizeOf_lt_of_mem hv; simp only [JT.arr.sizeOf_spec] at hz; omega)) (.inr (.inr ⟨by omega, rfl⟩)) trivial (World.ownsRow_nil _ _ _ _) hl hK hk (fun b hb => hlow b (hO b hb)) hs (by simp) (by omega) (by simp) (fun v hv l hl => hU l (strsL_mem hv hl))).mono ?_
      rintro e w' ⟨N', K', bs, ds, rfl, -, -, hl', hK', hk', hb, hN, -⟩
      obtain rfl := hN rfl
      exact ⟨_, rfl, .arr hl' (own_le hK' (Nat.zero_le _)) (fun b hb => own_range hK' hb) (fun b hb => hb) hk', hb⟩
  | n + 1, .obj ks vs, hz => by
    intro w s own a hR hlow hs hz2 hU
    cases hR with
    | obj hn hN hl hkl hK hoN ho hO hk =>
      simp only [szT] at hz2
      refine (tree_node (fun v hv => tree_any n v (by have := List.sizeOf_lt_of_mem hv; simp only [JT.obj.sizeOf_spec] at hz; omega)) (.inr (.inr ⟨by omega, rfl⟩)) hn hN hl hK hk (fun b hb => hlow b (hO b hb)) hs (by rw [hn.len]; omega) (by omega) (fun l hl => hU l (by simp [strsT, hl])) (fun v hv l hl => hU l (by simp only [strsT, List.mem_append]; exact .inr (strsL_mem hv hl)))).mono ?_
      rintro e w' ⟨N', K', bs, ds, rfl, hk1, hN', hl', hK', hk', hb, -, -⟩
      exact ⟨_, rfl, .obj hk1 (own_le hN' (Nat.zero_le _)) hl' hkl (own_le hK' (Nat.zero_le _)) (fun b hb => own_range hN' hb) (fun b hb => own_range hK' hb) (fun b hb => hb) hk', hb⟩
/-- Of a place its tree's node. -/
theorem tree_ok (t : JT) : TrOk t := tree_any (SizeOf.sizeOf t + 1) t (by omega)

end Go.Proofs.YtfoloneeibgoiaaDoor.Spr

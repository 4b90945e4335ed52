/- A row of bytes of the call's own whose block may bear the model's mark behind its cells (what '[]byte(s)' makes): cut, appended to, made a string. -/
import Derived.Test.YtkhgbacbnkgafaaDoorXWords
import Derived.Test.YtkhgbacbnkgafaaDoorProg
import Derived.Test.YtkhgbacbnkgafaaDoorWMore
import Derived.ArgAppend
import Derived.Lib.AppendStr
import Derived.Lib.ConvBytes
import Derived.Lib.Hide
set_option linter.unusedVariables false
namespace Go.Proofs.YtkhgbacbnkgafaaDoor.Un
open Go Go.RowKit Go.Proofs.YtkhgbacbnkgafaaDoorW.PrintWords

def BR (w : World) (base : Nat) (v : Value) (xs : List Int) : Prop :=
  ∃ g cap cur fr, v = .slice (some ⟨g, 0, none⟩) xs.length cap ∧ base ≤ g ∧ w.heap[g]? = some (.cells cur 5 fr) ∧ (∀ j, j < cur.size → (decide (fr.1 ≤ j) && decide (j < fr.2)) = false) ∧ xs.length ≤ cap ∧ cap ≤ maxLen ∧ cur.size = cap ∧ cur.toList.take xs.length = nums .u8 xs

theorem BR.form {w : World} {base : Nat} {v : Value} {xs : List Int} (h : BR w base v xs) : ∃ g c, v = .slice (some ⟨g, 0, none⟩) xs.length c ∧ base ≤ g ∧ g < w.heap.size ∧ xs.length ≤ c := by
  obtain ⟨g, cap, cur, fr, rfl, hb, hh, hfr, hn, hc, hcs, ht⟩ := h
  exact ⟨g, cap, rfl, hb, (Array.getElem?_eq_some_iff.1 hh).1, hn⟩
theorem BR.keep {w w' : World} {base : Nat} {v : Value} {xs : List Int} (h : BR w base v xs) (hk : ∀ k, k < w.heap.size → w'.heap[k]? = w.heap[k]?) : BR w' base v xs := by
  obtain ⟨g, cap, cur, fr, rfl, hb, hh, hfr, hn, hc, hcs, ht⟩ := h
  exact ⟨g, cap, cur, fr, rfl, hb, (hk g (Array.getElem?_eq_some_iff.1 hh).1).trans hh, hfr, hn, hc, hcs, ht⟩
theorem BR.below {w w' : World} {base : Nat} {v : Value} {xs : List Int} (h : BR w base v xs) (hb : Below w.heap.size w w') : BR w' base v xs := h.keep (fun k hk => hb.block k hk)
theorem BR.alloc {w : World} {base : Nat} {v : Value} {xs : List Int} (h : BR w base v xs) (o : Obj) : BR (w.alloc o) base v xs := h.keep (fun k hk => Below.heap_alloc w o k hk)
theorem BR.drewN {w : World} {base : Nat} {v : Value} {xs : List Int} (h : BR w base v xs) (n : Nat) : BR (w.drewN n) base v xs := h
theorem BR.cut {w : World} {base g c n : Nat} {xs : List Int} (h : BR w base (.slice (some ⟨g, 0, none⟩) n c) xs) {m : Nat} (hm : m ≤ xs.length) : BR w base (.slice (some ⟨g, 0, none⟩) m c) (xs.take m) := by
  obtain ⟨g', cap, cur, fr, hv, hb, hh, hfr, hn, hc, hcs, ht⟩ := h
  injection hv with h1 h2 h3
  injection h1 with h1
  injection h1 with h1 _ _
  subst h1; subst h3
  have hl : (xs.take m).length = m := by rw [List.length_take]; omega
  refine ⟨g, c, cur, fr, by rw [hl], hb, hh, hfr, by omega, hc, hcs, ?_⟩
  rw [hl]
  have := congrArg (List.take m) ht
  rw [List.take_take, Nat.min_eq_left hm] at this
  rw [this]
  simp [nums]
theorem BR.of_own {w : World} {base n : Nat} {v : Value} {xs : List Int} (h : w.ownsRow base 5 1 v n (nums .u8 xs)) (hn : n = xs.length) (h0 : 0 < n) : BR w base v xs := by
  subst hn
  obtain ⟨h1, h2⟩ := h
  rcases h2 with ⟨_, h2⟩ | ⟨g, cap, cur, rfl, hb, hh, hnc, hcm, hcs, ht⟩
  · omega
  · exact ⟨g, cap, cur, (0, 0), rfl, hb, hh, fun j _ => by simp, hnc, hcm, by omega, by simpa using ht⟩

theorem setCells_fr {g : Nat} {e : TypeId} {fr : Nat × Nat} : ∀ (vs : List Value) (o : Nat) (w : World) (cur : Array Value), w.heap[g]? = some (.cells cur e fr) → o + vs.length ≤ cur.size →
    ∃ cur', (w.setCells g o vs).heap[g]? = some (.cells cur' e fr) ∧ cur'.size = cur.size ∧ cur'.toList = cur.toList.take o ++ vs ++ cur.toList.drop (o + vs.length)
  | [], o, w, cur, h, _ => ⟨cur, h, rfl, by simp⟩
  | v :: r, o, w, cur, h, hl => by
    have h2 : (w.setCell ⟨g, o, none⟩ v).heap[g]? = some (.cells (cur.setIfInBounds o v) e fr) := by
      simp [World.setCell, Array.getElem?_modify, h]
    simp only [List.length_cons] at hl
    obtain ⟨cur', h3, h4, h5⟩ := setCells_fr r (o + 1) (w.setCell ⟨g, o, none⟩ v) _ h2 (by simp; omega)
    refine ⟨cur', h3, by rw [h4]; simp, ?_⟩
    rw [h5, Array.toList_setIfInBounds]
    have ho : o < cur.toList.length := by rw [Array.length_toList]; omega
    rw [List.take_set, List.drop_set_of_lt (by omega)]
    simp only [List.length_cons]
    rw [show o + 1 + r.length = o + (r.length + 1) by omega]
    congr 1
    rw [List.take_succ_eq_append_getElem ho, List.set_append_right _ _ (by rw [List.length_take]; omega)]
    have ho' : o < cur.size := by omega
    simp [Nat.min_eq_left (Nat.le_of_lt ho')]
theorem setCells_below {B g : Nat} {w0 : World} (hg : B ≤ g) : ∀ (vs : List Value) (o : Nat) (w : World), Below B w0 w → Below B w0 (w.setCells g o vs)
  | [], _, _, h => h
  | v :: r, o, w, h => setCells_below hg r (o + 1) _ (h.setCell hg v)

/-- Where there is room: the cells are written in place. -/
theorem BR.room {w w0 : World} {base B g c n : Nat} {xs ys : List Int} (h : BR w base (.slice (some ⟨g, 0, none⟩) n c) xs) (hr : n + ys.length ≤ c) (hB : Below B w0 w) (hb : B ≤ base) :
    BR (w.setCells g n (nums .u8 ys)) base (.slice (some ⟨g, 0, none⟩) (n + ys.length) c) (xs ++ ys) ∧ Below B w0 (w.setCells g n (nums .u8 ys)) := by
  obtain ⟨g', cap, cur, fr, hv, hbg, hh, hfr, hn, hc, hcs, ht⟩ := h
  injection hv with h1 h2 h3
  injection h1 with h1
  injection h1 with h1 _ _
  subst h1; subst h3; subst h2
  have hny : (nums .u8 ys).length = ys.length := nums_length ..
  obtain ⟨cur', k1, k2, k3⟩ := setCells_fr (nums .u8 ys) xs.length w cur hh (by omega)
  refine ⟨⟨g, c, cur', fr, by rw [List.length_append], hbg, k1, fun j hj => hfr j (by omega), by rw [List.length_append]; omega, hc, by omega, ?_⟩, setCells_below (Nat.le_trans hb hbg) _ _ _ hB⟩
  rw [k3, ht]
  have e1 : (xs ++ ys).length = (nums .u8 xs ++ nums .u8 ys).length := by simp [nums]
  rw [e1, List.take_left]
  simp [nums]
theorem BR.cell {w : World} {base g c n : Nat} {xs : List Int} (h : BR w base (.slice (some ⟨g, 0, none⟩) n c) xs) : (∀ j u, (nums .u8 xs)[j]? = some u → w.cell? ⟨g, j, none⟩ = some u) ∧ (∀ j, j < c → (w.cell? ⟨g, j, none⟩).isSome = true ∧ w.frozen? ⟨g, j, none⟩ = false) ∧ n = xs.length ∧ xs.length ≤ c := by
  obtain ⟨g', cap, cur, fr, hv, hbg, hh, hfr, hn, hc, hcs, ht⟩ := h
  injection hv with h1 h2 h3
  injection h1 with h1
  injection h1 with h1 _ _
  subst h1; subst h3
  have hcell : ∀ j, w.cell? ⟨g, j, none⟩ = cur[j]? := fun j => by simp [World.cell?, hh]
  refine ⟨fun j u hj => ?_, fun j hj => ⟨?_, ?_⟩, h2, hn⟩
  · have hjl := (List.getElem?_eq_some_iff.1 hj).1
    rw [nums_length] at hjl
    rw [hcell, ← hj, ← ht, List.getElem?_take_of_lt hjl, Array.getElem?_toList]
  · rw [hcell, Array.getElem?_eq_getElem (by omega)]; rfl
  · have := hfr j (by omega)
    simp only [World.frozen?, hh]
    exact this

section
variable {P : Program} {ops : Array Oper} {rest : List Oper} {o : Oper} {a : Act} {Q : Exit → Act → World → Prop}
/-- append of bytes that were just built. -/
theorem br_append {w0 W : World} (base : Nat) (hgd : o.guard = none) (s x : Operand) (t : TypeId)
    (ho : o.op = .call { callee := .builtin .append, args := #[s, x], argTypes := #[t, t] })
    (ht : P.underlying t = some (.slice 5)) (hinfo : (P.info? 5).map (fun i => (i.zero, i.size, i.bytes)) = some (some (.int .u8 0), 1, 1))
    (v : Value) (xs ys : List Int) (hs : a.eval s = v) (hx : a.eval x = .slice (some ⟨W.heap.size, 0, none⟩) ys.length ys.length)
    (HO : BR W base v xs) (HB : Below base w0 W) (hbase : base ≤ W.heap.size) (hl : xs.length + ys.length ≤ 140737488355328)
    (h : ∀ v1 w1, BR w1 base v1 (xs ++ ys) → Below base w0 w1 → wpList P ops Q rest (a.put o.dst v1) w1) :
    wpList P ops Q (o :: rest) a (W.alloc (.cells (nums .u8 ys).toArray 5)) := by
  obtain ⟨i0, hi, hzz⟩ := Option.map_eq_some_iff.1 hinfo
  simp only [Prod.mk.injEq] at hzz
  obtain ⟨hz0, hz1, hz2⟩ := hzz
  obtain ⟨g, c, rfl, hbg, hgl, hnc⟩ := HO.form
  have HO' := HO.alloc (.cells (nums .u8 ys).toArray 5)
  obtain ⟨k1, k2, _, _⟩ := HO'.cell
  have hny : (nums .u8 ys).length = ys.length := nums_length ..
  have hnx : (nums .u8 xs).length = xs.length := nums_length ..
  refine wpList_append_arg (W.alloc (.cells (nums .u8 ys).toArray 5)) hgd s x t ho 5 i0 (.int .u8 0) 1 1 ht hi hz0 hz1 hz2 rfl (by omega) g 0 xs.length c (nums .u8 xs) hs (by omega) ?_ ⟨W.heap.size, 0, none⟩ ys.length ys.length (nums .u8 ys) hx (by omega) ?_ ?_ ?_ (by simp only [maxLen]; omega) (by omega) ?_ ?_
  · intro j u hj
    rw [Nat.zero_add]; exact k1 j u hj
  · intro j u hj
    have := World.news_of_block (cs := (nums .u8 ys).toArray) (t := 5) (fr := (0, 0)) (heap_alloc_new W (.cells (nums .u8 ys).toArray 5))
    exact this j u (by simpa using hj)
  · intro u hu
    simp only [nums, List.mem_map] at hu
    obtain ⟨y, _, rfl⟩ := hu
    rfl
  · intro hr j hj
    rw [Nat.zero_add, Nat.mul_one]
    exact k2 _ (by omega)
  · intro hr
    have := BR.room HO' hr (HB.alloc hbase _) (Nat.le_refl _)
    rw [Nat.zero_add, Nat.mul_one]
    exact h _ _ this.1 this.2
  · intro hr v' w' hown hg
    refine h v' w' (BR.of_own (xs := xs ++ ys) (n := xs.length + ys.length) ?_ (by rw [List.length_append]) (by omega)) ((HB.alloc hbase _).grown hg (by simp; omega) (fun k hk => by cases hk))
    have : nums .u8 (xs ++ ys) = nums .u8 xs ++ nums .u8 ys := by simp [nums]
    rw [this]
    exact own_weaken hown (by simp; omega)
/-- append of a string's bytes. -/
theorem br_append_str {w0 W : World} (base : Nat) (hgd : o.guard = none) (s x : Operand) (t u : TypeId)
    (ho : o.op = .call { callee := .builtin .append, args := #[s, x], argTypes := #[t, u] })
    (ht : P.underlying t = some (.slice 5)) (hu : P.underlying u = some .string) (hinfo : (P.info? 5).map (fun i => (i.zero, i.size, i.bytes)) = some (some (.int .u8 0), 1, 1))
    (v : Value) (xs : List Int) (y : ByteArray) (hs : a.eval s = v) (hx : a.eval x = .string y)
    (HO : BR W base v xs) (HB : Below base w0 W) (hbase : base ≤ W.heap.size) (hl : xs.length + y.size ≤ 140737488355328)
    (h : ∀ v1 w1, BR w1 base v1 (xs ++ bytesOf y) → Below base w0 w1 → wpList P ops Q rest (a.put o.dst v1) w1) :
    wpList P ops Q (o :: rest) a W := by
  obtain ⟨i0, hi, hzz⟩ := Option.map_eq_some_iff.1 hinfo
  simp only [Prod.mk.injEq] at hzz
  obtain ⟨hz0, hz1, hz2⟩ := hzz
  obtain ⟨g, c, rfl, hbg, hgl, hnc⟩ := HO.form
  obtain ⟨k1, k2, _, _⟩ := HO.cell
  have hnx : (nums .u8 xs).length = xs.length := nums_length ..
  have hsc : Lib.strCells y = nums .u8 (bytesOf y) := by simp [nums, bytesOf, Lib.strCells]
  have hyl : (bytesOf y).length = y.size := bytesOf_length y
  have key : ∃ v1 w1, (Builtin.append_ #[t, u] o.type #[.slice (some ⟨g, 0, none⟩) xs.length c, .string y]).run P W = .ok v1 w1 ∧ BR w1 base v1 (xs ++ bytesOf y) ∧ Below base w0 w1 := by
    by_cases hr : xs.length + y.size ≤ c
    · have hf := Lib.run_firstCells_string (P := P) W 1 y
      have hst := run_storeCells_cells (P := P) g xs.length (Lib.strCells y) 0 W (fun j hj => by rw [Lib.strCells_length] at hj; exact (k2 _ (by omega)).1) (fun j hj => by rw [Lib.strCells_length] at hj; exact (k2 _ (by omega)).2) (Lib.strCells_oneCell y)
      simp only [Nat.add_zero] at hst
      have := BR.room HO (ys := bytesOf y) (by omega) HB (Nat.le_refl _)
      refine ⟨.slice (some ⟨g, 0, none⟩) (xs.length + y.size) c, W.setCells g xs.length (Lib.strCells y), ?_, by rw [hsc, ← hyl]; exact this.1, by rw [hsc]; exact this.2⟩
      simp [Builtin.append_, run_underlying ht, run_underlying hu, sizeOf, typeInfo, hi, hz1, Builtin.lenOf, hr, hf, Addr.add_lit, hst]
    · have hr2 := Lib.run_append_grow_string (P := P) W t u o.type 5 i0 (.int .u8 0) ht hu hi hz0 ⟨g, 0, none⟩ xs.length c (nums .u8 xs) (by rw [hz1]; omega) (fun j w hj => by rw [Addr.add_lit, Nat.zero_add]; exact k1 j w hj) y (by omega) (by omega) (by rw [hz2]; exact growslice_fits (by omega) (by omega))
      have hge := grownCap_ge W (xs.length + y.size) c 5
      have hcm : grownCap W (xs.length + y.size) c 5 ≤ maxLen := grownCap_le_maxLen W (xs.length + y.size) c 5 (by simp only [maxLen]; omega)
      have hz3 : (Value.int IntKind.u8 0).cells.size = 1 := rfl
      refine ⟨_, _, hr2, ⟨W.heap.size, _, _, (0, 0), by rw [List.length_append, hyl], hbase, heap_alloc_new W.drew _, fun j _ => by simp, by rw [List.length_append, hyl]; exact hge, hcm, ?_, ?_⟩, (HB.drew).alloc (by exact hbase) _⟩
      · simp only [Array.size_append, List.size_toArray, size_zeroCells, hz3, hnx, Lib.strCells_length]
        omega
      · have e1 : (xs ++ bytesOf y).length = (nums .u8 xs ++ Lib.strCells y).length := by rw [List.length_append, List.length_append, hnx, Lib.strCells_length, hyl]
        rw [e1]
        simp only [Array.toList_append]
        rw [List.take_left]
        rw [hsc]; simp [nums]
  obtain ⟨v1, w1, hr, h2, h3⟩ := key
  refine wpList_plain hgd fun K hK => ?_
  unfold Oper.wp execOp
  simp only [ho, resolve, invoke, builtin, Sem.run_bind, Sem.run_pure, Result.andThen_ok, List.map_toArray, List.map_cons, List.map_nil, hs, hx, hr]
  exact hK _ _ (h v1 w1 h2 h3)
end

theorem br_string {P : Program} {w : World} {base : Nat} {src dst : TypeId} {v : Value} {xs : List Int} (hs : P.underlying src = some (.slice 5)) (he : P.underlying 5 = some (.int .u8)) (hd : P.underlying dst = some .string) (h : BR w base v xs) : (convert src dst v).run P w = .ok (.string (strOfNums xs)) w := by
  obtain ⟨g, c, rfl, hbg, hgl, hnc⟩ := h.form
  refine run_convert_bytes_arg w src 5 hs he g 0 xs.length c xs rfl (fun i hi => ?_) dst hd
  rw [Nat.zero_add]
  refine h.cell.1 i _ ?_
  simp [nums, List.getElem?_map, List.getElem?_eq_getElem hi, List.getD_eq_getElem?_getD]

/-- What '[]byte(s)' makes. -/
theorem br_bytes (w : World) (s : ByteArray) (hs : s.size ≤ 140737488355328) : BR (Lib.bytesWorld w 5 s) w.heap.size (.slice (some ⟨w.heap.size, 0, none⟩) s.size (grownCap w s.size 0 5)) (bytesOf s) := by
  have hge := grownCap_ge w s.size 0 5
  have hcm : grownCap w s.size 0 5 ≤ maxLen := grownCap_le_maxLen w s.size 0 5 (by simp only [maxLen]; omega)
  have hl := bytesOf_length s
  have hd : s.data.size = s.size := rfl
  refine ⟨w.heap.size, grownCap w s.size 0 5, Lib.bytesCells w 5 s, ((Lib.bytesCells w 5 s).size, (Lib.bytesCells w 5 s).size + 1), by rw [hl], Nat.le_refl _, Lib.bytesWorld_at_new w 5 s, fun j hj => ?_, by rw [hl]; exact hge, hcm, ?_, ?_⟩
  · simp; omega
  · simp [Lib.bytesCells]; omega
  · rw [hl, Lib.bytesCells, Array.toList_append, List.take_append_of_le_length (by simp [hd]), List.take_of_length_le (by simp [hd])]
    simp [nums, bytesOf]

set_option maxHeartbeats 4000000 in
theorem s2b_calls {s : ByteArray} {w : World} (hs : s.size ≤ 140737488355328) :
    Calls Tryd.prog 39 #[.string s] w (fun e w' => ∃ v, e = .returned v ∧ BR w' w.heap.size v (bytesOf s) ∧ Below w.heap.size w w') := by
  have hcv := Lib.run_convert_string_bytes (P := Tryd.prog) w 9 22 5 s (u := .string) Tryd.underlying9 Tryd.underlying22 Tryd.underlying5
  go_enter Tryd.func39, Tryd.ntmps39
  go_wp2
  go_ret
  exact ⟨_, rfl, br_bytes w s hs, bytes_below (Below.refl _ _) (Nat.le_refl _) _ s⟩
set_option maxHeartbeats 4000000 in
theorem b2s_br {v : Value} {xs : List Int} {base : Nat} {w : World} (h : BR w base v xs) :
    Calls Tryd.prog 43 #[v] w (fun e w' => e = .returned (.string (strOfNums xs)) ∧ w' = w) := by
  have hcv := br_string (P := Tryd.prog) (dst := 9) Tryd.underlying22 Tryd.underlying5 Tryd.underlying9 h
  obtain ⟨g, c, rfl, -, -, -⟩ := h.form
  go_enter Tryd.func43, Tryd.ntmps43
  go_wp2
  go_ret
  exact ⟨rfl, rfl⟩

end Go.Proofs.YtkhgbacbnkgafaaDoor.Un

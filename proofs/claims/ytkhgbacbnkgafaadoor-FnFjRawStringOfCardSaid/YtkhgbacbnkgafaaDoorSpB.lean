/- The reference's reader in memory: elements(). -/
import Derived.Test.YtkhgbacbnkgafaaDoorSpA
set_option linter.unusedVariables false
set_option linter.unusedSimpArgs false
namespace Go.Proofs.YtkhgbacbnkgafaaDoor.Spr
open Go Go.RowKit Go.Proofs.YtkhgbacbnkgafaaDoorW.PrintWords Go.Proofs.YtkhgbacbnkgafaaDoor.Fjh Go.Proofs.YtkhgbacbnkgafaaDoor.JTr

theorem infoPl : (Tryd.prog.info? 32).map (fun i => (i.zero, i.size, i.bytes)) = some (some (.agg (pl 0 0 0 nilS nilS)), 5, 72) := by kernel_rfl

/-- An array behind its bracket. -/
def arrOf (n : Nat) (l : List Int) : Option (List JT × List Int) := match ws l with
  | [] => none
  | d :: t' => if d = 93 then some ([], t') else telems n (d :: t')

theorem arr_yes {n : Nat} {l r : List Int} (h : tk 93 (ws l) = (true, r)) : arrOf n l = some ([], r) := by
  unfold arrOf
  cases hw : ws l with
  | nil => rw [hw] at h; cases h
  | cons d t =>
    rw [hw] at h
    simp only [tk] at h ⊢
    split at h
    · rename_i hd; rw [if_pos hd]; injection h with _ h; rw [h]
    · cases h
theorem tval_nil (n : Nat) : tval n [] = none := by cases n <;> rfl
theorem telems_nil (n : Nat) : telems n [] = none := by
  cases n with
  | zero => rfl
  | succ n => simp [telems, tval_nil]
theorem arr_no {n : Nat} {l r : List Int} (h : tk 93 (ws l) = (false, r)) : arrOf n l = telems n (ws l) := by
  unfold arrOf
  cases hw : ws l with
  | nil => rw [telems_nil]
  | cons d t =>
    rw [hw] at h
    simp only [tk] at h ⊢
    split at h
    · cases h
    · rename_i hd; rw [if_neg hd]
theorem telems_bad {m : Nat} {l : List Int} (h : tval m l = none) : telems (m + 1) l = none := by simp [telems, h]
theorem telems_yes {m : Nat} {l l3 l4 : List Int} {v : JT} (h : tval m l = some (v, l3)) (h1 : tk 93 (ws l3) = (true, l4)) : telems (m + 1) l = some ([v], l4) := by
  simp only [telems, h, Option.bind_some]
  cases hw : ws l3 with
  | nil => rw [hw] at h1; cases h1
  | cons d t =>
    rw [hw] at h1
    simp only [tk] at h1 ⊢
    split at h1
    · rename_i hd; rw [if_pos hd]; injection h1 with _ h1; rw [h1]
    · cases h1
theorem telems_more {m : Nat} {l l3 l4 r : List Int} {v : JT} (h : tval m l = some (v, l3)) (h1 : tk 93 (ws l3) = (false, r)) (h2 : tk 44 (ws l3) = (true, l4)) : telems (m + 1) l = (telems m (ws l4)).map fun q => (v :: q.1, q.2) := by
  simp only [telems, h, Option.bind_some]
  cases hw : ws l3 with
  | nil => rw [hw] at h2; cases h2
  | cons d t =>
    rw [hw] at h1 h2
    simp only [tk] at h1 h2 ⊢
    split at h1
    · cases h1
    · rename_i hd
      rw [if_neg hd]
      split at h2
      · rename_i hd2; rw [if_pos hd2]; injection h2 with _ h2; rw [h2]
      · cases h2
theorem telems_no {m : Nat} {l l3 r r' : List Int} {v : JT} (h : tval m l = some (v, l3)) (h1 : tk 93 (ws l3) = (false, r)) (h2 : tk 44 (ws l3) = (false, r')) : telems (m + 1) l = none := by
  simp only [telems, h, Option.bind_some]
  cases hw : ws l3 with
  | nil => rfl
  | cons d t =>
    rw [hw] at h1 h2
    simp only [tk] at h1 h2 ⊢
    split at h1
    · cases h1
    · rename_i hd
      rw [if_neg hd]
      split at h2
      · cases h2
      · rename_i hd2; rw [if_neg hd2]
theorem tval_len {n : Nat} {l r : List Int} {v : JT} (h : tval n l = some (v, r)) : r.length < l.length := by
  have h1 := ((pack_all n).1 l v r h).1
  have h2 := (pack_all n).1 l v r h
  have : 0 < (packL v).length := by
    rcases Nat.eq_zero_or_pos (packL v).length with h0 | h0
    · have h3 := h2.2 [] stop_nil
      rw [List.eq_nil_of_length_eq_zero h0] at h3
      rw [List.nil_append, tval_nil] at h3
      cases h3
    · exact h0
  omega
theorem tk_len {c : Int} {l r : List Int} (h : tk c l = (true, r)) : r.length + 1 = l.length := by
  cases l with
  | nil => cases h
  | cons d t =>
    simp only [tk] at h
    split at h
    · injection h with _ h; subst h; rfl
    · cases h

/-- The blocks that the elements' rows lie in: new, not the row's own. -/
def Kown (w0 w : World) (V : Value) (b : Nat) : Prop := Btw w0 w b ∧ V.ownBlock ≠ some b
/-- What is known of a row of Places that grows. -/
structure EI (s : ByteArray) (w0 w : World) (V : Value) (cs : List (Array Value)) (vs : List JT) : Prop where
  len : cs.length = vs.length
  row : w.ownsRow w0.heap.size 32 5 V cs.length (flat cs)
  kid : ∀ (i : Nat) (a : Array Value) (v : JT), cs[i]? = some a → vs[i]? = some v → PRep w s (Kown w0 w V) a v
theorem EI.nil (s : ByteArray) (w0 w : World) : EI s w0 w nilS [] [] := ⟨rfl, World.ownsRow_nil _ _ _ _, fun i a v h => by cases h⟩
theorem own_range {w : World} {base : Nat} {e : TypeId} {size : Nat} {v : Value} {n : Nat} {xs : List Value} (h : w.ownsRow base e size v n xs) {k : Nat} (hk : v.ownBlock = some k) : base ≤ k ∧ k < w.heap.size := h.lt k hk
theorem EI.step {s : ByteArray} {w0 w w4 : World} {V : Value} {cs : List (Array Value)} {vs : List JT} {g : Nat} (h : EI s w0 w V cs vs) (hg : g < w0.heap.size) (hb : Kb g w w4) : EI s w0 w4 V cs vs :=
  ⟨h.len, own_keep h.row (fun k hk => by have := own_range h.row hk; exact hb.block k this.2 (by omega)), fun i a v h1 h2 => (h.kid i a v h1 h2).mono (fun k hk => ⟨⟨⟨hk.1.1, Nat.lt_of_lt_of_le hk.1.2 hb.size⟩, hk.2⟩, hb.block k hk.1.2 (by have := hk.1.1; omega)⟩)⟩
theorem EI.fresh {s : ByteArray} {w0 w w4 : World} {V : Value} {cs : List (Array Value)} {vs : List JT} {a : Array Value} {t : JT} (h : EI s w0 w V cs vs) (hs : w0.heap.size ≤ w.heap.size) (hR : PRep w4 s (Btw w w4) a t) : PRep w4 s (Kown w0 w4 V) a t :=
  hR.mono (fun k hk => ⟨⟨⟨Nat.le_trans hs hk.1, hk.2⟩, fun e => by have := own_range h.row e; have := hk.1; omega⟩, rfl⟩)
theorem EI.push {s : ByteArray} {w0 w4 w5 : World} {V V5 : Value} {cs : List (Array Value)} {vs : List JT} {a : Array Value} {t : JT} {o : Obj} (h : EI s w0 w4 V cs vs) (hR : PRep w4 s (Kown w0 w4 V) a t)
    (hg : (w4.alloc o).grownBy w5 V.ownBlock) (hrow : w5.ownsRow w0.heap.size 32 5 V5 (cs.length + 1) (flat cs ++ a.toList)) (hat : V5.ownBlock = V.ownBlock ∨ ∃ b, V5.ownBlock = some b ∧ (w4.alloc o).heap.size ≤ b) : EI s w0 w5 V5 (cs ++ [a]) (vs ++ [t]) := by
  have hs : (w4.alloc o).heap.size = w4.heap.size + 1 := by show (w4.heap.push o).size = _; simp
  have hm : ∀ k, Kown w0 w4 V k → Kown w0 w5 V5 k ∧ w5.heap[k]? = w4.heap[k]? := by
    intro k hk
    have hlt := hk.1.2
    refine ⟨⟨⟨hk.1.1, ?_⟩, fun e => ?_⟩, ?_⟩
    · have := hg.size; omega
    · rcases hat with h' | ⟨b, h', hb⟩
      · exact hk.2 (h' ▸ e)
      · rw [h'] at e; injection e with e; omega
    · rw [hg.block k (by omega) (fun e => hk.2 e.symm)]
      exact Below.heap_alloc w4 o k hlt
  refine ⟨by simp [h.len], by simpa [flat_append, flat] using hrow, fun i b v h1 h2 => ?_⟩
  rw [List.getElem?_append] at h1 h2
  by_cases hi : i < cs.length
  · rw [if_pos hi] at h1
    rw [if_pos (by rw [← h.len]; exact hi)] at h2
    exact (h.kid i b v h1 h2).mono hm
  · rw [if_neg hi] at h1
    rw [if_neg (by rw [← h.len]; exact hi), ← h.len] at h2
    have : i - cs.length = 0 := by
      rcases Nat.eq_zero_or_pos (i - cs.length) with h0 | h0
      · exact h0
      · rw [List.getElem?_eq_none (by simp; omega)] at h1; cases h1
    rw [this] at h1 h2
    simp only [List.getElem?_cons_zero, Option.some.injEq] at h1 h2
    subst h1; subst h2
    exact hR.mono hm

/-- The reader and what was ahead, over a made variable; over a row that has grown. -/
theorem st_alloc {g k : Nat} {s : ByteArray} {w0 w : World} (h : RdI w g s k ∧ Kb g w0 w) (o : Obj) : RdI (w.alloc o) g s k ∧ Kb g w0 (w.alloc o) :=
  ⟨h.1.of_block (Below.heap_alloc w o g h.1.lt), h.2.trans (Kb.below ((Below.refl _ w).alloc (Nat.le_refl _) o))⟩
theorem st_grown {g k : Nat} {s : ByteArray} {w0 w w' : World} {row : Option Nat} (h : RdI w g s k ∧ Kb g w0 w) (hg : g < w0.heap.size) (hw : w.grownBy w' row) (hr : ∀ k, row = some k → w0.heap.size ≤ k) : RdI w' g s k ∧ Kb g w0 w' :=
  ⟨h.1.of_block (hw.block g h.1.lt (fun e => by have := hr g e.symm; omega)), h.2.grown (B := 0) hw hr⟩

theorem RdI.kb {g k : Nat} {s : ByteArray} {w w' : World} (h : RdI w g s k) (hb : Below w.heap.size w w') : RdI w' g s k := h.of_block (hb.block g h.lt)

set_option maxRecDepth 100000 in
set_option maxHeartbeats 8000000 in
theorem relements {n : Nat} (HV : ∀ m, m < n → ValOk m) {l : List Int} {g k : Nat} {s : ByteArray} {w : World} (hI : RdI w g s k) (hA : At s k (91 :: l)) (hs : s.size ≤ 1000000000) (hn : 2 * l.length + 2 < n) :
    Calls Tryd.prog 25 #[.pointer (some ⟨g, 0, none⟩)] w (ER g s w (arrOf n l)) := by
  have HVh := Lib.hid HV
  have HS := Lib.hid (show s.size ≤ 2147483647 by omega)
  have HS9 := Lib.hid hs
  obtain ⟨hk, -, hA1, -, -⟩ := hA.cons
  have hw := wrap_k (Nat.le_of_lt hk) HS.out
  have c1 := hI.c1
  have f1 := hI.f1
  have hP0 : RdP g s (k + 1) w (w.setCell ⟨g, 1, none⟩ (.int .i64 ((k : Int) + 1))) := (RdP.set ⟨hI, Fjh.Frame.refl _ w⟩ (k + 1))
  have HP := Lib.hid (And.intro hP0.st hP0.kb)
  have HA := Lib.hid hA1
  have HN := Lib.hid hn
  have HG := Lib.hid hI.lt
  clear hI hA hA1 hs hn hP0 HV hk
  go_enter Tryd.func25, Tryd.ntmps25
  go_wp2_with (first | (go_at_call 12; with_reducible refine (rblanks HP.out.1 HA.out HS.out).mono ?_; rintro e w1 ⟨rfl, k1, hA, hp⟩; replace HP := Lib.hid (And.intro hp.st (HP.out.2.trans hp.kb)); replace HA := Lib.hid hA; clear hA hp; try exact ⟨rfl, ‹_›⟩) | (go_at_call 34; with_reducible refine (rtake (c := 93) HP.out.1 HA.out HS.out).mono ?_; rintro e w93 ⟨b, l', hb93, hf, rfl, k93, hA, hp⟩; replace HP := Lib.hid (And.intro hp.st (HP.out.2.trans hp.kb)); replace HA := Lib.hid hA; clear hA hp; cases b <;> (try obtain rfl := hf rfl) <;> (try clear hf) <;> (try exact ⟨rfl, ‹_›⟩)))
  rotate_left
  · go_ret2
    rw [arr_yes hb93]
    exact ⟨nilS, [], k93, rfl, rfl, World.ownsRow_nil _ _ _ _, (fun i a v h => by cases h), HA.out, HP.out.1, HP.out.2⟩
  · rw [arr_no hb93]
    have HL0 := Lib.hid (show 2 * (ws l).length + 2 < n by have := ws_len l; have := HN.out; omega)
    clear hb93 hw c1 f1 HN
    go_loopg [4] n (fun kq v4 w' => ∃ (k1 : Nat) (l1 : List Int) (cs : List (Array Value)) (vs : List JT), Hid (2 * l1.length + 2 < kq ∧ kq ≤ n) ∧ Hid (At s k1 l1) ∧ Hid ((telems kq l1).map (fun q => (vs ++ q.1, q.2)) = telems n (ws l)) ∧ Hid (vs.length + l1.length ≤ s.size) ∧ Hid (EI s w w' v4 cs vs) ∧ Hid (RdI w' g s k1 ∧ Kb g w w'))
    case atStart => exact ⟨_, ws l, [], [], Lib.hid ⟨HL0.out, Nat.le_refl _⟩, HA, Lib.hid (by simp), Lib.hid (by have := HA.out.len; simp; omega), Lib.hid (EI.nil _ _ _), HP⟩
    case round =>
      clear HA HP HL0
      obtain ⟨k1, l1, cs, vs, HK, HA, HX, HLn, HE, HP⟩ := hrel
      cases gk with
      | zero => have := HK.out; omega
      | succ m =>
      have hval := HVh.out m (by have := HK.out; omega) l1 g k1 s wr HP.out.1 HA.out HS9.out (by have := HK.out; omega)
      have HC := Lib.hid hval
      clear hval
      cases hv : tval m l1 with
      | none =>
        rw [hv] at HC
        have hr : telems n (ws l) = none := by rw [← HX.out, telems_bad hv]; rfl
        rw [hr]
        clear hv hr
        go_wp2_with (first | (go_at_call 13; refine (HC.out).mono ?_; rintro e w4 ⟨x, y, z, A1, A2, n1, c1, n2, c2, k4, rfl, hI4, hB4⟩; have HP4 := Lib.hid (And.intro hI4 (HP.out.2.trans hB4)); clear hI4 hB4; try exact ⟨rfl, ‹_›⟩))
        go_ret2
        exact ⟨k4, rfl, st_alloc HP4.out _⟩
      | some vt =>
        obtain ⟨v, l3⟩ := vt
        rw [hv] at HC
        have HVL := Lib.hid hv
        have HX2 := Lib.hid (And.intro hv HX.out)
        clear hv
        go_wp2_with (first
          | (go_at_call 13; refine (HC.out).mono ?_; rintro e w4 ⟨a, k4, rfl, hR4, hA4, hI4, hB4⟩; have hE4 := HE.out.step HG.out hB4; have hR5 := HE.out.fresh HP.out.2.size hR4; replace HP := Lib.hid (And.intro hI4 (HP.out.2.trans hB4)); replace HE := Lib.hid hE4; replace HA := Lib.hid hA4; obtain ⟨kk, bb, ee, N, K, rfl, ⟨A1, n1, c1, rfl⟩, ⟨A2, n2, c2, rfl⟩⟩ := hR4.form; have HR := Lib.hid hR5; clear hR4 hR5 hA4 hI4 hB4 hE4; try exact ⟨rfl, ‹_›⟩)
          | (at_builtin; refine print_append_cells (w0 := w4.alloc _) w.heap.size rfl (.tmp 25) (.tmp 27) 30 32 (.agg (pl 0 0 0 nilS nilS)) 5 72 rfl Tryd.underlying30 infoPl rfl (by omega) (by omega) u4 cs.length (flat cs) (pl kk bb ee (.slice A1 n1 c1) (.slice A2 n2 c2)).toList rfl (by show Value.slice (some ⟨w4.heap.size + 1, 0, none⟩) 1 1 = _; simp) rfl (by simp [pl, Value.oneCell']) (World.ownsRow.alloc HE.out.row _) (Below.refl _ _) (Nat.le_trans HP.out.2.size (by simp)) (by have := HE.out.len; have := HLn.out; have := HS9.out; omega) ?_; intro v5 w5 row5 bel5 gr5 hat5; have hE5 := HE.out.push HR.out gr5 row5 hat5; replace HP := Lib.hid (st_grown (st_alloc HP.out _) HG.out gr5 (fun k hk => (own_range HE.out.row hk).1)); replace HE := Lib.hid hE5; clear row5 bel5 gr5 hat5 hE5)
          | (go_at_call 12; with_reducible refine (rblanks HP.out.1 HA.out HS.out).mono ?_; rintro e w6 ⟨rfl, k6, hA, hp⟩; replace HP := Lib.hid (And.intro hp.st (HP.out.2.trans hp.kb)); replace HA := Lib.hid hA; replace HE := Lib.hid (HE.out.step HG.out hp.kb); clear hA hp; try exact ⟨rfl, ‹_›⟩) | (go_at_call 34; with_reducible refine (rtake (c := 93) HP.out.1 HA.out HS.out).mono ?_; rintro e w93 ⟨b, l', hb93, hf, rfl, k93, hA, hp⟩; replace HP := Lib.hid (And.intro hp.st (HP.out.2.trans hp.kb)); replace HA := Lib.hid hA; replace HE := Lib.hid (HE.out.step HG.out hp.kb); clear hA hp; cases b <;> (try obtain rfl := hf rfl) <;> (try clear hf) <;> (try exact ⟨rfl, ‹_›⟩)) | (go_at_call 34; with_reducible refine (rtake (c := 44) HP.out.1 HA.out HS.out).mono ?_; rintro e w44 ⟨b, l', hb44, hf, rfl, k44, hA, hp⟩; replace HP := Lib.hid (And.intro hp.st (HP.out.2.trans hp.kb)); replace HA := Lib.hid hA; replace HE := Lib.hid (HE.out.step HG.out hp.kb); clear hA hp; cases b <;> (try obtain rfl := hf rfl) <;> (try clear hf) <;> (try exact ⟨rfl, ‹_›⟩)))
        · have hr : telems n (ws l) = none := by rw [← HX2.out.2, telems_no HX2.out.1 hb93 hb44]; rfl
          rw [hr]
          go_ret2
          exact ⟨_, rfl, HP.out⟩
        · rename_i l'
          have hr := telems_more HX2.out.1 hb93 hb44
          have h1 := tval_len HX2.out.1
          have h2 := tk_len hb44
          have h3 := ws_len l3
          have h4 := ws_len l'
          go_roundg m
          case measure => omega
          case rel =>
            refine ⟨_, ws l', cs ++ [_], vs ++ [v], Lib.hid ⟨by have := HK.out; omega, by have := HK.out; omega⟩, HA, Lib.hid ?_, Lib.hid (by have := HLn.out; simp; omega), HE, HP⟩
            rw [← HX2.out.2, hr]
            simp [Option.map_map, Function.comp_def]
        · rename_i l'
          have hr : telems n (ws l) = some (vs ++ [v], l') := by rw [← HX2.out.2, telems_yes HX2.out.1 hb93]; rfl
          rw [hr]
          go_ret2
          exact ⟨_, _, _, rfl, HE.out.len, HE.out.row, (fun i a t h1 h2 => (HE.out.kid i a t h1 h2).mono (fun b hb => ⟨hb.1, rfl⟩)), HA.out, HP.out.1, HP.out.2⟩

end Go.Proofs.YtkhgbacbnkgafaaDoor.Spr

/- The reference's reader in memory: members(). -/
set_option linter.unusedVariables false
set_option linter.unusedSimpArgs false
namespace Go.Proofs.YtkhgbacbnkgafaaDoor.Spr
open Go Go.RowKit Go.Proofs.YtkhgbacbnkgafaaDoorW.PrintWords Go.Proofs.YtkhgbacbnkgafaaDoor.Fjh Go.Proofs.YtkhgbacbnkgafaaDoor.JTr

theorem infoSp : (Tryd.prog.info? 69).map (fun i => (i.zero, i.size, i.bytes)) = some (some (.agg #[.int .i64 0, .int .i64 0]), 2, 16) := by kernel_rfl

/-- An object behind its brace. -/
def objOf (n : Nat) (l : List Int) : Option (List (List Int) × List JT × List Int) := match ws l with
  | [] => none
  | d :: t' => if d = 125 then some ([], [], t') else tmems n (d :: t')
theorem tmems_nil (n : Nat) : tmems n [] = none := by cases n <;> rfl
theorem obj_yes {n : Nat} {l r : List Int} (h : tk 125 (ws l) = (true, r)) : objOf n l = some ([], [], r) := by
  unfold objOf
  cases hw : ws l with
  | nil => rw [hw] at h; cases h
  | cons d t =>
    rw [hw] at h
    simp only [tk] at h ⊢
    split at h
    · rename_i hd; rw [if_pos hd]; injection h with _ h; rw [h]
    · cases h
theorem obj_no {n : Nat} {l r : List Int} (h : tk 125 (ws l) = (false, r)) : objOf n l = tmems n (ws l) := by
  unfold objOf
  cases hw : ws l with
  | nil => rw [tmems_nil]
  | cons d t =>
    rw [hw] at h
    simp only [tk] at h ⊢
    split at h
    · cases h
    · rename_i hd; rw [if_neg hd]
theorem mem_bad {m : Nat} {l : List Int} (h : hd0 l ≠ 34) : tmems (m + 1) l = none := by
  cases l with
  | nil => rfl
  | cons c t => simp only [tmems]; rw [if_neg (show ¬ c = 34 from h)]
theorem mem_str {m : Nat} {t : List Int} (h : str m t = none) : tmems (m + 1) (34 :: t) = none := by simp [tmems, h]
/-- Behind a name: its colon, its value. -/
def aft (m : Nat) (key : List Int) (l2 : List Int) : Option (List (List Int) × List JT × List Int) := (tval m (ws l2)).bind fun r3 => (match ws r3.2 with
          | [] => none
          | e :: l4 => if e = 125 then some ([key], [r3.1], l4) else if e = 44 then (tmems m (ws l4)).map fun q => (key :: q.1, r3.1 :: q.2.1, q.2.2) else none)
theorem mem_colon {m : Nat} {t l1 r : List Int} (h : str m t = some l1) (h1 : tk 58 (ws l1) = (false, r)) : tmems (m + 1) (34 :: t) = none := by
  simp only [tmems, if_true, h, Option.bind_some]
  cases hw : ws l1 with
  | nil => rfl
  | cons d u =>
    rw [hw] at h1
    simp only [tk] at h1 ⊢
    split at h1
    · cases h1
    · rename_i hd; rw [if_neg hd]
theorem mem_aft {m : Nat} {t l1 l2 : List Int} (h : str m t = some l1) (h1 : tk 58 (ws l1) = (true, l2)) : tmems (m + 1) (34 :: t) = aft m (upto t l1 1) l2 := by
  simp only [tmems, if_true, h, Option.bind_some]
  cases hw : ws l1 with
  | nil => rw [hw] at h1; cases h1
  | cons d u =>
    rw [hw] at h1
    simp only [tk] at h1 ⊢
    split at h1
    · rename_i hd; rw [if_pos hd]; injection h1 with _ h1; rw [h1]; rfl
    · cases h1
theorem aft_bad {m : Nat} {key l2 : List Int} (h : tval m (ws l2) = none) : aft m key l2 = none := by simp [aft, h]
theorem aft_yes {m : Nat} {key l2 l3 l4 : List Int} {v : JT} (h : tval m (ws l2) = some (v, l3)) (h1 : tk 125 (ws l3) = (true, l4)) : aft m key l2 = some ([key], [v], l4) := by
  simp only [aft, h, Option.bind_some]
  cases hw : ws l3 with
  | nil => rw [hw] at h1; cases h1
  | cons d t =>
    rw [hw] at h1
    simp only [tk] at h1 ⊢
    split at h1
    · rename_i hd; rw [if_pos hd]; injection h1 with _ h1; rw [h1]
    · cases h1
theorem aft_more {m : Nat} {key l2 l3 l4 r : List Int} {v : JT} (h : tval m (ws l2) = some (v, l3)) (h1 : tk 125 (ws l3) = (false, r)) (h2 : tk 44 (ws l3) = (true, l4)) : aft m key l2 = (tmems m (ws l4)).map fun q => (key :: q.1, v :: q.2.1, q.2.2) := by
  simp only [aft, h, Option.bind_some]
  cases hw : ws l3 with
  | nil => rw [hw] at h2; cases h2
  | cons d t =>
    rw [hw] at h1 h2
    simp only [tk] at h1 h2 ⊢
    split at h1
    · cases h1
    · rename_i hd
      rw [if_neg hd]
      split at h2
      · rename_i hd2; rw [if_pos hd2]; injection h2 with _ h2; rw [h2]
      · cases h2
theorem aft_no {m : Nat} {key l2 l3 r r' : List Int} {v : JT} (h : tval m (ws l2) = some (v, l3)) (h1 : tk 125 (ws l3) = (false, r)) (h2 : tk 44 (ws l3) = (false, r')) : aft m key l2 = none := by
  simp only [aft, h, Option.bind_some]
  cases hw : ws l3 with
  | nil => rfl
  | cons d t =>
    rw [hw] at h1 h2
    simp only [tk] at h1 h2 ⊢
    split at h1
    · cases h1
    · rename_i hd
      rw [if_neg hd]
      split at h2
      · cases h2
      · rename_i hd2; rw [if_neg hd2]

theorem seg_of {s : ByteArray} {k k' m : Nat} {t l1 : List Int} (hA : At s k (34 :: t)) (hst : str m t = some l1) (hA' : At s k' l1) : Seg s k k' (34 :: (upto t l1 1 ++ [34])) := by
  obtain ⟨d, h1, _, _⟩ := str_split m hst
  have e1 := hA.len
  have e2 := hA'.len
  subst h1
  rw [upto_app1]
  simp only [List.length_cons, List.length_append] at e1
  refine ⟨by simp; omega, hA'.1, ?_⟩
  rw [hA.2]
  rw [show (34 : Int) :: (d ++ 34 :: l1) = (34 :: (d ++ [34])) ++ l1 from by simp]
  exact List.take_left

/-- The blocks that the members' rows lie in: new, neither the names' own nor the values'. -/
def Mown (w0 w : World) (N K : Value) (b : Nat) : Prop := Btw w0 w b ∧ K.ownBlock ≠ some b ∧ N.ownBlock ≠ some b
/-- What is known of an object's two rows that grow. -/
structure MI (s : ByteArray) (w0 w : World) (N K : Value) (ns cs : List (Array Value)) (ks : List (List Int)) (vs : List JT) : Prop where
  nam : Names s ns ks
  nrow : w.ownsRow w0.heap.size 69 2 N ns.length (flat ns)
  len : cs.length = vs.length
  row : w.ownsRow w0.heap.size 32 5 K cs.length (flat cs)
  apart : ∀ b, N.ownBlock = some b → K.ownBlock ≠ some b
  kid : ∀ (i : Nat) (a : Array Value) (v : JT), cs[i]? = some a → vs[i]? = some v → PRep w s (Mown w0 w N K) a v
theorem MI.nil (s : ByteArray) (w0 w : World) : MI s w0 w nilS nilS [] [] [] [] := ⟨trivial, World.ownsRow_nil _ _ _ _, rfl, World.ownsRow_nil _ _ _ _, (fun b h => by cases h), fun i a v h => by cases h⟩
section
variable {s : ByteArray} {w0 w w4 w5 : World} {N K : Value} {ns cs : List (Array Value)} {ks : List (List Int)} {vs : List JT} {g : Nat} {a : Array Value} {t : JT}
theorem MI.step (h : MI s w0 w N K ns cs ks vs) (hg : g < w0.heap.size) (hb : Kb g w w4) : MI s w0 w4 N K ns cs ks vs :=
  ⟨h.nam, own_keep h.nrow (fun k hk => by have := own_range h.nrow hk; exact hb.block k this.2 (by omega)), h.len, own_keep h.row (fun k hk => by have := own_range h.row hk; exact hb.block k this.2 (by omega)), h.apart,
    fun i a v h1 h2 => (h.kid i a v h1 h2).mono (fun k hk => ⟨⟨⟨hk.1.1, Nat.lt_of_lt_of_le hk.1.2 hb.size⟩, hk.2⟩, hb.block k hk.1.2 (by have := hk.1.1; omega)⟩)⟩
theorem MI.fresh (h : MI s w0 w N K ns cs ks vs) (hs : w0.heap.size ≤ w.heap.size) (hR : PRep w4 s (Btw w w4) a t) : PRep w4 s (Mown w0 w4 N K) a t :=
  hR.mono (fun k hk => ⟨⟨⟨Nat.le_trans hs hk.1, hk.2⟩, (fun e => by have := own_range h.row e; have := hk.1; omega), fun e => by have := own_range h.nrow e; have := hk.1; omega⟩, rfl⟩)
/-- A name more. -/
theorem MI.pushN {N5 : Value} {key : List Int} (h : MI s w0 w N K ns cs ks vs) (hk : ∃ b e : Nat, a = #[.int .i64 b, .int .i64 e] ∧ Seg s b e (34 :: (key ++ [34]))) (hg : w.grownBy w5 N.ownBlock) (hrow : w5.ownsRow w0.heap.size 69 2 N5 (ns.length + 1) (flat ns ++ a.toList)) (hat : N5.ownBlock = N.ownBlock ∨ ∃ b, N5.ownBlock = some b ∧ w.heap.size ≤ b) : MI s w0 w5 N5 K (ns ++ [a]) cs (ks ++ [key]) vs := by
  refine ⟨Names.push hk h.nam, by simpa [flat_append, flat] using hrow, h.len, own_keep h.row (fun k hk => by have := own_range h.row hk; exact hg.block k this.2 (fun e => h.apart k e.symm hk)), fun b hb => ?_, fun i b v h1 h2 => (h.kid i b v h1 h2).mono (fun k hk => ⟨⟨⟨hk.1.1, Nat.lt_of_lt_of_le hk.1.2 hg.size⟩, hk.2.1, fun e => ?_⟩, hg.block k hk.1.2 (fun e => hk.2.2 e.symm)⟩)⟩
  · rcases hat with h' | ⟨c, h', hc⟩
    · exact h.apart b (h' ▸ hb)
    · rw [h'] at hb
      injection hb with hb
      intro e
      have := own_range h.row e
      omega
  · rcases hat with h' | ⟨c, h', hc⟩
    · exact hk.2.2 (h' ▸ e)
    · rw [h'] at e
      injection e with e
      have := hk.1.2
      omega
/-- A value more. -/
theorem MI.pushK {K5 : Value} {o : Obj} (h : MI s w0 w4 N K ns cs ks vs) (hR : PRep w4 s (Mown w0 w4 N K) a t) (hg : (w4.alloc o).grownBy w5 K.ownBlock) (hrow : w5.ownsRow w0.heap.size 32 5 K5 (cs.length + 1) (flat cs ++ a.toList)) (hat : K5.ownBlock = K.ownBlock ∨ ∃ b, K5.ownBlock = some b ∧ (w4.alloc o).heap.size ≤ b) : MI s w0 w5 N K5 ns (cs ++ [a]) ks (vs ++ [t]) := by
  have hs : (w4.alloc o).heap.size = w4.heap.size + 1 := by show (w4.heap.push o).size = _; simp
  have hbl : ∀ k, k < w4.heap.size → K.ownBlock ≠ some k → w5.heap[k]? = w4.heap[k]? := by
    intro k hlt hk
    rw [hg.block k (by omega) (fun e => hk e.symm)]
    exact Below.heap_alloc w4 o k hlt
  have hm : ∀ k, Mown w0 w4 N K k → Mown w0 w5 N K5 k ∧ w5.heap[k]? = w4.heap[k]? := by
    intro k hk
    have hlt := hk.1.2
    refine ⟨⟨⟨hk.1.1, ?_⟩, (fun e => ?_), hk.2.2⟩, hbl k hlt hk.2.1⟩
    · have := hg.size; omega
    · rcases hat with h' | ⟨b, h', hb⟩
      · exact hk.2.1 (h' ▸ e)
      · rw [h'] at e; injection e with e; omega
  refine ⟨h.nam, own_keep h.nrow (fun k hk => by have := own_range h.nrow hk; exact hbl k this.2 (h.apart k hk)), by simp [h.len], by simpa [flat_append, flat] using hrow, fun b hb => ?_, fun i b v h1 h2 => ?_⟩
  · rcases hat with h' | ⟨c, h', hc⟩
    · rw [h']; exact h.apart b hb
    · rw [h']
      intro e
      injection e with e
      have := own_range h.nrow hb
      omega
  · rw [List.getElem?_append] at h1 h2
    by_cases hi : i < cs.length
    · rw [if_pos hi] at h1
      rw [if_pos (by rw [← h.len]; exact hi)] at h2
      exact (h.kid i b v h1 h2).mono hm
    · rw [if_neg hi] at h1
      rw [if_neg (by rw [← h.len]; exact hi), ← h.len] at h2
      have : i - cs.length = 0 := by
        rcases Nat.eq_zero_or_pos (i - cs.length) with h0 | h0
        · exact h0
        · rw [List.getElem?_eq_none (by simp; omega)] at h1; cases h1
      rw [this] at h1 h2
      simp only [List.getElem?_cons_zero, Option.some.injEq] at h1 h2
      subst h1; subst h2
      exact hR.mono hm
end

set_option maxRecDepth 100000 in
set_option maxHeartbeats 8000000 in
theorem rmembers {n : Nat} (HV : ∀ m, m < n → ValOk m) {l : List Int} {g k : Nat} {s : ByteArray} {w : World} (hI : RdI w g s k) (hA : At s k (123 :: l)) (hs : s.size ≤ 1000000000) (hn : 2 * l.length + 2 < n) :
    Calls Tryd.prog 24 #[.pointer (some ⟨g, 0, none⟩)] w (MbR g s w (objOf n l)) := by
  have HVh := Lib.hid HV
  have HS := Lib.hid (show s.size ≤ 2147483647 by omega)
  have HS9 := Lib.hid hs
  obtain ⟨hk, -, hA1, -, -⟩ := hA.cons
  have hw := wrap_k (Nat.le_of_lt hk) HS.out
  have c1 := hI.c1
  have f1 := hI.f1
  have hP0 : RdP g s (k + 1) w (w.setCell ⟨g, 1, none⟩ (.int .i64 ((k : Int) + 1))) := (RdP.set ⟨hI, Fjh.Frame.refl _ w⟩ (k + 1))
  have HP := Lib.hid (And.intro hP0.st hP0.kb)
  have HA := Lib.hid hA1
  have HN := Lib.hid hn
  have HG := Lib.hid hI.lt
  clear hI hA hA1 hs hn hP0 HV hk
  go_enter Tryd.func24, Tryd.ntmps24
  go_wp2_with (first | (go_at_call 12; with_reducible refine (rblanks HP.out.1 HA.out HS.out).mono ?_; rintro e w1 ⟨rfl, k1, hA, hp⟩; replace HP := Lib.hid (And.intro hp.st (HP.out.2.trans hp.kb)); replace HA := Lib.hid hA; clear hA hp; try exact ⟨rfl, ‹_›⟩) | (go_at_call 34; with_reducible refine (rtake (c := 125) HP.out.1 HA.out HS.out).mono ?_; rintro e w125 ⟨b, l125, hb125, hf, rfl, k125, hA, hp⟩; replace HP := Lib.hid (And.intro hp.st (HP.out.2.trans hp.kb)); replace HA := Lib.hid hA; clear hA hp; cases b <;> (try obtain rfl := hf rfl) <;> (try clear hf) <;> (try exact ⟨rfl, ‹_›⟩)))
  rotate_left
  · go_ret3
    rw [obj_yes hb125]
    exact ⟨nilS, nilS, [], [], k125, rfl, trivial, World.ownsRow_nil _ _ _ _, rfl, rfl, World.ownsRow_nil _ _ _ _, (fun i a v h => by cases h), HA.out, HP.out.1, HP.out.2⟩
  · rw [obj_no hb125]
    have HL0 := Lib.hid (show 2 * (ws l).length + 2 < n by have := ws_len l; have := HN.out; omega)
    clear hb125 hw c1 f1 HN
    go_loopg [5, 6] n (fun kq v5 v6 w' => ∃ (k1 : Nat) (l1 : List Int) (ns cs : List (Array Value)) (ks : List (List Int)) (vs : List JT), Hid (2 * l1.length + 2 < kq ∧ kq ≤ n) ∧ Hid (At s k1 l1) ∧ Hid ((tmems kq l1).map (fun q => (ks ++ q.1, vs ++ q.2.1, q.2.2)) = tmems n (ws l)) ∧ Hid (ks.length = vs.length ∧ vs.length + l1.length ≤ s.size) ∧ Hid (MI s w w' v5 v6 ns cs ks vs) ∧ Hid (RdI w' g s k1 ∧ Kb g w w'))
    case atStart => exact ⟨_, ws l, [], [], [], [], Lib.hid ⟨HL0.out, Nat.le_refl _⟩, HA, Lib.hid (by simp), Lib.hid ⟨rfl, by have := HA.out.len; simp; omega⟩, Lib.hid (MI.nil _ _ _), HP⟩
    case round =>
      clear HA HP HL0
      obtain ⟨k1, l1, ns, cs, ks, vs, HK, HA, HX, HLn, HE, HP⟩ := hrel
      have c1r := HP.out.1.c1
      cases gk with
      | zero => have := HK.out; omega
      | succ m =>
      by_cases h34 : hd0 l1 = 34
      · have hne : (hd0 l1 != 34) = false := by simp [h34]
        have heq : (hd0 l1 == 34) = true := by simp [h34]
        cases l1 with
        | nil => simp [hd0] at h34
        | cons q t =>
        obtain rfl : q = 34 := h34
        have HA1 := HA
        cases hst : str m t with
        | none =>
          have hr : tmems n (ws l) = none := by rw [← HX.out, mem_str hst]; rfl
          rw [hr]
          have HST := Lib.hid hst
          clear hst hr
          go_wp2_with (first | (go_at_call 23; with_reducible refine (rhere HP.out.1 HA.out).mono ?_; rintro e w2 ⟨rfl, hp⟩; replace HP := Lib.hid (And.intro hp.st (HP.out.2.trans hp.kb)); replace HE := Lib.hid (HE.out.step HG.out hp.kb); clear hp; try exact ⟨rfl, ‹_›⟩) | (go_at_call 26; refine (rquoted (n := m) HP.out.1 HA.out HS.out (by have := HK.out; simp only [List.length_cons] at this; omega)).mono ?_; rintro e w3 ⟨rfl, k3, hA3, hp⟩; replace HP := Lib.hid (And.intro hp.st (HP.out.2.trans hp.kb)); replace HE := Lib.hid (HE.out.step HG.out hp.kb); clear hp hA3; rw [HST.out]; try exact ⟨rfl, ‹_›⟩))
          go_ret3
          exact ⟨_, rfl, HP.out⟩
        | some l2 =>
          have HST := Lib.hid hst
          obtain ⟨dd, hdd, -, -⟩ := str_split m hst
          have HL2 := Lib.hid (show l2.length + 1 ≤ t.length by rw [hdd]; simp)
          clear hst hdd
          go_wp2_with (first
            | (go_at_call 23; with_reducible refine (rhere HP.out.1 HA.out).mono ?_; rintro e w2 ⟨rfl, hp⟩; replace HP := Lib.hid (And.intro hp.st (HP.out.2.trans hp.kb)); replace HE := Lib.hid (HE.out.step HG.out hp.kb); clear hp; try exact ⟨rfl, ‹_›⟩)
            | (go_at_call 26; refine (rquoted (n := m) HP.out.1 HA.out HS.out (by have := HK.out; simp only [List.length_cons] at this; omega)).mono ?_; rintro e w3 ⟨rfl, k3, hA3, hp⟩; replace HP := Lib.hid (And.intro hp.st (HP.out.2.trans hp.kb)); replace HE := Lib.hid (HE.out.step HG.out hp.kb); replace HA := Lib.hid (hA3 l2 HST.out); have c13 := hp.st.c1; have HSG := Lib.hid (seg_of HA1.out HST.out (hA3 l2 HST.out)); clear hp hA3; rw [HST.out]; try exact ⟨rfl, ‹_›⟩)
            | (at_builtin; refine print_append_cells (w0 := _) w.heap.size rfl (.tmp 33) (.tmp 40) 29 69 (.agg #[.int .i64 0, .int .i64 0]) 2 16 rfl Tryd.underlying29 infoSp rfl (by omega) (by omega) u5 ns.length (flat ns) [.int .i64 (k1 : Int), .int .i64 (k3 : Int)] rfl rfl rfl (by simp [Value.oneCell']) HE.out.nrow (Below.refl _ _) HP.out.2.size (by have := HE.out.nam.len; have := HLn.out; have := HS9.out; omega) ?_; intro v5 w5 row5 bel5 gr5 hat5; have hE5 := HE.out.pushN (a := #[.int .i64 (k1 : Int), .int .i64 (k3 : Int)]) ⟨k1, k3, rfl, HSG.out⟩ gr5 row5 hat5; replace HP := Lib.hid (st_grown HP.out HG.out gr5 (fun k hk => (own_range HE.out.nrow hk).1)); replace HE := Lib.hid hE5; clear row5 bel5 gr5 hat5 hE5)
            | (go_at_call 12; with_reducible refine (rblanks HP.out.1 HA.out HS.out).mono ?_; rintro e w6 ⟨rfl, k6, hA, hp⟩; replace HP := Lib.hid (And.intro hp.st (HP.out.2.trans hp.kb)); replace HA := Lib.hid hA; replace HE := Lib.hid (HE.out.step HG.out hp.kb); clear hA hp; try exact ⟨rfl, ‹_›⟩) | (go_at_call 34; with_reducible refine (rtake (c := 58) HP.out.1 HA.out HS.out).mono ?_; rintro e w58 ⟨b, l58, hb58, hf, rfl, k58, hA, hp⟩; replace HP := Lib.hid (And.intro hp.st (HP.out.2.trans hp.kb)); replace HA := Lib.hid hA; replace HE := Lib.hid (HE.out.step HG.out hp.kb); clear hA hp; cases b <;> (try obtain rfl := hf rfl) <;> (try clear hf) <;> (try exact ⟨rfl, ‹_›⟩)))
          · have hr : tmems n (ws l) = none := by rw [← HX.out, mem_colon HST.out hb58]; rfl
            rw [hr]
            go_ret3
            exact ⟨_, rfl, HP.out⟩
          · have haft := mem_aft HST.out hb58
            have h1 := tk_len hb58
            have h2 := ws_len l2
            have h3 := ws_len l58
            have HLL := Lib.hid (show (ws l58).length + 2 ≤ t.length by have := HL2.out; omega)
            have hval := fun kx wx (hI : RdI wx g s kx) (hA : At s kx (ws l58)) => HVh.out m (by have := HK.out; omega) (ws l58) g kx s wx hI hA HS9.out (by have := HK.out; have := HLL.out; simp only [List.length_cons] at *; omega)
            have HC := Lib.hid hval
            have HAF := Lib.hid haft
            clear hval haft h1 h2 h3 hb58
            cases hv : tval m (ws l58) with
            | none =>
              have hr : tmems n (ws l) = none := by rw [← HX.out, HAF.out, aft_bad hv]; rfl
              have HR0 := Lib.hid hr
              rw [hv] at HC
              clear hv hr
              go_wp2_with (first | (go_at_call 13; refine (HC.out _ _ HP.out.1 HA.out).mono ?_; rintro e w4 ⟨x, y, z, A1, A2, n1, c1, n2, c2, k4, rfl, hI4, hB4⟩; replace HP := Lib.hid (And.intro hI4 (HP.out.2.trans hB4)); clear hI4 hB4; try exact ⟨rfl, ‹_›⟩))
              go_ret3
              rw [HR0.out]
              exact ⟨_, rfl, st_alloc HP.out _⟩
            | some vt =>
              obtain ⟨v, l3⟩ := vt
              rw [hv] at HC
              have HV2 := Lib.hid hv
              clear hv
              go_wp2_with (first
                | (go_at_call 13; refine (HC.out _ _ HP.out.1 HA.out).mono ?_; rintro e w4 ⟨a, k4, rfl, hR4, hA4, hI4, hB4⟩; have hR5 := HE.out.fresh HP.out.2.size hR4; replace HE := Lib.hid (HE.out.step HG.out hB4); replace HP := Lib.hid (And.intro hI4 (HP.out.2.trans hB4)); replace HA := Lib.hid hA4; obtain ⟨kk, bb, ee, N, K, rfl, ⟨A1, n1, c1, rfl⟩, ⟨A2, n2, c2, rfl⟩⟩ := hR4.form; have HR := Lib.hid hR5; clear hR4 hR5 hA4 hI4 hB4; try exact ⟨rfl, ‹_›⟩)
                | (at_builtin; refine print_append_cells (w0 := w4.alloc _) w.heap.size rfl (.tmp 56) (.tmp 58) 30 32 (.agg (pl 0 0 0 nilS nilS)) 5 72 rfl Tryd.underlying30 infoPl rfl (by omega) (by omega) u6 cs.length (flat cs) (pl kk bb ee (.slice A1 n1 c1) (.slice A2 n2 c2)).toList rfl (by show Value.slice (some ⟨w4.heap.size + 1, 0, none⟩) 1 1 = _; simp) rfl (by simp [pl, Value.oneCell']) (World.ownsRow.alloc HE.out.row _) (Below.refl _ _) (Nat.le_trans HP.out.2.size (by simp)) (by have := HE.out.len; have := HLn.out; have := HS9.out; omega) ?_; intro v6 w6 row5 bel5 gr5 hat5; have hE5 := HE.out.pushK HR.out gr5 row5 hat5; replace HP := Lib.hid (st_grown (st_alloc HP.out _) HG.out gr5 (fun k hk => (own_range HE.out.row hk).1)); replace HE := Lib.hid hE5; clear row5 bel5 gr5 hat5 hE5)
                | (go_at_call 12; with_reducible refine (rblanks HP.out.1 HA.out HS.out).mono ?_; rintro e w6 ⟨rfl, k6, hA, hp⟩; replace HP := Lib.hid (And.intro hp.st (HP.out.2.trans hp.kb)); replace HA := Lib.hid hA; replace HE := Lib.hid (HE.out.step HG.out hp.kb); clear hA hp; try exact ⟨rfl, ‹_›⟩) | (go_at_call 34; with_reducible refine (rtake (c := 125) HP.out.1 HA.out HS.out).mono ?_; rintro e w125 ⟨b, l125, hb125, hf, rfl, k125, hA, hp⟩; replace HP := Lib.hid (And.intro hp.st (HP.out.2.trans hp.kb)); replace HA := Lib.hid hA; replace HE := Lib.hid (HE.out.step HG.out hp.kb); clear hA hp; cases b <;> (try obtain rfl := hf rfl) <;> (try clear hf) <;> (try exact ⟨rfl, ‹_›⟩)) | (go_at_call 34; with_reducible refine (rtake (c := 44) HP.out.1 HA.out HS.out).mono ?_; rintro e w44 ⟨b, l44, hb44, hf, rfl, k44, hA, hp⟩; replace HP := Lib.hid (And.intro hp.st (HP.out.2.trans hp.kb)); replace HA := Lib.hid hA; replace HE := Lib.hid (HE.out.step HG.out hp.kb); clear hA hp; cases b <;> (try obtain rfl := hf rfl) <;> (try clear hf) <;> (try exact ⟨rfl, ‹_›⟩)))
              · have hr : tmems n (ws l) = none := by rw [← HX.out, HAF.out, aft_no HV2.out hb125 hb44]; rfl
                rw [hr]
                go_ret3
                exact ⟨_, rfl, HP.out⟩
              · have hr := aft_more (key := upto t l2 1) HV2.out hb125 hb44
                have h1 := tval_len HV2.out
                have h2 := tk_len hb44
                have h3 := ws_len l3
                have h4 := ws_len l44
                have h5 := HLL.out
                go_roundg m
                case measure => omega
                case rel =>
                  refine ⟨_, ws l44, ns ++ [_], cs ++ [_], ks ++ [upto t l2 1], vs ++ [v], Lib.hid ⟨by have := HK.out; simp only [List.length_cons] at *; omega, by have := HK.out; omega⟩, HA, Lib.hid ?_, Lib.hid ⟨by have := HLn.out; simp; omega, by have := HLn.out; simp only [List.length_cons, List.length_append, List.length_nil] at *; omega⟩, HE, HP⟩
                  rw [← HX.out, HAF.out, hr]
                  simp [Option.map_map, Function.comp_def]
              · have hr : tmems n (ws l) = some (ks ++ [upto t l2 1], vs ++ [v], l125) := by rw [← HX.out, HAF.out, aft_yes HV2.out hb125]; rfl
                rw [hr]
                go_ret3
                exact ⟨_, _, _, _, _, rfl, HE.out.nam, HE.out.nrow, HE.out.len, by have := HLn.out; simp; omega, HE.out.row, (fun i a t h1 h2 => (HE.out.kid i a t h1 h2).mono (fun b hb => ⟨hb.1, rfl⟩)), HA.out, HP.out.1, HP.out.2⟩
      · have hne : (hd0 l1 != 34) = true := bne_iff_ne.mpr h34
        have heq : (hd0 l1 == 34) = false := by simp [h34]
        have hr : tmems n (ws l) = none := by rw [← HX.out, mem_bad h34]; rfl
        rw [hr]
        clear h34 hr
        go_wp2_with (first | (go_at_call 23; with_reducible refine (rhere HP.out.1 HA.out).mono ?_; rintro e w2 ⟨rfl, hp⟩; replace HP := Lib.hid (And.intro hp.st (HP.out.2.trans hp.kb)); replace HE := Lib.hid (HE.out.step HG.out hp.kb); clear hp; try exact ⟨rfl, ‹_›⟩))
        go_ret3
        exact ⟨_, rfl, HP.out⟩

end Go.Proofs.YtkhgbacbnkgafaaDoor.Spr

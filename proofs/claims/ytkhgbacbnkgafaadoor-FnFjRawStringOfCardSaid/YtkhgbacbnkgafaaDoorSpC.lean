/- The reference's reader in memory: value(). -/
import Derived.Test.YtkhgbacbnkgafaaDoorSpB
set_option linter.unusedVariables false
set_option linter.unusedSimpArgs false
namespace Go.Proofs.YtkhgbacbnkgafaaDoor.Spr
open Go Go.RowKit Go.Proofs.YtkhgbacbnkgafaaDoorW.PrintWords Go.Proofs.YtkhgbacbnkgafaaDoor.Fjh Go.Proofs.YtkhgbacbnkgafaaDoor.JTr

theorem RdI.set {w : World} {g k b i : Nat} {s : ByteArray} (h : RdI w g s k) (hb : b ≠ g) (v : Value) : RdI (w.setCell ⟨b, i, none⟩ v) g s k :=
  ⟨(World.cell?_setCell_other _ _ _ _ (fun e => hb (congrArg Addr.block e))).trans h.c0, (World.frozen?_setCell _ _ _ _).trans h.f0, (World.cell?_setCell_other _ _ _ _ (fun e => hb (congrArg Addr.block e))).trans h.c1, (World.frozen?_setCell _ _ _ _).trans h.f1⟩
theorem Kb.set {w0 w : World} {g b i : Nat} (h : Kb g w0 w) (hb : w0.heap.size ≤ b) (v : Value) : Kb g w0 (w.setCell ⟨b, i, none⟩ v) :=
  ⟨h.os, h.tape, h.output, by simpa [World.setCell] using h.size, fun k hk hg => (Below.heap_setCell w ⟨b, i, none⟩ v k (by simp only; omega)).trans (h.block k hk hg)⟩
/-- The cells of a block that is known whole. -/
theorem five {w : World} {g : Nat} {t : TypeId} {a b c d e : Value} (h : w.heap[g]? = some (.cells #[a, b, c, d, e] t (0, 0))) :
    w.cell? ⟨g, 0, none⟩ = some a ∧ w.cell? ⟨g, 1, none⟩ = some b ∧ w.cell? ⟨g, 2, none⟩ = some c ∧ w.cell? ⟨g, 3, none⟩ = some d ∧ w.cell? ⟨g, 4, none⟩ = some e :=
  ⟨blk_cell h 0, blk_cell h 1, blk_cell h 2, blk_cell h 3, blk_cell h 4⟩
theorem five_f {w : World} {g : Nat} {t : TypeId} {cs : Array Value} (h : w.heap[g]? = some (.cells cs t (0, 0))) :
    w.frozen? ⟨g, 0, none⟩ = false ∧ w.frozen? ⟨g, 1, none⟩ = false ∧ w.frozen? ⟨g, 2, none⟩ = false ∧ w.frozen? ⟨g, 3, none⟩ = false ∧ w.frozen? ⟨g, 4, none⟩ = false :=
  ⟨blk_frozen h 0, blk_frozen h 1, blk_frozen h 2, blk_frozen h 3, blk_frozen h 4⟩

/-- Only cells of the block b have turned. -/
def Sm (b : Nat) (w w' : World) : Prop := w'.heap.size = w.heap.size ∧ ∀ k, k ≠ b → w'.heap[k]? = w.heap[k]?
theorem Sm.refl (b : Nat) (w : World) : Sm b w w := ⟨rfl, fun _ _ => rfl⟩
theorem Sm.set {b i : Nat} {w w' : World} (h : Sm b w w') (v : Value) : Sm b w (w'.setCell ⟨b, i, none⟩ v) :=
  ⟨by simpa [World.setCell] using h.1, fun k hk => (Below.heap_setCell w' ⟨b, i, none⟩ v k hk).trans (h.2 k hk)⟩

/-- value()'s last stores: the place's end; the result. -/
abbrev fin (w7 : World) (g2 g4 : Nat) (x k k6 : Int) (N K : Value) : World := (((((w7.setCell ⟨g4, 2, none⟩ (.int .i64 k6)).setCell ⟨g2, 0, none⟩ (.int .i64 x)).setCell ⟨g2, 1, none⟩ (.int .i64 k)).setCell ⟨g2, 2, none⟩ (.int .i64 k6)).setCell ⟨g2, 3, none⟩ N).setCell ⟨g2, 4, none⟩ K
theorem fin_block {w7 : World} {g2 g4 : Nat} {x k k6 : Int} {N K : Value} (h : w7.heap[g2]? = some (.cells #[.int .i64 0, .int .i64 0, .int .i64 0, .slice none 0 0, .slice none 0 0] 32 (0, 0))) (hn : g4 ≠ g2) : (fin w7 g2 g4 x k k6 N K).heap[g2]? = some (.cells #[.int .i64 x, .int .i64 k, .int .i64 k6, N, K] 32 (0, 0)) :=
  blk_put (blk_put (blk_put (blk_put (blk_put (blk_far h (p := ⟨g4, 2, none⟩) (fun e => hn e.symm) (.int .i64 k6)) 0 _ rfl) 1 _ rfl) 2 _ rfl) 3 _ rfl) 4 _ rfl
theorem fin_st {w w7 : World} {g g2 g4 k1 : Nat} {s : ByteArray} {x k k6 : Int} {N K : Value} (h : RdI w7 g s k1 ∧ Kb g w w7) (h2 : g2 ≠ g) (h4 : g4 ≠ g) (b2 : w.heap.size ≤ g2) (b4 : w.heap.size ≤ g4) : RdI (fin w7 g2 g4 x k k6 N K) g s k1 ∧ Kb g w (fin w7 g2 g4 x k k6 N K) :=
  ⟨(((((h.1.set h4 _).set h2 _).set h2 _).set h2 _).set h2 _).set h2 _, (((((h.2.set b4 _).set b2 _).set b2 _).set b2 _).set b2 _).set b2 _⟩
theorem fin_same {w7 : World} {g2 g4 : Nat} {x k k6 : Int} {N K : Value} {b : Nat} (h2 : b ≠ g2) (h4 : b ≠ g4) : (fin w7 g2 g4 x k k6 N K).heap[b]? = w7.heap[b]? := by
  unfold fin
  rw [Below.heap_setCell _ _ _ _ h2, Below.heap_setCell _ _ _ _ h2, Below.heap_setCell _ _ _ _ h2, Below.heap_setCell _ _ _ _ h2, Below.heap_setCell _ _ _ _ h2, Below.heap_setCell _ _ _ _ h4]
theorem fin_size {w7 : World} {g2 g4 : Nat} {x k k6 : Int} {N K : Value} : (fin w7 g2 g4 x k k6 N K).heap.size = w7.heap.size := by simp [fin, World.setCell]
theorem own_to0 {w : World} {base : Nat} {e : TypeId} {size : Nat} {v : Value} {n : Nat} {xs : List Value} (h : w.ownsRow base e size v n xs) : w.ownsRow 0 e size v n xs := by
  refine ⟨h.1, ?_⟩
  rcases h.2 with h | ⟨g, cap, cur, rfl, hb, hg, r⟩
  · exact .inl h
  · exact .inr ⟨g, cap, cur, rfl, Nat.zero_le _, hg, r⟩
theorem obj_rep {ws w6 : World} {s : ByteArray} {k k6 : Nat} {N K : Value} {ns cs : List (Array Value)} {ks : List (List Int)} {vs : List JT} (hn : Names s ns ks) (hN : w6.ownsRow ws.heap.size 69 2 N ns.length (flat ns)) (hl : cs.length = vs.length) (hl2 : ks.length = vs.length) (hK : w6.ownsRow ws.heap.size 32 5 K cs.length (flat cs))
    (hk : ∀ (i : Nat) (a : Array Value) (v : JT), cs[i]? = some a → vs[i]? = some v → PRep w6 s (Btw ws w6) a v) : PRep w6 s (Btw ws w6) (pl 6 k k6 N K) (.obj ks vs) :=
  .obj hn (own_to0 hN) hl hl2 (own_to0 hK) (fun b hb => own_range hN hb) (fun b hb => own_range hK hb) (fun b hb => hb) hk
theorem arr_rep {ws w6 : World} {s : ByteArray} {k k6 : Nat} {K : Value} {cs : List (Array Value)} {vs : List JT} (hl : cs.length = vs.length) (hK : w6.ownsRow ws.heap.size 32 5 K cs.length (flat cs))
    (hk : ∀ (i : Nat) (a : Array Value) (v : JT), cs[i]? = some a → vs[i]? = some v → PRep w6 s (Btw ws w6) a v) : PRep w6 s (Btw ws w6) (pl 5 k k6 nilS K) (.arr vs) :=
  .arr hl (own_to0 hK) (fun b hb => own_range hK hb) (fun b hb => hb) hk
theorem va_ok {w ws w6 w7 : World} {g g2 g4 k6 : Nat} {s : ByteArray} {x k : Int} {N K : Value} {t : JT} {r : List Int} (h2 : g2 ≠ g ∧ w.heap.size ≤ g2) (h4 : g4 ≠ g ∧ w.heap.size ≤ g4 ∧ g4 ≠ g2) (l2 : g2 < ws.heap.size) (l4 : g4 < ws.heap.size) (hws : w.heap.size ≤ ws.heap.size) (hst : RdI w7 g s k6 ∧ Kb g w w7)
    (hR : PRep w6 s (Btw ws w6) (pl x k k6 N K) t) (hA : At s k6 r) (hs : Sm g4 w6 w7) : VR g s w (some (t, r)) (.returned (.tuple #[.agg #[.int .i64 x, .int .i64 k, .int .i64 k6, N, K], .bool true])) (fin w7 g2 g4 x k k6 N K) := by
  have hf := fin_st (x := x) (k := k) (k6 := k6) (N := N) (K := K) hst h2.1 h4.1 h2.2 h4.2.1
  have hm : ∀ b, Btw ws w6 b → Btw w (fin w7 g2 g4 x k k6 N K) b ∧ (fin w7 g2 g4 x k k6 N K).heap[b]? = w6.heap[b]? := by
    intro b hb
    have h1 := hb.1
    have h3 := hb.2
    refine ⟨⟨Nat.le_trans hws h1, ?_⟩, (fin_same (by omega) (by omega)).trans (hs.2 b (by omega))⟩
    rw [fin_size, hs.1]; exact h3
  exact ⟨_, k6, rfl, hR.mono hm, hA, hf.1, hf.2⟩
theorem va_no {w w7 : World} {g g2 g4 k1 : Nat} {s : ByteArray} {x k k6 : Int} {A1 A2 : Option Addr} {n1 c1 n2 c2 : Nat} (h2 : g2 ≠ g ∧ w.heap.size ≤ g2) (h4 : g4 ≠ g ∧ w.heap.size ≤ g4 ∧ g4 ≠ g2) (hst : RdI w7 g s k1 ∧ Kb g w w7) :
    VR g s w none (.returned (.tuple #[.agg #[.int .i64 x, .int .i64 k, .int .i64 k6, .slice A1 n1 c1, .slice A2 n2 c2], .bool false])) (fin w7 g2 g4 x k k6 (.slice A1 n1 c1) (.slice A2 n2 c2)) := by
  have hf := fin_st (x := x) (k := k) (k6 := k6) (N := .slice A1 n1 c1) (K := .slice A2 n2 c2) hst h2.1 h4.1 h2.2 h4.2.1
  exact ⟨x, k, k6, A1, A2, n1, c1, n2, c2, k1, rfl, hf.1, hf.2⟩
theorem row_form {w : World} {base : Nat} {e : TypeId} {size : Nat} {v : Value} {n : Nat} {xs : List Value} (h : w.ownsRow base e size v n xs) : ∃ A n c, v = .slice A n c := by
  rcases h.2 with ⟨rfl, _⟩ | ⟨g, cap, cur, rfl, _⟩
  · exact ⟨_, _, _, rfl⟩
  · exact ⟨_, _, _, rfl⟩

set_option maxRecDepth 100000 in
set_option maxHeartbeats 8000000 in
theorem rvalue_obj {n : Nat} (HV : ∀ m, m < n → ValOk m) {l : List Int} {g k : Nat} {s : ByteArray} {w : World} (hI : RdI w g s k) (hA : At s k (123 :: l)) (hs : s.size ≤ 1000000000) (hn : 2 * l.length + 2 < n) :
    Calls Tryd.prog 13 #[.pointer (some ⟨g, 0, none⟩)] w (VR g s w (tval (n + 1) (123 :: l))) := by
  have HI := Lib.hid hI
  have HA := Lib.hid hA
  have HS9 := Lib.hid hs
  have HS := Lib.hid (show s.size ≤ 2147483647 by omega)
  have c1 := hI.c1
  have hne := World.new_ne w ⟨g, 1, none⟩ c1
  have hC := (fun wx (hI : RdI wx g s k) => rmembers HV hI HA.out HS9.out hn)
  have HO := Lib.hid (show tval (n + 1) (123 :: l) = (objOf n l).map fun r => (.obj r.1 r.2.1, r.2.2) by
    simp only [tval, objOf, if_true]
    cases ws l with
    | nil => rfl
    | cons d t => simp only; split <;> rfl)
  clear hI hA hs hn HV
  cases ho : objOf n l with
  | none =>
    rw [ho] at hC
    have HC := Lib.hid hC
    have ho' := Lib.hid ho
    clear ho hC
    go_enter Tryd.func13, Tryd.ntmps13
    go_upto_region 23 with (first
      | ((with_reducible refine gate_dst (N := 2) rfl ?_); refine box_event ?hg (N := 2) ?hd (cs := #[.int .i64 0, .int .i64 0, .int .i64 0, .slice none 0 0, .slice none 0 0]) (t := 32) ?hr ?_; (case hd => rfl); (case hg => rfl); (case hr => first | (go_simp; done) | (go_simp; rfl)); intro g2 hg2 w2 hb2 hbel2; have hI2 := HI.out.of_block (hbel2.block g HI.out.lt); have c12 := hI2.c1; have hne2 := World.new_ne w2 ⟨g, 1, none⟩ c12; have HP := Lib.hid (And.intro hI2 (Kb.below (g := g) hbel2)); have HB2 := Lib.hid hb2; have HG2 := Lib.hid (show g2 ≠ g ∧ w.heap.size ≤ g2 ∧ g2 < w2.heap.size from ⟨by rw [hg2]; exact hne, by omega, blk_lt hb2⟩); clear hb2 hbel2 hg2 hI2)
      | (go_at_call 23; refine (rhere (st_alloc HP.out _).1 HA.out).mono ?_; rintro e w5 ⟨rfl, hp⟩; have hb4 := (hp.kb.block w2.heap.size (by show _ < (w2.heap.push _).size; simp) (fun e => hne2 e)).trans (blk_new w2 _); have hb5 := (hp.kb.block g2 (by have := HG2.out.2.2; show _ < (w2.heap.push _).size; simp; omega) HG2.out.1).trans (blk_alloc HB2.out _); replace HP := Lib.hid (And.intro hp.st ((st_alloc HP.out _).2.trans hp.kb)); have HG4 := Lib.hid (show w2.heap.size ≠ g ∧ w.heap.size ≤ w2.heap.size ∧ w2.heap.size ≠ g2 from ⟨hne2, by have := HG2.out; omega, by have := HG2.out; omega⟩); generalize w2.heap.size = g4 at *; obtain ⟨q0, q1, q2, q3, q4⟩ := five hb4; obtain ⟨f0, f1, f2, f3, f4⟩ := five_f hb4; have HB4 := Lib.hid hb4; replace HB2 := Lib.hid hb5; clear hp hb4 hb5 c12; simp only [hd0]; try exact ⟨rfl, ‹_›⟩)
      | (go_at_call 24; refine (HC.out _ (HP.out.1.set HG4.out.1 _)).mono ?_; rintro e w6 ⟨k6, rfl, hst, hkb⟩; have hb4 := (hkb.block g4 (blk_lt (blk_put HB4.out 0 (.int .i64 6) rfl)) HG4.out.1).trans (blk_put HB4.out 0 (.int .i64 6) rfl); have hb2 := (hkb.block g2 (blk_lt (blk_far HB2.out (p := ⟨g4, 0, none⟩) (fun e => HG4.out.2.2 e.symm) (.int .i64 6))) HG2.out.1).trans (blk_far HB2.out (p := ⟨g4, 0, none⟩) (fun e => HG4.out.2.2 e.symm) (.int .i64 6)); clear q0 q1 q2 q3 q4 f0 f1 f2 f3 f4; obtain ⟨q0, q1, q2, q3, q4⟩ := five hb4; obtain ⟨f0, f1, f2, f3, f4⟩ := five_f hb4; replace HP := Lib.hid (And.intro hst ((HP.out.2.set HG4.out.2.1 (.int .i64 6)).trans hkb)); replace HB4 := Lib.hid hb4; replace HB2 := Lib.hid hb2; clear hb4 hb2; clear hst hkb; try exact ⟨rfl, ‹_›⟩))
    have hb47 : ((w6.setCell ⟨g4, 3, none⟩ (.slice none 0 0)).setCell ⟨g4, 4, none⟩ (.slice none 0 0)).heap[g4]? = some (.cells #[.int .i64 6, .int .i64 k, .int .i64 0, nilS, nilS] 32 (0, 0)) := blk_put (blk_put HB4.out 3 _ rfl) 4 _ rfl
    have hb27 := blk_far (blk_far HB2.out (p := ⟨g4, 3, none⟩) (fun e => HG4.out.2.2 e.symm) nilS) (p := ⟨g4, 4, none⟩) (fun e => HG4.out.2.2 e.symm) nilS
    have hst7 := (HP.out.1.set (i := 3) HG4.out.1 nilS).set (i := 4) HG4.out.1 nilS
    have hkb7 := (HP.out.2.set (i := 3) HG4.out.2.1 nilS).set (i := 4) HG4.out.2.1 nilS
    have hsm7 : Sm g4 w6 ((w6.setCell ⟨g4, 3, none⟩ (.slice none 0 0)).setCell ⟨g4, 4, none⟩ (.slice none 0 0)) := ((Sm.refl _ _).set _).set _
    clear q0 q1 q2 q3 q4 f0 f1 f2 f3 f4
    try clear z0 z1 z2 z3 z4 y0 y1 y2 y3 y4
    try clear ck
    generalize hw7 : (w6.setCell ⟨g4, 3, none⟩ (.slice none 0 0)).setCell ⟨g4, 4, none⟩ (.slice none 0 0) = w7 at hb47 hb27 hst7 hkb7 hsm7 ⊢
    clear hw7
    obtain ⟨q0, q1, q2, q3, q4⟩ := five hb47
    obtain ⟨f0, f1, f2, f3, f4⟩ := five_f hb47
    obtain ⟨z0, z1, z2, z3, z4⟩ := five hb27
    obtain ⟨y0, y1, y2, y3, y4⟩ := five_f hb27
    have ck := hst7.c1
    have HB4 := Lib.hid hb47
    have HB2 := Lib.hid hb27
    have HP := Lib.hid (And.intro hst7 hkb7)
    have HSm := Lib.hid hsm7
    have n1 := HG2.out.1
    have n2 := HG2.out.1.symm
    have n3 := HG4.out.1
    have n4 := HG4.out.1.symm
    have n5 := HG4.out.2.2
    have n6 := HG4.out.2.2.symm
    clear hb47 hb27 hst7 hkb7 hsm7
    go_wp2
    have hO := HO.out
    rw [ho'.out] at hO
    (try simp only [Option.map_none, Option.map_some] at hO)
    rw [hO]
    refine bodyPost_ret (results_ct rfl _ _ g2 32 _ (0, 0) _ rfl (fin_block HB2.out HG4.out.2.2) Tryd.underlying32 rfl (by kernel_rfl)) rfl ?_
    exact va_no ⟨HG2.out.1, HG2.out.2.1⟩ HG4.out HP.out
  | some r =>
    obtain ⟨ks, vs, r⟩ := r
    rw [ho] at hC
    have HC := Lib.hid hC
    have ho' := Lib.hid ho
    clear ho hC
    go_enter Tryd.func13, Tryd.ntmps13
    go_upto_region 23 with (first
      | ((with_reducible refine gate_dst (N := 2) rfl ?_); refine box_event ?hg (N := 2) ?hd (cs := #[.int .i64 0, .int .i64 0, .int .i64 0, .slice none 0 0, .slice none 0 0]) (t := 32) ?hr ?_; (case hd => rfl); (case hg => rfl); (case hr => first | (go_simp; done) | (go_simp; rfl)); intro g2 hg2 w2 hb2 hbel2; have hI2 := HI.out.of_block (hbel2.block g HI.out.lt); have c12 := hI2.c1; have hne2 := World.new_ne w2 ⟨g, 1, none⟩ c12; have HP := Lib.hid (And.intro hI2 (Kb.below (g := g) hbel2)); have HB2 := Lib.hid hb2; have HG2 := Lib.hid (show g2 ≠ g ∧ w.heap.size ≤ g2 ∧ g2 < w2.heap.size from ⟨by rw [hg2]; exact hne, by omega, blk_lt hb2⟩); clear hb2 hbel2 hg2 hI2)
      | (go_at_call 23; refine (rhere (st_alloc HP.out _).1 HA.out).mono ?_; rintro e w5 ⟨rfl, hp⟩; have hb4 := (hp.kb.block w2.heap.size (by show _ < (w2.heap.push _).size; simp) (fun e => hne2 e)).trans (blk_new w2 _); have hb5 := (hp.kb.block g2 (by have := HG2.out.2.2; show _ < (w2.heap.push _).size; simp; omega) HG2.out.1).trans (blk_alloc HB2.out _); replace HP := Lib.hid (And.intro hp.st ((st_alloc HP.out _).2.trans hp.kb)); have HG4 := Lib.hid (show w2.heap.size ≠ g ∧ w.heap.size ≤ w2.heap.size ∧ w2.heap.size ≠ g2 from ⟨hne2, by have := HG2.out; omega, by have := HG2.out; omega⟩); generalize w2.heap.size = g4 at *; obtain ⟨q0, q1, q2, q3, q4⟩ := five hb4; obtain ⟨f0, f1, f2, f3, f4⟩ := five_f hb4; have HB4 := Lib.hid hb4; replace HB2 := Lib.hid hb5; clear hp hb4 hb5 c12; simp only [hd0]; try exact ⟨rfl, ‹_›⟩)
      | (go_at_call 24; refine (HC.out _ (HP.out.1.set HG4.out.1 _)).mono ?_; rintro e w6 ⟨N, K, ns, cs, k6, rfl, hnam, hnr, hl1, hl2, hkr, hkid, hA6, hst, hkb⟩; obtain ⟨A1, n1, c1, rfl⟩ := row_form hnr; obtain ⟨A2, n2, c2, rfl⟩ := row_form hkr; have HREP := Lib.hid (obj_rep (k := k) (k6 := k6) hnam hnr hl1 hl2 hkr hkid); have HLT := Lib.hid (And.intro (blk_lt (blk_far HB2.out (p := ⟨g4, 0, none⟩) (fun e => HG4.out.2.2 e.symm) (.int .i64 6))) (And.intro (blk_lt (blk_put HB4.out 0 (.int .i64 6) rfl)) (HP.out.2.set (i := 0) HG4.out.2.1 (.int .i64 6)).size)); have HA6 := Lib.hid hA6; have hb4 := (hkb.block g4 (blk_lt (blk_put HB4.out 0 (.int .i64 6) rfl)) HG4.out.1).trans (blk_put HB4.out 0 (.int .i64 6) rfl); have hb2 := (hkb.block g2 (blk_lt (blk_far HB2.out (p := ⟨g4, 0, none⟩) (fun e => HG4.out.2.2 e.symm) (.int .i64 6))) HG2.out.1).trans (blk_far HB2.out (p := ⟨g4, 0, none⟩) (fun e => HG4.out.2.2 e.symm) (.int .i64 6)); clear q0 q1 q2 q3 q4 f0 f1 f2 f3 f4; obtain ⟨q0, q1, q2, q3, q4⟩ := five hb4; obtain ⟨f0, f1, f2, f3, f4⟩ := five_f hb4; replace HP := Lib.hid (And.intro hst ((HP.out.2.set HG4.out.2.1 (.int .i64 6)).trans hkb)); replace HB4 := Lib.hid hb4; replace HB2 := Lib.hid hb2; clear hb4 hb2; clear hst hkb hnam hnr hl1 hl2 hkr hkid hA6; try exact ⟨rfl, ‹_›⟩))
    have hb47 : ((w6.setCell ⟨g4, 3, none⟩ (.slice A1 n1 c1)).setCell ⟨g4, 4, none⟩ (.slice A2 n2 c2)).heap[g4]? = some (.cells #[.int .i64 6, .int .i64 k, .int .i64 0, .slice A1 n1 c1, .slice A2 n2 c2] 32 (0, 0)) := blk_put (blk_put HB4.out 3 _ rfl) 4 _ rfl
    have hb27 := blk_far (blk_far HB2.out (p := ⟨g4, 3, none⟩) (fun e => HG4.out.2.2 e.symm) (.slice A1 n1 c1)) (p := ⟨g4, 4, none⟩) (fun e => HG4.out.2.2 e.symm) (.slice A2 n2 c2)
    have hst7 := (HP.out.1.set (i := 3) HG4.out.1 (.slice A1 n1 c1)).set (i := 4) HG4.out.1 (.slice A2 n2 c2)
    have hkb7 := (HP.out.2.set (i := 3) HG4.out.2.1 (.slice A1 n1 c1)).set (i := 4) HG4.out.2.1 (.slice A2 n2 c2)
    have hsm7 : Sm g4 w6 ((w6.setCell ⟨g4, 3, none⟩ (.slice A1 n1 c1)).setCell ⟨g4, 4, none⟩ (.slice A2 n2 c2)) := ((Sm.refl _ _).set _).set _
    clear q0 q1 q2 q3 q4 f0 f1 f2 f3 f4
    try clear z0 z1 z2 z3 z4 y0 y1 y2 y3 y4
    try clear ck
    generalize hw7 : (w6.setCell ⟨g4, 3, none⟩ (.slice A1 n1 c1)).setCell ⟨g4, 4, none⟩ (.slice A2 n2 c2) = w7 at hb47 hb27 hst7 hkb7 hsm7 ⊢
    clear hw7
    obtain ⟨q0, q1, q2, q3, q4⟩ := five hb47
    obtain ⟨f0, f1, f2, f3, f4⟩ := five_f hb47
    obtain ⟨z0, z1, z2, z3, z4⟩ := five hb27
    obtain ⟨y0, y1, y2, y3, y4⟩ := five_f hb27
    have ck := hst7.c1
    have HB4 := Lib.hid hb47
    have HB2 := Lib.hid hb27
    have HP := Lib.hid (And.intro hst7 hkb7)
    have HSm := Lib.hid hsm7
    have n1 := HG2.out.1
    have n2 := HG2.out.1.symm
    have n3 := HG4.out.1
    have n4 := HG4.out.1.symm
    have n5 := HG4.out.2.2
    have n6 := HG4.out.2.2.symm
    clear hb47 hb27 hst7 hkb7 hsm7
    go_wp2
    have hO := HO.out
    rw [ho'.out] at hO
    (try simp only [Option.map_none, Option.map_some] at hO)
    rw [hO]
    refine bodyPost_ret (results_ct rfl _ _ g2 32 _ (0, 0) _ rfl (fin_block HB2.out HG4.out.2.2) Tryd.underlying32 rfl (by kernel_rfl)) rfl ?_
    exact va_ok ⟨HG2.out.1, HG2.out.2.1⟩ HG4.out HLT.out.1 HLT.out.2.1 HLT.out.2.2 HP.out HREP.out HA6.out HSm.out
set_option maxRecDepth 100000 in
set_option maxHeartbeats 8000000 in
theorem rvalue_arr {n : Nat} (HV : ∀ m, m < n → ValOk m) {l : List Int} {g k : Nat} {s : ByteArray} {w : World} (hI : RdI w g s k) (hA : At s k (91 :: l)) (hs : s.size ≤ 1000000000) (hn : 2 * l.length + 2 < n) :
    Calls Tryd.prog 13 #[.pointer (some ⟨g, 0, none⟩)] w (VR g s w (tval (n + 1) (91 :: l))) := by
  have HI := Lib.hid hI
  have HA := Lib.hid hA
  have HS9 := Lib.hid hs
  have HS := Lib.hid (show s.size ≤ 2147483647 by omega)
  have c1 := hI.c1
  have hne := World.new_ne w ⟨g, 1, none⟩ c1
  have hC := (fun wx (hI : RdI wx g s k) => relements HV hI HA.out HS9.out hn)
  have HO := Lib.hid (show tval (n + 1) (91 :: l) = (arrOf n l).map fun r => (.arr r.1, r.2) by
    simp only [tval, arrOf, show ¬ ((91 : Int) = 123) by omega, if_false, if_true]
    cases ws l with
    | nil => rfl
    | cons d t => simp only; split <;> rfl)
  clear hI hA hs hn HV
  cases ho : arrOf n l with
  | none =>
    rw [ho] at hC
    have HC := Lib.hid hC
    have ho' := Lib.hid ho
    clear ho hC
    go_enter Tryd.func13, Tryd.ntmps13
    go_upto_region 23 with (first
      | ((with_reducible refine gate_dst (N := 2) rfl ?_); refine box_event ?hg (N := 2) ?hd (cs := #[.int .i64 0, .int .i64 0, .int .i64 0, .slice none 0 0, .slice none 0 0]) (t := 32) ?hr ?_; (case hd => rfl); (case hg => rfl); (case hr => first | (go_simp; done) | (go_simp; rfl)); intro g2 hg2 w2 hb2 hbel2; have hI2 := HI.out.of_block (hbel2.block g HI.out.lt); have c12 := hI2.c1; have hne2 := World.new_ne w2 ⟨g, 1, none⟩ c12; have HP := Lib.hid (And.intro hI2 (Kb.below (g := g) hbel2)); have HB2 := Lib.hid hb2; have HG2 := Lib.hid (show g2 ≠ g ∧ w.heap.size ≤ g2 ∧ g2 < w2.heap.size from ⟨by rw [hg2]; exact hne, by omega, blk_lt hb2⟩); clear hb2 hbel2 hg2 hI2)
      | (go_at_call 23; refine (rhere (st_alloc HP.out _).1 HA.out).mono ?_; rintro e w5 ⟨rfl, hp⟩; have hb4 := (hp.kb.block w2.heap.size (by show _ < (w2.heap.push _).size; simp) (fun e => hne2 e)).trans (blk_new w2 _); have hb5 := (hp.kb.block g2 (by have := HG2.out.2.2; show _ < (w2.heap.push _).size; simp; omega) HG2.out.1).trans (blk_alloc HB2.out _); replace HP := Lib.hid (And.intro hp.st ((st_alloc HP.out _).2.trans hp.kb)); have HG4 := Lib.hid (show w2.heap.size ≠ g ∧ w.heap.size ≤ w2.heap.size ∧ w2.heap.size ≠ g2 from ⟨hne2, by have := HG2.out; omega, by have := HG2.out; omega⟩); generalize w2.heap.size = g4 at *; obtain ⟨q0, q1, q2, q3, q4⟩ := five hb4; obtain ⟨f0, f1, f2, f3, f4⟩ := five_f hb4; have HB4 := Lib.hid hb4; replace HB2 := Lib.hid hb5; clear hp hb4 hb5 c12; simp only [hd0]; try exact ⟨rfl, ‹_›⟩)
      | (go_at_call 25; refine (HC.out _ (HP.out.1.set HG4.out.1 _)).mono ?_; rintro e w6 ⟨k6, rfl, hst, hkb⟩; have hb4 := (hkb.block g4 (blk_lt (blk_put HB4.out 0 (.int .i64 5) rfl)) HG4.out.1).trans (blk_put HB4.out 0 (.int .i64 5) rfl); have hb2 := (hkb.block g2 (blk_lt (blk_far HB2.out (p := ⟨g4, 0, none⟩) (fun e => HG4.out.2.2 e.symm) (.int .i64 5))) HG2.out.1).trans (blk_far HB2.out (p := ⟨g4, 0, none⟩) (fun e => HG4.out.2.2 e.symm) (.int .i64 5)); clear q0 q1 q2 q3 q4 f0 f1 f2 f3 f4; obtain ⟨q0, q1, q2, q3, q4⟩ := five hb4; obtain ⟨f0, f1, f2, f3, f4⟩ := five_f hb4; replace HP := Lib.hid (And.intro hst ((HP.out.2.set HG4.out.2.1 (.int .i64 5)).trans hkb)); replace HB4 := Lib.hid hb4; replace HB2 := Lib.hid hb2; clear hb4 hb2; clear hst hkb; try exact ⟨rfl, ‹_›⟩))
    have hb47 : (w6.setCell ⟨g4, 4, none⟩ (.slice none 0 0)).heap[g4]? = some (.cells #[.int .i64 5, .int .i64 k, .int .i64 0, nilS, nilS] 32 (0, 0)) := blk_put HB4.out 4 _ rfl
    have hb27 := blk_far HB2.out (p := ⟨g4, 4, none⟩) (fun e => HG4.out.2.2 e.symm) nilS
    have hst7 := HP.out.1.set (i := 4) HG4.out.1 nilS
    have hkb7 := HP.out.2.set (i := 4) HG4.out.2.1 nilS
    have hsm7 : Sm g4 w6 (w6.setCell ⟨g4, 4, none⟩ (.slice none 0 0)) := (Sm.refl _ _).set _
    clear q0 q1 q2 q3 q4 f0 f1 f2 f3 f4
    try clear z0 z1 z2 z3 z4 y0 y1 y2 y3 y4
    try clear ck
    generalize hw7 : w6.setCell ⟨g4, 4, none⟩ (.slice none 0 0) = w7 at hb47 hb27 hst7 hkb7 hsm7 ⊢
    clear hw7
    obtain ⟨q0, q1, q2, q3, q4⟩ := five hb47
    obtain ⟨f0, f1, f2, f3, f4⟩ := five_f hb47
    obtain ⟨z0, z1, z2, z3, z4⟩ := five hb27
    obtain ⟨y0, y1, y2, y3, y4⟩ := five_f hb27
    have ck := hst7.c1
    have HB4 := Lib.hid hb47
    have HB2 := Lib.hid hb27
    have HP := Lib.hid (And.intro hst7 hkb7)
    have HSm := Lib.hid hsm7
    have n1 := HG2.out.1
    have n2 := HG2.out.1.symm
    have n3 := HG4.out.1
    have n4 := HG4.out.1.symm
    have n5 := HG4.out.2.2
    have n6 := HG4.out.2.2.symm
    clear hb47 hb27 hst7 hkb7 hsm7
    go_wp2
    have hO := HO.out
    rw [ho'.out] at hO
    (try simp only [Option.map_none, Option.map_some] at hO)
    rw [hO]
    refine bodyPost_ret (results_ct rfl _ _ g2 32 _ (0, 0) _ rfl (fin_block HB2.out HG4.out.2.2) Tryd.underlying32 rfl (by kernel_rfl)) rfl ?_
    exact va_no ⟨HG2.out.1, HG2.out.2.1⟩ HG4.out HP.out
  | some r =>
    obtain ⟨vs, r⟩ := r
    rw [ho] at hC
    have HC := Lib.hid hC
    have ho' := Lib.hid ho
    clear ho hC
    go_enter Tryd.func13, Tryd.ntmps13
    go_upto_region 23 with (first
      | ((with_reducible refine gate_dst (N := 2) rfl ?_); refine box_event ?hg (N := 2) ?hd (cs := #[.int .i64 0, .int .i64 0, .int .i64 0, .slice none 0 0, .slice none 0 0]) (t := 32) ?hr ?_; (case hd => rfl); (case hg => rfl); (case hr => first | (go_simp; done) | (go_simp; rfl)); intro g2 hg2 w2 hb2 hbel2; have hI2 := HI.out.of_block (hbel2.block g HI.out.lt); have c12 := hI2.c1; have hne2 := World.new_ne w2 ⟨g, 1, none⟩ c12; have HP := Lib.hid (And.intro hI2 (Kb.below (g := g) hbel2)); have HB2 := Lib.hid hb2; have HG2 := Lib.hid (show g2 ≠ g ∧ w.heap.size ≤ g2 ∧ g2 < w2.heap.size from ⟨by rw [hg2]; exact hne, by omega, blk_lt hb2⟩); clear hb2 hbel2 hg2 hI2)
      | (go_at_call 23; refine (rhere (st_alloc HP.out _).1 HA.out).mono ?_; rintro e w5 ⟨rfl, hp⟩; have hb4 := (hp.kb.block w2.heap.size (by show _ < (w2.heap.push _).size; simp) (fun e => hne2 e)).trans (blk_new w2 _); have hb5 := (hp.kb.block g2 (by have := HG2.out.2.2; show _ < (w2.heap.push _).size; simp; omega) HG2.out.1).trans (blk_alloc HB2.out _); replace HP := Lib.hid (And.intro hp.st ((st_alloc HP.out _).2.trans hp.kb)); have HG4 := Lib.hid (show w2.heap.size ≠ g ∧ w.heap.size ≤ w2.heap.size ∧ w2.heap.size ≠ g2 from ⟨hne2, by have := HG2.out; omega, by have := HG2.out; omega⟩); generalize w2.heap.size = g4 at *; obtain ⟨q0, q1, q2, q3, q4⟩ := five hb4; obtain ⟨f0, f1, f2, f3, f4⟩ := five_f hb4; have HB4 := Lib.hid hb4; replace HB2 := Lib.hid hb5; clear hp hb4 hb5 c12; simp only [hd0]; try exact ⟨rfl, ‹_›⟩)
      | (go_at_call 25; refine (HC.out _ (HP.out.1.set HG4.out.1 _)).mono ?_; rintro e w6 ⟨K, cs, k6, rfl, hl1, hkr, hkid, hA6, hst, hkb⟩; obtain ⟨A2, n2, c2, rfl⟩ := row_form hkr; have HREP := Lib.hid (arr_rep (k := k) (k6 := k6) hl1 hkr hkid); have HLT := Lib.hid (And.intro (blk_lt (blk_far HB2.out (p := ⟨g4, 0, none⟩) (fun e => HG4.out.2.2 e.symm) (.int .i64 5))) (And.intro (blk_lt (blk_put HB4.out 0 (.int .i64 5) rfl)) (HP.out.2.set (i := 0) HG4.out.2.1 (.int .i64 5)).size)); have HA6 := Lib.hid hA6; have hb4 := (hkb.block g4 (blk_lt (blk_put HB4.out 0 (.int .i64 5) rfl)) HG4.out.1).trans (blk_put HB4.out 0 (.int .i64 5) rfl); have hb2 := (hkb.block g2 (blk_lt (blk_far HB2.out (p := ⟨g4, 0, none⟩) (fun e => HG4.out.2.2 e.symm) (.int .i64 5))) HG2.out.1).trans (blk_far HB2.out (p := ⟨g4, 0, none⟩) (fun e => HG4.out.2.2 e.symm) (.int .i64 5)); clear q0 q1 q2 q3 q4 f0 f1 f2 f3 f4; obtain ⟨q0, q1, q2, q3, q4⟩ := five hb4; obtain ⟨f0, f1, f2, f3, f4⟩ := five_f hb4; replace HP := Lib.hid (And.intro hst ((HP.out.2.set HG4.out.2.1 (.int .i64 5)).trans hkb)); replace HB4 := Lib.hid hb4; replace HB2 := Lib.hid hb2; clear hb4 hb2; clear hst hkb hl1 hkr hkid hA6; try exact ⟨rfl, ‹_›⟩))
    have hb47 : (w6.setCell ⟨g4, 4, none⟩ (.slice A2 n2 c2)).heap[g4]? = some (.cells #[.int .i64 5, .int .i64 k, .int .i64 0, nilS, .slice A2 n2 c2] 32 (0, 0)) := blk_put HB4.out 4 _ rfl
    have hb27 := blk_far HB2.out (p := ⟨g4, 4, none⟩) (fun e => HG4.out.2.2 e.symm) (.slice A2 n2 c2)
    have hst7 := HP.out.1.set (i := 4) HG4.out.1 (.slice A2 n2 c2)
    have hkb7 := HP.out.2.set (i := 4) HG4.out.2.1 (.slice A2 n2 c2)
    have hsm7 : Sm g4 w6 (w6.setCell ⟨g4, 4, none⟩ (.slice A2 n2 c2)) := (Sm.refl _ _).set _
    clear q0 q1 q2 q3 q4 f0 f1 f2 f3 f4
    try clear z0 z1 z2 z3 z4 y0 y1 y2 y3 y4
    try clear ck
    generalize hw7 : w6.setCell ⟨g4, 4, none⟩ (.slice A2 n2 c2) = w7 at hb47 hb27 hst7 hkb7 hsm7 ⊢
    clear hw7
    obtain ⟨q0, q1, q2, q3, q4⟩ := five hb47
    obtain ⟨f0, f1, f2, f3, f4⟩ := five_f hb47
    obtain ⟨z0, z1, z2, z3, z4⟩ := five hb27
    obtain ⟨y0, y1, y2, y3, y4⟩ := five_f hb27
    have ck := hst7.c1
    have HB4 := Lib.hid hb47
    have HB2 := Lib.hid hb27
    have HP := Lib.hid (And.intro hst7 hkb7)
    have HSm := Lib.hid hsm7
    have n1 := HG2.out.1
    have n2 := HG2.out.1.symm
    have n3 := HG4.out.1
    have n4 := HG4.out.1.symm
    have n5 := HG4.out.2.2
    have n6 := HG4.out.2.2.symm
    clear hb47 hb27 hst7 hkb7 hsm7
    go_wp2
    have hO := HO.out
    rw [ho'.out] at hO
    (try simp only [Option.map_none, Option.map_some] at hO)
    rw [hO]
    refine bodyPost_ret (results_ct rfl _ _ g2 32 _ (0, 0) _ rfl (fin_block HB2.out HG4.out.2.2) Tryd.underlying32 rfl (by kernel_rfl)) rfl ?_
    exact va_ok ⟨HG2.out.1, HG2.out.2.1⟩ HG4.out HLT.out.1 HLT.out.2.1 HLT.out.2.2 HP.out HREP.out HA6.out HSm.out
set_option maxRecDepth 100000 in
set_option maxHeartbeats 8000000 in

theorem rvalue_str {n : Nat} {l : List Int} {g k : Nat} {s : ByteArray} {w : World} (hI : RdI w g s k) (hA : At s k (34 :: l)) (hs : s.size ≤ 1000000000) (hn : 2 * ((34 :: l) : List Int).length + 1 < n + 1) :
    Calls Tryd.prog 13 #[.pointer (some ⟨g, 0, none⟩)] w (VR g s w (tval (n + 1) (34 :: l))) := by
  have HI := Lib.hid hI
  have HA := Lib.hid hA
  have HS9 := Lib.hid hs
  have HS := Lib.hid (show s.size ≤ 2147483647 by omega)
  have c1 := hI.c1
  have hne := World.new_ne w ⟨g, 1, none⟩ c1
  have hC := (fun wx (hI : RdI wx g s k) => rquoted (n := n) hI HA.out HS.out (by simp only [List.length_cons] at hn; omega))
  have HO := Lib.hid (show tval (n + 1) (34 :: l) = (str n l).map fun r => (.str (upto l r 1), r) from by simp [tval])
  clear hI hA hs hn
  cases ho : str n l with
  | none =>
    rw [ho] at hC
    have HC := Lib.hid hC
    have ho' := Lib.hid ho
    clear ho hC
    go_enter Tryd.func13, Tryd.ntmps13
    go_upto_region 23 with (first
      | ((with_reducible refine gate_dst (N := 2) rfl ?_); refine box_event ?hg (N := 2) ?hd (cs := #[.int .i64 0, .int .i64 0, .int .i64 0, .slice none 0 0, .slice none 0 0]) (t := 32) ?hr ?_; (case hd => rfl); (case hg => rfl); (case hr => first | (go_simp; done) | (go_simp; rfl)); intro g2 hg2 w2 hb2 hbel2; have hI2 := HI.out.of_block (hbel2.block g HI.out.lt); have c12 := hI2.c1; have hne2 := World.new_ne w2 ⟨g, 1, none⟩ c12; have HP := Lib.hid (And.intro hI2 (Kb.below (g := g) hbel2)); have HB2 := Lib.hid hb2; have HG2 := Lib.hid (show g2 ≠ g ∧ w.heap.size ≤ g2 ∧ g2 < w2.heap.size from ⟨by rw [hg2]; exact hne, by omega, blk_lt hb2⟩); clear hb2 hbel2 hg2 hI2)
      | (go_at_call 23; refine (rhere (st_alloc HP.out _).1 HA.out).mono ?_; rintro e w5 ⟨rfl, hp⟩; have hb4 := (hp.kb.block w2.heap.size (by show _ < (w2.heap.push _).size; simp) (fun e => hne2 e)).trans (blk_new w2 _); have hb5 := (hp.kb.block g2 (by have := HG2.out.2.2; show _ < (w2.heap.push _).size; simp; omega) HG2.out.1).trans (blk_alloc HB2.out _); replace HP := Lib.hid (And.intro hp.st ((st_alloc HP.out _).2.trans hp.kb)); have HG4 := Lib.hid (show w2.heap.size ≠ g ∧ w.heap.size ≤ w2.heap.size ∧ w2.heap.size ≠ g2 from ⟨hne2, by have := HG2.out; omega, by have := HG2.out; omega⟩); generalize w2.heap.size = g4 at *; obtain ⟨q0, q1, q2, q3, q4⟩ := five hb4; obtain ⟨f0, f1, f2, f3, f4⟩ := five_f hb4; have HB4 := Lib.hid hb4; replace HB2 := Lib.hid hb5; clear hp hb4 hb5 c12; simp only [hd0]; try exact ⟨rfl, ‹_›⟩)
      | (go_at_call 26; refine (HC.out _ (HP.out.1.set HG4.out.1 _)).mono ?_; rintro e w6 ⟨rfl, k6, hA6, hp⟩; have hst := hp.st; have hkb := hp.kb; have hb4 := (hkb.block g4 (blk_lt (blk_put HB4.out 0 (.int .i64 4) rfl)) HG4.out.1).trans (blk_put HB4.out 0 (.int .i64 4) rfl); have hb2 := (hkb.block g2 (blk_lt (blk_far HB2.out (p := ⟨g4, 0, none⟩) (fun e => HG4.out.2.2 e.symm) (.int .i64 4))) HG2.out.1).trans (blk_far HB2.out (p := ⟨g4, 0, none⟩) (fun e => HG4.out.2.2 e.symm) (.int .i64 4)); clear q0 q1 q2 q3 q4 f0 f1 f2 f3 f4; obtain ⟨q0, q1, q2, q3, q4⟩ := five hb4; obtain ⟨f0, f1, f2, f3, f4⟩ := five_f hb4; replace HP := Lib.hid (And.intro hst ((HP.out.2.set HG4.out.2.1 (.int .i64 4)).trans hkb)); replace HB4 := Lib.hid hb4; replace HB2 := Lib.hid hb2; clear hb4 hb2; clear hst hkb hp hA6; simp only [Option.isSome_none]; try exact ⟨rfl, ‹_›⟩))
    have hb47 : (w6).heap[g4]? = some (.cells #[.int .i64 4, .int .i64 k, .int .i64 0, nilS, nilS] 32 (0, 0)) := HB4.out
    have hb27 := HB2.out
    have hst7 := HP.out.1
    have hkb7 := HP.out.2
    have hsm7 : Sm g4 w6 (w6) := Sm.refl _ _
    clear q0 q1 q2 q3 q4 f0 f1 f2 f3 f4
    try clear z0 z1 z2 z3 z4 y0 y1 y2 y3 y4
    try clear ck
    obtain ⟨q0, q1, q2, q3, q4⟩ := five hb47
    obtain ⟨f0, f1, f2, f3, f4⟩ := five_f hb47
    obtain ⟨z0, z1, z2, z3, z4⟩ := five hb27
    obtain ⟨y0, y1, y2, y3, y4⟩ := five_f hb27
    have ck := hst7.c1
    have HB4 := Lib.hid hb47
    have HB2 := Lib.hid hb27
    have HP := Lib.hid (And.intro hst7 hkb7)
    have HSm := Lib.hid hsm7
    have n1 := HG2.out.1
    have n2 := HG2.out.1.symm
    have n3 := HG4.out.1
    have n4 := HG4.out.1.symm
    have n5 := HG4.out.2.2
    have n6 := HG4.out.2.2.symm
    clear hb47 hb27 hst7 hkb7 hsm7
    go_wp2
    have hO := HO.out
    rw [ho'.out] at hO
    (try simp only [Option.map_none, Option.map_some] at hO)
    rw [hO]
    refine bodyPost_ret (results_ct rfl _ _ g2 32 _ (0, 0) _ rfl (fin_block HB2.out HG4.out.2.2) Tryd.underlying32 rfl (by kernel_rfl)) rfl ?_
    exact va_no ⟨HG2.out.1, HG2.out.2.1⟩ HG4.out HP.out
  | some r =>
    rw [ho] at hC
    have HC := Lib.hid hC
    have ho' := Lib.hid ho
    clear ho hC
    go_enter Tryd.func13, Tryd.ntmps13
    go_upto_region 23 with (first
      | ((with_reducible refine gate_dst (N := 2) rfl ?_); refine box_event ?hg (N := 2) ?hd (cs := #[.int .i64 0, .int .i64 0, .int .i64 0, .slice none 0 0, .slice none 0 0]) (t := 32) ?hr ?_; (case hd => rfl); (case hg => rfl); (case hr => first | (go_simp; done) | (go_simp; rfl)); intro g2 hg2 w2 hb2 hbel2; have hI2 := HI.out.of_block (hbel2.block g HI.out.lt); have c12 := hI2.c1; have hne2 := World.new_ne w2 ⟨g, 1, none⟩ c12; have HP := Lib.hid (And.intro hI2 (Kb.below (g := g) hbel2)); have HB2 := Lib.hid hb2; have HG2 := Lib.hid (show g2 ≠ g ∧ w.heap.size ≤ g2 ∧ g2 < w2.heap.size from ⟨by rw [hg2]; exact hne, by omega, blk_lt hb2⟩); clear hb2 hbel2 hg2 hI2)
      | (go_at_call 23; refine (rhere (st_alloc HP.out _).1 HA.out).mono ?_; rintro e w5 ⟨rfl, hp⟩; have hb4 := (hp.kb.block w2.heap.size (by show _ < (w2.heap.push _).size; simp) (fun e => hne2 e)).trans (blk_new w2 _); have hb5 := (hp.kb.block g2 (by have := HG2.out.2.2; show _ < (w2.heap.push _).size; simp; omega) HG2.out.1).trans (blk_alloc HB2.out _); replace HP := Lib.hid (And.intro hp.st ((st_alloc HP.out _).2.trans hp.kb)); have HG4 := Lib.hid (show w2.heap.size ≠ g ∧ w.heap.size ≤ w2.heap.size ∧ w2.heap.size ≠ g2 from ⟨hne2, by have := HG2.out; omega, by have := HG2.out; omega⟩); generalize w2.heap.size = g4 at *; obtain ⟨q0, q1, q2, q3, q4⟩ := five hb4; obtain ⟨f0, f1, f2, f3, f4⟩ := five_f hb4; have HB4 := Lib.hid hb4; replace HB2 := Lib.hid hb5; clear hp hb4 hb5 c12; simp only [hd0]; try exact ⟨rfl, ‹_›⟩)
      | (go_at_call 26; refine (HC.out _ (HP.out.1.set HG4.out.1 _)).mono ?_; rintro e w6 ⟨rfl, k6, hA6, hp⟩; have hA7 := hA6 r rfl; have HREP := Lib.hid (show PRep w6 s (Btw (w5.setCell ⟨g4, 0, none⟩ (.int .i64 4)) w6) _ _ from PRep.str (b := k) (e := k6) (seg_of HA.out ho'.out hA7)); have HLT := Lib.hid (And.intro (blk_lt (blk_far HB2.out (p := ⟨g4, 0, none⟩) (fun e => HG4.out.2.2 e.symm) (.int .i64 4))) (And.intro (blk_lt (blk_put HB4.out 0 (.int .i64 4) rfl)) (HP.out.2.set (i := 0) HG4.out.2.1 (.int .i64 4)).size)); have HA6 := Lib.hid hA7; have hst := hp.st; have hkb := hp.kb; have hb4 := (hkb.block g4 (blk_lt (blk_put HB4.out 0 (.int .i64 4) rfl)) HG4.out.1).trans (blk_put HB4.out 0 (.int .i64 4) rfl); have hb2 := (hkb.block g2 (blk_lt (blk_far HB2.out (p := ⟨g4, 0, none⟩) (fun e => HG4.out.2.2 e.symm) (.int .i64 4))) HG2.out.1).trans (blk_far HB2.out (p := ⟨g4, 0, none⟩) (fun e => HG4.out.2.2 e.symm) (.int .i64 4)); clear q0 q1 q2 q3 q4 f0 f1 f2 f3 f4; obtain ⟨q0, q1, q2, q3, q4⟩ := five hb4; obtain ⟨f0, f1, f2, f3, f4⟩ := five_f hb4; replace HP := Lib.hid (And.intro hst ((HP.out.2.set HG4.out.2.1 (.int .i64 4)).trans hkb)); replace HB4 := Lib.hid hb4; replace HB2 := Lib.hid hb2; clear hb4 hb2; clear hst hkb hp hA6 hA7; simp only [Option.isSome_some]; try exact ⟨rfl, ‹_›⟩))
    have hb47 : (w6).heap[g4]? = some (.cells #[.int .i64 4, .int .i64 k, .int .i64 0, nilS, nilS] 32 (0, 0)) := HB4.out
    have hb27 := HB2.out
    have hst7 := HP.out.1
    have hkb7 := HP.out.2
    have hsm7 : Sm g4 w6 (w6) := Sm.refl _ _
    clear q0 q1 q2 q3 q4 f0 f1 f2 f3 f4
    try clear z0 z1 z2 z3 z4 y0 y1 y2 y3 y4
    try clear ck
    obtain ⟨q0, q1, q2, q3, q4⟩ := five hb47
    obtain ⟨f0, f1, f2, f3, f4⟩ := five_f hb47
    obtain ⟨z0, z1, z2, z3, z4⟩ := five hb27
    obtain ⟨y0, y1, y2, y3, y4⟩ := five_f hb27
    have ck := hst7.c1
    have HB4 := Lib.hid hb47
    have HB2 := Lib.hid hb27
    have HP := Lib.hid (And.intro hst7 hkb7)
    have HSm := Lib.hid hsm7
    have n1 := HG2.out.1
    have n2 := HG2.out.1.symm
    have n3 := HG4.out.1
    have n4 := HG4.out.1.symm
    have n5 := HG4.out.2.2
    have n6 := HG4.out.2.2.symm
    clear hb47 hb27 hst7 hkb7 hsm7
    go_wp2
    have hO := HO.out
    rw [ho'.out] at hO
    (try simp only [Option.map_none, Option.map_some] at hO)
    rw [hO]
    refine bodyPost_ret (results_ct rfl _ _ g2 32 _ (0, 0) _ rfl (fin_block HB2.out HG4.out.2.2) Tryd.underlying32 rfl (by kernel_rfl)) rfl ?_
    exact va_ok ⟨HG2.out.1, HG2.out.2.1⟩ HG4.out HLT.out.1 HLT.out.2.1 HLT.out.2.2 HP.out HREP.out HA6.out HSm.out
theorem seg_num {s : ByteArray} {k k' : Nat} {l l1 : List Int} (hA : At s k l) (hst : num l = some l1) (hA' : At s k' l1) : Seg s k k' (upto l l1 0) := by
  obtain ⟨d, h1, _, _⟩ := num_split hst
  have e1 := hA.len
  have e2 := hA'.len
  subst h1
  rw [upto_app]
  simp only [List.length_append] at e1
  refine ⟨by omega, hA'.1, ?_⟩
  rw [hA.2]
  exact List.take_left
set_option maxRecDepth 100000 in
set_option maxHeartbeats 8000000 in

theorem rvalue_num {n : Nat} {c : Int} {l : List Int} (hc : c = 45 ∨ isDig c = true) {g k : Nat} {s : ByteArray} {w : World} (hI : RdI w g s k) (hA : At s k (c :: l)) (hs : s.size ≤ 1000000000) (hn : 2 * ((c :: l) : List Int).length + 1 < n + 1) :
    Calls Tryd.prog 13 #[.pointer (some ⟨g, 0, none⟩)] w (VR g s w (tval (n + 1) (c :: l))) := by
  have HI := Lib.hid hI
  have HA := Lib.hid hA
  have HS9 := Lib.hid hs
  have HS := Lib.hid (show s.size ≤ 2147483647 by omega)
  have c1 := hI.c1
  have hne := World.new_ne w ⟨g, 1, none⟩ c1
  have hC := (fun wx (hI : RdI wx g s k) => rnumber hI HA.out HS.out)
  have HO := Lib.hid (show tval (n + 1) (c :: l) = (num (c :: l)).map fun r => (.num (upto (c :: l) r 0), r) from by have hh := hc; simp only [isDig, decide_eq_true_eq] at hh; simp only [tval]; rw [if_neg (by omega), if_neg (by omega), if_neg (by omega), if_pos hc])
  obtain ⟨n1, n2, n3⟩ : c ≠ 123 ∧ c ≠ 91 ∧ c ≠ 34 := by simp [isDig] at hc; omega
  have b1 : (c == 123) = false := beq_eq_false_iff_ne.mpr n1
  have b2 : (c == 91) = false := beq_eq_false_iff_ne.mpr n2
  have b3 : (c == 34) = false := beq_eq_false_iff_ne.mpr n3
  have hcc : (c == 45) = true ∨ ((c == 45) = false ∧ decide (48 ≤ c) = true ∧ decide (c ≤ 57) = true) := by
    by_cases h : c = 45
    · exact .inl (by simp [h])
    · have := isDig_le (hc.resolve_left h)
      exact .inr ⟨by simp [h], decide_eq_true this.1, decide_eq_true this.2⟩
  clear n1 n2 n3 hc
  clear hI hA hs hn
  cases ho : num (c :: l) with
  | none =>
    rw [ho] at hC
    have HC := Lib.hid hC
    have ho' := Lib.hid ho
    clear ho hC
    rcases hcc with h45 | ⟨h45, h48, h57⟩
    all_goals
      go_enter Tryd.func13, Tryd.ntmps13
      go_upto_region 23 with (first
        | ((with_reducible refine gate_dst (N := 2) rfl ?_); refine box_event ?hg (N := 2) ?hd (cs := #[.int .i64 0, .int .i64 0, .int .i64 0, .slice none 0 0, .slice none 0 0]) (t := 32) ?hr ?_; (case hd => rfl); (case hg => rfl); (case hr => first | (go_simp; done) | (go_simp; rfl)); intro g2 hg2 w2 hb2 hbel2; have hI2 := HI.out.of_block (hbel2.block g HI.out.lt); have c12 := hI2.c1; have hne2 := World.new_ne w2 ⟨g, 1, none⟩ c12; have HP := Lib.hid (And.intro hI2 (Kb.below (g := g) hbel2)); have HB2 := Lib.hid hb2; have HG2 := Lib.hid (show g2 ≠ g ∧ w.heap.size ≤ g2 ∧ g2 < w2.heap.size from ⟨by rw [hg2]; exact hne, by omega, blk_lt hb2⟩); clear hb2 hbel2 hg2 hI2)
        | (go_at_call 23; refine (rhere (st_alloc HP.out _).1 HA.out).mono ?_; rintro e w5 ⟨rfl, hp⟩; have hb4 := (hp.kb.block w2.heap.size (by show _ < (w2.heap.push _).size; simp) (fun e => hne2 e)).trans (blk_new w2 _); have hb5 := (hp.kb.block g2 (by have := HG2.out.2.2; show _ < (w2.heap.push _).size; simp; omega) HG2.out.1).trans (blk_alloc HB2.out _); replace HP := Lib.hid (And.intro hp.st ((st_alloc HP.out _).2.trans hp.kb)); have HG4 := Lib.hid (show w2.heap.size ≠ g ∧ w.heap.size ≤ w2.heap.size ∧ w2.heap.size ≠ g2 from ⟨hne2, by have := HG2.out; omega, by have := HG2.out; omega⟩); generalize w2.heap.size = g4 at *; obtain ⟨q0, q1, q2, q3, q4⟩ := five hb4; obtain ⟨f0, f1, f2, f3, f4⟩ := five_f hb4; have HB4 := Lib.hid hb4; replace HB2 := Lib.hid hb5; clear hp hb4 hb5 c12; simp only [hd0]; try exact ⟨rfl, ‹_›⟩)
        | (go_at_call 27; refine (HC.out _ (HP.out.1.set HG4.out.1 _)).mono ?_; rintro e w6 ⟨rfl, k6, hA6, hp⟩; have hst := hp.st; have hkb := hp.kb; have hb4 := (hkb.block g4 (blk_lt (blk_put HB4.out 0 (.int .i64 3) rfl)) HG4.out.1).trans (blk_put HB4.out 0 (.int .i64 3) rfl); have hb2 := (hkb.block g2 (blk_lt (blk_far HB2.out (p := ⟨g4, 0, none⟩) (fun e => HG4.out.2.2 e.symm) (.int .i64 3))) HG2.out.1).trans (blk_far HB2.out (p := ⟨g4, 0, none⟩) (fun e => HG4.out.2.2 e.symm) (.int .i64 3)); clear q0 q1 q2 q3 q4 f0 f1 f2 f3 f4; obtain ⟨q0, q1, q2, q3, q4⟩ := five hb4; obtain ⟨f0, f1, f2, f3, f4⟩ := five_f hb4; replace HP := Lib.hid (And.intro hst ((HP.out.2.set HG4.out.2.1 (.int .i64 3)).trans hkb)); replace HB4 := Lib.hid hb4; replace HB2 := Lib.hid hb2; clear hb4 hb2; clear hst hkb hp hA6; simp only [Option.isSome_none]; try exact ⟨rfl, ‹_›⟩))
      have hb47 : (w6).heap[g4]? = some (.cells #[.int .i64 3, .int .i64 k, .int .i64 0, nilS, nilS] 32 (0, 0)) := HB4.out
      have hb27 := HB2.out
      have hst7 := HP.out.1
      have hkb7 := HP.out.2
      have hsm7 : Sm g4 w6 (w6) := Sm.refl _ _
      clear q0 q1 q2 q3 q4 f0 f1 f2 f3 f4
      try clear z0 z1 z2 z3 z4 y0 y1 y2 y3 y4
      try clear ck
      obtain ⟨q0, q1, q2, q3, q4⟩ := five hb47
      obtain ⟨f0, f1, f2, f3, f4⟩ := five_f hb47
      obtain ⟨z0, z1, z2, z3, z4⟩ := five hb27
      obtain ⟨y0, y1, y2, y3, y4⟩ := five_f hb27
      have ck := hst7.c1
      have HB4 := Lib.hid hb47
      have HB2 := Lib.hid hb27
      have HP := Lib.hid (And.intro hst7 hkb7)
      have HSm := Lib.hid hsm7
      have n1 := HG2.out.1
      have n2 := HG2.out.1.symm
      have n3 := HG4.out.1
      have n4 := HG4.out.1.symm
      have n5 := HG4.out.2.2
      have n6 := HG4.out.2.2.symm
      clear hb47 hb27 hst7 hkb7 hsm7
      go_wp2
      have hO := HO.out
      rw [ho'.out] at hO
      (try simp only [Option.map_none, Option.map_some] at hO)
      rw [hO]
      refine bodyPost_ret (results_ct rfl _ _ g2 32 _ (0, 0) _ rfl (fin_block HB2.out HG4.out.2.2) Tryd.underlying32 rfl (by kernel_rfl)) rfl ?_
      exact va_no ⟨HG2.out.1, HG2.out.2.1⟩ HG4.out HP.out
  | some r =>
    rw [ho] at hC
    have HC := Lib.hid hC
    have ho' := Lib.hid ho
    clear ho hC
    rcases hcc with h45 | ⟨h45, h48, h57⟩
    all_goals
      go_enter Tryd.func13, Tryd.ntmps13
      go_upto_region 23 with (first
        | ((with_reducible refine gate_dst (N := 2) rfl ?_); refine box_event ?hg (N := 2) ?hd (cs := #[.int .i64 0, .int .i64 0, .int .i64 0, .slice none 0 0, .slice none 0 0]) (t := 32) ?hr ?_; (case hd => rfl); (case hg => rfl); (case hr => first | (go_simp; done) | (go_simp; rfl)); intro g2 hg2 w2 hb2 hbel2; have hI2 := HI.out.of_block (hbel2.block g HI.out.lt); have c12 := hI2.c1; have hne2 := World.new_ne w2 ⟨g, 1, none⟩ c12; have HP := Lib.hid (And.intro hI2 (Kb.below (g := g) hbel2)); have HB2 := Lib.hid hb2; have HG2 := Lib.hid (show g2 ≠ g ∧ w.heap.size ≤ g2 ∧ g2 < w2.heap.size from ⟨by rw [hg2]; exact hne, by omega, blk_lt hb2⟩); clear hb2 hbel2 hg2 hI2)
        | (go_at_call 23; refine (rhere (st_alloc HP.out _).1 HA.out).mono ?_; rintro e w5 ⟨rfl, hp⟩; have hb4 := (hp.kb.block w2.heap.size (by show _ < (w2.heap.push _).size; simp) (fun e => hne2 e)).trans (blk_new w2 _); have hb5 := (hp.kb.block g2 (by have := HG2.out.2.2; show _ < (w2.heap.push _).size; simp; omega) HG2.out.1).trans (blk_alloc HB2.out _); replace HP := Lib.hid (And.intro hp.st ((st_alloc HP.out _).2.trans hp.kb)); have HG4 := Lib.hid (show w2.heap.size ≠ g ∧ w.heap.size ≤ w2.heap.size ∧ w2.heap.size ≠ g2 from ⟨hne2, by have := HG2.out; omega, by have := HG2.out; omega⟩); generalize w2.heap.size = g4 at *; obtain ⟨q0, q1, q2, q3, q4⟩ := five hb4; obtain ⟨f0, f1, f2, f3, f4⟩ := five_f hb4; have HB4 := Lib.hid hb4; replace HB2 := Lib.hid hb5; clear hp hb4 hb5 c12; simp only [hd0]; try exact ⟨rfl, ‹_›⟩)
        | (go_at_call 27; refine (HC.out _ (HP.out.1.set HG4.out.1 _)).mono ?_; rintro e w6 ⟨rfl, k6, hA6, hp⟩; have hA7 := hA6 r rfl; have HREP := Lib.hid (show PRep w6 s (Btw (w5.setCell ⟨g4, 0, none⟩ (.int .i64 3)) w6) _ _ from PRep.num (b := k) (e := k6) (seg_num HA.out ho'.out hA7)); have HLT := Lib.hid (And.intro (blk_lt (blk_far HB2.out (p := ⟨g4, 0, none⟩) (fun e => HG4.out.2.2 e.symm) (.int .i64 3))) (And.intro (blk_lt (blk_put HB4.out 0 (.int .i64 3) rfl)) (HP.out.2.set (i := 0) HG4.out.2.1 (.int .i64 3)).size)); have HA6 := Lib.hid hA7; have hst := hp.st; have hkb := hp.kb; have hb4 := (hkb.block g4 (blk_lt (blk_put HB4.out 0 (.int .i64 3) rfl)) HG4.out.1).trans (blk_put HB4.out 0 (.int .i64 3) rfl); have hb2 := (hkb.block g2 (blk_lt (blk_far HB2.out (p := ⟨g4, 0, none⟩) (fun e => HG4.out.2.2 e.symm) (.int .i64 3))) HG2.out.1).trans (blk_far HB2.out (p := ⟨g4, 0, none⟩) (fun e => HG4.out.2.2 e.symm) (.int .i64 3)); clear q0 q1 q2 q3 q4 f0 f1 f2 f3 f4; obtain ⟨q0, q1, q2, q3, q4⟩ := five hb4; obtain ⟨f0, f1, f2, f3, f4⟩ := five_f hb4; replace HP := Lib.hid (And.intro hst ((HP.out.2.set HG4.out.2.1 (.int .i64 3)).trans hkb)); replace HB4 := Lib.hid hb4; replace HB2 := Lib.hid hb2; clear hb4 hb2; clear hst hkb hp hA6 hA7; simp only [Option.isSome_some]; try exact ⟨rfl, ‹_›⟩))
      have hb47 : (w6).heap[g4]? = some (.cells #[.int .i64 3, .int .i64 k, .int .i64 0, nilS, nilS] 32 (0, 0)) := HB4.out
      have hb27 := HB2.out
      have hst7 := HP.out.1
      have hkb7 := HP.out.2
      have hsm7 : Sm g4 w6 (w6) := Sm.refl _ _
      clear q0 q1 q2 q3 q4 f0 f1 f2 f3 f4
      try clear z0 z1 z2 z3 z4 y0 y1 y2 y3 y4
      try clear ck
      obtain ⟨q0, q1, q2, q3, q4⟩ := five hb47
      obtain ⟨f0, f1, f2, f3, f4⟩ := five_f hb47
      obtain ⟨z0, z1, z2, z3, z4⟩ := five hb27
      obtain ⟨y0, y1, y2, y3, y4⟩ := five_f hb27
      have ck := hst7.c1
      have HB4 := Lib.hid hb47
      have HB2 := Lib.hid hb27
      have HP := Lib.hid (And.intro hst7 hkb7)
      have HSm := Lib.hid hsm7
      have n1 := HG2.out.1
      have n2 := HG2.out.1.symm
      have n3 := HG4.out.1
      have n4 := HG4.out.1.symm
      have n5 := HG4.out.2.2
      have n6 := HG4.out.2.2.symm
      clear hb47 hb27 hst7 hkb7 hsm7
      go_wp2
      have hO := HO.out
      rw [ho'.out] at hO
      (try simp only [Option.map_none, Option.map_some] at hO)
      rw [hO]
      refine bodyPost_ret (results_ct rfl _ _ g2 32 _ (0, 0) _ rfl (fin_block HB2.out HG4.out.2.2) Tryd.underlying32 rfl (by kernel_rfl)) rfl ?_
      exact va_ok ⟨HG2.out.1, HG2.out.2.1⟩ HG4.out HLT.out.1 HLT.out.2.1 HLT.out.2.2 HP.out HREP.out HA6.out HSm.out

/-- A word is gone over if it stands first. -/
def wk (wd : ByteArray) (l : List Int) : Bool × List Int := if l.take wd.size = bytesOf wd then (true, l.drop wd.size) else (false, l)
theorem rwk {wd : ByteArray} {l : List Int} {g k : Nat} {s : ByteArray} {w : World} (hI : RdI w g s k) (hA : At s k l) (hs : s.size ≤ 2147483647) (hwd : wd.size ≤ 100) :
    Calls Tryd.prog 28 #[.pointer (some ⟨g, 0, none⟩), .string wd] w (fun e w' => ∃ b l', wk wd l = (b, l') ∧ (b = false → l' = l) ∧ e = .returned (.bool b) ∧ ∃ k', At s k' l' ∧ RdP g s k' w w') := by
  refine (rword hI hA hs hwd).mono ?_
  rintro e w' ⟨b, hb, rfl, ht, hf⟩
  cases b with
  | true =>
    obtain ⟨k', hA', hp⟩ := ht rfl
    exact ⟨true, _, by unfold wk; rw [if_pos (hb.1 rfl)], (fun h => by cases h), rfl, k', hA', hp⟩
  | false => exact ⟨false, _, by unfold wk; rw [if_neg (fun h => by have := hb.2 h; cases this)], fun _ => rfl, rfl, k, hA, hf rfl⟩
/-- The words, tried in turn. -/
def words (l : List Int) : Option (JT × List Int) := if l.take 4 = [110, 117, 108, 108] then some (.lit 0, l.drop 4) else if l.take 5 = [102, 97, 108, 115, 101] then some (.lit 6, l.drop 5) else if l.take 4 = [116, 114, 117, 101] then some (.lit 5, l.drop 4) else none
theorem take_word {c w0 : Int} {t w : List Int} : ((c :: t).take (w.length + 1) = w0 :: w) ↔ (c = w0 ∧ t.take w.length = w) := by
  rw [List.take_succ_cons]
  constructor
  · intro h; injection h with h1 h2; exact ⟨h1, h2⟩
  · rintro ⟨rfl, h⟩; rw [h]
theorem words_1 {l r : List Int} (h : wk ⟨#[110, 117, 108, 108]⟩ l = (true, r)) : words l = some (.lit 0, r) := by
  unfold wk at h
  split at h
  · rename_i hl
    injection h with _ h
    subst h
    unfold words
    rw [if_pos (show l.take 4 = [110, 117, 108, 108] from hl)]; rfl
  · cases h
theorem words_n1 {l r : List Int} (h : wk ⟨#[110, 117, 108, 108]⟩ l = (false, r)) : ¬ l.take 4 = [110, 117, 108, 108] := by
  unfold wk at h
  split at h
  · cases h
  · assumption
theorem words_n2 {l r : List Int} (h : wk ⟨#[102, 97, 108, 115, 101]⟩ l = (false, r)) : ¬ l.take 5 = [102, 97, 108, 115, 101] := by
  unfold wk at h
  split at h
  · cases h
  · assumption
theorem words_n3 {l r : List Int} (h : wk ⟨#[116, 114, 117, 101]⟩ l = (false, r)) : ¬ l.take 4 = [116, 114, 117, 101] := by
  unfold wk at h
  split at h
  · cases h
  · assumption
theorem words_2 {l r r1 : List Int} (h1 : wk ⟨#[110, 117, 108, 108]⟩ l = (false, r1)) (h : wk ⟨#[102, 97, 108, 115, 101]⟩ l = (true, r)) : words l = some (.lit 6, r) := by
  have n1 := words_n1 h1
  unfold wk at h
  split at h
  · rename_i hl
    injection h with _ h
    subst h
    unfold words
    rw [if_neg n1, if_pos (show l.take 5 = [102, 97, 108, 115, 101] from hl)]; rfl
  · cases h
theorem words_3 {l r r1 r2 : List Int} (h1 : wk ⟨#[110, 117, 108, 108]⟩ l = (false, r1)) (h2 : wk ⟨#[102, 97, 108, 115, 101]⟩ l = (false, r2)) (h : wk ⟨#[116, 114, 117, 101]⟩ l = (true, r)) : words l = some (.lit 5, r) := by
  have n1 := words_n1 h1
  have n2 := words_n2 h2
  unfold wk at h
  split at h
  · rename_i hl
    injection h with _ h
    subst h
    unfold words
    rw [if_neg n1, if_neg n2, if_pos (show l.take 4 = [116, 114, 117, 101] from hl)]; rfl
  · cases h
theorem words_0 {l r1 r2 r3 : List Int} (h1 : wk ⟨#[110, 117, 108, 108]⟩ l = (false, r1)) (h2 : wk ⟨#[102, 97, 108, 115, 101]⟩ l = (false, r2)) (h3 : wk ⟨#[116, 114, 117, 101]⟩ l = (false, r3)) : words l = none := by
  unfold words
  rw [if_neg (words_n1 h1), if_neg (words_n2 h2), if_neg (words_n3 h3)]
theorem tval_words {n : Nat} {l : List Int} (h1 : hd0 l ≠ 123) (h2 : hd0 l ≠ 91) (h3 : hd0 l ≠ 34) (h4 : ¬ (hd0 l = 45 ∨ isDig (hd0 l) = true)) : tval (n + 1) l = words l := by
  cases l with
  | nil => simp [tval, words]
  | cons c t =>
    simp only [hd0] at h1 h2 h3 h4
    simp only [tval]
    rw [if_neg h1, if_neg h2, if_neg h3, if_neg h4]
    have e1 : ((c :: t).take 4 = [110, 117, 108, 108]) ↔ (c = 110 ∧ t.take 3 = [117, 108, 108]) := take_word (w := [117, 108, 108])
    have e2 : ((c :: t).take 5 = [102, 97, 108, 115, 101]) ↔ (c = 102 ∧ t.take 4 = [97, 108, 115, 101]) := take_word (w := [97, 108, 115, 101])
    have e3 : ((c :: t).take 4 = [116, 114, 117, 101]) ↔ (c = 116 ∧ t.take 3 = [114, 117, 101]) := take_word (w := [114, 117, 101])
    unfold words
    simp only [e1, e2, e3, word]
    by_cases c1 : c = 116
    · subst c1
      simp
    · by_cases c2 : c = 102
      · subst c2
        simp
      · by_cases c3 : c = 110
        · subst c3
          simp
        · simp [c1, c2, c3]
set_option maxRecDepth 100000 in
set_option maxHeartbeats 8000000 in
theorem rvalue_word {n : Nat} {l : List Int} {g k : Nat} {s : ByteArray} {w : World} (hI : RdI w g s k) (hA : At s k l) (hs : s.size ≤ 1000000000) (h1 : hd0 l ≠ 123) (h2 : hd0 l ≠ 91) (h3 : hd0 l ≠ 34) (h4 : ¬ (hd0 l = 45 ∨ isDig (hd0 l) = true)) :
    Calls Tryd.prog 13 #[.pointer (some ⟨g, 0, none⟩)] w (VR g s w (tval (n + 1) l)) := by
  have HI := Lib.hid hI
  have HA := Lib.hid hA
  have HS9 := Lib.hid hs
  have HS := Lib.hid (show s.size ≤ 2147483647 by omega)
  have c1 := hI.c1
  have hne := World.new_ne w ⟨g, 1, none⟩ c1
  rw [tval_words h1 h2 h3 h4]
  obtain ⟨c, hc⟩ : ∃ c, c = hd0 l := ⟨_, rfl⟩
  rw [← hc] at h1 h2 h3 h4
  have b1 : (c == 123) = false := beq_eq_false_iff_ne.mpr h1
  have b2 : (c == 91) = false := beq_eq_false_iff_ne.mpr h2
  have b3 : (c == 34) = false := beq_eq_false_iff_ne.mpr h3
  have b4 : (c == 45) = false := beq_eq_false_iff_ne.mpr (fun e => h4 (.inl e))
  have hdg : (decide (48 ≤ c) = true ∧ decide (c ≤ 57) = false) ∨ decide (48 ≤ c) = false := by
    by_cases h : 48 ≤ c
    · exact .inl ⟨decide_eq_true h, decide_eq_false (fun h' => h4 (.inr (by simp [isDig, h, h'])))⟩
    · exact .inr (decide_eq_false h)
  have HCC := Lib.hid hc
  clear hI hA hs h1 h2 h3 h4 hc
  rcases hdg with ⟨d1, d2⟩ | d1
  · go_enter Tryd.func13, Tryd.ntmps13
    go_upto_region 23 with (first
      | ((with_reducible refine gate_dst (N := 2) rfl ?_); refine box_event ?hg (N := 2) ?hd (cs := #[.int .i64 0, .int .i64 0, .int .i64 0, .slice none 0 0, .slice none 0 0]) (t := 32) ?hr ?_; (case hd => rfl); (case hg => rfl); (case hr => first | (go_simp; done) | (go_simp; rfl)); intro g2 hg2 w2 hb2 hbel2; have hI2 := HI.out.of_block (hbel2.block g HI.out.lt); have c12 := hI2.c1; have hne2 := World.new_ne w2 ⟨g, 1, none⟩ c12; have HP := Lib.hid (And.intro hI2 (Kb.below (g := g) hbel2)); have HB2 := Lib.hid hb2; have HG2 := Lib.hid (show g2 ≠ g ∧ w.heap.size ≤ g2 ∧ g2 < w2.heap.size from ⟨by rw [hg2]; exact hne, by omega, blk_lt hb2⟩); clear hb2 hbel2 hg2 hI2)
      | (go_at_call 23; refine (rhere (st_alloc HP.out _).1 HA.out).mono ?_; rintro e w5 ⟨rfl, hp⟩; have hb4 := (hp.kb.block w2.heap.size (by show _ < (w2.heap.push _).size; simp) (fun e => hne2 e)).trans (blk_new w2 _); have hb5 := (hp.kb.block g2 (by have := HG2.out.2.2; show _ < (w2.heap.push _).size; simp; omega) HG2.out.1).trans (blk_alloc HB2.out _); replace HP := Lib.hid (And.intro hp.st ((st_alloc HP.out _).2.trans hp.kb)); have HG4 := Lib.hid (show w2.heap.size ≠ g ∧ w.heap.size ≤ w2.heap.size ∧ w2.heap.size ≠ g2 from ⟨hne2, by have := HG2.out; omega, by have := HG2.out; omega⟩); generalize w2.heap.size = g4 at *; obtain ⟨q0, q1, q2, q3, q4⟩ := five hb4; obtain ⟨f0, f1, f2, f3, f4⟩ := five_f hb4; have HB4 := Lib.hid hb4; replace HB2 := Lib.hid hb5; clear hp hb4 hb5 c12; rw [← HCC.out]; try exact ⟨rfl, ‹_›⟩)
      | (go_at_call 28; with_reducible refine (rwk (wd := (⟨#[110, 117, 108, 108]⟩ : ByteArray)) HP.out.1 HA.out HS.out (by decide)).mono ?_; rintro e w6 ⟨b, l1, hb1, hf, rfl, k1, hA6, hp⟩; have hst := hp.st; have hkb := hp.kb; have hb4 := (hkb.block g4 (blk_lt HB4.out) HG4.out.1).trans HB4.out; have hb2 := (hkb.block g2 (blk_lt HB2.out) HG2.out.1).trans HB2.out; clear q0 q1 q2 q3 q4 f0 f1 f2 f3 f4; obtain ⟨q0, q1, q2, q3, q4⟩ := five hb4; obtain ⟨f0, f1, f2, f3, f4⟩ := five_f hb4; replace HP := Lib.hid (And.intro hst (HP.out.2.trans hkb)); replace HB4 := Lib.hid hb4; replace HB2 := Lib.hid hb2; clear hb4 hb2; replace HA := Lib.hid hA6; clear hst hkb hp hA6; cases b <;> (try obtain rfl := hf rfl) <;> (try clear hf) <;> (try exact ⟨rfl, ‹_›⟩))
      | (go_at_call 28; with_reducible refine (rwk (wd := (⟨#[102, 97, 108, 115, 101]⟩ : ByteArray)) HP.out.1 HA.out HS.out (by decide)).mono ?_; rintro e w6 ⟨b, l2, hb2, hf, rfl, k2, hA6, hp⟩; have hst := hp.st; have hkb := hp.kb; have hb4 := (hkb.block g4 (blk_lt HB4.out) HG4.out.1).trans HB4.out; have hb2 := (hkb.block g2 (blk_lt HB2.out) HG2.out.1).trans HB2.out; clear q0 q1 q2 q3 q4 f0 f1 f2 f3 f4; obtain ⟨q0, q1, q2, q3, q4⟩ := five hb4; obtain ⟨f0, f1, f2, f3, f4⟩ := five_f hb4; replace HP := Lib.hid (And.intro hst (HP.out.2.trans hkb)); replace HB4 := Lib.hid hb4; replace HB2 := Lib.hid hb2; clear hb4 hb2; replace HA := Lib.hid hA6; clear hst hkb hp hA6; cases b <;> (try obtain rfl := hf rfl) <;> (try clear hf) <;> (try exact ⟨rfl, ‹_›⟩))
      | (go_at_call 28; with_reducible refine (rwk (wd := (⟨#[116, 114, 117, 101]⟩ : ByteArray)) HP.out.1 HA.out HS.out (by decide)).mono ?_; rintro e w6 ⟨b, l3, hb3, hf, rfl, k3, hA6, hp⟩; have hst := hp.st; have hkb := hp.kb; have hb4 := (hkb.block g4 (blk_lt HB4.out) HG4.out.1).trans HB4.out; have hb2 := (hkb.block g2 (blk_lt HB2.out) HG2.out.1).trans HB2.out; clear q0 q1 q2 q3 q4 f0 f1 f2 f3 f4; obtain ⟨q0, q1, q2, q3, q4⟩ := five hb4; obtain ⟨f0, f1, f2, f3, f4⟩ := five_f hb4; replace HP := Lib.hid (And.intro hst (HP.out.2.trans hkb)); replace HB4 := Lib.hid hb4; replace HB2 := Lib.hid hb2; clear hb4 hb2; replace HA := Lib.hid hA6; clear hst hkb hp hA6; cases b <;> (try obtain rfl := hf rfl) <;> (try clear hf) <;> (try exact ⟨rfl, ‹_›⟩)))
    · have hb47 : (w6).heap[g4]? = some (.cells #[.int .i64 0, .int .i64 k, .int .i64 0, nilS, nilS] 32 (0, 0)) := HB4.out
      have hb27 := HB2.out
      have hst7 := HP.out.1
      have hkb7 := HP.out.2
      have hsm7 : Sm g4 w6 (w6) := Sm.refl _ _
      clear q0 q1 q2 q3 q4 f0 f1 f2 f3 f4
      try clear z0 z1 z2 z3 z4 y0 y1 y2 y3 y4
      try clear ck
      obtain ⟨q0, q1, q2, q3, q4⟩ := five hb47
      obtain ⟨f0, f1, f2, f3, f4⟩ := five_f hb47
      obtain ⟨z0, z1, z2, z3, z4⟩ := five hb27
      obtain ⟨y0, y1, y2, y3, y4⟩ := five_f hb27
      have ck := hst7.c1
      have HB4 := Lib.hid hb47
      have HB2 := Lib.hid hb27
      have HP := Lib.hid (And.intro hst7 hkb7)
      have HSm := Lib.hid hsm7
      have n1 := HG2.out.1
      have n2 := HG2.out.1.symm
      have n3 := HG4.out.1
      have n4 := HG4.out.1.symm
      have n5 := HG4.out.2.2
      have n6 := HG4.out.2.2.symm
      clear hb47 hb27 hst7 hkb7 hsm7
      go_wp2
      rw [words_0 hb1 hb2 hb3]
      refine bodyPost_ret (results_ct rfl _ _ g2 32 _ (0, 0) _ rfl (fin_block HB2.out HG4.out.2.2) Tryd.underlying32 rfl (by kernel_rfl)) rfl ?_
      exact va_no ⟨HG2.out.1, HG2.out.2.1⟩ HG4.out HP.out
    · have HLT := Lib.hid (And.intro (blk_lt HB2.out) (And.intro (blk_lt HB4.out) HP.out.2.size))
      have hb47 : (w6.setCell ⟨g4, 0, none⟩ (.int .i64 2)).heap[g4]? = some (.cells #[.int .i64 2, .int .i64 k, .int .i64 0, nilS, nilS] 32 (0, 0)) := blk_put HB4.out 0 (.int .i64 2) rfl
      have hb27 := blk_far HB2.out (p := ⟨g4, 0, none⟩) (fun e => HG4.out.2.2 e.symm) (.int .i64 2)
      have hst7 := HP.out.1.set (i := 0) HG4.out.1 (.int .i64 2)
      have hkb7 := HP.out.2.set (i := 0) HG4.out.2.1 (.int .i64 2)
      have hsm7 : Sm g4 w6 (w6.setCell ⟨g4, 0, none⟩ (.int .i64 2)) := (Sm.refl _ _).set _
      clear q0 q1 q2 q3 q4 f0 f1 f2 f3 f4
      try clear z0 z1 z2 z3 z4 y0 y1 y2 y3 y4
      try clear ck
      generalize hw7 : w6.setCell ⟨g4, 0, none⟩ (.int .i64 2) = w7 at hb47 hb27 hst7 hkb7 hsm7 ⊢
      clear hw7
      obtain ⟨q0, q1, q2, q3, q4⟩ := five hb47
      obtain ⟨f0, f1, f2, f3, f4⟩ := five_f hb47
      obtain ⟨z0, z1, z2, z3, z4⟩ := five hb27
      obtain ⟨y0, y1, y2, y3, y4⟩ := five_f hb27
      have ck := hst7.c1
      have HB4 := Lib.hid hb47
      have HB2 := Lib.hid hb27
      have HP := Lib.hid (And.intro hst7 hkb7)
      have HSm := Lib.hid hsm7
      have n1 := HG2.out.1
      have n2 := HG2.out.1.symm
      have n3 := HG4.out.1
      have n4 := HG4.out.1.symm
      have n5 := HG4.out.2.2
      have n6 := HG4.out.2.2.symm
      clear hb47 hb27 hst7 hkb7 hsm7
      go_wp2
      rw [words_3 hb1 hb2 hb3]
      refine bodyPost_ret (results_ct rfl _ _ g2 32 _ (0, 0) _ rfl (fin_block HB2.out HG4.out.2.2) Tryd.underlying32 rfl (by kernel_rfl)) rfl ?_
      exact va_ok (ws := w6) ⟨HG2.out.1, HG2.out.2.1⟩ HG4.out HLT.out.1 HLT.out.2.1 HLT.out.2.2 HP.out (.lit (by simp)) HA.out HSm.out
    · have HLT := Lib.hid (And.intro (blk_lt HB2.out) (And.intro (blk_lt HB4.out) HP.out.2.size))
      have hb47 : (w6.setCell ⟨g4, 0, none⟩ (.int .i64 1)).heap[g4]? = some (.cells #[.int .i64 1, .int .i64 k, .int .i64 0, nilS, nilS] 32 (0, 0)) := blk_put HB4.out 0 (.int .i64 1) rfl
      have hb27 := blk_far HB2.out (p := ⟨g4, 0, none⟩) (fun e => HG4.out.2.2 e.symm) (.int .i64 1)
      have hst7 := HP.out.1.set (i := 0) HG4.out.1 (.int .i64 1)
      have hkb7 := HP.out.2.set (i := 0) HG4.out.2.1 (.int .i64 1)
      have hsm7 : Sm g4 w6 (w6.setCell ⟨g4, 0, none⟩ (.int .i64 1)) := (Sm.refl _ _).set _
      clear q0 q1 q2 q3 q4 f0 f1 f2 f3 f4
      try clear z0 z1 z2 z3 z4 y0 y1 y2 y3 y4
      try clear ck
      generalize hw7 : w6.setCell ⟨g4, 0, none⟩ (.int .i64 1) = w7 at hb47 hb27 hst7 hkb7 hsm7 ⊢
      clear hw7
      obtain ⟨q0, q1, q2, q3, q4⟩ := five hb47
      obtain ⟨f0, f1, f2, f3, f4⟩ := five_f hb47
      obtain ⟨z0, z1, z2, z3, z4⟩ := five hb27
      obtain ⟨y0, y1, y2, y3, y4⟩ := five_f hb27
      have ck := hst7.c1
      have HB4 := Lib.hid hb47
      have HB2 := Lib.hid hb27
      have HP := Lib.hid (And.intro hst7 hkb7)
      have HSm := Lib.hid hsm7
      have n1 := HG2.out.1
      have n2 := HG2.out.1.symm
      have n3 := HG4.out.1
      have n4 := HG4.out.1.symm
      have n5 := HG4.out.2.2
      have n6 := HG4.out.2.2.symm
      clear hb47 hb27 hst7 hkb7 hsm7
      go_wp2
      rw [words_2 hb1 hb2]
      refine bodyPost_ret (results_ct rfl _ _ g2 32 _ (0, 0) _ rfl (fin_block HB2.out HG4.out.2.2) Tryd.underlying32 rfl (by kernel_rfl)) rfl ?_
      exact va_ok (ws := w6) ⟨HG2.out.1, HG2.out.2.1⟩ HG4.out HLT.out.1 HLT.out.2.1 HLT.out.2.2 HP.out (.lit (by simp)) HA.out HSm.out
    · have HLT := Lib.hid (And.intro (blk_lt HB2.out) (And.intro (blk_lt HB4.out) HP.out.2.size))
      have hb47 : (w6.setCell ⟨g4, 0, none⟩ (.int .i64 0)).heap[g4]? = some (.cells #[.int .i64 0, .int .i64 k, .int .i64 0, nilS, nilS] 32 (0, 0)) := blk_put HB4.out 0 (.int .i64 0) rfl
      have hb27 := blk_far HB2.out (p := ⟨g4, 0, none⟩) (fun e => HG4.out.2.2 e.symm) (.int .i64 0)
      have hst7 := HP.out.1.set (i := 0) HG4.out.1 (.int .i64 0)
      have hkb7 := HP.out.2.set (i := 0) HG4.out.2.1 (.int .i64 0)
      have hsm7 : Sm g4 w6 (w6.setCell ⟨g4, 0, none⟩ (.int .i64 0)) := (Sm.refl _ _).set _
      clear q0 q1 q2 q3 q4 f0 f1 f2 f3 f4
      try clear z0 z1 z2 z3 z4 y0 y1 y2 y3 y4
      try clear ck
      generalize hw7 : w6.setCell ⟨g4, 0, none⟩ (.int .i64 0) = w7 at hb47 hb27 hst7 hkb7 hsm7 ⊢
      clear hw7
      obtain ⟨q0, q1, q2, q3, q4⟩ := five hb47
      obtain ⟨f0, f1, f2, f3, f4⟩ := five_f hb47
      obtain ⟨z0, z1, z2, z3, z4⟩ := five hb27
      obtain ⟨y0, y1, y2, y3, y4⟩ := five_f hb27
      have ck := hst7.c1
      have HB4 := Lib.hid hb47
      have HB2 := Lib.hid hb27
      have HP := Lib.hid (And.intro hst7 hkb7)
      have HSm := Lib.hid hsm7
      have n1 := HG2.out.1
      have n2 := HG2.out.1.symm
      have n3 := HG4.out.1
      have n4 := HG4.out.1.symm
      have n5 := HG4.out.2.2
      have n6 := HG4.out.2.2.symm
      clear hb47 hb27 hst7 hkb7 hsm7
      go_wp2
      rw [words_1 hb1]
      refine bodyPost_ret (results_ct rfl _ _ g2 32 _ (0, 0) _ rfl (fin_block HB2.out HG4.out.2.2) Tryd.underlying32 rfl (by kernel_rfl)) rfl ?_
      exact va_ok (ws := w6) ⟨HG2.out.1, HG2.out.2.1⟩ HG4.out HLT.out.1 HLT.out.2.1 HLT.out.2.2 HP.out (.lit (by simp)) HA.out HSm.out
  · go_enter Tryd.func13, Tryd.ntmps13
    go_upto_region 23 with (first
      | ((with_reducible refine gate_dst (N := 2) rfl ?_); refine box_event ?hg (N := 2) ?hd (cs := #[.int .i64 0, .int .i64 0, .int .i64 0, .slice none 0 0, .slice none 0 0]) (t := 32) ?hr ?_; (case hd => rfl); (case hg => rfl); (case hr => first | (go_simp; done) | (go_simp; rfl)); intro g2 hg2 w2 hb2 hbel2; have hI2 := HI.out.of_block (hbel2.block g HI.out.lt); have c12 := hI2.c1; have hne2 := World.new_ne w2 ⟨g, 1, none⟩ c12; have HP := Lib.hid (And.intro hI2 (Kb.below (g := g) hbel2)); have HB2 := Lib.hid hb2; have HG2 := Lib.hid (show g2 ≠ g ∧ w.heap.size ≤ g2 ∧ g2 < w2.heap.size from ⟨by rw [hg2]; exact hne, by omega, blk_lt hb2⟩); clear hb2 hbel2 hg2 hI2)
      | (go_at_call 23; refine (rhere (st_alloc HP.out _).1 HA.out).mono ?_; rintro e w5 ⟨rfl, hp⟩; have hb4 := (hp.kb.block w2.heap.size (by show _ < (w2.heap.push _).size; simp) (fun e => hne2 e)).trans (blk_new w2 _); have hb5 := (hp.kb.block g2 (by have := HG2.out.2.2; show _ < (w2.heap.push _).size; simp; omega) HG2.out.1).trans (blk_alloc HB2.out _); replace HP := Lib.hid (And.intro hp.st ((st_alloc HP.out _).2.trans hp.kb)); have HG4 := Lib.hid (show w2.heap.size ≠ g ∧ w.heap.size ≤ w2.heap.size ∧ w2.heap.size ≠ g2 from ⟨hne2, by have := HG2.out; omega, by have := HG2.out; omega⟩); generalize w2.heap.size = g4 at *; obtain ⟨q0, q1, q2, q3, q4⟩ := five hb4; obtain ⟨f0, f1, f2, f3, f4⟩ := five_f hb4; have HB4 := Lib.hid hb4; replace HB2 := Lib.hid hb5; clear hp hb4 hb5 c12; rw [← HCC.out]; try exact ⟨rfl, ‹_›⟩)
      | (go_at_call 28; with_reducible refine (rwk (wd := (⟨#[110, 117, 108, 108]⟩ : ByteArray)) HP.out.1 HA.out HS.out (by decide)).mono ?_; rintro e w6 ⟨b, l1, hb1, hf, rfl, k1, hA6, hp⟩; have hst := hp.st; have hkb := hp.kb; have hb4 := (hkb.block g4 (blk_lt HB4.out) HG4.out.1).trans HB4.out; have hb2 := (hkb.block g2 (blk_lt HB2.out) HG2.out.1).trans HB2.out; clear q0 q1 q2 q3 q4 f0 f1 f2 f3 f4; obtain ⟨q0, q1, q2, q3, q4⟩ := five hb4; obtain ⟨f0, f1, f2, f3, f4⟩ := five_f hb4; replace HP := Lib.hid (And.intro hst (HP.out.2.trans hkb)); replace HB4 := Lib.hid hb4; replace HB2 := Lib.hid hb2; clear hb4 hb2; replace HA := Lib.hid hA6; clear hst hkb hp hA6; cases b <;> (try obtain rfl := hf rfl) <;> (try clear hf) <;> (try exact ⟨rfl, ‹_›⟩))
      | (go_at_call 28; with_reducible refine (rwk (wd := (⟨#[102, 97, 108, 115, 101]⟩ : ByteArray)) HP.out.1 HA.out HS.out (by decide)).mono ?_; rintro e w6 ⟨b, l2, hb2, hf, rfl, k2, hA6, hp⟩; have hst := hp.st; have hkb := hp.kb; have hb4 := (hkb.block g4 (blk_lt HB4.out) HG4.out.1).trans HB4.out; have hb2 := (hkb.block g2 (blk_lt HB2.out) HG2.out.1).trans HB2.out; clear q0 q1 q2 q3 q4 f0 f1 f2 f3 f4; obtain ⟨q0, q1, q2, q3, q4⟩ := five hb4; obtain ⟨f0, f1, f2, f3, f4⟩ := five_f hb4; replace HP := Lib.hid (And.intro hst (HP.out.2.trans hkb)); replace HB4 := Lib.hid hb4; replace HB2 := Lib.hid hb2; clear hb4 hb2; replace HA := Lib.hid hA6; clear hst hkb hp hA6; cases b <;> (try obtain rfl := hf rfl) <;> (try clear hf) <;> (try exact ⟨rfl, ‹_›⟩))
      | (go_at_call 28; with_reducible refine (rwk (wd := (⟨#[116, 114, 117, 101]⟩ : ByteArray)) HP.out.1 HA.out HS.out (by decide)).mono ?_; rintro e w6 ⟨b, l3, hb3, hf, rfl, k3, hA6, hp⟩; have hst := hp.st; have hkb := hp.kb; have hb4 := (hkb.block g4 (blk_lt HB4.out) HG4.out.1).trans HB4.out; have hb2 := (hkb.block g2 (blk_lt HB2.out) HG2.out.1).trans HB2.out; clear q0 q1 q2 q3 q4 f0 f1 f2 f3 f4; obtain ⟨q0, q1, q2, q3, q4⟩ := five hb4; obtain ⟨f0, f1, f2, f3, f4⟩ := five_f hb4; replace HP := Lib.hid (And.intro hst (HP.out.2.trans hkb)); replace HB4 := Lib.hid hb4; replace HB2 := Lib.hid hb2; clear hb4 hb2; replace HA := Lib.hid hA6; clear hst hkb hp hA6; cases b <;> (try obtain rfl := hf rfl) <;> (try clear hf) <;> (try exact ⟨rfl, ‹_›⟩)))
    · have hb47 : (w6).heap[g4]? = some (.cells #[.int .i64 0, .int .i64 k, .int .i64 0, nilS, nilS] 32 (0, 0)) := HB4.out
      have hb27 := HB2.out
      have hst7 := HP.out.1
      have hkb7 := HP.out.2
      have hsm7 : Sm g4 w6 (w6) := Sm.refl _ _
      clear q0 q1 q2 q3 q4 f0 f1 f2 f3 f4
      try clear z0 z1 z2 z3 z4 y0 y1 y2 y3 y4
      try clear ck
      obtain ⟨q0, q1, q2, q3, q4⟩ := five hb47
      obtain ⟨f0, f1, f2, f3, f4⟩ := five_f hb47
      obtain ⟨z0, z1, z2, z3, z4⟩ := five hb27
      obtain ⟨y0, y1, y2, y3, y4⟩ := five_f hb27
      have ck := hst7.c1
      have HB4 := Lib.hid hb47
      have HB2 := Lib.hid hb27
      have HP := Lib.hid (And.intro hst7 hkb7)
      have HSm := Lib.hid hsm7
      have n1 := HG2.out.1
      have n2 := HG2.out.1.symm
      have n3 := HG4.out.1
      have n4 := HG4.out.1.symm
      have n5 := HG4.out.2.2
      have n6 := HG4.out.2.2.symm
      clear hb47 hb27 hst7 hkb7 hsm7
      go_wp2
      rw [words_0 hb1 hb2 hb3]
      refine bodyPost_ret (results_ct rfl _ _ g2 32 _ (0, 0) _ rfl (fin_block HB2.out HG4.out.2.2) Tryd.underlying32 rfl (by kernel_rfl)) rfl ?_
      exact va_no ⟨HG2.out.1, HG2.out.2.1⟩ HG4.out HP.out
    · have HLT := Lib.hid (And.intro (blk_lt HB2.out) (And.intro (blk_lt HB4.out) HP.out.2.size))
      have hb47 : (w6.setCell ⟨g4, 0, none⟩ (.int .i64 2)).heap[g4]? = some (.cells #[.int .i64 2, .int .i64 k, .int .i64 0, nilS, nilS] 32 (0, 0)) := blk_put HB4.out 0 (.int .i64 2) rfl
      have hb27 := blk_far HB2.out (p := ⟨g4, 0, none⟩) (fun e => HG4.out.2.2 e.symm) (.int .i64 2)
      have hst7 := HP.out.1.set (i := 0) HG4.out.1 (.int .i64 2)
      have hkb7 := HP.out.2.set (i := 0) HG4.out.2.1 (.int .i64 2)
      have hsm7 : Sm g4 w6 (w6.setCell ⟨g4, 0, none⟩ (.int .i64 2)) := (Sm.refl _ _).set _
      clear q0 q1 q2 q3 q4 f0 f1 f2 f3 f4
      try clear z0 z1 z2 z3 z4 y0 y1 y2 y3 y4
      try clear ck
      generalize hw7 : w6.setCell ⟨g4, 0, none⟩ (.int .i64 2) = w7 at hb47 hb27 hst7 hkb7 hsm7 ⊢
      clear hw7
      obtain ⟨q0, q1, q2, q3, q4⟩ := five hb47
      obtain ⟨f0, f1, f2, f3, f4⟩ := five_f hb47
      obtain ⟨z0, z1, z2, z3, z4⟩ := five hb27
      obtain ⟨y0, y1, y2, y3, y4⟩ := five_f hb27
      have ck := hst7.c1
      have HB4 := Lib.hid hb47
      have HB2 := Lib.hid hb27
      have HP := Lib.hid (And.intro hst7 hkb7)
      have HSm := Lib.hid hsm7
      have n1 := HG2.out.1
      have n2 := HG2.out.1.symm
      have n3 := HG4.out.1
      have n4 := HG4.out.1.symm
      have n5 := HG4.out.2.2
      have n6 := HG4.out.2.2.symm
      clear hb47 hb27 hst7 hkb7 hsm7
      go_wp2
      rw [words_3 hb1 hb2 hb3]
      refine bodyPost_ret (results_ct rfl _ _ g2 32 _ (0, 0) _ rfl (fin_block HB2.out HG4.out.2.2) Tryd.underlying32 rfl (by kernel_rfl)) rfl ?_
      exact va_ok (ws := w6) ⟨HG2.out.1, HG2.out.2.1⟩ HG4.out HLT.out.1 HLT.out.2.1 HLT.out.2.2 HP.out (.lit (by simp)) HA.out HSm.out
    · have HLT := Lib.hid (And.intro (blk_lt HB2.out) (And.intro (blk_lt HB4.out) HP.out.2.size))
      have hb47 : (w6.setCell ⟨g4, 0, none⟩ (.int .i64 1)).heap[g4]? = some (.cells #[.int .i64 1, .int .i64 k, .int .i64 0, nilS, nilS] 32 (0, 0)) := blk_put HB4.out 0 (.int .i64 1) rfl
      have hb27 := blk_far HB2.out (p := ⟨g4, 0, none⟩) (fun e => HG4.out.2.2 e.symm) (.int .i64 1)
      have hst7 := HP.out.1.set (i := 0) HG4.out.1 (.int .i64 1)
      have hkb7 := HP.out.2.set (i := 0) HG4.out.2.1 (.int .i64 1)
      have hsm7 : Sm g4 w6 (w6.setCell ⟨g4, 0, none⟩ (.int .i64 1)) := (Sm.refl _ _).set _
      clear q0 q1 q2 q3 q4 f0 f1 f2 f3 f4
      try clear z0 z1 z2 z3 z4 y0 y1 y2 y3 y4
      try clear ck
      generalize hw7 : w6.setCell ⟨g4, 0, none⟩ (.int .i64 1) = w7 at hb47 hb27 hst7 hkb7 hsm7 ⊢
      clear hw7
      obtain ⟨q0, q1, q2, q3, q4⟩ := five hb47
      obtain ⟨f0, f1, f2, f3, f4⟩ := five_f hb47
      obtain ⟨z0, z1, z2, z3, z4⟩ := five hb27
      obtain ⟨y0, y1, y2, y3, y4⟩ := five_f hb27
      have ck := hst7.c1
      have HB4 := Lib.hid hb47
      have HB2 := Lib.hid hb27
      have HP := Lib.hid (And.intro hst7 hkb7)
      have HSm := Lib.hid hsm7
      have n1 := HG2.out.1
      have n2 := HG2.out.1.symm
      have n3 := HG4.out.1
      have n4 := HG4.out.1.symm
      have n5 := HG4.out.2.2
      have n6 := HG4.out.2.2.symm
      clear hb47 hb27 hst7 hkb7 hsm7
      go_wp2
      rw [words_2 hb1 hb2]
      refine bodyPost_ret (results_ct rfl _ _ g2 32 _ (0, 0) _ rfl (fin_block HB2.out HG4.out.2.2) Tryd.underlying32 rfl (by kernel_rfl)) rfl ?_
      exact va_ok (ws := w6) ⟨HG2.out.1, HG2.out.2.1⟩ HG4.out HLT.out.1 HLT.out.2.1 HLT.out.2.2 HP.out (.lit (by simp)) HA.out HSm.out
    · have HLT := Lib.hid (And.intro (blk_lt HB2.out) (And.intro (blk_lt HB4.out) HP.out.2.size))
      have hb47 : (w6.setCell ⟨g4, 0, none⟩ (.int .i64 0)).heap[g4]? = some (.cells #[.int .i64 0, .int .i64 k, .int .i64 0, nilS, nilS] 32 (0, 0)) := blk_put HB4.out 0 (.int .i64 0) rfl
      have hb27 := blk_far HB2.out (p := ⟨g4, 0, none⟩) (fun e => HG4.out.2.2 e.symm) (.int .i64 0)
      have hst7 := HP.out.1.set (i := 0) HG4.out.1 (.int .i64 0)
      have hkb7 := HP.out.2.set (i := 0) HG4.out.2.1 (.int .i64 0)
      have hsm7 : Sm g4 w6 (w6.setCell ⟨g4, 0, none⟩ (.int .i64 0)) := (Sm.refl _ _).set _
      clear q0 q1 q2 q3 q4 f0 f1 f2 f3 f4
      try clear z0 z1 z2 z3 z4 y0 y1 y2 y3 y4
      try clear ck
      generalize hw7 : w6.setCell ⟨g4, 0, none⟩ (.int .i64 0) = w7 at hb47 hb27 hst7 hkb7 hsm7 ⊢
      clear hw7
      obtain ⟨q0, q1, q2, q3, q4⟩ := five hb47
      obtain ⟨f0, f1, f2, f3, f4⟩ := five_f hb47
      obtain ⟨z0, z1, z2, z3, z4⟩ := five hb27
      obtain ⟨y0, y1, y2, y3, y4⟩ := five_f hb27
      have ck := hst7.c1
      have HB4 := Lib.hid hb47
      have HB2 := Lib.hid hb27
      have HP := Lib.hid (And.intro hst7 hkb7)
      have HSm := Lib.hid hsm7
      have n1 := HG2.out.1
      have n2 := HG2.out.1.symm
      have n3 := HG4.out.1
      have n4 := HG4.out.1.symm
      have n5 := HG4.out.2.2
      have n6 := HG4.out.2.2.symm
      clear hb47 hb27 hst7 hkb7 hsm7
      go_wp2
      rw [words_1 hb1]
      refine bodyPost_ret (results_ct rfl _ _ g2 32 _ (0, 0) _ rfl (fin_block HB2.out HG4.out.2.2) Tryd.underlying32 rfl (by kernel_rfl)) rfl ?_
      exact va_ok (ws := w6) ⟨HG2.out.1, HG2.out.2.1⟩ HG4.out HLT.out.1 HLT.out.2.1 HLT.out.2.2 HP.out (.lit (by simp)) HA.out HSm.out

/-- value() reads as the plain reader does. -/
theorem rvalue_all : ∀ n, ValOk n
  | 0 => fun l g k s w hI hA hs hn => by omega
  | n + 1 => by
    have HV : ∀ m, m < n → ValOk m := fun m hm => rvalue_all m
    intro l g k s w hI hA hs hn
    by_cases h1 : hd0 l = 123
    · cases l with
      | nil => simp [hd0] at h1
      | cons c t =>
        obtain rfl : c = 123 := h1
        exact rvalue_obj HV hI hA hs (by simp only [List.length_cons] at hn; omega)
    by_cases h2 : hd0 l = 91
    · cases l with
      | nil => simp [hd0] at h2
      | cons c t =>
        obtain rfl : c = 91 := h2
        exact rvalue_arr HV hI hA hs (by simp only [List.length_cons] at hn; omega)
    by_cases h3 : hd0 l = 34
    · cases l with
      | nil => simp [hd0] at h3
      | cons c t =>
        obtain rfl : c = 34 := h3
        exact rvalue_str hI hA hs hn
    by_cases h4 : hd0 l = 45 ∨ isDig (hd0 l) = true
    · cases l with
      | nil => simp [hd0, isDig] at h4
      | cons c t => exact rvalue_num h4 hI hA hs hn
    · exact rvalue_word hI hA hs h1 h2 h3 h4

end Go.Proofs.YtkhgbacbnkgafaaDoor.Spr

/- The reference's Places: a text's values with their offsets, as a tree. -/
set_option linter.unusedVariables false
set_option linter.unusedSimpArgs false
namespace Go.Proofs.YtkhgbacbnkgafaaDoor.Spr
open Go Go.RowKit Go.Proofs.YtkhgbacbnkgafaaDoorW.PrintWords Go.Proofs.YtkhgbacbnkgafaaDoor.Fjh Go.Proofs.YtkhgbacbnkgafaaDoor.JTr

/-- What Places reads. -/
def readL (l : List Int) : Option JT := (tval (2 * l.length + 2) (ws l)).bind fun r => if ws r.2 = [] then some r.1 else none
/-- What Places leaves. -/
def PcR (s : ByteArray) (w : World) (o : Option JT) (e : Ending) (w' : World) : Prop :=
  match o with
  | some t => ∃ a, e = .returned (.tuple #[.agg a, .bool true]) ∧ PRep w' s (Btw w w') a t ∧ Below w.heap.size w w'
  | none => e = .returned (.tuple #[.agg (pl 0 0 0 nilS nilS), .bool false]) ∧ Below w.heap.size w w'

theorem kb_below {B g : Nat} {w w1 w2 : World} (h : Below B w w1) (hk : Kb g w1 w2) (hg : B ≤ g) (hs : B ≤ w1.heap.size) : Below B w w2 :=
  h.trans ⟨hk.os, hk.tape, hk.output, hk.size, fun k hb => hk.block k (by omega) (by omega)⟩
theorem rd_new (w : World) (s : ByteArray) (t : TypeId) : RdI (w.alloc (.cells #[.string s, .int .i64 0] t (0, 0))) w.heap.size s 0 :=
  ⟨blk_cell (blk_new w _) 0, blk_frozen (blk_new w _) 0, blk_cell (blk_new w _) 1, blk_frozen (blk_new w _) 1⟩
theorem at_zero (s : ByteArray) : At s 0 (bytesOf s) := ⟨Nat.zero_le _, rfl⟩
theorem bytes_len (s : ByteArray) : (bytesOf s).length = s.size := bytesOf_length s

/-- Places' last stores. -/
abbrev put5 (w : World) (g2 : Nat) (x y z : Int) (N K : Value) : World := ((((w.setCell ⟨g2, 0, none⟩ (.int .i64 x)).setCell ⟨g2, 1, none⟩ (.int .i64 y)).setCell ⟨g2, 2, none⟩ (.int .i64 z)).setCell ⟨g2, 3, none⟩ N).setCell ⟨g2, 4, none⟩ K
theorem zero_block {w : World} {g2 : Nat} {x y z : Int} {N K : Value} (h : w.heap[g2]? = some (.cells #[.int .i64 0, .int .i64 0, .int .i64 0, .slice none 0 0, .slice none 0 0] 32 (0, 0))) : (put5 w g2 x y z N K).heap[g2]? = some (.cells #[.int .i64 x, .int .i64 y, .int .i64 z, N, K] 32 (0, 0)) :=
  blk_put (blk_put (blk_put (blk_put (blk_put h 0 _ rfl) 1 _ rfl) 2 _ rfl) 3 _ rfl) 4 _ rfl
theorem put5_below {B : Nat} {w0 w : World} {g2 : Nat} {x y z : Int} {N K : Value} (h : Below B w0 w) (hB : B ≤ g2) : Below B w0 (put5 w g2 x y z N K) :=
  ((((h.setCell hB _).setCell hB _).setCell hB _).setCell hB _).setCell hB _
theorem put5_other {w : World} {g2 b : Nat} {x y z : Int} {N K : Value} (h : b ≠ g2) : (put5 w g2 x y z N K).heap[b]? = w.heap[b]? := by
  unfold put5
  rw [Below.heap_setCell _ _ _ _ h, Below.heap_setCell _ _ _ _ h, Below.heap_setCell _ _ _ _ h, Below.heap_setCell _ _ _ _ h, Below.heap_setCell _ _ _ _ h]
theorem put5_size {w : World} {g2 : Nat} {x y z : Int} {N K : Value} : (put5 w g2 x y z N K).heap.size = w.heap.size := by simp [put5, World.setCell]

set_option maxRecDepth 100000 in
set_option maxHeartbeats 8000000 in
theorem places {s : ByteArray} {w : World} (hs : s.size ≤ 1000000000) : Calls Tryd.prog 6 #[.string s] w (PcR s w (readL (bytesOf s))) := by
  have HS9 := Lib.hid hs
  have HS := Lib.hid (show s.size ≤ 2147483647 by omega)
  have HB0 := Lib.hid (Below.refl w.heap.size w)
  have HV := Lib.hid (rvalue_all (2 * s.size + 2))
  clear hs
  have hlen : (bytesOf s).length = s.size := bytesOf_length s
  have hle : (ws (bytesOf s)).length ≤ s.size := by rw [← hlen]; exact ws_len _
  have HL := Lib.hid (show 2 * (ws (bytesOf s)).length + 1 < 2 * s.size + 2 by omega)
  have HR := Lib.hid (show readL (bytesOf s) = (tval (2 * s.size + 2) (ws (bytesOf s))).bind fun r => if ws r.2 = [] then some r.1 else none by unfold readL; rw [hlen])
  clear hlen hle



  cases ho : tval (2 * s.size + 2) (ws (bytesOf s)) with
  | none =>
    have HO := Lib.hid ho
    clear ho
    go_enter Tryd.func6, Tryd.ntmps6
    go_upto_region 5 with (first
      | ((with_reducible refine gate_dst (N := 2) rfl ?_); refine box_event ?hg (N := 2) ?hd (cs := #[.int .i64 0, .int .i64 0, .int .i64 0, .slice none 0 0, .slice none 0 0]) (t := 32) ?hr ?_; (case hd => rfl); (case hg => rfl); (case hr => first | (go_simp; done) | (go_simp; rfl)); intro g2 hg2 w2 hb2 hbel2; have HB2 := Lib.hid hb2; have HBe := Lib.hid hbel2; have HG2 := Lib.hid (show w.heap.size ≤ g2 ∧ g2 < w2.heap.size from ⟨by omega, blk_lt hb2⟩); clear hb2 hbel2 hg2)
      | (go_at_call 12; refine (rblanks (rd_new w2 s _) (at_zero s) HS.out).mono ?_; rintro e w5 ⟨rfl, k5, hA5, hp⟩; have HA5 := Lib.hid hA5; have hb5 := (hp.kb.block g2 (by have := HG2.out.2; show _ < (w2.heap.push _).size; simp; omega) (by have := HG2.out.2; omega)).trans (blk_alloc HB2.out _); have HG4 := Lib.hid (show w.heap.size ≤ w2.heap.size ∧ g2 < w2.heap.size ∧ g2 ≠ w2.heap.size from ⟨by have := HG2.out; omega, HG2.out.2, by have := HG2.out; omega⟩); replace HBe := Lib.hid (kb_below (HBe.out.alloc (by have := HG2.out; omega) _) hp.kb (by have := HG2.out; omega) (by have := HG2.out; show _ ≤ (w2.heap.push _).size; simp; omega)); replace HB2 := Lib.hid hb5; have HP := Lib.hid hp.st; generalize w2.heap.size = g4 at *; clear hA5 hp hb5)
      | (go_at_call 13; have hv := HV.out _ g4 k5 s w5 HP.out HA5.out HS9.out HL.out; rw [HO.out] at hv; refine hv.mono ?_; clear hv; rintro e w6 ⟨x, y, z, A1, A2, n1', c1, n2', c2, k6, rfl, hI6, hkb⟩; have hb6 := (hkb.block g2 (blk_lt HB2.out) HG4.out.2.2).trans HB2.out; replace HB2 := Lib.hid hb6; replace HBe := Lib.hid (kb_below HBe.out hkb HG4.out.1 (Nat.le_trans HG4.out.1 (Nat.le_of_lt HP.out.lt))); replace HP := Lib.hid hI6; clear hb6 hkb hI6))
    have hb7 := blk_alloc HB2.out (.cells #[.int .i64 x, .int .i64 y, .int .i64 z, .slice A1 n1' c1, .slice A2 n2' c2] 32 (0, 0))
    have hbe7 := HBe.out.alloc (Nat.le_trans HG4.out.1 (Nat.le_of_lt HP.out.lt)) (.cells #[.int .i64 x, .int .i64 y, .int .i64 z, .slice A1 n1' c1, .slice A2 n2' c2] 32 (0, 0))
    generalize hw7 : w6.alloc _ = w7 at hb7 hbe7 ⊢
    clear hw7
    obtain ⟨q0, q1, q2, q3, q4⟩ := five hb7
    obtain ⟨f0, f1, f2, f3, f4⟩ := five_f hb7
    replace HB2 := Lib.hid hb7
    replace HBe := Lib.hid hbe7
    clear hb7 hbe7
    go_wp2
    refine bodyPost_ret (results_ct rfl _ _ g2 32 _ (0, 0) _ rfl (zero_block HB2.out) Tryd.underlying32 rfl (by kernel_rfl)) rfl ?_
    rw [HR.out, HO.out]
    exact ⟨rfl, put5_below HBe.out HG2.out.1⟩
  | some r =>
    obtain ⟨t, r⟩ := r
    have HO := Lib.hid ho
    clear ho
    by_cases he : ws r = []
    · have HE := Lib.hid he
      clear he
      go_enter Tryd.func6, Tryd.ntmps6
      go_upto_region 4 with (first
        | ((with_reducible refine gate_dst (N := 2) rfl ?_); refine box_event ?hg (N := 2) ?hd (cs := #[.int .i64 0, .int .i64 0, .int .i64 0, .slice none 0 0, .slice none 0 0]) (t := 32) ?hr ?_; (case hd => rfl); (case hg => rfl); (case hr => first | (go_simp; done) | (go_simp; rfl)); intro g2 hg2 w2 hb2 hbel2; have HB2 := Lib.hid hb2; have HBe := Lib.hid hbel2; have HG2 := Lib.hid (show w.heap.size ≤ g2 ∧ g2 < w2.heap.size from ⟨by omega, blk_lt hb2⟩); clear hb2 hbel2 hg2)
        | (go_at_call 12; refine (rblanks (rd_new w2 s _) (at_zero s) HS.out).mono ?_; rintro e w5 ⟨rfl, k5, hA5, hp⟩; have HA5 := Lib.hid hA5; have hb5 := (hp.kb.block g2 (by have := HG2.out.2; show _ < (w2.heap.push _).size; simp; omega) (by have := HG2.out.2; omega)).trans (blk_alloc HB2.out _); have HG4 := Lib.hid (show w.heap.size ≤ w2.heap.size ∧ g2 < w2.heap.size ∧ g2 ≠ w2.heap.size from ⟨by have := HG2.out; omega, HG2.out.2, by have := HG2.out; omega⟩); replace HBe := Lib.hid (kb_below (HBe.out.alloc (by have := HG2.out; omega) _) hp.kb (by have := HG2.out; omega) (by have := HG2.out; show _ ≤ (w2.heap.push _).size; simp; omega)); replace HB2 := Lib.hid hb5; have HP := Lib.hid hp.st; generalize w2.heap.size = g4 at *; clear hA5 hp hb5)
        | (go_at_call 13; have hv := HV.out _ g4 k5 s w5 HP.out HA5.out HS9.out HL.out; rw [HO.out] at hv; refine hv.mono ?_; clear hv; rintro e w6 ⟨a, k6, rfl, hR, hA6, hI6, hkb⟩; obtain ⟨x, y, z, N, K, rfl, ⟨A1, n1', c1, rfl⟩, A2, n2', c2, rfl⟩ := hR.form; have hb6 := (hkb.block g2 (blk_lt HB2.out) HG4.out.2.2).trans HB2.out; have HLT := Lib.hid (show g2 < w5.heap.size ∧ g4 < w5.heap.size ∧ w.heap.size ≤ w5.heap.size from ⟨blk_lt HB2.out, HP.out.lt, Nat.le_trans HG4.out.1 (Nat.le_of_lt HP.out.lt)⟩); replace HB2 := Lib.hid hb6; replace HBe := Lib.hid (kb_below HBe.out hkb HG4.out.1 HLT.out.2.2); replace HP := Lib.hid hI6; have HR6 := Lib.hid hR; have HA6 := Lib.hid hA6; clear hb6 hkb hI6 hR hA6))
      have hb27 := blk_alloc HB2.out (.cells #[.int .i64 x, .int .i64 y, .int .i64 z, .slice A1 n1' c1, .slice A2 n2' c2] 32 (0, 0))
      have hb57 := blk_new w6 (.cells #[.int .i64 x, .int .i64 y, .int .i64 z, .slice A1 n1' c1, .slice A2 n2' c2] 32 (0, 0))
      have hbe7 := HBe.out.alloc (Nat.le_trans HG4.out.1 (Nat.le_of_lt HP.out.lt)) (.cells #[.int .i64 x, .int .i64 y, .int .i64 z, .slice A1 n1' c1, .slice A2 n2' c2] 32 (0, 0))
      have hi7 := (st_alloc ⟨HP.out, Kb.refl _ _⟩ (.cells #[.int .i64 x, .int .i64 y, .int .i64 z, .slice A1 n1' c1, .slice A2 n2' c2] 32 (0, 0))).1
      have hk7 : (w6.alloc (.cells #[.int .i64 x, .int .i64 y, .int .i64 z, .slice A1 n1' c1, .slice A2 n2' c2] 32 (0, 0))).heap.size = w6.heap.size + 1 ∧ ∀ b, b < w6.heap.size → (w6.alloc (.cells #[.int .i64 x, .int .i64 y, .int .i64 z, .slice A1 n1' c1, .slice A2 n2' c2] 32 (0, 0))).heap[b]? = w6.heap[b]? := ⟨by show (w6.heap.push _).size = _; simp, fun b hb => Below.heap_alloc w6 _ b hb⟩
      have HQ := Lib.hid (show w6.heap.size ≠ g4 ∧ w6.heap.size ≠ g2 from ⟨Nat.ne_of_gt HP.out.lt, Nat.ne_of_gt (blk_lt HB2.out)⟩)
      generalize hw7 : w6.alloc _ = w7 at hb27 hb57 hbe7 hi7 hk7 ⊢
      clear hw7
      generalize hg5 : w6.heap.size = g5 at hb57 HQ ⊢
      replace HB2 := Lib.hid hb27
      have HB5 := Lib.hid hb57
      replace HBe := Lib.hid hbe7
      replace HP := Lib.hid hi7
      have HK7 := Lib.hid hk7
      clear hb27 hb57 hbe7 hi7 hk7 hg5
      go_upto_region 7 with (first
        | (go_at_call 12; refine (rblanks HP.out HA6.out HS.out).mono ?_; rintro e w8 ⟨rfl, k8, hA8, hp⟩; have hb2 := (hp.kb.block g2 (blk_lt HB2.out) HG4.out.2.2).trans HB2.out; have hb5 := (hp.kb.block g5 (blk_lt HB5.out) HQ.out.1).trans HB5.out; replace HBe := Lib.hid (kb_below HBe.out hp.kb HG4.out.1 (Nat.le_of_lt (Nat.lt_of_le_of_lt HG4.out.1 HP.out.lt))); have HK8 := Lib.hid (show ∀ b, Btw w5 w6 b → b < w8.heap.size ∧ w8.heap[b]? = w6.heap[b]? from fun b hb => ⟨Nat.lt_of_lt_of_le (by have := HK7.out.1; have := hb.2; omega) hp.kb.size, (hp.kb.block b (by have := HK7.out.1; have := hb.2; omega) (by have := HLT.out; have := hb.1; omega)).trans (HK7.out.2 b hb.2)⟩); replace HB2 := Lib.hid hb2; replace HB5 := Lib.hid hb5; replace HP := Lib.hid hp.st; have HA8 := Lib.hid hA8; clear hA8 hp hb5 hb2))
      have ck := HP.out.c1
      have hk8 : k8 = s.size := by
        have h := HA8.out
        rw [HE.out] at h
        exact h.nil
      subst hk8
      have hbq : ((s.size : Int) == (s.size : Int)) = true := by simp
      obtain ⟨q0, q1, q2, q3, q4⟩ := five HB2.out
      obtain ⟨f0, f1, f2, f3, f4⟩ := five_f HB2.out
      obtain ⟨z0, z1, z2, z3, z4⟩ := five HB5.out
      obtain ⟨y0, y1, y2, y3, y4⟩ := five_f HB5.out
      have n1 : g2 ≠ g5 := by have := HQ.out.2; omega
      have n2 : g5 ≠ g2 := n1.symm
      have n3 : g2 ≠ g4 := HG4.out.2.2
      have n4 := n3.symm
      go_wp2
      refine bodyPost_ret (results_ct rfl _ _ g2 32 _ (0, 0) _ rfl (zero_block HB2.out) Tryd.underlying32 rfl (by kernel_rfl)) rfl ?_
      rw [HR.out, HO.out]
      rw [show ((some (t, r) : Option (JT × List Int)).bind fun r => if ws r.2 = [] then some r.1 else none) = some t from if_pos HE.out]
      have hm : ∀ b, Btw w5 w6 b → Btw w (put5 w8 g2 x y z (.slice A1 n1' c1) (.slice A2 n2' c2)) b ∧ (put5 w8 g2 x y z (.slice A1 n1' c1) (.slice A2 n2' c2)).heap[b]? = w6.heap[b]? := by
        intro b hb
        have h1 := hb.1
        have h2 := HK8.out b hb
        have h3 := HLT.out
        exact ⟨⟨by omega, by rw [put5_size]; exact h2.1⟩, (put5_other (by omega)).trans h2.2⟩
      exact ⟨_, rfl, HR6.out.mono hm, put5_below HBe.out HG2.out.1⟩
    · have HE := Lib.hid he
      clear he
      go_enter Tryd.func6, Tryd.ntmps6
      go_upto_region 4 with (first
        | ((with_reducible refine gate_dst (N := 2) rfl ?_); refine box_event ?hg (N := 2) ?hd (cs := #[.int .i64 0, .int .i64 0, .int .i64 0, .slice none 0 0, .slice none 0 0]) (t := 32) ?hr ?_; (case hd => rfl); (case hg => rfl); (case hr => first | (go_simp; done) | (go_simp; rfl)); intro g2 hg2 w2 hb2 hbel2; have HB2 := Lib.hid hb2; have HBe := Lib.hid hbel2; have HG2 := Lib.hid (show w.heap.size ≤ g2 ∧ g2 < w2.heap.size from ⟨by omega, blk_lt hb2⟩); clear hb2 hbel2 hg2)
        | (go_at_call 12; refine (rblanks (rd_new w2 s _) (at_zero s) HS.out).mono ?_; rintro e w5 ⟨rfl, k5, hA5, hp⟩; have HA5 := Lib.hid hA5; have hb5 := (hp.kb.block g2 (by have := HG2.out.2; show _ < (w2.heap.push _).size; simp; omega) (by have := HG2.out.2; omega)).trans (blk_alloc HB2.out _); have HG4 := Lib.hid (show w.heap.size ≤ w2.heap.size ∧ g2 < w2.heap.size ∧ g2 ≠ w2.heap.size from ⟨by have := HG2.out; omega, HG2.out.2, by have := HG2.out; omega⟩); replace HBe := Lib.hid (kb_below (HBe.out.alloc (by have := HG2.out; omega) _) hp.kb (by have := HG2.out; omega) (by have := HG2.out; show _ ≤ (w2.heap.push _).size; simp; omega)); replace HB2 := Lib.hid hb5; have HP := Lib.hid hp.st; generalize w2.heap.size = g4 at *; clear hA5 hp hb5)
        | (go_at_call 13; have hv := HV.out _ g4 k5 s w5 HP.out HA5.out HS9.out HL.out; rw [HO.out] at hv; refine hv.mono ?_; clear hv; rintro e w6 ⟨a, k6, rfl, hR, hA6, hI6, hkb⟩; obtain ⟨x, y, z, N, K, rfl, ⟨A1, n1', c1, rfl⟩, A2, n2', c2, rfl⟩ := hR.form; have hb6 := (hkb.block g2 (blk_lt HB2.out) HG4.out.2.2).trans HB2.out; have HLT := Lib.hid (show g2 < w5.heap.size ∧ g4 < w5.heap.size ∧ w.heap.size ≤ w5.heap.size from ⟨blk_lt HB2.out, HP.out.lt, Nat.le_trans HG4.out.1 (Nat.le_of_lt HP.out.lt)⟩); replace HB2 := Lib.hid hb6; replace HBe := Lib.hid (kb_below HBe.out hkb HG4.out.1 HLT.out.2.2); replace HP := Lib.hid hI6; have HR6 := Lib.hid hR; have HA6 := Lib.hid hA6; clear hb6 hkb hI6 hR hA6))
      have hb27 := blk_alloc HB2.out (.cells #[.int .i64 x, .int .i64 y, .int .i64 z, .slice A1 n1' c1, .slice A2 n2' c2] 32 (0, 0))
      have hb57 := blk_new w6 (.cells #[.int .i64 x, .int .i64 y, .int .i64 z, .slice A1 n1' c1, .slice A2 n2' c2] 32 (0, 0))
      have hbe7 := HBe.out.alloc (Nat.le_trans HG4.out.1 (Nat.le_of_lt HP.out.lt)) (.cells #[.int .i64 x, .int .i64 y, .int .i64 z, .slice A1 n1' c1, .slice A2 n2' c2] 32 (0, 0))
      have hi7 := (st_alloc ⟨HP.out, Kb.refl _ _⟩ (.cells #[.int .i64 x, .int .i64 y, .int .i64 z, .slice A1 n1' c1, .slice A2 n2' c2] 32 (0, 0))).1
      have hk7 : (w6.alloc (.cells #[.int .i64 x, .int .i64 y, .int .i64 z, .slice A1 n1' c1, .slice A2 n2' c2] 32 (0, 0))).heap.size = w6.heap.size + 1 ∧ ∀ b, b < w6.heap.size → (w6.alloc (.cells #[.int .i64 x, .int .i64 y, .int .i64 z, .slice A1 n1' c1, .slice A2 n2' c2] 32 (0, 0))).heap[b]? = w6.heap[b]? := ⟨by show (w6.heap.push _).size = _; simp, fun b hb => Below.heap_alloc w6 _ b hb⟩
      have HQ := Lib.hid (show w6.heap.size ≠ g4 ∧ w6.heap.size ≠ g2 from ⟨Nat.ne_of_gt HP.out.lt, Nat.ne_of_gt (blk_lt HB2.out)⟩)
      generalize hw7 : w6.alloc _ = w7 at hb27 hb57 hbe7 hi7 hk7 ⊢
      clear hw7
      generalize hg5 : w6.heap.size = g5 at hb57 HQ ⊢
      replace HB2 := Lib.hid hb27
      have HB5 := Lib.hid hb57
      replace HBe := Lib.hid hbe7
      replace HP := Lib.hid hi7
      have HK7 := Lib.hid hk7
      clear hb27 hb57 hbe7 hi7 hk7 hg5
      go_upto_region 7 with (first
        | (go_at_call 12; refine (rblanks HP.out HA6.out HS.out).mono ?_; rintro e w8 ⟨rfl, k8, hA8, hp⟩; have hb2 := (hp.kb.block g2 (blk_lt HB2.out) HG4.out.2.2).trans HB2.out; have hb5 := (hp.kb.block g5 (blk_lt HB5.out) HQ.out.1).trans HB5.out; replace HBe := Lib.hid (kb_below HBe.out hp.kb HG4.out.1 (Nat.le_of_lt (Nat.lt_of_le_of_lt HG4.out.1 HP.out.lt))); have HK8 := Lib.hid (show ∀ b, Btw w5 w6 b → b < w8.heap.size ∧ w8.heap[b]? = w6.heap[b]? from fun b hb => ⟨Nat.lt_of_lt_of_le (by have := HK7.out.1; have := hb.2; omega) hp.kb.size, (hp.kb.block b (by have := HK7.out.1; have := hb.2; omega) (by have := HLT.out; have := hb.1; omega)).trans (HK7.out.2 b hb.2)⟩); replace HB2 := Lib.hid hb2; replace HB5 := Lib.hid hb5; replace HP := Lib.hid hp.st; have HA8 := Lib.hid hA8; clear hA8 hp hb5 hb2))
      have ck := HP.out.c1
      have hk8 : k8 < s.size := by
        have h := HA8.out
        cases hw : ws r with
        | nil => exact absurd hw HE.out
        | cons c t => rw [hw] at h; exact h.cons.1
      have hbq : ((k8 : Int) == (s.size : Int)) = false := beq_eq_false_iff_ne.mpr (by omega)
      have hbn : (k8 == s.size) = false := beq_eq_false_iff_ne.mpr (by omega)
      obtain ⟨q0, q1, q2, q3, q4⟩ := five HB2.out
      obtain ⟨f0, f1, f2, f3, f4⟩ := five_f HB2.out
      have n3 : g2 ≠ g4 := HG4.out.2.2
      have n4 := n3.symm
      go_wp2
      refine bodyPost_ret (results_ct rfl _ _ g2 32 _ (0, 0) _ rfl (zero_block HB2.out) Tryd.underlying32 rfl (by kernel_rfl)) rfl ?_
      rw [HR.out, HO.out]
      rw [show ((some (t, r) : Option (JT × List Int)).bind fun r => if ws r.2 = [] then some r.1 else none) = none from if_neg HE.out]
      exact ⟨rfl, put5_below HBe.out HG2.out.1⟩

end Go.Proofs.YtkhgbacbnkgafaaDoor.Spr

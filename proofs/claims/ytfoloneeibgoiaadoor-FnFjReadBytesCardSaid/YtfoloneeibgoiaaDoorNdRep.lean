/- The reference's nodes in memory, their strings standing for their own bytes; Same of two nodes of one tree. -/
import Derived.Test.YtfoloneeibgoiaaDoorFjA
import Derived.Test.YtfoloneeibgoiaaDoorJTree
import Derived.Test.YtfoloneeibgoiaaDoorStr
import Derived.Deep.QuietTactic
import Derived.BigQuiet
import Derived.BigRegion
import Derived.Deep.LoopGhost
import Derived.Great.Walk
import Derived.Deep.DrawnRows
import Derived.Deep.RegionHeld3
set_option linter.unusedVariables false
set_option linter.unusedSimpArgs false
namespace Go.Proofs.YtfoloneeibgoiaaDoor.Ndr
open Go Go.RowKit Go.Proofs.YtfoloneeibgoiaaDoorW.PrintWords Go.Proofs.YtfoloneeibgoiaaDoor.Fjh Go.Proofs.YtfoloneeibgoiaaDoor.JTr
attribute [local go_sem ↓] Go.wp_at_zero Go.wp_at_succ

theorem own_keep {w w' : World} {base : Nat} {e : TypeId} {size : Nat} {v : Value} {n : Nat} {xs : List Value} (h : w.ownsRow base e size v n xs) (hk : ∀ k, v.ownBlock = some k → w'.heap[k]? = w.heap[k]?) : w'.ownsRow base e size v n xs := by
  refine ⟨h.1, ?_⟩
  rcases h.2 with h | ⟨g, cap, cur, rfl, hb, hg, r⟩
  · exact .inl h
  · exact .inr ⟨g, cap, cur, rfl, hb, (hk g rfl).trans hg, r⟩

def flat (cs : List (Array Value)) : List Value := cs.flatMap Array.toList
theorem flat_append (cs bs : List (Array Value)) : flat (cs ++ bs) = flat cs ++ flat bs := by simp [flat]

abbrev nilS : Value := .slice none 0 0
def Btw (w w' : World) (k : Nat) : Prop := w.heap.size ≤ k ∧ k < w'.heap.size
theorem row_form {w : World} {base : Nat} {e : TypeId} {size : Nat} {v : Value} {n : Nat} {xs : List Value} (h : w.ownsRow base e size v n xs) : ∃ A n c, v = .slice A n c := by
  rcases h.2 with ⟨rfl, _⟩ | ⟨g, cap, cur, rfl, _⟩
  · exact ⟨_, _, _, rfl⟩
  · exact ⟨_, _, _, rfl⟩

theorem own_le {w : World} {base base' : Nat} {e : TypeId} {size : Nat} {v : Value} {n : Nat} {xs : List Value} (h : w.ownsRow base e size v n xs) (hb' : base' ≤ base) : w.ownsRow base' e size v n xs := by
  refine ⟨h.1, ?_⟩
  rcases h.2 with h | ⟨g, cap, cur, rfl, hb, hg, r⟩
  · exact .inl h
  · exact .inr ⟨g, cap, cur, rfl, Nat.le_trans hb' hb, hg, r⟩

/-- The text b of the bytes l. -/
def UQ (l : List Int) (b : ByteArray) : Prop := bytesOf b = l
theorem UQ.inj {l : List Int} {a b : ByteArray} (h : UQ l a) (h' : UQ l b) : a = b := StrL.ints_inj (h.trans h'.symm)
def Keys : List ByteArray → List (List Int) → Prop
  | [], [] => True
  | b :: bs, k :: ks => UQ k b ∧ Keys bs ks
  | _, _ => False
/-- A Node's four cells. -/
abbrev nd (k : Int) (t : ByteArray) (N K : Value) : Array Value := #[.int .i64 k, .string t, N, K]

/-- What a Node stands for; its rows lie in the blocks 'own'. -/
inductive NRep (w : World) : (Nat → Prop) → Array Value → JT → Prop
  | num {own : Nat → Prop} {l : List Int} : NRep w own (nd 3 (strOfNums l) nilS nilS) (.num l)
  | str {own : Nat → Prop} {l : List Int} {b : ByteArray} (h : UQ l b) : NRep w own (nd 4 b nilS nilS) (.str l)
  | lit {own : Nat → Prop} {k t : Int} (h : (k = 0 ∧ t = 0) ∨ (k = 1 ∧ t = 6) ∨ (k = 2 ∧ t = 5)) : NRep w own (nd k ByteArray.empty nilS nilS) (.lit t)
  | arr {own : Nat → Prop} {K : Value} {cs : List (Array Value)} {vs : List JT} {O : Nat → Prop} (hl : cs.length = vs.length) (hK : w.ownsRow 0 25 4 K cs.length (flat cs)) (ho : ∀ k, K.ownBlock = some k → own k) (hO : ∀ k, O k → own k)
      (hk : ∀ (i : Nat) (a : Array Value) (v : JT), cs[i]? = some a → vs[i]? = some v → NRep w O a v) : NRep w own (nd 5 ByteArray.empty nilS K) (.arr vs)
  | obj {own : Nat → Prop} {N K : Value} {bs : List ByteArray} {cs : List (Array Value)} {ks : List (List Int)} {vs : List JT} {O : Nat → Prop} (hn : Keys bs ks) (hN : w.ownsRow 0 9 1 N bs.length (bs.map Value.string)) (hl : cs.length = vs.length) (hkl : ks.length = vs.length) (hK : w.ownsRow 0 25 4 K cs.length (flat cs))
      (hoN : ∀ k, N.ownBlock = some k → own k) (ho : ∀ k, K.ownBlock = some k → own k) (hO : ∀ k, O k → own k)
      (hk : ∀ (i : Nat) (a : Array Value) (v : JT), cs[i]? = some a → vs[i]? = some v → NRep w O a v) : NRep w own (nd 6 ByteArray.empty N K) (.obj ks vs)

theorem NRep.mono {w w' : World} {own own' : Nat → Prop} (hm : ∀ k, own k → own' k ∧ w'.heap[k]? = w.heap[k]?) {a : Array Value} {t : JT} (h : NRep w own a t) : NRep w' own' a t := by
  induction h generalizing own' with
  | num => exact .num
  | str h => exact .str h
  | lit h => exact .lit h
  | arr hl hK ho hO hk ih => exact .arr hl (own_keep hK (fun k hk => (hm k (ho k hk)).2)) (fun k hk => (hm k (ho k hk)).1) (fun k hk => (hm k (hO k hk)).1) (fun i a v ha hv => ih i a v ha hv (fun k hk => ⟨hk, (hm k (hO k hk)).2⟩))
  | obj hn hN hl hkl hK hoN ho hO hk ih => exact .obj hn (own_keep hN (fun k hk => (hm k (hoN k hk)).2)) hl hkl (own_keep hK (fun k hk => (hm k (ho k hk)).2)) (fun k hk => (hm k (hoN k hk)).1) (fun k hk => (hm k (ho k hk)).1) (fun k hk => (hm k (hO k hk)).1) (fun i a v ha hv => ih i a v ha hv (fun k hk => ⟨hk, (hm k (hO k hk)).2⟩))

/-- A Node's cells are four. -/
theorem NRep.form {w : World} {own : Nat → Prop} {a : Array Value} {t : JT} (h : NRep w own a t) : ∃ (k : Int) (x : ByteArray) (A1 A2 : Option Addr) (n1 c1 n2 c2 : Nat), a = nd k x (.slice A1 n1 c1) (.slice A2 n2 c2) := by
  cases h with
  | num => exact ⟨_, _, _, _, _, _, _, _, rfl⟩
  | str h => exact ⟨_, _, _, _, _, _, _, _, rfl⟩
  | lit h => exact ⟨_, _, _, _, _, _, _, _, rfl⟩
  | arr hl hK ho hO hk =>
    obtain ⟨A, n, c, rfl⟩ := row_form hK
    exact ⟨_, _, _, _, _, _, _, _, rfl⟩
  | obj hn hN hl hkl hK hoN ho hO hk =>
    obtain ⟨A, n, c, rfl⟩ := row_form hK
    obtain ⟨A, n, c, rfl⟩ := row_form hN
    exact ⟨_, _, _, _, _, _, _, _, rfl⟩

theorem flat_at {cs : List (Array Value)} {n : Nat} (h : ∀ a ∈ cs, a.size = n) : ∀ {i : Nat} {a : Array Value}, cs[i]? = some a → ∀ j, j < n → (flat cs)[i * n + j]? = a[j]? := by
  induction cs with
  | nil => intro i a hi; simp at hi
  | cons b bs ih =>
    intro i a hi j hj
    have hb := h b List.mem_cons_self
    cases i with
    | zero =>
      simp only [List.getElem?_cons_zero, Option.some.injEq] at hi
      subst hi
      show (b.toList ++ flat bs)[0 * n + j]? = _
      rw [List.getElem?_append_left (by simp; omega), Nat.zero_mul, Nat.zero_add]
      simp
    | succ i =>
      rw [List.getElem?_cons_succ] at hi
      show (b.toList ++ flat bs)[(i + 1) * n + j]? = _
      rw [List.getElem?_append_right (by simp [Nat.succ_mul, hb]; omega)]
      rw [show (i + 1) * n + j - b.toList.length = i * n + j from by simp [Nat.succ_mul, hb]; omega]
      exact ih (fun a ha => h a (List.mem_cons_of_mem _ ha)) hi j hj

/-- The cells of an element of a row of rows. -/
theorem el_cell {w : World} {base n cap size : Nat} {e : TypeId} {A : Option Addr} {cs : List (Array Value)} (h : w.ownsRow base e size (.slice A n cap) cs.length (flat cs)) (hsz : ∀ a ∈ cs, a.size = size) {i : Nat} {a : Array Value} (hi : cs[i]? = some a) :
    ∃ g, A = some ⟨g, 0, none⟩ ∧ n = cs.length ∧ g < w.heap.size ∧ ∀ j, j < size → w.cell? ⟨g, i * size + j, none⟩ = a[j]? := by
  have hlt : i < cs.length := by
    rcases Nat.lt_or_ge i cs.length with h' | h'
    · exact h'
    · rw [List.getElem?_eq_none h'] at hi; cases hi
  obtain ⟨g, cap', hv, _⟩ := h.form (by omega)
  injection hv with h1 h2 h3
  subst h1; subst h2; subst h3
  refine ⟨g, rfl, rfl, (h.lt g rfl).2, fun j hj => ?_⟩
  rw [h.cellAt _ (by
    have : (i + 1) * size ≤ cs.length * size := Nat.mul_le_mul_right _ hlt
    rw [Nat.succ_mul] at this
    omega)]
  exact flat_at hsz hi j hj

theorem row_len {w : World} {base n cap size m : Nat} {e : TypeId} {A : Option Addr} {xs : List Value} (h : w.ownsRow base e size (.slice A n cap) m xs) : n = m := by
  rcases h.2 with ⟨h1, h2⟩ | ⟨g, cap', cur, hv, _⟩
  · injection h1 with h1 h3 h4; omega
  · injection hv
theorem row_max {w : World} {base size m : Nat} {e : TypeId} {v : Value} {xs : List Value} (h : w.ownsRow base e size v m xs) : m ≤ 9223372036854775807 := by
  rcases h.2 with ⟨h1, h2⟩ | ⟨g, cap', cur, hv, _, _, h1, h2, _⟩
  · omega
  · exact Nat.le_trans h1 h2

theorem Keys.inj : ∀ {a b : List ByteArray} {ks : List (List Int)}, Keys a ks → Keys b ks → a = b
  | [], [], [], _, _ => rfl
  | x :: xs, y :: ys, k :: ks, h, h' => by rw [UQ.inj h.1 h'.1, Keys.inj h.2 h'.2]
  | [], _ :: _, [], _, h' => h'.elim
  | _ :: _, _, [], h, _ => h.elim
  | [], _, _ :: _, h, _ => h.elim
  | _ :: _, [], _ :: _, _, h' => h'.elim

theorem below_drew {B : Nat} {w w' : World} (h : Below B w w') (n : Nat) : Below B w (w'.drewN n) := ⟨h.os, h.tape, h.output, h.size, h.block⟩

theorem cell_keep {w w' : World} {a : Addr} {v : Value} (h : Below w.heap.size w w') (hv : w.cell? a = some v) : w'.cell? a = some v := (h.cell (World.block_lt_of_cell? w _ hv)).trans hv

def SmOk (t : JT) : Prop := ∀ (w : World) (O1 O2 : Nat → Prop) (a b : Array Value), NRep w O1 a t → NRep w O2 b t → (∀ k, O1 k → k < w.heap.size) → (∀ k, O2 k → k < w.heap.size) →
  Calls Tryd.prog 10 #[.agg a, .agg b] w (fun e w' => e = .returned (.bool true) ∧ Below w.heap.size w w')

/-- The cell of an element of a row of strings. -/
theorem key_cell {w : World} {base n cap : Nat} {e : TypeId} {A : Option Addr} {bs : List ByteArray} (h : w.ownsRow base e 1 (.slice A n cap) bs.length (bs.map Value.string)) {i : Nat} {x : ByteArray} (hi : bs[i]? = some x) :
    ∃ g, A = some ⟨g, 0, none⟩ ∧ g < w.heap.size ∧ w.cell? ⟨g, i, none⟩ = some (.string x) := by
  have hlt : i < bs.length := by
    rcases Nat.lt_or_ge i bs.length with h' | h'
    · exact h'
    · rw [List.getElem?_eq_none h'] at hi; cases hi
  obtain ⟨g, cap', hv, _, hg⟩ := h.form (by omega)
  injection hv with h1 h2 h3
  subst h1; subst h2; subst h3
  refine ⟨g, rfl, hg, ?_⟩
  rw [h.cellAt i (by omega), List.getElem?_map, hi]
  rfl

theorem four {w : World} {g : Nat} {t : TypeId} {a b c d : Value} (h : w.heap[g]? = some (.cells #[a, b, c, d] t (0, 0))) :
    w.cell? ⟨g, 0, none⟩ = some a ∧ w.cell? ⟨g, 1, none⟩ = some b ∧ w.cell? ⟨g, 2, none⟩ = some c ∧ w.cell? ⟨g, 3, none⟩ = some d :=
  ⟨blk_cell h 0, blk_cell h 1, blk_cell h 2, blk_cell h 3⟩

set_option maxRecDepth 100000 in
set_option maxHeartbeats 8000000 in
theorem same_node {vs : List JT} (IH : ∀ v ∈ vs, SmOk v) {w : World} {k : Int} {x : ByteArray} {N1 N2 K1 K2 : Value} {bs : List ByteArray} {cs ds : List (Array Value)} {O1 O2 : Nat → Prop}
    (hN1 : w.ownsRow 0 9 1 N1 bs.length (bs.map Value.string)) (hN2 : w.ownsRow 0 9 1 N2 bs.length (bs.map Value.string)) (hl1 : cs.length = vs.length) (hl2 : ds.length = vs.length)
    (hK1 : w.ownsRow 0 25 4 K1 cs.length (flat cs)) (hK2 : w.ownsRow 0 25 4 K2 ds.length (flat ds))
    (hk1 : ∀ (i : Nat) (a : Array Value) (v : JT), cs[i]? = some a → vs[i]? = some v → NRep w O1 a v) (hk2 : ∀ (i : Nat) (a : Array Value) (v : JT), ds[i]? = some a → vs[i]? = some v → NRep w O2 a v)
    (hO1 : ∀ k, O1 k → k < w.heap.size) (hO2 : ∀ k, O2 k → k < w.heap.size) :
    Calls Tryd.prog 10 #[.agg (nd k x N1 K1), .agg (nd k x N2 K2)] w (fun e w' => e = .returned (.bool true) ∧ Below w.heap.size w w') := by
  obtain ⟨A1, n1, c1, rfl⟩ := row_form hN1
  obtain ⟨A2, n2, c2, rfl⟩ := row_form hN2
  obtain ⟨B1, m1, d1, rfl⟩ := row_form hK1
  obtain ⟨B2, m2, d2, rfl⟩ := row_form hK2
  have e1 := row_len hN1
  have e2 := row_len hN2
  have e3 := row_len hK1
  have e4 := row_len hK2
  have hmN := row_max hN1
  have hmK := row_max hK1
  rw [hl1] at e3
  rw [hl2] at e4
  subst e1 e2 e3 e4
  rw [hl1] at hmK
  have HS1 := Lib.hid (show ∀ a ∈ cs, a.size = 4 from fun a ha => by
    obtain ⟨i, hi, rfl⟩ := List.getElem_of_mem ha
    obtain ⟨k, x, A1, A2, n1, c1, n2, c2, h⟩ := (hk1 i cs[i] (vs[i]'(by omega)) (List.getElem?_eq_getElem hi) (List.getElem?_eq_getElem (by omega))).form
    rw [h]; rfl)
  have HS2 := Lib.hid (show ∀ a ∈ ds, a.size = 4 from fun a ha => by
    obtain ⟨i, hi, rfl⟩ := List.getElem_of_mem ha
    obtain ⟨k, x, A1, A2, n1, c1, n2, c2, h⟩ := (hk2 i ds[i] (vs[i]'(by omega)) (List.getElem?_eq_getElem hi) (List.getElem?_eq_getElem (by omega))).form
    rw [h]; rfl)
  have HMAX := Lib.hid (And.intro hmN hmK)
  have HL := Lib.hid (And.intro hl1 hl2)
  have HN := Lib.hid (And.intro hN1 hN2)
  have HK := Lib.hid (And.intro hK1 hK2)
  have HKK := Lib.hid (And.intro hk1 hk2)
  have HO := Lib.hid (And.intro hO1 hO2)
  have HIH := Lib.hid IH
  clear IH hN1 hN2 hK1 hK2 hk1 hk2 hO1 hO2 hmN hmK hl1 hl2
  have hkk : (k == k) = true := by simp
  go_enter Tryd.func10, Tryd.ntmps10
  go_wp2_with (first
    | ((with_reducible refine gate_dst (N := 2) rfl ?_); refine box_event ?hg (N := 2) ?hd (cs := nd k x (.slice A1 bs.length c1) (.slice B1 vs.length d1)) (t := 25) ?hr ?_; (case hd => rfl); (case hg => rfl); (case hr => first | (go_simp; done) | (go_simp; rfl)); intro g2 hg2 w2 hb2 hbel2; have HB2 := Lib.hid hb2; have BEL := Lib.hid hbel2; have HG2 := Lib.hid (show w.heap.size ≤ g2 from by omega); clear hb2 hbel2 hg2)
    | ((with_reducible refine gate_dst (N := 3) rfl ?_); refine box_event ?hg (N := 3) ?hd (cs := nd k x (.slice A2 bs.length c2) (.slice B2 vs.length d2)) (t := 25) ?hr ?_; (case hd => rfl); (case hg => rfl); (case hr => first | (go_simp; done) | (go_simp; rfl)); intro g3 hg3 w3 hb3 hbel3; have HB3 := Lib.hid hb3; have HG3 := Lib.hid (show w.heap.size ≤ g3 ∧ g2 ≠ g3 from ⟨by have := BEL.out.size; omega, by have := blk_lt HB2.out; omega⟩); replace HB2 := Lib.hid ((hbel3.block g2 (blk_lt HB2.out)).trans HB2.out); replace BEL := Lib.hid (BEL.out.trans (hbel3.mono BEL.out.size)); obtain ⟨q0, q1, q2, q3⟩ := four HB2.out; obtain ⟨p0, p1, p2, p3⟩ := four HB3.out; clear hb3 hbel3 hg3))
  clear q0 q1 q2 q3 p0 p1 p2 p3
  go_loopg [5] (bs.length + 1) (fun kq v5 w' => ∃ i : Nat, Hid (i ≤ bs.length ∧ kq = bs.length - i + 1) ∧ v5 = .int .i64 i ∧ Hid (w'.heap[g2]? = some (.cells (nd k x (.slice A1 bs.length c1) (.slice B1 vs.length d1)) 25 (0, 0))) ∧ Hid (w'.heap[g3]? = some (.cells (nd k x (.slice A2 bs.length c2) (.slice B2 vs.length d2)) 25 (0, 0))) ∧ Hid (Below w.heap.size w w'))
  case atStart => exact ⟨0, Lib.hid ⟨Nat.zero_le _, rfl⟩, rfl, HB2, HB3, BEL⟩
  case round =>
    clear HB2 HB3 BEL
    obtain ⟨i, HI, rfl, HB2, HB3, BEL⟩ := hrel
    obtain ⟨q0, q1, q2, q3⟩ := four HB2.out
    obtain ⟨p0, p1, p2, p3⟩ := four HB3.out
    by_cases hi : i < bs.length
    · obtain ⟨y, hy⟩ : ∃ y, bs[i]? = some y := ⟨_, List.getElem?_eq_getElem hi⟩
      obtain ⟨g4, rfl, -, hc4⟩ := key_cell (own_keep HN.out.1 (fun b hb => BEL.out.block b (HN.out.1.lt b hb).2)) hy
      obtain ⟨g5, rfl, -, hc5⟩ := key_cell (own_keep HN.out.2 (fun b hb => BEL.out.block b (HN.out.2.lt b hb).2)) hy
      have h0 : (0 : Int) ≤ (i : Int) := by omega
      have hlti : (i : Int) < (bs.length : Int) := by omega
      have hd1 : decide ((i : Int) < (bs.length : Int)) = true := decide_eq_true (by omega)
      have hd2 : decide (i < bs.length) = true := decide_eq_true (by omega)
      have hw1 : IntKind.i64.wrap ((i : Int) + 1) = (i : Int) + 1 := by rw [IntKind.wrap_i64]; have := HMAX.out; omega
      clear hy
      go_wp2
      go_quiet (fail)
      go_wp2
      go_roundg (bs.length - i)
      case measure => have := HI.out; omega
      case rel => exact ⟨i + 1, Lib.hid ⟨hi, by have := HI.out; omega⟩, by congr 1, HB2, HB3, Lib.hid (below_drew BEL.out _)⟩
    · have hd1 : decide ((i : Int) < (bs.length : Int)) = false := decide_eq_false (by omega)
      have hd2 : decide (i < bs.length) = false := decide_eq_false (by omega)
      go_wp2
      clear q0 q1 q2 q3 p0 p1 p2 p3 hd1 hd2 hi HI
      go_loopg [6] (vs.length + 1) (fun kq v6 w' => ∃ i : Nat, Hid (i ≤ vs.length ∧ kq = vs.length - i + 1) ∧ v6 = .int .i64 i ∧ Hid (w'.heap[g2]? = some (.cells (nd k x (.slice A1 bs.length c1) (.slice B1 vs.length d1)) 25 (0, 0))) ∧ Hid (w'.heap[g3]? = some (.cells (nd k x (.slice A2 bs.length c2) (.slice B2 vs.length d2)) 25 (0, 0))) ∧ Hid (Below w.heap.size w w'))
      case atStart => exact ⟨0, Lib.hid ⟨Nat.zero_le _, rfl⟩, rfl, HB2, HB3, BEL⟩
      case round =>
        clear HB2 HB3 BEL
        obtain ⟨i, HI, rfl, HB2, HB3, BEL⟩ := hrel
        obtain ⟨q0, q1, q2, q3⟩ := four HB2.out
        obtain ⟨p0, p1, p2, p3⟩ := four HB3.out
        by_cases hi : i < vs.length
        · obtain ⟨a, ha⟩ : ∃ a, cs[i]? = some a := ⟨_, List.getElem?_eq_getElem (by have := HL.out; omega)⟩
          obtain ⟨b, hb⟩ : ∃ b, ds[i]? = some b := ⟨_, List.getElem?_eq_getElem (by have := HL.out; omega)⟩
          obtain ⟨v, hv⟩ : ∃ v, vs[i]? = some v := ⟨_, List.getElem?_eq_getElem hi⟩
          have hR1 := HKK.out.1 i a v ha hv
          have hR2 := HKK.out.2 i b v hb hv
          obtain ⟨k', x', A1', A2', n1', c1', n2', c2', rfl⟩ := hR1.form
          obtain ⟨k'', x'', A1'', A2'', n1'', c1'', n2'', c2'', rfl⟩ := hR2.form
          obtain ⟨g4, rfl, -, -, hc4⟩ := el_cell (own_keep HK.out.1 (fun b hb => BEL.out.block b (HK.out.1.lt b hb).2)) HS1.out ha
          obtain ⟨g5, rfl, -, -, hc5⟩ := el_cell (own_keep HK.out.2 (fun b hb => BEL.out.block b (HK.out.2.lt b hb).2)) HS2.out hb
          have y0 := hc4 0 (by omega)
          have y1 := hc4 1 (by omega)
          have y2 := hc4 2 (by omega)
          have y3 := hc4 3 (by omega)
          have z0 := hc5 0 (by omega)
          have z1 := hc5 1 (by omega)
          have z2 := hc5 2 (by omega)
          have z3 := hc5 3 (by omega)
          rw [Nat.add_zero] at y0 z0
          simp only [List.getElem?_toArray, List.size_toArray] at y0 y1 y2 y3 z0 z1 z2 z3
          have h0 : (0 : Int) ≤ (i : Int) := by omega
          have hlti : (i : Int) < (vs.length : Int) := by omega
          have hd1 : decide ((i : Int) < (vs.length : Int)) = true := decide_eq_true (by omega)
          have hd2 : decide (i < vs.length) = true := decide_eq_true (by omega)
          have hw1 : IntKind.i64.wrap ((i : Int) + 1) = (i : Int) + 1 := by rw [IntKind.wrap_i64]; have := HMAX.out; omega
          have HC := Lib.hid (show ∀ n, Calls Tryd.prog 10 #[.agg (nd k' x' (.slice A1' n1' c1') (.slice A2' n2' c2')), .agg (nd k'' x'' (.slice A1'' n1'' c1'') (.slice A2'' n2'' c2''))] (wr.drewN n) (fun e w' => e = .returned (.bool true) ∧ Below (wr.drewN n).heap.size (wr.drewN n) w') from fun n =>
            HIH.out v (List.mem_of_getElem? hv) _ O1 O2 _ _ (hR1.mono (w' := wr.drewN n) (fun b hb => ⟨hb, BEL.out.block b (HO.out.1 b hb)⟩)) (hR2.mono (w' := wr.drewN n) (fun b hb => ⟨hb, BEL.out.block b (HO.out.2 b hb)⟩)) (fun b hb => Nat.lt_of_lt_of_le (HO.out.1 b hb) BEL.out.size) (fun b hb => Nat.lt_of_lt_of_le (HO.out.2 b hb) BEL.out.size))
          clear hc4 hc5 hR1 hR2 ha hb hv
          go_wp2
          go_region_held3 (fun w' => w'.cell? ⟨g2, 3, none⟩ = some (.slice (some ⟨g4, 0, none⟩) vs.length d1) ∧ w'.cell? ⟨g3, 3, none⟩ = some (.slice (some ⟨g5, 0, none⟩) vs.length d2) ∧ w'.cell? ⟨g4, i * 4, none⟩ = some (.int .i64 k') ∧ w'.cell? ⟨g4, i * 4 + 1, none⟩ = some (.string x') ∧ w'.cell? ⟨g4, i * 4 + 2, none⟩ = some (.slice A1' n1' c1') ∧ w'.cell? ⟨g4, i * 4 + 3, none⟩ = some (.slice A2' n2' c2') ∧ w'.cell? ⟨g5, i * 4, none⟩ = some (.int .i64 k'') ∧ w'.cell? ⟨g5, i * 4 + 1, none⟩ = some (.string x'') ∧ w'.cell? ⟨g5, i * 4 + 2, none⟩ = some (.slice A1'' n1'' c1'') ∧ w'.cell? ⟨g5, i * 4 + 3, none⟩ = some (.slice A2'' n2'' c2'')) (go_keep)
            (first | (go_at_call 10; (refine (HC.out _).mono ?_); rintro e w5 ⟨rfl, hb5⟩; have HW5 := Lib.hid hb5; have k0 := cell_keep hb5 q3; have k1 := cell_keep hb5 p3; have k2 := cell_keep hb5 y0; have k3 := cell_keep hb5 y1; have k4 := cell_keep hb5 y2; have k5 := cell_keep hb5 y3; have k6 := cell_keep hb5 z0; have k7 := cell_keep hb5 z1; have k8 := cell_keep hb5 z2; have k9 := cell_keep hb5 z3; clear hb5; try exact ⟨rfl, ‹_›⟩))
          go_wp2
          go_roundg (vs.length - i)
          case measure => have := HI.out; omega
          case rel => exact ⟨i + 1, Lib.hid ⟨hi, by have := HI.out; omega⟩, by congr 1, Lib.hid ((HW5.out.block _ (blk_lt HB2.out)).trans HB2.out), Lib.hid ((HW5.out.block _ (blk_lt HB3.out)).trans HB3.out), Lib.hid ((below_drew BEL.out _).trans (HW5.out.mono BEL.out.size))⟩
        · have hd1 : decide ((i : Int) < (vs.length : Int)) = false := decide_eq_false (by omega)
          have hd2 : decide (i < vs.length) = false := decide_eq_false (by omega)
          go_wp2
          go_ret
          exact ⟨rfl, BEL.out⟩

theorem same_any : ∀ (n : Nat) (t : JT), SizeOf.sizeOf t < n → SmOk t
  | 0, _, h => absurd h (Nat.not_lt_zero _)
  | n + 1, .num s, _ => by
    intro w O1 O2 a b h1 h2 hl1 hl2
    cases h1; cases h2
    exact same_node (vs := []) (bs := []) (cs := []) (ds := []) (O1 := O1) (O2 := O2) (by simp) (World.ownsRow_nil _ _ _ _) (World.ownsRow_nil _ _ _ _) rfl rfl (World.ownsRow_nil _ _ _ _) (World.ownsRow_nil _ _ _ _) (by simp) (by simp) hl1 hl2
  | n + 1, .str s, _ => by
    intro w O1 O2 a b h1 h2 hl1 hl2
    cases h1 with
    | str u1 => cases h2 with
      | str u2 =>
        obtain rfl := u1.inj u2
        exact same_node (vs := []) (bs := []) (cs := []) (ds := []) (O1 := O1) (O2 := O2) (by simp) (World.ownsRow_nil _ _ _ _) (World.ownsRow_nil _ _ _ _) rfl rfl (World.ownsRow_nil _ _ _ _) (World.ownsRow_nil _ _ _ _) (by simp) (by simp) hl1 hl2
  | n + 1, .lit s, _ => by
    intro w O1 O2 a b h1 h2 hl1 hl2
    cases h1 with
    | lit u1 => cases h2 with
      | lit u2 =>
        rename_i k k'
        obtain rfl : k = k' := by omega
        exact same_node (vs := []) (bs := []) (cs := []) (ds := []) (O1 := O1) (O2 := O2) (by simp) (World.ownsRow_nil _ _ _ _) (World.ownsRow_nil _ _ _ _) rfl rfl (World.ownsRow_nil _ _ _ _) (World.ownsRow_nil _ _ _ _) (by simp) (by simp) hl1 hl2
  | n + 1, .arr vs, h => by
    intro w O1 O2 a b h1 h2 hl1 hl2
    cases h1 with
    | arr gl gK go gO gk => cases h2 with
      | arr fl fK fo fO fk =>
        exact same_node (bs := []) (fun v hv => same_any n v (by have := List.sizeOf_lt_of_mem hv; simp only [JT.arr.sizeOf_spec] at h; omega)) (World.ownsRow_nil _ _ _ _) (World.ownsRow_nil _ _ _ _) gl fl gK fK gk fk (fun b hb => hl1 b (gO b hb)) (fun b hb => hl2 b (fO b hb))
  | n + 1, .obj ks vs, h => by
    intro w O1 O2 a b h1 h2 hl1 hl2
    cases h1 with
    | obj gn gN gl gkl gK goN go gO gk => cases h2 with
      | obj fn fN fl fkl fK foN fo fO fk =>
        obtain rfl := gn.inj fn
        exact same_node (fun v hv => same_any n v (by have := List.sizeOf_lt_of_mem hv; simp only [JT.obj.sizeOf_spec] at h; omega)) gN fN gl fl gK fK gk fk (fun b hb => hl1 b (gO b hb)) (fun b hb => hl2 b (fO b hb))
/-- Two nodes that stand for one tree are the same. -/
theorem same_ok (t : JT) : SmOk t := same_any (SizeOf.sizeOf t + 1) t (by omega)

end Go.Proofs.YtfoloneeibgoiaaDoor.Ndr

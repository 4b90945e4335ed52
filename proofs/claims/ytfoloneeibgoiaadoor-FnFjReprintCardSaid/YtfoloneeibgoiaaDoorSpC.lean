/- The reference's Places: a text's values with their offsets, as a tree. -/
import Derived.Test.YtfoloneeibgoiaaDoorSpVa
import Derived.Test.YtfoloneeibgoiaaDoorRpU
import Derived.Deep.DrawnRows
set_option linter.unusedVariables false
set_option linter.unusedSimpArgs false
namespace Go.Proofs.YtfoloneeibgoiaaDoor.Spr
open Go Go.RowKit Go.Proofs.YtfoloneeibgoiaaDoorW.PrintWords Go.Proofs.YtfoloneeibgoiaaDoor.Fjh Go.Proofs.YtfoloneeibgoiaaDoor.JTr

/-- What Places reads. -/
def readL (l : List Int) : Option JT := (tval (2 * l.length + 2) (ws l)).bind fun r => if ws r.2 = [] then some r.1 else none
/-- What Places leaves. -/
def PcR (s : ByteArray) (w : World) (o : Option JT) (e : Ending) (w' : World) : Prop :=
  match o with
  | some t => ∃ a, e = .returned (.tuple #[.agg a, .bool true]) ∧ PRep w' s (Btw w w') a t ∧ Below w.heap.size w w'
  | none => e = .returned (.tuple #[.agg (pl 0 0 0 nilS nilS), .bool false]) ∧ Below w.heap.size w w'

theorem kb_below {B g : Nat} {w w1 w2 : World} (h : Below B w w1) (hk : Kb g w1 w2) (hg : B ≤ g) (hs : B ≤ w1.heap.size) : Below B w w2 :=
  h.trans ⟨hk.os, hk.tape, hk.output, hk.size, fun k hb => hk.block k (by omega) (by omega)⟩
theorem rd_new (w : World) (s : ByteArray) (t : TypeId) : RdI (w.alloc (.cells #[.string s, .int .i64 0] t (0, 0))) w.heap.size s 0 :=
  ⟨blk_cell (blk_new w _) 0, blk_frozen (blk_new w _) 0, blk_cell (blk_new w _) 1, blk_frozen (blk_new w _) 1⟩
theorem at_zero (s : ByteArray) : At s 0 (bytesOf s) := ⟨Nat.zero_le _, rfl⟩
theorem bytes_len (s : ByteArray) : (bytesOf s).length = s.size := bytesOf_length s

/-- Places' last stores. -/
abbrev put5 (w : World) (g2 : Nat) (x y z : Int) (N K : Value) : World := ((((w.setCell ⟨g2, 0, none⟩ (.int .i64 x)).setCell ⟨g2, 1, none⟩ (.int .i64 y)).setCell ⟨g2, 2, none⟩ (.int .i64 z)).setCell ⟨g2, 3, none⟩ N).setCell ⟨g2, 4, none⟩ K
theorem zero_block {w : World} {g2 : Nat} {x y z : Int} {N K : Value} (h : w.heap[g2]? = some (.cells #[.int .i64 0, .int .i64 0, .int .i64 0, .slice none 0 0, .slice none 0 0] 56 (0, 0))) : (put5 w g2 x y z N K).heap[g2]? = some (.cells #[.int .i64 x, .int .i64 y, .int .i64 z, N, K] 56 (0, 0)) :=
  blk_put (blk_put (blk_put (blk_put (blk_put h 0 _ rfl) 1 _ rfl) 2 _ rfl) 3 _ rfl) 4 _ rfl
theorem put5_below {B : Nat} {w0 w : World} {g2 : Nat} {x y z : Int} {N K : Value} (h : Below B w0 w) (hB : B ≤ g2) : Below B w0 (put5 w g2 x y z N K) :=
  ((((h.setCell hB _).setCell hB _).setCell hB _).setCell hB _).setCell hB _
theorem put5_other {w : World} {g2 b : Nat} {x y z : Int} {N K : Value} (h : b ≠ g2) : (put5 w g2 x y z N K).heap[b]? = w.heap[b]? := by
  unfold put5
  rw [Below.heap_setCell _ _ _ _ h, Below.heap_setCell _ _ _ _ h, Below.heap_setCell _ _ _ _ h, Below.heap_setCell _ _ _ _ h, Below.heap_setCell _ _ _ _ h]
theorem put5_size {w : World} {g2 : Nat} {x y z : Int} {N K : Value} : (put5 w g2 x y z N K).heap.size = w.heap.size := by simp [put5, World.setCell]

set_option maxRecDepth 100000 in
set_option maxHeartbeats 8000000 in
theorem places {s : ByteArray} {w : World} (hs : s.size ≤ 1000000000) : Calls Tryd.prog 23 #[.string s] w (PcR s w (readL (bytesOf s))) := by
  have HS9 := Lib.hid hs
  have HS := Lib.hid (show s.size ≤ 2147483647 by omega)
  have HB0 := Lib.hid (Below.refl w.heap.size w)
  have HV := Lib.hid (rvalue_all (2 * s.size + 2))
  clear hs
  have hlen : (bytesOf s).length = s.size := bytesOf_length s
  have hle : (ws (bytesOf s)).length ≤ s.size := by rw [← hlen]; exact ws_len _
  have HL := Lib.hid (show 2 * (ws (bytesOf s)).length + 1 < 2 * s.size + 2 by omega)
  have HR := Lib.hid (show readL (bytesOf s) = (tval (2 * s.size + 2) (ws (bytesOf s))).bind fun r => if ws r.2 = [] then some r.1 else none by unfold readL; rw [hlen])
  clear hlen hle



  cases ho : tval (2 * s.size + 2) (ws (bytesOf s)) with
  | none =>
    have HO := Lib.hid ho
    clear ho
    go_enter Tryd.func23, Tryd.ntmps23
    go_upto_region 5 with (first
      | ((with_reducible refine gate_dst (N := 2) rfl ?_); refine box_event ?hg (N := 2) ?hd (cs := #[.int .i64 0, .int .i64 0, .int .i64 0, .slice none 0 0, .slice none 0 0]) (t := 56) ?hr ?_; (case hd => rfl); (case hg => rfl); (case hr => first | (go_simp; done) | (go_simp; rfl)); intro g2 hg2 w2 hb2 hbel2; have HB2 := Lib.hid hb2; have HBe := Lib.hid hbel2; have HG2 := Lib.hid (show w.heap.size ≤ g2 ∧ g2 < w2.heap.size from ⟨by omega, blk_lt hb2⟩); clear hb2 hbel2 hg2)
      | (go_at_call 39; refine (rblanks (rd_new w2 s _) (at_zero s) HS.out).mono ?_; rintro e w5 ⟨rfl, k5, hA5, hp⟩; have HA5 := Lib.hid hA5; have hb5 := (hp.kb.block g2 (by have := HG2.out.2; show _ < (w2.heap.push _).size; simp; omega) (by have := HG2.out.2; omega)).trans (blk_alloc HB2.out _); have HG4 := Lib.hid (show w.heap.size ≤ w2.heap.size ∧ g2 < w2.heap.size ∧ g2 ≠ w2.heap.size from ⟨by have := HG2.out; omega, HG2.out.2, by have := HG2.out; omega⟩); replace HBe := Lib.hid (kb_below (HBe.out.alloc (by have := HG2.out; omega) _) hp.kb (by have := HG2.out; omega) (by have := HG2.out; show _ ≤ (w2.heap.push _).size; simp; omega)); replace HB2 := Lib.hid hb5; have HP := Lib.hid hp.st; generalize w2.heap.size = g4 at *; clear hA5 hp hb5)
      | (go_at_call 40; have hv := HV.out _ g4 k5 s w5 HP.out HA5.out HS9.out HL.out; rw [HO.out] at hv; refine hv.mono ?_; clear hv; rintro e w6 ⟨x, y, z, A1, A2, n1', c1, n2', c2, k6, rfl, hI6, hkb⟩; have hb6 := (hkb.block g2 (blk_lt HB2.out) HG4.out.2.2).trans HB2.out; replace HB2 := Lib.hid hb6; replace HBe := Lib.hid (kb_below HBe.out hkb HG4.out.1 (Nat.le_trans HG4.out.1 (Nat.le_of_lt HP.out.lt))); replace HP := Lib.hid hI6; clear hb6 hkb hI6))
    have hb7 := blk_alloc HB2.out (.cells #[.int .i64 x, .int .i64 y, .int .i64 z, .slice A1 n1' c1, .slice A2 n2' c2] 56 (0, 0))
    have hbe7 := HBe.out.alloc (Nat.le_trans HG4.out.1 (Nat.le_of_lt HP.out.lt)) (.cells #[.int .i64 x, .int .i64 y, .int .i64 z, .slice A1 n1' c1, .slice A2 n2' c2] 56 (0, 0))
    generalize hw7 : w6.alloc _ = w7 at hb7 hbe7 ⊢
    clear hw7
    obtain ⟨q0, q1, q2, q3, q4⟩ := five hb7
    obtain ⟨f0, f1, f2, f3, f4⟩ := five_f hb7
    replace HB2 := Lib.hid hb7
    replace HBe := Lib.hid hbe7
    clear hb7 hbe7
    go_wp2
    refine bodyPost_ret (results_ct rfl _ _ g2 56 _ (0, 0) _ rfl (zero_block HB2.out) Tryd.underlying56 rfl (by kernel_rfl)) rfl ?_
    rw [HR.out, HO.out]
    exact ⟨rfl, put5_below HBe.out HG2.out.1⟩
  | some r =>
    obtain ⟨t, r⟩ := r
    have HO := Lib.hid ho
    clear ho
    by_cases he : ws r = []
    · have HE := Lib.hid he
      clear he
      go_enter Tryd.func23, Tryd.ntmps23
      go_upto_region 4 with (first
        | ((with_reducible refine gate_dst (N := 2) rfl ?_); refine box_event ?hg (N := 2) ?hd (cs := #[.int .i64 0, .int .i64 0, .int .i64 0, .slice none 0 0, .slice none 0 0]) (t := 56) ?hr ?_; (case hd => rfl); (case hg => rfl); (case hr => first | (go_simp; done) | (go_simp; rfl)); intro g2 hg2 w2 hb2 hbel2; have HB2 := Lib.hid hb2; have HBe := Lib.hid hbel2; have HG2 := Lib.hid (show w.heap.size ≤ g2 ∧ g2 < w2.heap.size from ⟨by omega, blk_lt hb2⟩); clear hb2 hbel2 hg2)
        | (go_at_call 39; refine (rblanks (rd_new w2 s _) (at_zero s) HS.out).mono ?_; rintro e w5 ⟨rfl, k5, hA5, hp⟩; have HA5 := Lib.hid hA5; have hb5 := (hp.kb.block g2 (by have := HG2.out.2; show _ < (w2.heap.push _).size; simp; omega) (by have := HG2.out.2; omega)).trans (blk_alloc HB2.out _); have HG4 := Lib.hid (show w.heap.size ≤ w2.heap.size ∧ g2 < w2.heap.size ∧ g2 ≠ w2.heap.size from ⟨by have := HG2.out; omega, HG2.out.2, by have := HG2.out; omega⟩); replace HBe := Lib.hid (kb_below (HBe.out.alloc (by have := HG2.out; omega) _) hp.kb (by have := HG2.out; omega) (by have := HG2.out; show _ ≤ (w2.heap.push _).size; simp; omega)); replace HB2 := Lib.hid hb5; have HP := Lib.hid hp.st; generalize w2.heap.size = g4 at *; clear hA5 hp hb5)
        | (go_at_call 40; have hv := HV.out _ g4 k5 s w5 HP.out HA5.out HS9.out HL.out; rw [HO.out] at hv; refine hv.mono ?_; clear hv; rintro e w6 ⟨a, k6, rfl, hR, hA6, hI6, hkb⟩; obtain ⟨x, y, z, N, K, rfl, ⟨A1, n1', c1, rfl⟩, A2, n2', c2, rfl⟩ := hR.form; have hb6 := (hkb.block g2 (blk_lt HB2.out) HG4.out.2.2).trans HB2.out; have HLT := Lib.hid (show g2 < w5.heap.size ∧ g4 < w5.heap.size ∧ w.heap.size ≤ w5.heap.size from ⟨blk_lt HB2.out, HP.out.lt, Nat.le_trans HG4.out.1 (Nat.le_of_lt HP.out.lt)⟩); replace HB2 := Lib.hid hb6; replace HBe := Lib.hid (kb_below HBe.out hkb HG4.out.1 HLT.out.2.2); replace HP := Lib.hid hI6; have HR6 := Lib.hid hR; have HA6 := Lib.hid hA6; clear hb6 hkb hI6 hR hA6))
      have hb27 := blk_alloc HB2.out (.cells #[.int .i64 x, .int .i64 y, .int .i64 z, .slice A1 n1' c1, .slice A2 n2' c2] 56 (0, 0))
      have hb57 := blk_new w6 (.cells #[.int .i64 x, .int .i64 y, .int .i64 z, .slice A1 n1' c1, .slice A2 n2' c2] 56 (0, 0))
      have hbe7 := HBe.out.alloc (Nat.le_trans HG4.out.1 (Nat.le_of_lt HP.out.lt)) (.cells #[.int .i64 x, .int .i64 y, .int .i64 z, .slice A1 n1' c1, .slice A2 n2' c2] 56 (0, 0))
      have hi7 := (st_alloc ⟨HP.out, Kb.refl _ _⟩ (.cells #[.int .i64 x, .int .i64 y, .int .i64 z, .slice A1 n1' c1, .slice A2 n2' c2] 56 (0, 0))).1
      have hk7 : (w6.alloc (.cells #[.int .i64 x, .int .i64 y, .int .i64 z, .slice A1 n1' c1, .slice A2 n2' c2] 56 (0, 0))).heap.size = w6.heap.size + 1 ∧ ∀ b, b < w6.heap.size → (w6.alloc (.cells #[.int .i64 x, .int .i64 y, .int .i64 z, .slice A1 n1' c1, .slice A2 n2' c2] 56 (0, 0))).heap[b]? = w6.heap[b]? := ⟨by show (w6.heap.push _).size = _; simp, fun b hb => Below.heap_alloc w6 _ b hb⟩
      have HQ := Lib.hid (show w6.heap.size ≠ g4 ∧ w6.heap.size ≠ g2 from ⟨Nat.ne_of_gt HP.out.lt, Nat.ne_of_gt (blk_lt HB2.out)⟩)
      generalize hw7 : w6.alloc _ = w7 at hb27 hb57 hbe7 hi7 hk7 ⊢
      clear hw7
      generalize hg5 : w6.heap.size = g5 at hb57 HQ ⊢
      replace HB2 := Lib.hid hb27
      have HB5 := Lib.hid hb57
      replace HBe := Lib.hid hbe7
      replace HP := Lib.hid hi7
      have HK7 := Lib.hid hk7
      clear hb27 hb57 hbe7 hi7 hk7 hg5
      go_upto_region 7 with (first
        | (go_at_call 39; refine (rblanks HP.out HA6.out HS.out).mono ?_; rintro e w8 ⟨rfl, k8, hA8, hp⟩; have hb2 := (hp.kb.block g2 (blk_lt HB2.out) HG4.out.2.2).trans HB2.out; have hb5 := (hp.kb.block g5 (blk_lt HB5.out) HQ.out.1).trans HB5.out; replace HBe := Lib.hid (kb_below HBe.out hp.kb HG4.out.1 (Nat.le_of_lt (Nat.lt_of_le_of_lt HG4.out.1 HP.out.lt))); have HK8 := Lib.hid (show ∀ b, Btw w5 w6 b → b < w8.heap.size ∧ w8.heap[b]? = w6.heap[b]? from fun b hb => ⟨Nat.lt_of_lt_of_le (by have := HK7.out.1; have := hb.2; omega) hp.kb.size, (hp.kb.block b (by have := HK7.out.1; have := hb.2; omega) (by have := HLT.out; have := hb.1; omega)).trans (HK7.out.2 b hb.2)⟩); replace HB2 := Lib.hid hb2; replace HB5 := Lib.hid hb5; replace HP := Lib.hid hp.st; have HA8 := Lib.hid hA8; clear hA8 hp hb5 hb2))
      have ck := HP.out.c1
      have hk8 : k8 = s.size := by
        have h := HA8.out
        rw [HE.out] at h
        exact h.nil
      subst hk8
      have hbq : ((s.size : Int) == (s.size : Int)) = true := by simp
      obtain ⟨q0, q1, q2, q3, q4⟩ := five HB2.out
      obtain ⟨f0, f1, f2, f3, f4⟩ := five_f HB2.out
      obtain ⟨z0, z1, z2, z3, z4⟩ := five HB5.out
      obtain ⟨y0, y1, y2, y3, y4⟩ := five_f HB5.out
      have n1 : g2 ≠ g5 := by have := HQ.out.2; omega
      have n2 : g5 ≠ g2 := n1.symm
      have n3 : g2 ≠ g4 := HG4.out.2.2
      have n4 := n3.symm
      go_wp2
      refine bodyPost_ret (results_ct rfl _ _ g2 56 _ (0, 0) _ rfl (zero_block HB2.out) Tryd.underlying56 rfl (by kernel_rfl)) rfl ?_
      rw [HR.out, HO.out]
      rw [show ((some (t, r) : Option (JT × List Int)).bind fun r => if ws r.2 = [] then some r.1 else none) = some t from if_pos HE.out]
      have hm : ∀ b, Btw w5 w6 b → Btw w (put5 w8 g2 x y z (.slice A1 n1' c1) (.slice A2 n2' c2)) b ∧ (put5 w8 g2 x y z (.slice A1 n1' c1) (.slice A2 n2' c2)).heap[b]? = w6.heap[b]? := by
        intro b hb
        have h1 := hb.1
        have h2 := HK8.out b hb
        have h3 := HLT.out
        exact ⟨⟨by omega, by rw [put5_size]; exact h2.1⟩, (put5_other (by omega)).trans h2.2⟩
      exact ⟨_, rfl, HR6.out.mono hm, put5_below HBe.out HG2.out.1⟩
    · have HE := Lib.hid he
      clear he
      go_enter Tryd.func23, Tryd.ntmps23
      go_upto_region 4 with (first
        | ((with_reducible refine gate_dst (N := 2) rfl ?_); refine box_event ?hg (N := 2) ?hd (cs := #[.int .i64 0, .int .i64 0, .int .i64 0, .slice none 0 0, .slice none 0 0]) (t := 56) ?hr ?_; (case hd => rfl); (case hg => rfl); (case hr => first | (go_simp; done) | (go_simp; rfl)); intro g2 hg2 w2 hb2 hbel2; have HB2 := Lib.hid hb2; have HBe := Lib.hid hbel2; have HG2 := Lib.hid (show w.heap.size ≤ g2 ∧ g2 < w2.heap.size from ⟨by omega, blk_lt hb2⟩); clear hb2 hbel2 hg2)
        | (go_at_call 39; refine (rblanks (rd_new w2 s _) (at_zero s) HS.out).mono ?_; rintro e w5 ⟨rfl, k5, hA5, hp⟩; have HA5 := Lib.hid hA5; have hb5 := (hp.kb.block g2 (by have := HG2.out.2; show _ < (w2.heap.push _).size; simp; omega) (by have := HG2.out.2; omega)).trans (blk_alloc HB2.out _); have HG4 := Lib.hid (show w.heap.size ≤ w2.heap.size ∧ g2 < w2.heap.size ∧ g2 ≠ w2.heap.size from ⟨by have := HG2.out; omega, HG2.out.2, by have := HG2.out; omega⟩); replace HBe := Lib.hid (kb_below (HBe.out.alloc (by have := HG2.out; omega) _) hp.kb (by have := HG2.out; omega) (by have := HG2.out; show _ ≤ (w2.heap.push _).size; simp; omega)); replace HB2 := Lib.hid hb5; have HP := Lib.hid hp.st; generalize w2.heap.size = g4 at *; clear hA5 hp hb5)
        | (go_at_call 40; have hv := HV.out _ g4 k5 s w5 HP.out HA5.out HS9.out HL.out; rw [HO.out] at hv; refine hv.mono ?_; clear hv; rintro e w6 ⟨a, k6, rfl, hR, hA6, hI6, hkb⟩; obtain ⟨x, y, z, N, K, rfl, ⟨A1, n1', c1, rfl⟩, A2, n2', c2, rfl⟩ := hR.form; have hb6 := (hkb.block g2 (blk_lt HB2.out) HG4.out.2.2).trans HB2.out; have HLT := Lib.hid (show g2 < w5.heap.size ∧ g4 < w5.heap.size ∧ w.heap.size ≤ w5.heap.size from ⟨blk_lt HB2.out, HP.out.lt, Nat.le_trans HG4.out.1 (Nat.le_of_lt HP.out.lt)⟩); replace HB2 := Lib.hid hb6; replace HBe := Lib.hid (kb_below HBe.out hkb HG4.out.1 HLT.out.2.2); replace HP := Lib.hid hI6; have HR6 := Lib.hid hR; have HA6 := Lib.hid hA6; clear hb6 hkb hI6 hR hA6))
      have hb27 := blk_alloc HB2.out (.cells #[.int .i64 x, .int .i64 y, .int .i64 z, .slice A1 n1' c1, .slice A2 n2' c2] 56 (0, 0))
      have hb57 := blk_new w6 (.cells #[.int .i64 x, .int .i64 y, .int .i64 z, .slice A1 n1' c1, .slice A2 n2' c2] 56 (0, 0))
      have hbe7 := HBe.out.alloc (Nat.le_trans HG4.out.1 (Nat.le_of_lt HP.out.lt)) (.cells #[.int .i64 x, .int .i64 y, .int .i64 z, .slice A1 n1' c1, .slice A2 n2' c2] 56 (0, 0))
      have hi7 := (st_alloc ⟨HP.out, Kb.refl _ _⟩ (.cells #[.int .i64 x, .int .i64 y, .int .i64 z, .slice A1 n1' c1, .slice A2 n2' c2] 56 (0, 0))).1
      have hk7 : (w6.alloc (.cells #[.int .i64 x, .int .i64 y, .int .i64 z, .slice A1 n1' c1, .slice A2 n2' c2] 56 (0, 0))).heap.size = w6.heap.size + 1 ∧ ∀ b, b < w6.heap.size → (w6.alloc (.cells #[.int .i64 x, .int .i64 y, .int .i64 z, .slice A1 n1' c1, .slice A2 n2' c2] 56 (0, 0))).heap[b]? = w6.heap[b]? := ⟨by show (w6.heap.push _).size = _; simp, fun b hb => Below.heap_alloc w6 _ b hb⟩
      have HQ := Lib.hid (show w6.heap.size ≠ g4 ∧ w6.heap.size ≠ g2 from ⟨Nat.ne_of_gt HP.out.lt, Nat.ne_of_gt (blk_lt HB2.out)⟩)
      generalize hw7 : w6.alloc _ = w7 at hb27 hb57 hbe7 hi7 hk7 ⊢
      clear hw7
      generalize hg5 : w6.heap.size = g5 at hb57 HQ ⊢
      replace HB2 := Lib.hid hb27
      have HB5 := Lib.hid hb57
      replace HBe := Lib.hid hbe7
      replace HP := Lib.hid hi7
      have HK7 := Lib.hid hk7
      clear hb27 hb57 hbe7 hi7 hk7 hg5
      go_upto_region 7 with (first
        | (go_at_call 39; refine (rblanks HP.out HA6.out HS.out).mono ?_; rintro e w8 ⟨rfl, k8, hA8, hp⟩; have hb2 := (hp.kb.block g2 (blk_lt HB2.out) HG4.out.2.2).trans HB2.out; have hb5 := (hp.kb.block g5 (blk_lt HB5.out) HQ.out.1).trans HB5.out; replace HBe := Lib.hid (kb_below HBe.out hp.kb HG4.out.1 (Nat.le_of_lt (Nat.lt_of_le_of_lt HG4.out.1 HP.out.lt))); have HK8 := Lib.hid (show ∀ b, Btw w5 w6 b → b < w8.heap.size ∧ w8.heap[b]? = w6.heap[b]? from fun b hb => ⟨Nat.lt_of_lt_of_le (by have := HK7.out.1; have := hb.2; omega) hp.kb.size, (hp.kb.block b (by have := HK7.out.1; have := hb.2; omega) (by have := HLT.out; have := hb.1; omega)).trans (HK7.out.2 b hb.2)⟩); replace HB2 := Lib.hid hb2; replace HB5 := Lib.hid hb5; replace HP := Lib.hid hp.st; have HA8 := Lib.hid hA8; clear hA8 hp hb5 hb2))
      have ck := HP.out.c1
      have hk8 : k8 < s.size := by
        have h := HA8.out
        cases hw : ws r with
        | nil => exact absurd hw HE.out
        | cons c t => rw [hw] at h; exact h.cons.1
      have hbq : ((k8 : Int) == (s.size : Int)) = false := beq_eq_false_iff_ne.mpr (by omega)
      have hbn : (k8 == s.size) = false := beq_eq_false_iff_ne.mpr (by omega)
      obtain ⟨q0, q1, q2, q3, q4⟩ := five HB2.out
      obtain ⟨f0, f1, f2, f3, f4⟩ := five_f HB2.out
      have n3 : g2 ≠ g4 := HG4.out.2.2
      have n4 := n3.symm
      go_wp2
      refine bodyPost_ret (results_ct rfl _ _ g2 56 _ (0, 0) _ rfl (zero_block HB2.out) Tryd.underlying56 rfl (by kernel_rfl)) rfl ?_
      rw [HR.out, HO.out]
      rw [show ((some (t, r) : Option (JT × List Int)).bind fun r => if ws r.2 = [] then some r.1 else none) = none from if_neg HE.out]
      exact ⟨rfl, put5_below HBe.out HG2.out.1⟩

end Go.Proofs.YtfoloneeibgoiaaDoor.Spr

/- The reference's nodes in memory: what a Node's value stands for, as a tree; its depth. -/
set_option linter.unusedVariables false
set_option linter.unusedSimpArgs false
namespace Go.Proofs.YtfoloneeibgoiaaDoor.Spr
open Go Go.RowKit Go.Proofs.YtfoloneeibgoiaaDoorW.PrintWords Go.Proofs.YtfoloneeibgoiaaDoor.Fjh Go.Proofs.YtfoloneeibgoiaaDoor.JTr

/-- The characters of a string whose inside is l. -/
def UQ (l : List Int) (b : ByteArray) : Prop := ∃ k, U8.spec_Unquote.f k (strOfNums (34 :: (l ++ [34]))) = some b
def Keys : List ByteArray → List (List Int) → Prop
  | [], [] => True
  | b :: bs, k :: ks => UQ k b ∧ Keys bs ks
  | _, _ => False
/-- A Node's four cells. -/
abbrev nd (k : Int) (t : ByteArray) (N K : Value) : Array Value := #[.int .i64 k, .string t, N, K]

/-- What a Node stands for; its rows lie in the blocks 'own'. -/
inductive NRep (w : World) : (Nat → Prop) → Array Value → JT → Prop
  | num {own : Nat → Prop} {l : List Int} : NRep w own (nd 3 (strOfNums l) nilS nilS) (.num l)
  | str {own : Nat → Prop} {l : List Int} {b : ByteArray} (h : UQ l b) : NRep w own (nd 4 b nilS nilS) (.str l)
  | lit {own : Nat → Prop} {k t : Int} (h : (k = 0 ∧ t = 0) ∨ (k = 1 ∧ t = 6) ∨ (k = 2 ∧ t = 5)) : NRep w own (nd k ByteArray.empty nilS nilS) (.lit t)
  | arr {own : Nat → Prop} {K : Value} {cs : List (Array Value)} {vs : List JT} {O : Nat → Prop} (hl : cs.length = vs.length) (hK : w.ownsRow 0 25 4 K cs.length (flat cs)) (ho : ∀ k, K.ownBlock = some k → own k) (hO : ∀ k, O k → own k)
      (hk : ∀ (i : Nat) (a : Array Value) (v : JT), cs[i]? = some a → vs[i]? = some v → NRep w O a v) : NRep w own (nd 5 ByteArray.empty nilS K) (.arr vs)
  | obj {own : Nat → Prop} {N K : Value} {bs : List ByteArray} {cs : List (Array Value)} {ks : List (List Int)} {vs : List JT} {O : Nat → Prop} (hn : Keys bs ks) (hN : w.ownsRow 0 9 1 N bs.length (bs.map Value.string)) (hl : cs.length = vs.length) (hkl : ks.length = vs.length) (hK : w.ownsRow 0 25 4 K cs.length (flat cs))
      (hoN : ∀ k, N.ownBlock = some k → own k) (ho : ∀ k, K.ownBlock = some k → own k) (hO : ∀ k, O k → own k)
      (hk : ∀ (i : Nat) (a : Array Value) (v : JT), cs[i]? = some a → vs[i]? = some v → NRep w O a v) : NRep w own (nd 6 ByteArray.empty N K) (.obj ks vs)

theorem NRep.mono {w w' : World} {own own' : Nat → Prop} (hm : ∀ k, own k → own' k ∧ w'.heap[k]? = w.heap[k]?) {a : Array Value} {t : JT} (h : NRep w own a t) : NRep w' own' a t := by
  induction h generalizing own' with
  | num => exact .num
  | str h => exact .str h
  | lit h => exact .lit h
  | arr hl hK ho hO hk ih => exact .arr hl (own_keep hK (fun k hk => (hm k (ho k hk)).2)) (fun k hk => (hm k (ho k hk)).1) (fun k hk => (hm k (hO k hk)).1) (fun i a v ha hv => ih i a v ha hv (fun k hk => ⟨hk, (hm k (hO k hk)).2⟩))
  | obj hn hN hl hkl hK hoN ho hO hk ih => exact .obj hn (own_keep hN (fun k hk => (hm k (hoN k hk)).2)) hl hkl (own_keep hK (fun k hk => (hm k (ho k hk)).2)) (fun k hk => (hm k (hoN k hk)).1) (fun k hk => (hm k (ho k hk)).1) (fun k hk => (hm k (hO k hk)).1) (fun i a v ha hv => ih i a v ha hv (fun k hk => ⟨hk, (hm k (hO k hk)).2⟩))

/-- A Node's cells are four. -/
theorem NRep.form {w : World} {own : Nat → Prop} {a : Array Value} {t : JT} (h : NRep w own a t) : ∃ (k : Int) (x : ByteArray) (A1 A2 : Option Addr) (n1 c1 n2 c2 : Nat), a = nd k x (.slice A1 n1 c1) (.slice A2 n2 c2) := by
  cases h with
  | num => exact ⟨_, _, _, _, _, _, _, _, rfl⟩
  | str h => exact ⟨_, _, _, _, _, _, _, _, rfl⟩
  | lit h => exact ⟨_, _, _, _, _, _, _, _, rfl⟩
  | arr hl hK ho hO hk =>
    obtain ⟨A, n, c, rfl⟩ := row_form hK
    exact ⟨_, _, _, _, _, _, _, _, rfl⟩
  | obj hn hN hl hkl hK hoN ho hO hk =>
    obtain ⟨A, n, c, rfl⟩ := row_form hK
    obtain ⟨A, n, c, rfl⟩ := row_form hN
    exact ⟨_, _, _, _, _, _, _, _, rfl⟩

theorem flat_at {cs : List (Array Value)} {n : Nat} (h : ∀ a ∈ cs, a.size = n) : ∀ {i : Nat} {a : Array Value}, cs[i]? = some a → ∀ j, j < n → (flat cs)[i * n + j]? = a[j]? := by
  induction cs with
  | nil => intro i a hi; simp at hi
  | cons b bs ih =>
    intro i a hi j hj
    have hb := h b List.mem_cons_self
    cases i with
    | zero =>
      simp only [List.getElem?_cons_zero, Option.some.injEq] at hi
      subst hi
      show (b.toList ++ flat bs)[0 * n + j]? = _
      rw [List.getElem?_append_left (by simp; omega), Nat.zero_mul, Nat.zero_add]
      simp
    | succ i =>
      rw [List.getElem?_cons_succ] at hi
      show (b.toList ++ flat bs)[(i + 1) * n + j]? = _
      rw [List.getElem?_append_right (by simp [Nat.succ_mul, hb]; omega)]
      rw [show (i + 1) * n + j - b.toList.length = i * n + j from by simp [Nat.succ_mul, hb]; omega]
      exact ih (fun a ha => h a (List.mem_cons_of_mem _ ha)) hi j hj

/-- The cells of an element of a row of rows. -/
theorem el_cell {w : World} {base n cap size : Nat} {e : TypeId} {A : Option Addr} {cs : List (Array Value)} (h : w.ownsRow base e size (.slice A n cap) cs.length (flat cs)) (hsz : ∀ a ∈ cs, a.size = size) {i : Nat} {a : Array Value} (hi : cs[i]? = some a) :
    ∃ g, A = some ⟨g, 0, none⟩ ∧ n = cs.length ∧ g < w.heap.size ∧ ∀ j, j < size → w.cell? ⟨g, i * size + j, none⟩ = a[j]? := by
  have hlt : i < cs.length := by
    rcases Nat.lt_or_ge i cs.length with h' | h'
    · exact h'
    · rw [List.getElem?_eq_none h'] at hi; cases hi
  obtain ⟨g, cap', hv, _⟩ := h.form (by omega)
  injection hv with h1 h2 h3
  subst h1; subst h2; subst h3
  refine ⟨g, rfl, rfl, (h.lt g rfl).2, fun j hj => ?_⟩
  rw [h.cellAt _ (by
    have : (i + 1) * size ≤ cs.length * size := Nat.mul_le_mul_right _ hlt
    rw [Nat.succ_mul] at this
    omega)]
  exact flat_at hsz hi j hj

theorem depL_take {vs : List JT} {i : Nat} {v : JT} (h : vs[i]? = some v) : depL (vs.take (i + 1)) = max (depL (vs.take i)) (dep v) := by
  induction vs generalizing i with
  | nil => simp at h
  | cons a vs ih =>
    cases i with
    | zero =>
      simp only [List.getElem?_cons_zero, Option.some.injEq] at h
      subst h
      simp [depL]
    | succ i =>
      rw [List.getElem?_cons_succ] at h
      rw [List.take_succ_cons, List.take_succ_cons]
      simp only [depL]
      rw [ih h]
      omega
theorem dep_le_depL {vs : List JT} {v : JT} (h : v ∈ vs) : dep v ≤ depL vs := by
  induction vs with
  | nil => cases h
  | cons a vs ih =>
    simp only [depL]
    rcases List.mem_cons.mp h with rfl | h
    · omega
    · have := ih h; omega

theorem row_len {w : World} {base n cap size m : Nat} {e : TypeId} {A : Option Addr} {xs : List Value} (h : w.ownsRow base e size (.slice A n cap) m xs) : n = m := by
  rcases h.2 with ⟨h1, h2⟩ | ⟨g, cap', cur, hv, _⟩
  · injection h1 with h1 h3 h4; omega
  · injection hv
theorem row_max {w : World} {base size m : Nat} {e : TypeId} {v : Value} {xs : List Value} (h : w.ownsRow base e size v m xs) : m ≤ 9223372036854775807 := by
  rcases h.2 with ⟨h1, h2⟩ | ⟨g, cap', cur, hv, _, _, h1, h2, _⟩
  · omega
  · exact Nat.le_trans h1 h2

/-- Depth of a node. -/
def DpOk (t : JT) : Prop := ∀ (w : World) (own : Nat → Prop) (a : Array Value), NRep w own a t → (∀ k, own k → k < w.heap.size) → dep t ≤ 1000000000 →
  Calls Tryd.prog 14 #[.agg a] w (fun e w' => e = .returned (.int .i64 (dep t)) ∧ Below w.heap.size w w')

set_option maxRecDepth 100000 in
set_option maxHeartbeats 8000000 in
theorem depth_leaf {t : JT} (h : dep t = 0 ∧ (∀ vs, t ≠ .arr vs) ∧ (∀ ks vs, t ≠ .obj ks vs)) : DpOk t := by
  intro w own a hR hlow hd
  obtain ⟨k, x, A1, A2, n1, c1, n2, c2, rfl⟩ := hR.form
  have hk : k = 0 ∨ k = 1 ∨ k = 2 ∨ k = 3 ∨ k = 4 := by
    cases hR with
    | num => omega
    | str h => omega
    | lit h => omega
    | arr => exact absurd rfl (h.2.1 _)
    | obj => exact absurd rfl (h.2.2 _ _)
  have HD := Lib.hid h.1
  have BEL := Lib.hid (Below.refl w.heap.size w)
  clear hR hd h hlow
  rcases hk with rfl | rfl | rfl | rfl | rfl
  all_goals
    go_enter Tryd.func14, Tryd.ntmps14
    go_wp2
    go_ret
    exact ⟨by rw [HD.out]; rfl, BEL.out.alloc (Nat.le_refl _) _⟩

set_option maxRecDepth 100000 in
set_option maxHeartbeats 8000000 in
theorem depth_kids {vs : List JT} (IH : ∀ v ∈ vs, DpOk v) {w : World} {k : Int} (hk : k = 5 ∨ k = 6) {N : Value} {x : ByteArray} {K : Value} {cs : List (Array Value)} {O : Nat → Prop} (hN : ∃ A n c, N = .slice A n c) (hl : cs.length = vs.length) (hK : w.ownsRow 0 25 4 K cs.length (flat cs))
    (hkk : ∀ (i : Nat) (a : Array Value) (v : JT), cs[i]? = some a → vs[i]? = some v → NRep w O a v) (hO : ∀ k, O k → k < w.heap.size) (hd : depL vs + 1 ≤ 1000000000) :
    Calls Tryd.prog 14 #[.agg (nd k x N K)] w (fun e w' => e = .returned (.int .i64 (depL vs + 1)) ∧ Below w.heap.size w w') := by
  obtain ⟨A1, n1, c1, rfl⟩ := hN
  obtain ⟨A2, n2, c2, rfl⟩ := row_form hK
  have hlen : n2 = cs.length := row_len hK
  subst hlen
  have hmax : cs.length ≤ 9223372036854775807 := row_max hK
  have HMAX := Lib.hid hmax
  have HNS := Lib.hid (show ∀ a ∈ cs, a.size = 4 from fun a ha => by
    obtain ⟨i, hi, rfl⟩ := List.getElem_of_mem ha
    obtain ⟨k, x, A1, A2, n1, c1, n2, c2, h⟩ := (hkk i cs[i] (vs[i]'(by omega)) (List.getElem?_eq_getElem hi) (List.getElem?_eq_getElem (by omega))).form
    rw [h]; rfl)
  have HL := Lib.hid hl
  have HK := Lib.hid hK
  have HKK := Lib.hid hkk
  have HO := Lib.hid hO
  have HD := Lib.hid hd
  have HIH := Lib.hid IH
  have BEL := Lib.hid (Below.refl w.heap.size w)
  clear IH hl hK hkk hO hd hmax
  rcases hk with rfl | rfl
  all_goals
    go_enter Tryd.func14, Tryd.ntmps14
    go_wp2
    go_loopg [3, 4] (vs.length + 1) (fun kq v3 v4 w' => ∃ i : Nat, Hid (i ≤ vs.length ∧ kq = vs.length - i + 1) ∧ v3 = .int .i64 (depL (vs.take i)) ∧ v4 = .int .i64 i ∧ Hid (w'.heap[w.heap.size]? = some (.cells (nd _ x (.slice A1 n1 c1) (.slice A2 cs.length c2)) 25 (0, 0))) ∧ Hid (Below w.heap.size w w'))
    case atStart => exact ⟨0, Lib.hid ⟨Nat.zero_le _, rfl⟩, by simp [depL], rfl, Lib.hid (blk_new w _), Lib.hid (BEL.out.alloc (Nat.le_refl _) _)⟩
    case round =>
      obtain ⟨i, HI, rfl, rfl, HB, HW⟩ := hrel
      have q3 := blk_cell HB.out 3
      have p3 := blk_frozen HB.out 3
      by_cases hi : i < vs.length
      · obtain ⟨a, ha⟩ : ∃ a, cs[i]? = some a := ⟨_, List.getElem?_eq_getElem (by have := HL.out; omega)⟩
        obtain ⟨v, hv⟩ : ∃ v, vs[i]? = some v := ⟨_, List.getElem?_eq_getElem hi⟩
        have hR := HKK.out i a v ha hv
        obtain ⟨k', x', A1', A2', n1', c1', n2', c2', rfl⟩ := hR.form
        obtain ⟨g, rfl, -, hg, hc⟩ := el_cell (own_keep HK.out (fun b hb => HW.out.block b (HK.out.lt b hb).2)) HNS.out ha
        have e0 : _ = _ := hc 0 (by omega)
        rw [Nat.add_zero] at e0
        have hlt : i < cs.length := by have := HL.out; omega
        have h0 : (0 : Int) ≤ (i : Int) := by omega
        have hlti : (i : Int) < (cs.length : Int) := by omega
        have e1 := hc 1 (by omega)
        have e2 := hc 2 (by omega)
        have e3 := hc 3 (by omega)
        have hd1 : decide ((i : Int) < (cs.length : Int)) = true := decide_eq_true (by have := HL.out; omega)
        have hd2 : decide (i < cs.length) = true := decide_eq_true (by have := HL.out; omega)
        have hw1 : IntKind.i64.wrap ((i : Int) + 1) = (i : Int) + 1 := by rw [IntKind.wrap_i64]; have := HMAX.out; have := HL.out; omega
        simp only [List.getElem?_toArray, List.size_toArray] at e0 e1 e2 e3
        have HR := Lib.hid (hR.mono (own' := O) (fun b hb => ⟨hb, HW.out.block b (HO.out b hb)⟩))
        have HV := Lib.hid hv
        clear hc hR ha hv
        go_wp2_with (first
          | (go_at_call 14; refine (HIH.out v (List.mem_of_getElem? HV.out) _ O _ HR.out (fun b hb => Nat.lt_of_lt_of_le (HO.out b hb) HW.out.size) (by have := dep_le_depL (List.mem_of_getElem? HV.out); have := HD.out; omega)).mono ?_; rintro e w5 ⟨rfl, hb5⟩; replace HB := Lib.hid ((hb5.block _ (blk_lt HB.out)).trans HB.out); replace HW := Lib.hid (HW.out.trans (hb5.mono HW.out.size)); clear hb5))
        go_roundg (vs.length - i)
        case measure => have := HI.out; omega
        case rel => exact ⟨i + 1, Lib.hid ⟨hi, by have := HI.out; omega⟩, by rw [depL_take HV.out]; congr 1; omega, by congr 1, HB, HW⟩
      · have hd1 : decide ((i : Int) < (cs.length : Int)) = false := decide_eq_false (by have := HL.out; omega)
        have hd2 : decide (i < cs.length) = false := decide_eq_false (by have := HL.out; omega)
        have hw1 : IntKind.i64.wrap ((depL (vs.take i) : Int) + 1) = (depL (vs.take i) : Int) + 1 := by
          have := HD.out
          rw [List.take_of_length_le (by omega), IntKind.wrap_i64]; omega
        have HE := Lib.hid (show vs.take i = vs from List.take_of_length_le (by omega))
        go_wp2
        go_ret
        exact ⟨by rw [HE.out]; rfl, HW.out⟩

theorem depth_any : ∀ (n : Nat) (t : JT), SizeOf.sizeOf t < n → DpOk t
  | 0, _, h => absurd h (Nat.not_lt_zero _)
  | n + 1, .num s, _ => depth_leaf ⟨by simp [dep], by simp, by simp⟩
  | n + 1, .str s, _ => depth_leaf ⟨by simp [dep], by simp, by simp⟩
  | n + 1, .lit s, _ => depth_leaf ⟨by simp [dep], by simp, by simp⟩
  | n + 1, .arr vs, h => by
    intro w own a hR hlow hd
    cases hR with
    | arr hl hK ho hO hk =>
      simp only [dep] at hd ⊢
      exact depth_kids (fun v hv => depth_any n v (by have := List.sizeOf_lt_of_mem hv; simp only [JT.arr.sizeOf_spec] at h; omega)) (.inl rfl) ⟨_, _, _, rfl⟩ hl hK hk (fun b hb => hlow b (hO b hb)) hd
  | n + 1, .obj ks vs, h => by
    intro w own a hR hlow hd
    cases hR with
    | obj hn hN hl hkl hK hoN ho hO hk =>
      simp only [dep] at hd ⊢
      exact depth_kids (fun v hv => depth_any n v (by have := List.sizeOf_lt_of_mem hv; simp only [JT.obj.sizeOf_spec] at h; omega)) (.inr rfl) (row_form hN) hl hK hk (fun b hb => hlow b (hO b hb)) hd
/-- Depth of a node is its tree's. -/
theorem depth_ok (t : JT) : DpOk t := depth_any (SizeOf.sizeOf t + 1) t (by omega)

end Go.Proofs.YtfoloneeibgoiaaDoor.Spr

/- The reference's Same: two nodes that stand for one tree are the same. -/
set_option linter.unusedVariables false
set_option linter.unusedSimpArgs false
namespace Go.Proofs.YtfoloneeibgoiaaDoor.Spr
open Go Go.RowKit Go.Proofs.YtfoloneeibgoiaaDoorW.PrintWords Go.Proofs.YtfoloneeibgoiaaDoor.Fjh Go.Proofs.YtfoloneeibgoiaaDoor.JTr
attribute [local go_sem ↓] Go.wp_at_zero Go.wp_at_succ

theorem unq_mono {a b : ByteArray} {k : Nat} (h : U8.spec_Unquote.f k a = some b) : ∀ m, U8.spec_Unquote.f (k + m) a = some b
  | 0 => h
  | m + 1 => U8.spec_Unquote.mono a (k + m) b (unq_mono h m)
theorem UQ.inj {l : List Int} {a b : ByteArray} (h : UQ l a) (h' : UQ l b) : a = b := by
  obtain ⟨k, h⟩ := h
  obtain ⟨m, h'⟩ := h'
  have h1 := unq_mono h m
  have h2 := unq_mono h' k
  rw [Nat.add_comm] at h2
  rw [h1] at h2
  injection h2
theorem Keys.inj : ∀ {a b : List ByteArray} {ks : List (List Int)}, Keys a ks → Keys b ks → a = b
  | [], [], [], _, _ => rfl
  | x :: xs, y :: ys, k :: ks, h, h' => by rw [UQ.inj h.1 h'.1, Keys.inj h.2 h'.2]
  | [], _ :: _, [], _, h' => h'.elim
  | _ :: _, _, [], h, _ => h.elim
  | [], _, _ :: _, h, _ => h.elim
  | _ :: _, [], _ :: _, _, h' => h'.elim

theorem below_drew {B : Nat} {w w' : World} (h : Below B w w') (n : Nat) : Below B w (w'.drewN n) := ⟨h.os, h.tape, h.output, h.size, h.block⟩

theorem cell_keep {w w' : World} {a : Addr} {v : Value} (h : Below w.heap.size w w') (hv : w.cell? a = some v) : w'.cell? a = some v := (h.cell (World.block_lt_of_cell? w _ hv)).trans hv

def SmOk (t : JT) : Prop := ∀ (w : World) (O1 O2 : Nat → Prop) (a b : Array Value), NRep w O1 a t → NRep w O2 b t → (∀ k, O1 k → k < w.heap.size) → (∀ k, O2 k → k < w.heap.size) →
  Calls Tryd.prog 10 #[.agg a, .agg b] w (fun e w' => e = .returned (.bool true) ∧ Below w.heap.size w w')

/-- The cell of an element of a row of strings. -/
theorem key_cell {w : World} {base n cap : Nat} {e : TypeId} {A : Option Addr} {bs : List ByteArray} (h : w.ownsRow base e 1 (.slice A n cap) bs.length (bs.map Value.string)) {i : Nat} {x : ByteArray} (hi : bs[i]? = some x) :
    ∃ g, A = some ⟨g, 0, none⟩ ∧ g < w.heap.size ∧ w.cell? ⟨g, i, none⟩ = some (.string x) := by
  have hlt : i < bs.length := by
    rcases Nat.lt_or_ge i bs.length with h' | h'
    · exact h'
    · rw [List.getElem?_eq_none h'] at hi; cases hi
  obtain ⟨g, cap', hv, _, hg⟩ := h.form (by omega)
  injection hv with h1 h2 h3
  subst h1; subst h2; subst h3
  refine ⟨g, rfl, hg, ?_⟩
  rw [h.cellAt i (by omega), List.getElem?_map, hi]
  rfl

theorem four {w : World} {g : Nat} {t : TypeId} {a b c d : Value} (h : w.heap[g]? = some (.cells #[a, b, c, d] t (0, 0))) :
    w.cell? ⟨g, 0, none⟩ = some a ∧ w.cell? ⟨g, 1, none⟩ = some b ∧ w.cell? ⟨g, 2, none⟩ = some c ∧ w.cell? ⟨g, 3, none⟩ = some d :=
  ⟨blk_cell h 0, blk_cell h 1, blk_cell h 2, blk_cell h 3⟩

set_option maxRecDepth 100000 in
set_option maxHeartbeats 8000000 in
theorem same_node {vs : List JT} (IH : ∀ v ∈ vs, SmOk v) {w : World} {k : Int} {x : ByteArray} {N1 N2 K1 K2 : Value} {bs : List ByteArray} {cs ds : List (Array Value)} {O1 O2 : Nat → Prop}
    (hN1 : w.ownsRow 0 9 1 N1 bs.length (bs.map Value.string)) (hN2 : w.ownsRow 0 9 1 N2 bs.length (bs.map Value.string)) (hl1 : cs.length = vs.length) (hl2 : ds.length = vs.length)
    (hK1 : w.ownsRow 0 25 4 K1 cs.length (flat cs)) (hK2 : w.ownsRow 0 25 4 K2 ds.length (flat ds))
    (hk1 : ∀ (i : Nat) (a : Array Value) (v : JT), cs[i]? = some a → vs[i]? = some v → NRep w O1 a v) (hk2 : ∀ (i : Nat) (a : Array Value) (v : JT), ds[i]? = some a → vs[i]? = some v → NRep w O2 a v)
    (hO1 : ∀ k, O1 k → k < w.heap.size) (hO2 : ∀ k, O2 k → k < w.heap.size) :
    Calls Tryd.prog 10 #[.agg (nd k x N1 K1), .agg (nd k x N2 K2)] w (fun e w' => e = .returned (.bool true) ∧ Below w.heap.size w w') := by
  obtain ⟨A1, n1, c1, rfl⟩ := row_form hN1
  obtain ⟨A2, n2, c2, rfl⟩ := row_form hN2
  obtain ⟨B1, m1, d1, rfl⟩ := row_form hK1
  obtain ⟨B2, m2, d2, rfl⟩ := row_form hK2
  have e1 := row_len hN1
  have e2 := row_len hN2
  have e3 := row_len hK1
  have e4 := row_len hK2
  have hmN := row_max hN1
  have hmK := row_max hK1
  rw [hl1] at e3
  rw [hl2] at e4
  subst e1 e2 e3 e4
  rw [hl1] at hmK
  have HS1 := Lib.hid (show ∀ a ∈ cs, a.size = 4 from fun a ha => by
    obtain ⟨i, hi, rfl⟩ := List.getElem_of_mem ha
    obtain ⟨k, x, A1, A2, n1, c1, n2, c2, h⟩ := (hk1 i cs[i] (vs[i]'(by omega)) (List.getElem?_eq_getElem hi) (List.getElem?_eq_getElem (by omega))).form
    rw [h]; rfl)
  have HS2 := Lib.hid (show ∀ a ∈ ds, a.size = 4 from fun a ha => by
    obtain ⟨i, hi, rfl⟩ := List.getElem_of_mem ha
    obtain ⟨k, x, A1, A2, n1, c1, n2, c2, h⟩ := (hk2 i ds[i] (vs[i]'(by omega)) (List.getElem?_eq_getElem hi) (List.getElem?_eq_getElem (by omega))).form
    rw [h]; rfl)
  have HMAX := Lib.hid (And.intro hmN hmK)
  have HL := Lib.hid (And.intro hl1 hl2)
  have HN := Lib.hid (And.intro hN1 hN2)
  have HK := Lib.hid (And.intro hK1 hK2)
  have HKK := Lib.hid (And.intro hk1 hk2)
  have HO := Lib.hid (And.intro hO1 hO2)
  have HIH := Lib.hid IH
  clear IH hN1 hN2 hK1 hK2 hk1 hk2 hO1 hO2 hmN hmK hl1 hl2
  have hkk : (k == k) = true := by simp
  go_enter Tryd.func10, Tryd.ntmps10
  go_wp2_with (first
    | ((with_reducible refine gate_dst (N := 2) rfl ?_); refine box_event ?hg (N := 2) ?hd (cs := nd k x (.slice A1 bs.length c1) (.slice B1 vs.length d1)) (t := 25) ?hr ?_; (case hd => rfl); (case hg => rfl); (case hr => first | (go_simp; done) | (go_simp; rfl)); intro g2 hg2 w2 hb2 hbel2; have HB2 := Lib.hid hb2; have BEL := Lib.hid hbel2; have HG2 := Lib.hid (show w.heap.size ≤ g2 from by omega); clear hb2 hbel2 hg2)
    | ((with_reducible refine gate_dst (N := 3) rfl ?_); refine box_event ?hg (N := 3) ?hd (cs := nd k x (.slice A2 bs.length c2) (.slice B2 vs.length d2)) (t := 25) ?hr ?_; (case hd => rfl); (case hg => rfl); (case hr => first | (go_simp; done) | (go_simp; rfl)); intro g3 hg3 w3 hb3 hbel3; have HB3 := Lib.hid hb3; have HG3 := Lib.hid (show w.heap.size ≤ g3 ∧ g2 ≠ g3 from ⟨by have := BEL.out.size; omega, by have := blk_lt HB2.out; omega⟩); replace HB2 := Lib.hid ((hbel3.block g2 (blk_lt HB2.out)).trans HB2.out); replace BEL := Lib.hid (BEL.out.trans (hbel3.mono BEL.out.size)); obtain ⟨q0, q1, q2, q3⟩ := four HB2.out; obtain ⟨p0, p1, p2, p3⟩ := four HB3.out; clear hb3 hbel3 hg3))
  clear q0 q1 q2 q3 p0 p1 p2 p3
  go_loopg [5] (bs.length + 1) (fun kq v5 w' => ∃ i : Nat, Hid (i ≤ bs.length ∧ kq = bs.length - i + 1) ∧ v5 = .int .i64 i ∧ Hid (w'.heap[g2]? = some (.cells (nd k x (.slice A1 bs.length c1) (.slice B1 vs.length d1)) 25 (0, 0))) ∧ Hid (w'.heap[g3]? = some (.cells (nd k x (.slice A2 bs.length c2) (.slice B2 vs.length d2)) 25 (0, 0))) ∧ Hid (Below w.heap.size w w'))
  case atStart => exact ⟨0, Lib.hid ⟨Nat.zero_le _, rfl⟩, rfl, HB2, HB3, BEL⟩
  case round =>
    clear HB2 HB3 BEL
    obtain ⟨i, HI, rfl, HB2, HB3, BEL⟩ := hrel
    obtain ⟨q0, q1, q2, q3⟩ := four HB2.out
    obtain ⟨p0, p1, p2, p3⟩ := four HB3.out
    by_cases hi : i < bs.length
    · obtain ⟨y, hy⟩ : ∃ y, bs[i]? = some y := ⟨_, List.getElem?_eq_getElem hi⟩
      obtain ⟨g4, rfl, -, hc4⟩ := key_cell (own_keep HN.out.1 (fun b hb => BEL.out.block b (HN.out.1.lt b hb).2)) hy
      obtain ⟨g5, rfl, -, hc5⟩ := key_cell (own_keep HN.out.2 (fun b hb => BEL.out.block b (HN.out.2.lt b hb).2)) hy
      have h0 : (0 : Int) ≤ (i : Int) := by omega
      have hlti : (i : Int) < (bs.length : Int) := by omega
      have hd1 : decide ((i : Int) < (bs.length : Int)) = true := decide_eq_true (by omega)
      have hd2 : decide (i < bs.length) = true := decide_eq_true (by omega)
      have hw1 : IntKind.i64.wrap ((i : Int) + 1) = (i : Int) + 1 := by rw [IntKind.wrap_i64]; have := HMAX.out; omega
      clear hy
      go_wp2
      go_quiet (fail)
      go_wp2
      go_roundg (bs.length - i)
      case measure => have := HI.out; omega
      case rel => exact ⟨i + 1, Lib.hid ⟨hi, by have := HI.out; omega⟩, by congr 1, HB2, HB3, Lib.hid (below_drew BEL.out _)⟩
    · have hd1 : decide ((i : Int) < (bs.length : Int)) = false := decide_eq_false (by omega)
      have hd2 : decide (i < bs.length) = false := decide_eq_false (by omega)
      go_wp2
      clear q0 q1 q2 q3 p0 p1 p2 p3 hd1 hd2 hi HI
      go_loopg [6] (vs.length + 1) (fun kq v6 w' => ∃ i : Nat, Hid (i ≤ vs.length ∧ kq = vs.length - i + 1) ∧ v6 = .int .i64 i ∧ Hid (w'.heap[g2]? = some (.cells (nd k x (.slice A1 bs.length c1) (.slice B1 vs.length d1)) 25 (0, 0))) ∧ Hid (w'.heap[g3]? = some (.cells (nd k x (.slice A2 bs.length c2) (.slice B2 vs.length d2)) 25 (0, 0))) ∧ Hid (Below w.heap.size w w'))
      case atStart => exact ⟨0, Lib.hid ⟨Nat.zero_le _, rfl⟩, rfl, HB2, HB3, BEL⟩
      case round =>
        clear HB2 HB3 BEL
        obtain ⟨i, HI, rfl, HB2, HB3, BEL⟩ := hrel
        obtain ⟨q0, q1, q2, q3⟩ := four HB2.out
        obtain ⟨p0, p1, p2, p3⟩ := four HB3.out
        by_cases hi : i < vs.length
        · obtain ⟨a, ha⟩ : ∃ a, cs[i]? = some a := ⟨_, List.getElem?_eq_getElem (by have := HL.out; omega)⟩
          obtain ⟨b, hb⟩ : ∃ b, ds[i]? = some b := ⟨_, List.getElem?_eq_getElem (by have := HL.out; omega)⟩
          obtain ⟨v, hv⟩ : ∃ v, vs[i]? = some v := ⟨_, List.getElem?_eq_getElem hi⟩
          have hR1 := HKK.out.1 i a v ha hv
          have hR2 := HKK.out.2 i b v hb hv
          obtain ⟨k', x', A1', A2', n1', c1', n2', c2', rfl⟩ := hR1.form
          obtain ⟨k'', x'', A1'', A2'', n1'', c1'', n2'', c2'', rfl⟩ := hR2.form
          obtain ⟨g4, rfl, -, -, hc4⟩ := el_cell (own_keep HK.out.1 (fun b hb => BEL.out.block b (HK.out.1.lt b hb).2)) HS1.out ha
          obtain ⟨g5, rfl, -, -, hc5⟩ := el_cell (own_keep HK.out.2 (fun b hb => BEL.out.block b (HK.out.2.lt b hb).2)) HS2.out hb
          have y0 := hc4 0 (by omega)
          have y1 := hc4 1 (by omega)
          have y2 := hc4 2 (by omega)
          have y3 := hc4 3 (by omega)
          have z0 := hc5 0 (by omega)
          have z1 := hc5 1 (by omega)
          have z2 := hc5 2 (by omega)
          have z3 := hc5 3 (by omega)
          rw [Nat.add_zero] at y0 z0
          simp only [List.getElem?_toArray, List.size_toArray] at y0 y1 y2 y3 z0 z1 z2 z3
          have h0 : (0 : Int) ≤ (i : Int) := by omega
          have hlti : (i : Int) < (vs.length : Int) := by omega
          have hd1 : decide ((i : Int) < (vs.length : Int)) = true := decide_eq_true (by omega)
          have hd2 : decide (i < vs.length) = true := decide_eq_true (by omega)
          have hw1 : IntKind.i64.wrap ((i : Int) + 1) = (i : Int) + 1 := by rw [IntKind.wrap_i64]; have := HMAX.out; omega
          have HC := Lib.hid (show ∀ n, Calls Tryd.prog 10 #[.agg (nd k' x' (.slice A1' n1' c1') (.slice A2' n2' c2')), .agg (nd k'' x'' (.slice A1'' n1'' c1'') (.slice A2'' n2'' c2''))] (wr.drewN n) (fun e w' => e = .returned (.bool true) ∧ Below (wr.drewN n).heap.size (wr.drewN n) w') from fun n =>
            HIH.out v (List.mem_of_getElem? hv) _ O1 O2 _ _ (hR1.mono (w' := wr.drewN n) (fun b hb => ⟨hb, BEL.out.block b (HO.out.1 b hb)⟩)) (hR2.mono (w' := wr.drewN n) (fun b hb => ⟨hb, BEL.out.block b (HO.out.2 b hb)⟩)) (fun b hb => Nat.lt_of_lt_of_le (HO.out.1 b hb) BEL.out.size) (fun b hb => Nat.lt_of_lt_of_le (HO.out.2 b hb) BEL.out.size))
          clear hc4 hc5 hR1 hR2 ha hb hv
          go_wp2
          go_region_held3 (fun w' => w'.cell? ⟨g2, 3, none⟩ = some (.slice (some ⟨g4, 0, none⟩) vs.length d1) ∧ w'.cell? ⟨g3, 3, none⟩ = some (.slice (some ⟨g5, 0, none⟩) vs.length d2) ∧ w'.cell? ⟨g4, i * 4, none⟩ = some (.int .i64 k') ∧ w'.cell? ⟨g4, i * 4 + 1, none⟩ = some (.string x') ∧ w'.cell? ⟨g4, i * 4 + 2, none⟩ = some (.slice A1' n1' c1') ∧ w'.cell? ⟨g4, i * 4 + 3, none⟩ = some (.slice A2' n2' c2') ∧ w'.cell? ⟨g5, i * 4, none⟩ = some (.int .i64 k'') ∧ w'.cell? ⟨g5, i * 4 + 1, none⟩ = some (.string x'') ∧ w'.cell? ⟨g5, i * 4 + 2, none⟩ = some (.slice A1'' n1'' c1'') ∧ w'.cell? ⟨g5, i * 4 + 3, none⟩ = some (.slice A2'' n2'' c2'')) (go_keep)
            (first | (go_at_call 10; (refine (HC.out _).mono ?_); rintro e w5 ⟨rfl, hb5⟩; have HW5 := Lib.hid hb5; have k0 := cell_keep hb5 q3; have k1 := cell_keep hb5 p3; have k2 := cell_keep hb5 y0; have k3 := cell_keep hb5 y1; have k4 := cell_keep hb5 y2; have k5 := cell_keep hb5 y3; have k6 := cell_keep hb5 z0; have k7 := cell_keep hb5 z1; have k8 := cell_keep hb5 z2; have k9 := cell_keep hb5 z3; clear hb5; try exact ⟨rfl, ‹_›⟩))
          go_wp2
          go_roundg (vs.length - i)
          case measure => have := HI.out; omega
          case rel => exact ⟨i + 1, Lib.hid ⟨hi, by have := HI.out; omega⟩, by congr 1, Lib.hid ((HW5.out.block _ (blk_lt HB2.out)).trans HB2.out), Lib.hid ((HW5.out.block _ (blk_lt HB3.out)).trans HB3.out), Lib.hid ((below_drew BEL.out _).trans (HW5.out.mono BEL.out.size))⟩
        · have hd1 : decide ((i : Int) < (vs.length : Int)) = false := decide_eq_false (by omega)
          have hd2 : decide (i < vs.length) = false := decide_eq_false (by omega)
          go_wp2
          go_ret
          exact ⟨rfl, BEL.out⟩

theorem same_any : ∀ (n : Nat) (t : JT), SizeOf.sizeOf t < n → SmOk t
  | 0, _, h => absurd h (Nat.not_lt_zero _)
  | n + 1, .num s, _ => by
    intro w O1 O2 a b h1 h2 hl1 hl2
    cases h1; cases h2
    exact same_node (vs := []) (bs := []) (cs := []) (ds := []) (O1 := O1) (O2 := O2) (by simp) (World.ownsRow_nil _ _ _ _) (World.ownsRow_nil _ _ _ _) rfl rfl (World.ownsRow_nil _ _ _ _) (World.ownsRow_nil _ _ _ _) (by simp) (by simp) hl1 hl2
  | n + 1, .str s, _ => by
    intro w O1 O2 a b h1 h2 hl1 hl2
    cases h1 with
    | str u1 => cases h2 with
      | str u2 =>
        obtain rfl := u1.inj u2
        exact same_node (vs := []) (bs := []) (cs := []) (ds := []) (O1 := O1) (O2 := O2) (by simp) (World.ownsRow_nil _ _ _ _) (World.ownsRow_nil _ _ _ _) rfl rfl (World.ownsRow_nil _ _ _ _) (World.ownsRow_nil _ _ _ _) (by simp) (by simp) hl1 hl2
  | n + 1, .lit s, _ => by
    intro w O1 O2 a b h1 h2 hl1 hl2
    cases h1 with
    | lit u1 => cases h2 with
      | lit u2 =>
        rename_i k k'
        obtain rfl : k = k' := by omega
        exact same_node (vs := []) (bs := []) (cs := []) (ds := []) (O1 := O1) (O2 := O2) (by simp) (World.ownsRow_nil _ _ _ _) (World.ownsRow_nil _ _ _ _) rfl rfl (World.ownsRow_nil _ _ _ _) (World.ownsRow_nil _ _ _ _) (by simp) (by simp) hl1 hl2
  | n + 1, .arr vs, h => by
    intro w O1 O2 a b h1 h2 hl1 hl2
    cases h1 with
    | arr gl gK go gO gk => cases h2 with
      | arr fl fK fo fO fk =>
        exact same_node (bs := []) (fun v hv => same_any n v (by have := List.sizeOf_lt_of_mem hv; simp only [JT.arr.sizeOf_spec] at h; omega)) (World.ownsRow_nil _ _ _ _) (World.ownsRow_nil _ _ _ _) gl fl gK fK gk fk (fun b hb => hl1 b (gO b hb)) (fun b hb => hl2 b (fO b hb))
  | n + 1, .obj ks vs, h => by
    intro w O1 O2 a b h1 h2 hl1 hl2
    cases h1 with
    | obj gn gN gl gkl gK goN go gO gk => cases h2 with
      | obj fn fN fl fkl fK foN fo fO fk =>
        obtain rfl := gn.inj fn
        exact same_node (fun v hv => same_any n v (by have := List.sizeOf_lt_of_mem hv; simp only [JT.obj.sizeOf_spec] at h; omega)) gN fN gl fl gK fK gk fk (fun b hb => hl1 b (gO b hb)) (fun b hb => hl2 b (fO b hb))
/-- Two nodes that stand for one tree are the same. -/
theorem same_ok (t : JT) : SmOk t := same_any (SizeOf.sizeOf t + 1) t (by omega)

end Go.Proofs.YtfoloneeibgoiaaDoor.Spr

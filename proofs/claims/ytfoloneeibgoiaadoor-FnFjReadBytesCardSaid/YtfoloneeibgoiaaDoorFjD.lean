/- fastjson's (*Parser).Parse of a new Parser: its contract. -/
import Derived.Test.YtfoloneeibgoiaaDoorFjC
import Derived.Deep.RegionHeld3
import Derived.Deep.DrawnRows
import Derived.Test.YtfoloneeibgoiaaDoorJTree
import Derived.Deep.LoopGhost
set_option linter.unusedVariables false
namespace Go.Proofs.YtfoloneeibgoiaaDoor.Fjh
open Go Go.RowKit Go.Proofs.YtfoloneeibgoiaaDoorW.PrintWords Go.Proofs.YtfoloneeibgoiaaDoor.Lex
attribute [local go_sem ↓] Go.wp_at_zero Go.wp_at_succ

/-- What Parse leaves: an error, or a pointer to the tree; nothing below B has turned. -/
def PB (B : Nat) (w : World) (r : Option JV) (e : Ending) (w' : World) : Prop :=
  Below B w w' ∧ match r with
  | none => ∃ x : TypeId × Value, e = .returned (.tuple #[.pointer none, .iface x.1 x.2])
  | some t => ∃ (p : Addr) (W : World), e = .returned (.tuple #[.pointer (some p), .nilIface]) ∧ p.spot = none ∧ B < W.heap.size ∧ (∀ a, Own ⟨B, 1, none⟩ W w' a → B ≤ a.block) ∧ Rep w' (Own ⟨B, 1, none⟩ W w') p t

/-- What is own to the parser lies in blocks that were made since. -/
theorem own_low {w w' : World} {qb : Nat} (c : w.cell? ⟨qb, 1, none⟩ = some (.slice none 0 0)) {a : Addr} (ha : Own ⟨qb, 1, none⟩ w w' a) : w.heap.size ≤ a.block := by
  rcases Nat.lt_or_ge a.block w.heap.size with h | h
  · refine absurd ⟨h, ha.1.2.1, ha.1.2.2.1, ?_⟩ ha.2
    rintro ⟨vb, n, k, e, _⟩
    rw [c] at e
    cases e
  · exact h
theorem ci_new {w : World} {qb : Nat} (c : w.cell? ⟨qb, 1, none⟩ = some (.slice none 0 0)) (f : w.frozen? ⟨qb, 1, none⟩ = false) : CI qb w ⟨qb, 1, none⟩ none 0 0 :=
  ⟨⟨c, f, rfl, Nat.le_refl _, by omega, fun h => absurd h (by omega), fun _ => rfl⟩, Nat.le_refl _, fun b hb => by cases hb⟩

/-- The Parser's own text is no cell of the cache. -/
theorem stable_b {w : World} {qb : Nat} {v : Value} (c0 : w.cell? ⟨qb, 0, none⟩ = some v) (c1 : w.cell? ⟨qb, 1, none⟩ = some (.slice none 0 0)) : Stable w ⟨qb, 1, none⟩ ⟨qb, 0, none⟩ := by
  refine ⟨World.block_lt_of_cell? w _ c0, by simp, rfl, ?_⟩
  rintro ⟨vb, n, c, h, _, _⟩
  rw [c1] at h
  cases h

theorem below_less {B C : Nat} {w w' : World} (h : Below C w w') (hl : B ≤ C) : Below B w w' := ⟨h.os, h.tape, h.output, h.size, fun k hk => h.block k (by omega)⟩

/-- Two cells of the block B are written. -/
theorem below_two {B C : Nat} {w w' : World} (h : Below C w w') (hl : B ≤ C) (a b : Addr) (ha : B ≤ a.block) (hb : B ≤ b.block) (u v : Value) : Below B w ((w'.setCell a u).setCell b v) :=
  ((below_less h hl).setCell ha u).setCell hb v

set_option maxRecDepth 100000 in
set_option maxHeartbeats 4000000 in
theorem parse_bad (K k : Nat) (qb : Nat) (w : World) (s s1 : ByteArray) (hp : pV K k s1 0 = some none) (h1 : fastjson_skipWS.f K s = some s1) (hle : s1.size ≤ 1000000)
    (c0 : w.cell? ⟨qb, 0, none⟩ = some (.slice none 0 0)) (f0 : w.frozen? ⟨qb, 0, none⟩ = false) (c1 : w.cell? ⟨qb, 1, none⟩ = some (.slice none 0 0)) (f1 : w.frozen? ⟨qb, 1, none⟩ = false) :
    Calls Tryd.prog 15 #[.pointer (some ⟨qb, 0, none⟩), .string s] w (PB qb w none) := by
  have H1 := Lib.hid h1
  have HP := Lib.hid hp
  have HL := Lib.hid hle
  obtain ⟨i0, hi, hz0, hz1, hz2⟩ := info_parts infoB
  have hqb : qb < w.heap.size := World.block_lt_of_cell? w _ c0
  have C1 := Lib.hid c1
  have F1 := Lib.hid f1
  clear h1 hp hle c1 f1
  go_enter Tryd.func15, Tryd.ntmps15
  go_wp2_with (first | (go_at_call 25; (with_reducible refine (fastjson_skipWS.calls K s s1 _ H1.out).mono ?_); rintro e w1 ⟨rfl, ⟨nd, rfl⟩⟩; try exact ⟨rfl, ‹_›⟩) | (refine Go.Lib.wpList_append_own_string _ rfl (.tmp 16) (.tmp 17) 34 9 rfl w.heap.size 5 i0 Tryd.underlying34 Tryd.underlying9 hi hz0 hz1 hz2 (.slice none 0 0) 0 [] rfl ⟨rfl, .inl ⟨rfl, rfl⟩⟩ s1 rfl (by have := HL.out; unfold maxLen; omega) (by have := HL.out; omega) (Nat.le_refl _) ?_; intro v3 w3 hown hgr hnil; rw [Nat.zero_add, List.nil_append] at hown; obtain ⟨V3, cap3, rfl⟩ := row_shape hown; have hb3 : Below w.heap.size w w3 := Below.ofDrewN' (k := nd) ((Below.refl w.heap.size (w.drewN nd)).grown hgr (Nat.le_refl _) (fun k h => nomatch h)); have c03 := (hb3.cell (p := ⟨qb, 0, none⟩) hqb).trans c0; have f03 := (hb3.frozen (p := ⟨qb, 0, none⟩) hqb).trans f0; have R1 := Lib.hid ((World.cell?_setCell_other w3 ⟨qb, 0, none⟩ ⟨qb, 1, none⟩ (.slice V3 s1.size cap3) (by simp)).trans ((hb3.cell (p := ⟨qb, 1, none⟩) hqb).trans C1.out)); have R2 := Lib.hid ((World.frozen?_setCell w3 ⟨qb, 0, none⟩ ⟨qb, 1, none⟩ (.slice V3 s1.size cap3)).trans ((hb3.frozen (p := ⟨qb, 1, none⟩) hqb).trans F1.out)); have R0 := Lib.hid c03; have HO3 := Lib.hid hown; have HB3 := Lib.hid hb3; clear hown hgr hnil hb3) | (go_at_call 26; (refine (creset_nil qb 1 _ R1.out R2.out).mono ?_); rintro e w4 ⟨rfl, ⟨nk, rfl⟩⟩; try exact ⟨rfl, ‹_›⟩))
  obtain ⟨W, hW⟩ : ∃ W, W = (w3.setCell ⟨qb, 0, none⟩ (.slice V3 s1.size cap3)).setCell ⟨qb, 1, none⟩ (.slice none 0 0) := ⟨_, rfl⟩
  rw [← hW]
  have cW1 : W.cell? ⟨qb, 1, none⟩ = some (.slice none 0 0) := by rw [hW]; exact World.cell?_setCell_same _ _ _ R1.out
  have fW1 : W.frozen? ⟨qb, 1, none⟩ = false := by rw [hW, World.frozen?_setCell]; exact R2.out
  have cW0 : W.cell? ⟨qb, 0, none⟩ = some (.slice V3 s1.size cap3) := by rw [hW]; exact (World.cell?_setCell_other _ _ _ _ (by simp)).trans (World.cell?_setCell_same _ _ _ R0.out)
  have BW := Lib.hid (show Below qb w W by rw [hW]; exact below_two HB3.out (Nat.le_of_lt hqb) ⟨qb, 0, none⟩ ⟨qb, 1, none⟩ (Nat.le_refl _) (Nat.le_refl _) _ _)
  have RW := Lib.hid (show ∀ k, (W.drewN k).ownsRow w.heap.size 5 1 (.slice V3 s1.size cap3) s1.size (Go.Lib.strCells s1) from fun k => by
    rw [hW]; exact ownsRow_setCell_below (ownsRow_setCell_below HO3.out (a := ⟨qb, 0, none⟩) hqb (.slice V3 s1.size cap3)) (a := ⟨qb, 1, none⟩) hqb (.slice none 0 0))
  have HC := Lib.hid (show ∀ k, CI qb (W.drewN k) ⟨qb, 1, none⟩ none 0 0 from fun k => (ci_new cW1 fW1).drewN k)
  have HV := Lib.hid (show ∀ k, Calls Tryd.prog 27 #[.pointer (some ⟨qb, 1, none⟩), .string s1, .int .i64 0] (W.drewN k) (PV qb ⟨qb, 1, none⟩ (0 + s1.size) (W.drewN k) none) from fun k => pV_ok K _ s1 0 none (by omega) HP.out qb _ none 0 0 _ (HC.out k) (by have := HL.out; omega))
  have SB := Lib.hid (show ∀ k, Stable (W.drewN k) ⟨qb, 1, none⟩ ⟨qb, 0, none⟩ from fun k => stable_b (v := .slice V3 s1.size cap3) cW0 cW1)
  have hqW : qb < W.heap.size := World.block_lt_of_cell? W _ cW0
  clear hW R1 R2 R0 HO3 HB3 c03 f03 c0 f0 C1 F1
  go_region_held3 (fun w' => w'.cell? ⟨qb, 0, none⟩ = some (.slice V3 s1.size cap3)) (go_keep)
    (first | (go_at_call 28; (refine (b2s_calls (base := w.heap.size) (s := s1) (RW.out _)).mono ?_); rintro e w5 ⟨rfl, rfl⟩; try exact ⟨rfl, ‹_›⟩) | (go_at_call 27; (refine (HV.out _).mono ?_); rintro e w6 ⟨tl, x, rfl, hS⟩; have HS := Lib.hid hS; have c6 := ((hS.keep _ (SB.out _)).2.1).trans cW0; clear hS; try exact ⟨rfl, ‹_›⟩))
  go_wp2_with (first | (go_at_call 29; (with_reducible refine (errors_New.calls _ (some 0) _ rfl).mono ?_); rintro e w9 ⟨x9, rfl, hb9⟩; have HB9 := Lib.hid hb9; clear hb9; simp only [errX_some]; try exact ⟨rfl, ‹_›⟩))
  go_ret2
  exact ⟨(BW.out.trans (Below.ofDrewN' HS.out.below)).trans (below_less HB9.out (Nat.le_trans (Nat.le_of_lt hqW) HS.out.below.size)), _, rfl⟩

set_option maxRecDepth 100000 in
set_option maxHeartbeats 4000000 in
theorem parse_tail (K k : Nat) (qb : Nat) (w : World) (s s1 : ByteArray) (v : JV) (tl tl2 : ByteArray) (hp : pV K k s1 0 = some (some (v, tl))) (h2 : fastjson_skipWS.f K tl = some tl2) (hz : 0 < tl2.size) (h1 : fastjson_skipWS.f K s = some s1) (hle : s1.size ≤ 1000000)
    (c0 : w.cell? ⟨qb, 0, none⟩ = some (.slice none 0 0)) (f0 : w.frozen? ⟨qb, 0, none⟩ = false) (c1 : w.cell? ⟨qb, 1, none⟩ = some (.slice none 0 0)) (f1 : w.frozen? ⟨qb, 1, none⟩ = false) :
    Calls Tryd.prog 15 #[.pointer (some ⟨qb, 0, none⟩), .string s] w (PB qb w none) := by
  have H2 := Lib.hid h2
  have hgt : decide ((0 : Int) < (tl2.size : Int)) = true := decide_eq_true (by omega)
  clear h2
  have H1 := Lib.hid h1
  have HP := Lib.hid hp
  have HL := Lib.hid hle
  obtain ⟨i0, hi, hz0, hz1, hz2⟩ := info_parts infoB
  have hqb : qb < w.heap.size := World.block_lt_of_cell? w _ c0
  have C1 := Lib.hid c1
  have F1 := Lib.hid f1
  clear h1 hp hle c1 f1
  go_enter Tryd.func15, Tryd.ntmps15
  go_wp2_with (first | (go_at_call 25; (with_reducible refine (fastjson_skipWS.calls K s s1 _ H1.out).mono ?_); rintro e w1 ⟨rfl, ⟨nd, rfl⟩⟩; try exact ⟨rfl, ‹_›⟩) | (refine Go.Lib.wpList_append_own_string _ rfl (.tmp 16) (.tmp 17) 34 9 rfl w.heap.size 5 i0 Tryd.underlying34 Tryd.underlying9 hi hz0 hz1 hz2 (.slice none 0 0) 0 [] rfl ⟨rfl, .inl ⟨rfl, rfl⟩⟩ s1 rfl (by have := HL.out; unfold maxLen; omega) (by have := HL.out; omega) (Nat.le_refl _) ?_; intro v3 w3 hown hgr hnil; rw [Nat.zero_add, List.nil_append] at hown; obtain ⟨V3, cap3, rfl⟩ := row_shape hown; have hb3 : Below w.heap.size w w3 := Below.ofDrewN' (k := nd) ((Below.refl w.heap.size (w.drewN nd)).grown hgr (Nat.le_refl _) (fun k h => nomatch h)); have c03 := (hb3.cell (p := ⟨qb, 0, none⟩) hqb).trans c0; have f03 := (hb3.frozen (p := ⟨qb, 0, none⟩) hqb).trans f0; have R1 := Lib.hid ((World.cell?_setCell_other w3 ⟨qb, 0, none⟩ ⟨qb, 1, none⟩ (.slice V3 s1.size cap3) (by simp)).trans ((hb3.cell (p := ⟨qb, 1, none⟩) hqb).trans C1.out)); have R2 := Lib.hid ((World.frozen?_setCell w3 ⟨qb, 0, none⟩ ⟨qb, 1, none⟩ (.slice V3 s1.size cap3)).trans ((hb3.frozen (p := ⟨qb, 1, none⟩) hqb).trans F1.out)); have R0 := Lib.hid c03; have HO3 := Lib.hid hown; have HB3 := Lib.hid hb3; clear hown hgr hnil hb3) | (go_at_call 26; (refine (creset_nil qb 1 _ R1.out R2.out).mono ?_); rintro e w4 ⟨rfl, ⟨nk, rfl⟩⟩; try exact ⟨rfl, ‹_›⟩))
  obtain ⟨W, hW⟩ : ∃ W, W = (w3.setCell ⟨qb, 0, none⟩ (.slice V3 s1.size cap3)).setCell ⟨qb, 1, none⟩ (.slice none 0 0) := ⟨_, rfl⟩
  rw [← hW]
  have cW1 : W.cell? ⟨qb, 1, none⟩ = some (.slice none 0 0) := by rw [hW]; exact World.cell?_setCell_same _ _ _ R1.out
  have fW1 : W.frozen? ⟨qb, 1, none⟩ = false := by rw [hW, World.frozen?_setCell]; exact R2.out
  have cW0 : W.cell? ⟨qb, 0, none⟩ = some (.slice V3 s1.size cap3) := by rw [hW]; exact (World.cell?_setCell_other _ _ _ _ (by simp)).trans (World.cell?_setCell_same _ _ _ R0.out)
  have BW := Lib.hid (show Below qb w W by rw [hW]; exact below_two HB3.out (Nat.le_of_lt hqb) ⟨qb, 0, none⟩ ⟨qb, 1, none⟩ (Nat.le_refl _) (Nat.le_refl _) _ _)
  have RW := Lib.hid (show ∀ k, (W.drewN k).ownsRow w.heap.size 5 1 (.slice V3 s1.size cap3) s1.size (Go.Lib.strCells s1) from fun k => by
    rw [hW]; exact ownsRow_setCell_below (ownsRow_setCell_below HO3.out (a := ⟨qb, 0, none⟩) hqb (.slice V3 s1.size cap3)) (a := ⟨qb, 1, none⟩) hqb (.slice none 0 0))
  have HC := Lib.hid (show ∀ k, CI qb (W.drewN k) ⟨qb, 1, none⟩ none 0 0 from fun k => (ci_new cW1 fW1).drewN k)
  have HV := Lib.hid (show ∀ k, Calls Tryd.prog 27 #[.pointer (some ⟨qb, 1, none⟩), .string s1, .int .i64 0] (W.drewN k) (PV qb ⟨qb, 1, none⟩ (0 + s1.size) (W.drewN k) (some (v, tl))) from fun k => pV_ok K _ s1 0 (some (v, tl)) (by omega) HP.out qb _ none 0 0 _ (HC.out k) (by have := HL.out; omega))
  have SB := Lib.hid (show ∀ k, Stable (W.drewN k) ⟨qb, 1, none⟩ ⟨qb, 0, none⟩ from fun k => stable_b (v := .slice V3 s1.size cap3) cW0 cW1)
  have hqW : qb < W.heap.size := World.block_lt_of_cell? W _ cW0
  clear hW R1 R2 R0 HO3 HB3 c03 f03 c0 f0 C1 F1
  go_region_held3 (fun w' => w'.cell? ⟨qb, 0, none⟩ = some (.slice V3 s1.size cap3)) (go_keep)
    (first | (go_at_call 28; (refine (b2s_calls (base := w.heap.size) (s := s1) (RW.out _)).mono ?_); rintro e w5 ⟨rfl, rfl⟩; try exact ⟨rfl, ‹_›⟩) | (go_at_call 27; (refine (HV.out _).mono ?_); rintro e w6 ⟨p, V, n, c, rfl, hsp, hI, hm, hS, hR⟩; have HS := Lib.hid hS; have HI := Lib.hid hI; have HR := Lib.hid hR; have HSP := Lib.hid hsp; have c6 := ((hS.keep _ (SB.out _)).2.1).trans cW0; clear hS hI hR hm hsp; try exact ⟨rfl, ‹_›⟩))
  go_wp2_with (first | (go_at_call 25; (with_reducible refine (fastjson_skipWS.calls K tl tl2 _ H2.out).mono ?_); rintro e w7 ⟨rfl, ⟨nd7, rfl⟩⟩; try exact ⟨rfl, ‹_›⟩) | (go_at_call 29; (with_reducible refine (errors_New.calls _ (some 0) _ rfl).mono ?_); rintro e w9 ⟨x9, rfl, hb9⟩; have HB9 := Lib.hid hb9; clear hb9; simp only [errX_some]; try exact ⟨rfl, ‹_›⟩))
  go_ret2
  exact ⟨(BW.out.trans (Below.ofDrewN' HS.out.below)).trans (below_less (Below.ofDrewN' (k := nd7) HB9.out) (Nat.le_trans (Nat.le_of_lt hqW) HS.out.below.size)), _, rfl⟩

set_option maxRecDepth 100000 in
set_option maxHeartbeats 4000000 in
theorem parse_good (K k : Nat) (qb : Nat) (w : World) (s s1 : ByteArray) (v : JV) (tl tl2 : ByteArray) (hp : pV K k s1 0 = some (some (v, tl))) (h2 : fastjson_skipWS.f K tl = some tl2) (hz : tl2.size = 0) (h1 : fastjson_skipWS.f K s = some s1) (hle : s1.size ≤ 1000000)
    (c0 : w.cell? ⟨qb, 0, none⟩ = some (.slice none 0 0)) (f0 : w.frozen? ⟨qb, 0, none⟩ = false) (c1 : w.cell? ⟨qb, 1, none⟩ = some (.slice none 0 0)) (f1 : w.frozen? ⟨qb, 1, none⟩ = false) :
    Calls Tryd.prog 15 #[.pointer (some ⟨qb, 0, none⟩), .string s] w (PB qb w (some v)) := by
  have H2 := Lib.hid h2
  have hgt : decide ((0 : Int) < (tl2.size : Int)) = false := decide_eq_false (by omega)
  clear h2
  have H1 := Lib.hid h1
  have HP := Lib.hid hp
  have HL := Lib.hid hle
  obtain ⟨i0, hi, hz0, hz1, hz2⟩ := info_parts infoB
  have hqb : qb < w.heap.size := World.block_lt_of_cell? w _ c0
  have C1 := Lib.hid c1
  have F1 := Lib.hid f1
  clear h1 hp hle c1 f1
  go_enter Tryd.func15, Tryd.ntmps15
  go_wp2_with (first | (go_at_call 25; (with_reducible refine (fastjson_skipWS.calls K s s1 _ H1.out).mono ?_); rintro e w1 ⟨rfl, ⟨nd, rfl⟩⟩; try exact ⟨rfl, ‹_›⟩) | (refine Go.Lib.wpList_append_own_string _ rfl (.tmp 16) (.tmp 17) 34 9 rfl w.heap.size 5 i0 Tryd.underlying34 Tryd.underlying9 hi hz0 hz1 hz2 (.slice none 0 0) 0 [] rfl ⟨rfl, .inl ⟨rfl, rfl⟩⟩ s1 rfl (by have := HL.out; unfold maxLen; omega) (by have := HL.out; omega) (Nat.le_refl _) ?_; intro v3 w3 hown hgr hnil; rw [Nat.zero_add, List.nil_append] at hown; obtain ⟨V3, cap3, rfl⟩ := row_shape hown; have hb3 : Below w.heap.size w w3 := Below.ofDrewN' (k := nd) ((Below.refl w.heap.size (w.drewN nd)).grown hgr (Nat.le_refl _) (fun k h => nomatch h)); have c03 := (hb3.cell (p := ⟨qb, 0, none⟩) hqb).trans c0; have f03 := (hb3.frozen (p := ⟨qb, 0, none⟩) hqb).trans f0; have R1 := Lib.hid ((World.cell?_setCell_other w3 ⟨qb, 0, none⟩ ⟨qb, 1, none⟩ (.slice V3 s1.size cap3) (by simp)).trans ((hb3.cell (p := ⟨qb, 1, none⟩) hqb).trans C1.out)); have R2 := Lib.hid ((World.frozen?_setCell w3 ⟨qb, 0, none⟩ ⟨qb, 1, none⟩ (.slice V3 s1.size cap3)).trans ((hb3.frozen (p := ⟨qb, 1, none⟩) hqb).trans F1.out)); have R0 := Lib.hid c03; have HO3 := Lib.hid hown; have HB3 := Lib.hid hb3; clear hown hgr hnil hb3) | (go_at_call 26; (refine (creset_nil qb 1 _ R1.out R2.out).mono ?_); rintro e w4 ⟨rfl, ⟨nk, rfl⟩⟩; try exact ⟨rfl, ‹_›⟩))
  obtain ⟨W, hW⟩ : ∃ W, W = (w3.setCell ⟨qb, 0, none⟩ (.slice V3 s1.size cap3)).setCell ⟨qb, 1, none⟩ (.slice none 0 0) := ⟨_, rfl⟩
  rw [← hW]
  have cW1 : W.cell? ⟨qb, 1, none⟩ = some (.slice none 0 0) := by rw [hW]; exact World.cell?_setCell_same _ _ _ R1.out
  have fW1 : W.frozen? ⟨qb, 1, none⟩ = false := by rw [hW, World.frozen?_setCell]; exact R2.out
  have cW0 : W.cell? ⟨qb, 0, none⟩ = some (.slice V3 s1.size cap3) := by rw [hW]; exact (World.cell?_setCell_other _ _ _ _ (by simp)).trans (World.cell?_setCell_same _ _ _ R0.out)
  have BW := Lib.hid (show Below qb w W by rw [hW]; exact below_two HB3.out (Nat.le_of_lt hqb) ⟨qb, 0, none⟩ ⟨qb, 1, none⟩ (Nat.le_refl _) (Nat.le_refl _) _ _)
  have RW := Lib.hid (show ∀ k, (W.drewN k).ownsRow w.heap.size 5 1 (.slice V3 s1.size cap3) s1.size (Go.Lib.strCells s1) from fun k => by
    rw [hW]; exact ownsRow_setCell_below (ownsRow_setCell_below HO3.out (a := ⟨qb, 0, none⟩) hqb (.slice V3 s1.size cap3)) (a := ⟨qb, 1, none⟩) hqb (.slice none 0 0))
  have HC := Lib.hid (show ∀ k, CI qb (W.drewN k) ⟨qb, 1, none⟩ none 0 0 from fun k => (ci_new cW1 fW1).drewN k)
  have HV := Lib.hid (show ∀ k, Calls Tryd.prog 27 #[.pointer (some ⟨qb, 1, none⟩), .string s1, .int .i64 0] (W.drewN k) (PV qb ⟨qb, 1, none⟩ (0 + s1.size) (W.drewN k) (some (v, tl))) from fun k => pV_ok K _ s1 0 (some (v, tl)) (by omega) HP.out qb _ none 0 0 _ (HC.out k) (by have := HL.out; omega))
  have SB := Lib.hid (show ∀ k, Stable (W.drewN k) ⟨qb, 1, none⟩ ⟨qb, 0, none⟩ from fun k => stable_b (v := .slice V3 s1.size cap3) cW0 cW1)
  have hqW : qb < W.heap.size := World.block_lt_of_cell? W _ cW0
  clear hW R1 R2 R0 HO3 HB3 c03 f03 c0 f0 C1 F1
  go_region_held3 (fun w' => w'.cell? ⟨qb, 0, none⟩ = some (.slice V3 s1.size cap3)) (go_keep)
    (first | (go_at_call 28; (refine (b2s_calls (base := w.heap.size) (s := s1) (RW.out _)).mono ?_); rintro e w5 ⟨rfl, rfl⟩; try exact ⟨rfl, ‹_›⟩) | (go_at_call 27; (refine (HV.out _).mono ?_); rintro e w6 ⟨p, V, n, c, rfl, hsp, hI, hm, hS, hR⟩; have HS := Lib.hid hS; have HI := Lib.hid hI; have HR := Lib.hid hR; have HSP := Lib.hid hsp; have c6 := ((hS.keep _ (SB.out _)).2.1).trans cW0; clear hS hI hR hm hsp; try exact ⟨rfl, ‹_›⟩))
  go_wp2_with (first | (go_at_call 25; (with_reducible refine (fastjson_skipWS.calls K tl tl2 _ H2.out).mono ?_); rintro e w7 ⟨rfl, ⟨nd7, rfl⟩⟩; try exact ⟨rfl, ‹_›⟩) | (go_at_call 29; (with_reducible refine (errors_New.calls _ (some 0) _ rfl).mono ?_); rintro e w9 ⟨x9, rfl, hb9⟩; have HB9 := Lib.hid hb9; clear hb9; simp only [errX_some]; try exact ⟨rfl, ‹_›⟩))
  go_ret2
  have hR7 : Rep (w6.drewN nd7) (Own ⟨qb, 1, none⟩ (W.drewN (nk + 1)) (w6.drewN nd7)) p v := by
    refine Rep.mono (w := w6) (w' := w6.drewN nd7) (own := Own ⟨qb, 1, none⟩ (W.drewN (nk + 1)) w6) (own' := Own ⟨qb, 1, none⟩ (W.drewN (nk + 1)) (w6.drewN nd7)) ?_ HR.out
    exact fun a ha => ⟨⟨ha.1, ha.2⟩, rfl, rfl⟩
  exact ⟨Below.drewN' (BW.out.trans (Below.ofDrewN' HS.out.below)) nd7, p, W.drewN (nk + 1), rfl, HSP.out, hqW, fun a ha => Nat.le_of_lt (Nat.lt_of_lt_of_le hqW (own_low (w := W.drewN (nk + 1)) cW1 ha)), hR7⟩

/-- Parse of a new Parser does as the parser by fuel says: r is what it reads, if no text but blanks is left. -/
def pParse (K : Nat) (s : ByteArray) : Option (Option JV) := (fastjson_skipWS.f K s).bind fun s1 => if s1.size ≤ 1000000 then (pV K K s1 0).bind fun r => match r with
  | none => some none
  | some (v, tl) => (fastjson_skipWS.f K tl).bind fun t2 => if t2.size = 0 then some (some v) else some none
  else none

theorem parse_calls (K : Nat) (s : ByteArray) (r : Option JV) (h : pParse K s = some r) (qb : Nat) (w : World)
    (c0 : w.cell? ⟨qb, 0, none⟩ = some (.slice none 0 0)) (f0 : w.frozen? ⟨qb, 0, none⟩ = false) (c1 : w.cell? ⟨qb, 1, none⟩ = some (.slice none 0 0)) (f1 : w.frozen? ⟨qb, 1, none⟩ = false) :
    Calls Tryd.prog 15 #[.pointer (some ⟨qb, 0, none⟩), .string s] w (PB qb w r) := by
  obtain ⟨s1, h1, h2⟩ := Option.bind_eq_some_iff.mp h
  split at h2
  · rename_i hle
    obtain ⟨x, h3, h4⟩ := Option.bind_eq_some_iff.mp h2
    cases x with
    | none =>
      obtain rfl := Option.some.inj h4
      exact parse_bad K K qb w s s1 h3 h1 hle c0 f0 c1 f1
    | some vt =>
      obtain ⟨v, tl⟩ := vt
      obtain ⟨t2, h5, h6⟩ := Option.bind_eq_some_iff.mp h4
      split at h6
      · rename_i hz
        obtain rfl := Option.some.inj h6
        exact parse_good K K qb w s s1 v tl t2 h3 h5 hz h1 hle c0 f0 c1 f1
      · rename_i hz
        obtain rfl := Option.some.inj h6
        exact parse_tail K K qb w s s1 v tl t2 h3 h5 (by omega) h1 hle c0 f0 c1 f1
  · cases h2

end Go.Proofs.YtfoloneeibgoiaaDoor.Fjh

/- fastjson's MarshalTo of a value whose strings and names are as they stand: the tree's text behind what was there. -/
set_option linter.unusedVariables false
set_option linter.unusedSimpArgs false
namespace Go.Proofs.YtfoloneeibgoiaaDoor.Fjh
open Go Go.RowKit Go.Proofs.YtfoloneeibgoiaaDoorW.PrintWords Go.Proofs.YtfoloneeibgoiaaDoor.Lex Go.Proofs.YtfoloneeibgoiaaDoor.JTr

/-! ### the tree as lists -/
mutual
def toT : JV → JT
  | .obj _ ks vs => .obj (ks.map bytesOf) (toTs vs)
  | .arr vs => .arr (toTs vs)
  | .num s => .num (bytesOf s)
  | .raw s => .str (bytesOf s)
  | .dec s => .str (bytesOf s)
  | .lit t => .lit t
def toTs : List JV → List JT
  | [] => []
  | v :: vs => toT v :: toTs vs
end
mutual
/-- No string, no name was taken for its characters yet. -/
def rawJ : JV → Bool
  | .obj u _ vs => !u && rawJs vs
  | .arr vs => rawJs vs
  | .num _ => true
  | .raw _ => true
  | .dec _ => false
  | .lit _ => true
def rawJs : List JV → Bool
  | [] => true
  | v :: vs => rawJ v && rawJs vs
end
/-- The tree's text. -/
def packJ (t : JV) : List Int := packL (toT t)

theorem rawJs_mem : ∀ {vs : List JV}, rawJs vs = true → ∀ v ∈ vs, rawJ v = true
  | [], _, v, hv => absurd hv List.not_mem_nil
  | x :: vs, h, v, hv => by
    simp only [rawJs, Bool.and_eq_true] at h
    rcases List.mem_cons.1 hv with rfl | hv
    · exact h.1
    · exact rawJs_mem h.2 v hv

/-- The elements from the i-th of n on. -/
def goE (n : Nat) : Nat → List JV → List Int
  | _, [] => []
  | i, v :: vs => packJ v ++ ((if i + 1 = n then [] else [44]) ++ goE n (i + 1) vs)
/-- The members from the i-th of n on. -/
def goM (n : Nat) : Nat → List ByteArray → List JV → List Int
  | i, k :: ks, v :: vs => 34 :: (bytesOf k ++ 34 :: 58 :: (packJ v ++ ((if i + 1 = n then [] else [44]) ++ goM n (i + 1) ks vs)))
  | _, _, _ => []

theorem goE_pack (n : Nat) : ∀ (vs : List JV) (i : Nat), i + vs.length = n → packE (toTs vs) = goE n i vs ++ [93]
  | [], i, h => by simp [toTs, packE, goE]
  | v :: vs, i, h => by
    simp only [List.length_cons] at h
    simp only [toTs, packE, goE, List.append_assoc, packJ]
    congr 1
    cases vs with
    | nil =>
      simp only [List.length_nil] at h
      simp [toTs, goE, h]
    | cons x xs =>
      simp only [List.length_cons] at h
      rw [show (toTs (x :: xs)).isEmpty = false from rfl, if_neg (by simp), if_neg (by omega), goE_pack n (x :: xs) (i + 1) (by simp only [List.length_cons]; omega)]
      simp
theorem goM_pack (n : Nat) : ∀ (ks : List ByteArray) (vs : List JV) (i : Nat), ks.length = vs.length → i + vs.length = n → packM (ks.map bytesOf) (toTs vs) = goM n i ks vs ++ [125]
  | [], [], i, _, h => by simp [toTs, packM, goM]
  | [], v :: vs, i, hl, h => by simp at hl
  | k :: ks, [], i, hl, h => by simp at hl
  | k :: ks, v :: vs, i, hl, h => by
    simp only [List.length_cons] at h hl
    simp only [toTs, List.map_cons, packM, goM, List.cons_append, List.append_assoc, packJ]
    congr 5
    cases vs with
    | nil =>
      simp only [List.length_nil] at h
      simp [toTs, goM, h]
    | cons x xs =>
      simp only [List.length_cons] at h
      rw [show (toTs (x :: xs)).isEmpty = false from rfl, if_neg (by simp), if_neg (by omega), goM_pack n ks (x :: xs) (i + 1) (by omega) (by simp only [List.length_cons]; omega)]
      simp
theorem goE_len (n : Nat) : ∀ (vs : List JV) (i : Nat), i + vs.length = n → vs.length ≤ (goE n i vs).length + 1
  | [], i, h => by simp
  | v :: vs, i, h => by
    simp only [List.length_cons] at h
    have := goE_len n vs (i + 1) (by omega)
    simp only [goE, List.length_append, List.length_cons]
    cases vs with
    | nil => simp
    | cons x xs =>
      simp only [List.length_cons] at h this ⊢
      rw [if_neg (by omega)]
      simp only [List.length_cons, List.length_nil]
      omega
theorem goM_len (n : Nat) : ∀ (ks : List ByteArray) (vs : List JV) (i : Nat), ks.length = vs.length → vs.length ≤ (goM n i ks vs).length
  | [], [], i, _ => by simp
  | [], v :: vs, i, hl => by simp at hl
  | k :: ks, [], i, hl => by simp at hl
  | k :: ks, v :: vs, i, hl => by
    simp only [List.length_cons] at hl
    have := goM_len n ks vs (i + 1) (by omega)
    simp only [goM, List.length_append, List.length_cons]
    omega
theorem goE_at (n : Nat) {vs : List JV} {i : Nat} {v : JV} (hv : vs[i]? = some v) : goE n i (vs.drop i) = packJ v ++ ((if i + 1 = n then [] else [44]) ++ goE n (i + 1) (vs.drop (i + 1))) := by
  obtain ⟨h, rfl⟩ := List.getElem?_eq_some_iff.1 hv
  rw [List.drop_eq_getElem_cons h, goE]
theorem goM_at (n : Nat) {ks : List ByteArray} {vs : List JV} {i : Nat} {v : JV} (hv : vs[i]? = some v) (hl : ks.length = vs.length) :
    goM n i (ks.drop i) (vs.drop i) = 34 :: (bytesOf (ks.getD i emptyS) ++ 34 :: 58 :: (packJ v ++ ((if i + 1 = n then [] else [44]) ++ goM n (i + 1) (ks.drop (i + 1)) (vs.drop (i + 1))))) := by
  obtain ⟨h, rfl⟩ := List.getElem?_eq_some_iff.1 hv
  have h2 : i < ks.length := by omega
  rw [List.drop_eq_getElem_cons h, List.drop_eq_getElem_cons h2, goM, List.getD_eq_getElem?_getD, List.getElem?_eq_getElem h2]
  rfl

/-- What MarshalTo leaves: the row with the text zs behind. -/
def MR (base : Nat) (w : World) (xs zs : List Int) (e : Ending) (w' : World) : Prop :=
  ∃ v', e = .returned v' ∧ w'.ownsRow base 5 1 v' (xs ++ zs).length (nums .u8 (xs ++ zs)) ∧ Below base w w'

def Mar (t : JV) : Prop := rawJ t = true → ∀ (base : Nat) (p : Addr) (own : Addr → Prop) (w : World) (v : Value) (xs : List Int), (∀ a, own a → a.block < base) → Rep w own p t → w.ownsRow base 5 1 v xs.length (nums .u8 xs) → base ≤ w.heap.size → xs.length + (packJ t).length ≤ 1000000000 →
    Calls Tryd.prog 16 #[.pointer (some p), v] w (MR base w xs (packJ t))

theorem base_of {base : Nat} {w : World} (h : base ≤ w.heap.size) : ∀ w', Below base w w' → base ≤ w'.heap.size := fun w' hb => Nat.le_trans h hb.size

theorem kind_tests {t k : Int} (h : t = k) : ((t == k) = true) := by simp [h]

set_option maxRecDepth 100000 in
set_option maxHeartbeats 4000000 in
theorem mar_raw {s : ByteArray} : Mar (.raw s) := by
  intro hraw base p own w v xs hlow hrep hrow hbase hlen
  cases hrep with
  | raw hp h3 h4 o3 o4 =>
    obtain ⟨pb, po, rfl⟩ : ∃ pb po, p = ⟨pb, po, none⟩ := ⟨p.block, p.off, by cases p; simp_all⟩
    have BASE := Lib.hid (base_of hbase)
    have ROW0 := Lib.hid hrow
    have BEL0 := Lib.hid (Below.refl base w)
    (simp [packJ, toT, packL, bytesOf_length] at hlen)
    have HL := Lib.hid hlen
    have c3 := h3.1
    have c4 := h4.1
    have L3 := Lib.hid (hlow _ o3)
    simp only [fld] at c3 c4
    clear h3 h4 o3 o4 hlow
    clear hrow hbase hlen hraw
    go_enter Tryd.func16, Tryd.ntmps16
    go_wp2_with (first | (at_builtin; refine print_append_num (w0 := w) base rfl (.tmp 14) (.tmp 15) 34 5 .u8 1 rfl Tryd.underlying34 infoB (by omega) v xs 34 rfl rfl ROW0.out BEL0.out (BASE.out _ BEL0.out) (by have := HL.out; (try simp only [List.length_append, List.length_cons, List.length_nil, bytesOf_length] at this ⊢); omega) ?_; intro v1 w1 row1 bel1 _ _; have ROW1 := Lib.hid row1; have BEL1 := Lib.hid bel1; have c31 := (bel1.cell (p := ⟨pb, po + 3, none⟩) L3.out).trans c3; clear row1 bel1) | (at_builtin; refine print_append_str (w0 := w) base rfl (.tmp 17) (.tmp 21) 34 9 5 rfl Tryd.underlying34 Tryd.underlying9 infoB v1 (xs ++ [34]) s rfl rfl ROW1.out BEL1.out (BASE.out _ BEL1.out) (by have := HL.out; (try simp only [List.length_append, List.length_cons, List.length_nil, bytesOf_length] at this ⊢); omega) ?_; intro v2 w2 row2 bel2 _; have ROW2 := Lib.hid row2; have BEL2 := Lib.hid bel2; clear row2 bel2) | (at_builtin; refine print_append_num (w0 := w) base rfl (.tmp 23) (.tmp 24) 34 5 .u8 1 rfl Tryd.underlying34 infoB (by omega) v2 (xs ++ [34] ++ bytesOf s) 34 rfl rfl ROW2.out BEL2.out (BASE.out _ BEL2.out) (by have := HL.out; (try simp only [List.length_append, List.length_cons, List.length_nil, bytesOf_length] at this ⊢); omega) ?_; intro v3 w3 row3 bel3 _ _; have ROW3 := Lib.hid row3; have BEL3 := Lib.hid bel3; clear row3 bel3))
    go_ret
    have e : xs ++ packJ (.raw s) = xs ++ [34] ++ bytesOf s ++ [34] := by simp [packJ, toT, packL]
    exact ⟨v3, rfl, e ▸ ROW3.out, BEL3.out⟩

set_option maxRecDepth 100000 in
set_option maxHeartbeats 4000000 in
theorem mar_num {s : ByteArray} : Mar (.num s) := by
  intro hraw base p own w v xs hlow hrep hrow hbase hlen
  cases hrep with
  | num hp h3 h4 o3 o4 =>
    obtain ⟨pb, po, rfl⟩ : ∃ pb po, p = ⟨pb, po, none⟩ := ⟨p.block, p.off, by cases p; simp_all⟩
    have BASE := Lib.hid (base_of hbase)
    have ROW0 := Lib.hid hrow
    have BEL0 := Lib.hid (Below.refl base w)
    (simp [packJ, toT, packL, bytesOf_length] at hlen)
    have HL := Lib.hid hlen
    have c3 := h3.1
    have c4 := h4.1
    have L3 := Lib.hid (hlow _ o3)
    simp only [fld] at c3 c4
    clear h3 h4 o3 o4 hlow
    clear hrow hbase hlen hraw
    go_enter Tryd.func16, Tryd.ntmps16
    go_wp2_with (first | (at_builtin; refine print_append_str (w0 := w) base rfl (.tmp 78) (.tmp 82) 34 9 5 rfl Tryd.underlying34 Tryd.underlying9 infoB v xs s rfl rfl ROW0.out BEL0.out (BASE.out _ BEL0.out) (by have := HL.out; (try simp only [List.length_append, List.length_cons, List.length_nil, bytesOf_length] at this ⊢); omega) ?_; intro v1 w1 row1 bel1 _; have ROW1 := Lib.hid row1; have BEL1 := Lib.hid bel1; clear row1 bel1))
    go_ret
    exact ⟨v1, rfl, ROW1.out, BEL1.out⟩

set_option maxRecDepth 100000 in
set_option maxHeartbeats 4000000 in
theorem mar_true : Mar (.lit 5) := by
  intro hraw base p own w v xs hlow hrep hrow hbase hlen
  cases hrep with
  | lit hp ht h4 o4 =>
    obtain ⟨pb, po, rfl⟩ : ∃ pb po, p = ⟨pb, po, none⟩ := ⟨p.block, p.off, by cases p; simp_all⟩
    have BASE := Lib.hid (base_of hbase)
    have ROW0 := Lib.hid hrow
    have BEL0 := Lib.hid (Below.refl base w)
    (simp [packJ, toT, packL, bytesOf_length] at hlen)
    have HL := Lib.hid hlen
    have c4 := h4.1
    simp only [fld] at c4
    clear h4 o4 hlow ht
    clear hrow hbase hlen hraw
    go_enter Tryd.func16, Tryd.ntmps16
    go_wp2_with (first | (at_builtin; refine print_append_str (w0 := w) base rfl (.tmp 86) (.const (.string ⟨#[116, 114, 117, 101]⟩)) 34 9 5 rfl Tryd.underlying34 Tryd.underlying9 infoB v xs (⟨#[116, 114, 117, 101]⟩ : ByteArray) rfl rfl ROW0.out BEL0.out (BASE.out _ BEL0.out) (by have := HL.out; show xs.length + 4 ≤ 140737488355328; omega) ?_; intro v1 w1 row1 bel1 _; have ROW1 := Lib.hid row1; have BEL1 := Lib.hid bel1; clear row1 bel1))
    go_ret
    exact ⟨v1, rfl, ROW1.out, BEL1.out⟩

set_option maxRecDepth 100000 in
set_option maxHeartbeats 4000000 in
theorem mar_false : Mar (.lit 6) := by
  intro hraw base p own w v xs hlow hrep hrow hbase hlen
  cases hrep with
  | lit hp ht h4 o4 =>
    obtain ⟨pb, po, rfl⟩ : ∃ pb po, p = ⟨pb, po, none⟩ := ⟨p.block, p.off, by cases p; simp_all⟩
    have BASE := Lib.hid (base_of hbase)
    have ROW0 := Lib.hid hrow
    have BEL0 := Lib.hid (Below.refl base w)
    (simp [packJ, toT, packL, bytesOf_length] at hlen)
    have HL := Lib.hid hlen
    have c4 := h4.1
    simp only [fld] at c4
    clear h4 o4 hlow ht
    clear hrow hbase hlen hraw
    go_enter Tryd.func16, Tryd.ntmps16
    go_wp2_with (first | (at_builtin; refine print_append_str (w0 := w) base rfl (.tmp 90) (.const (.string ⟨#[102, 97, 108, 115, 101]⟩)) 34 9 5 rfl Tryd.underlying34 Tryd.underlying9 infoB v xs (⟨#[102, 97, 108, 115, 101]⟩ : ByteArray) rfl rfl ROW0.out BEL0.out (BASE.out _ BEL0.out) (by have := HL.out; show xs.length + 5 ≤ 140737488355328; omega) ?_; intro v1 w1 row1 bel1 _; have ROW1 := Lib.hid row1; have BEL1 := Lib.hid bel1; clear row1 bel1))
    go_ret
    exact ⟨v1, rfl, ROW1.out, BEL1.out⟩

set_option maxRecDepth 100000 in
set_option maxHeartbeats 4000000 in
theorem mar_null : Mar (.lit 0) := by
  intro hraw base p own w v xs hlow hrep hrow hbase hlen
  cases hrep with
  | lit hp ht h4 o4 =>
    obtain ⟨pb, po, rfl⟩ : ∃ pb po, p = ⟨pb, po, none⟩ := ⟨p.block, p.off, by cases p; simp_all⟩
    have BASE := Lib.hid (base_of hbase)
    have ROW0 := Lib.hid hrow
    have BEL0 := Lib.hid (Below.refl base w)
    (simp [packJ, toT, packL, bytesOf_length] at hlen)
    have HL := Lib.hid hlen
    have c4 := h4.1
    simp only [fld] at c4
    clear h4 o4 hlow ht
    clear hrow hbase hlen hraw
    go_enter Tryd.func16, Tryd.ntmps16
    go_wp2_with (first | (at_builtin; refine print_append_str (w0 := w) base rfl (.tmp 94) (.const (.string ⟨#[110, 117, 108, 108]⟩)) 34 9 5 rfl Tryd.underlying34 Tryd.underlying9 infoB v xs (⟨#[110, 117, 108, 108]⟩ : ByteArray) rfl rfl ROW0.out BEL0.out (BASE.out _ BEL0.out) (by have := HL.out; show xs.length + 4 ≤ 140737488355328; omega) ?_; intro v1 w1 row1 bel1 _; have ROW1 := Lib.hid row1; have BEL1 := Lib.hid bel1; clear row1 bel1))
    go_ret
    exact ⟨v1, rfl, ROW1.out, BEL1.out⟩

end Go.Proofs.YtfoloneeibgoiaaDoor.Fjh

/- fastjson's MarshalTo of an array. -/
set_option linter.unusedVariables false
set_option linter.unusedSimpArgs false
namespace Go.Proofs.YtfoloneeibgoiaaDoor.Fjh
open Go Go.RowKit Go.Proofs.YtfoloneeibgoiaaDoorW.PrintWords Go.Proofs.YtfoloneeibgoiaaDoor.Lex Go.Proofs.YtfoloneeibgoiaaDoor.JTr

theorem wrap_small {i : Int} (h0 : -1 ≤ i) (h : i ≤ 1000000001) : IntKind.i64.wrap i = i := by
  rw [IntKind.wrap_i64]
  omega

set_option maxRecDepth 100000 in
set_option maxHeartbeats 8000000 in
theorem mar_arr0 : Mar (.arr []) := by
  intro hraw base p own w v xs hlow hrep hrow hbase hlen
  cases hrep with
  | arr hp h2 h4 o2 o4 hR hA hO hD hk =>
    obtain ⟨pb, po, rfl⟩ : ∃ pb po, p = ⟨pb, po, none⟩ := ⟨p.block, p.off, by cases p; simp_all⟩
    have BASE := Lib.hid (base_of hbase)
    have ROW0 := Lib.hid hrow
    have BEL0 := Lib.hid (Below.refl base w)
    simp [packJ, toT, toTs, packL, packE] at hlen
    have HL := Lib.hid hlen
    have c2 := h2.1
    have c4 := h4.1
    have L2 := Lib.hid (hlow _ o2)
    simp only [fld, List.length_nil] at c2 c4
    clear h2 h4 o2 o4 hlow hR hA hO hD hk hrow hbase hlen hraw
    go_enter Tryd.func16, Tryd.ntmps16
    go_wp2_with (first | (at_builtin; refine print_append_num (w0 := w) base rfl (.tmp 36) (.tmp 37) 34 5 .u8 1 rfl Tryd.underlying34 infoB (by omega) v xs 91 rfl rfl ROW0.out BEL0.out (BASE.out _ BEL0.out) (by have := HL.out; (try simp only [List.length_append, List.length_cons, List.length_nil, bytesOf_length] at this ⊢); omega) ?_; intro v1 w1 row1 bel1 _ _; have ROW1 := Lib.hid row1; have BEL1 := Lib.hid bel1; have c21 := (bel1.cell (p := ⟨pb, po + 2, none⟩) L2.out).trans c2; clear row1 bel1))
    go_loopg [1, 44] 1 (fun kq v1' v44 w' => v1 = v1' ∧ v44 = .int .i64 0 ∧ w1 = w')
    case atStart => exact ⟨rfl, rfl, rfl⟩
    case round =>
      obtain ⟨rfl, rfl, rfl⟩ := hrel
      go_wp2_with (first | (at_builtin; refine print_append_num (w0 := w) base rfl (.tmp 64) (.tmp 65) 34 5 .u8 1 rfl Tryd.underlying34 infoB (by omega) v1 (xs ++ [91]) 93 rfl rfl ROW1.out BEL1.out (BASE.out _ BEL1.out) (by have := HL.out; (try simp only [List.length_append, List.length_cons, List.length_nil, bytesOf_length] at this ⊢); omega) ?_; intro v3 w3 row3 bel3 _ _; have ROW3 := Lib.hid row3; have BEL3 := Lib.hid bel3; clear row3 bel3))
      go_ret
      have e : xs ++ packJ (.arr []) = xs ++ [91] ++ [93] := by simp [packJ, toT, toTs, packL, packE]
      exact ⟨v3, rfl, e ▸ ROW3.out, BEL3.out⟩

set_option maxRecDepth 100000 in
set_option maxHeartbeats 8000000 in
theorem mar_arr {vs : List JV} (hne : 0 < vs.length) (IH : ∀ v ∈ vs, Mar v) : Mar (.arr vs) := by
  intro hraw base p own w v xs hlow hrep hrow hbase hlen
  have hraw : rawJs vs = true := hraw
  cases hrep with
  | arr hp h2 h4 o2 o4 hR hA hO hD hk =>
    rename_i A c ps O
    obtain ⟨pb, po, rfl⟩ : ∃ pb po, p = ⟨pb, po, none⟩ := ⟨p.block, p.off, by cases p; simp_all⟩
    obtain ⟨ab, rfl, -, hcs⟩ := hR.arr (by have := hR.le; omega)
    have hnc := hR.le
    have hpk : packJ (.arr vs) = 91 :: (goE vs.length 0 vs ++ [93]) := by simp only [packJ, toT, packL]; rw [goE_pack vs.length vs 0 (by omega)]
    rw [hpk] at hlen
    simp only [List.length_cons, List.length_append, List.length_nil] at hlen
    have hvl := goE_len vs.length vs 0 (by omega)
    have BASE := Lib.hid (base_of hbase)
    have ROW0 := Lib.hid hrow
    have BEL0 := Lib.hid (Below.refl base w)
    have HL := Lib.hid hlen
    have HPK := Lib.hid hpk
    have HEL := Lib.hid (fun i (hi : i < vs.length) => And.intro (hA _ rfl i hi) (hlow _ (hcs i (by omega)).2.2))
    have HKID := Lib.hid (fun (i : Nat) (x : JV) (hx : vs[i]? = some x) (w' : World) (hb : Below base w w') => Rep.mono (own' := O i) (fun a ha => ⟨ha, hb.cell (hlow _ (hO i a ha).1), hb.frozen (hlow _ (hO i a ha).1)⟩) (hk i x hx))
    have HOW := Lib.hid (fun i a (ha : O i a) => hlow _ (hO i a ha).1)
    have HRAW := Lib.hid (fun i (x : JV) (hx : vs[i]? = some x) => And.intro (IH x (List.mem_of_getElem? hx)) (rawJs_mem hraw x (List.mem_of_getElem? hx)))
    obtain ⟨n, hn⟩ : ∃ n, n = vs.length := ⟨_, rfl⟩
    have c2 := h2.1
    have c4 := h4.1
    have L2 := Lib.hid (hlow _ o2)
    rw [← hn] at c2 hvl hne
    have HVS := Lib.hid (And.intro hn hvl)
    have hlen' : xs.length + ((goE n 0 vs).length + 1 + 1) ≤ 1000000000 := by rw [hn]; omega
    have hn9 : (n : Int) ≤ 1000000000 := by omega
    have hw1 : IntKind.i64.wrap ((n : Int) - 1) = (n : Int) - 1 := wrap_small (by omega) (by omega)
    simp only [fld] at c2 c4
    clear h2 h4 o2 o4 hlow hR hA hO hD hk hrow hbase hlen hraw hcs hnc hpk hn hvl hlen' IH
    go_enter Tryd.func16, Tryd.ntmps16
    go_wp2_with (first | (at_builtin; refine print_append_num (w0 := w) base rfl (.tmp 36) (.tmp 37) 34 5 .u8 1 rfl Tryd.underlying34 infoB (by omega) v xs 91 rfl rfl ROW0.out BEL0.out (BASE.out _ BEL0.out) (by have := HL.out; (try simp only [List.length_append, List.length_cons, List.length_nil, bytesOf_length] at this ⊢); omega) ?_; intro v1 w1 row1 bel1 _ _; have ROW1 := Lib.hid row1; have BEL1 := Lib.hid bel1; have c21 := (bel1.cell (p := ⟨pb, po + 2, none⟩) L2.out).trans c2; clear row1 bel1))
    go_loopg [1, 44] (n + 1) (fun kq v1' v44 w' => ∃ (i : Nat) (ys : List Int), v44 = .int .i64 i ∧ Hid (kq = n + 1 - i) ∧ i ≤ n ∧ Hid (ys ++ goE n i (vs.drop i) = xs ++ 91 :: goE n 0 vs) ∧ Hid (w'.ownsRow base 5 1 v1' ys.length (nums .u8 ys)) ∧ Hid (Below base w w'))
    case atStart => exact ⟨0, xs ++ [91], rfl, Lib.hid (by omega), by omega, Lib.hid (by simp), ROW1, BEL1⟩
    case round =>
      obtain ⟨i, ys, rfl, HK, hin, HE, HR, HB⟩ := hrel
      have hwi : IntKind.i64.wrap ((i : Int) + 1) = (i : Int) + 1 := wrap_small (by omega) (by omega)
      have c2r := (HB.out.cell (p := ⟨pb, po + 2, none⟩) L2.out).trans c2
      rcases Nat.lt_or_ge i n with hlt | hge
      · have hd1 : decide ((i : Int) < (n : Int)) = true := decide_eq_true (by omega)
        have hvi : vs[i]? = some (vs[i]'(by have := HVS.out; omega)) := List.getElem?_eq_getElem _
        obtain ⟨x, hx⟩ : ∃ x, vs[i]? = some x := ⟨_, hvi⟩
        clear hvi
        have hE := HE.out
        have hvs := HVS.out
        rw [goE_at n hx] at hE
        have hlen2 := congrArg List.length hE
        simp only [List.length_append, List.length_cons] at hlen2
        have HL2 := Lib.hid (show ys.length + (packJ x).length + ((if i + 1 = n then ([] : List Int) else [44])).length ≤ xs.length + 1 + (goE n 0 vs).length by omega)
        have hgo : (goE n 0 vs).length = (goE vs.length 0 vs).length := by rw [← hvs.1]
        have HG := Lib.hid hgo
        obtain ⟨cel, cb⟩ := HEL.out i (by omega)
        have cE := (HB.out.cell (p := ⟨ab, i, none⟩) cb).trans cel
        have hi0 : (0 : Int) ≤ (i : Int) := by omega
        have HX := Lib.hid hx
        have HE2 := Lib.hid hE
        have hcall := (HRAW.out i x hx).1 (HRAW.out i x hx).2 base (ps i) (O i) wr u1 ys (HOW.out i) (HKID.out i x hx wr HB.out) HR.out (BASE.out _ HB.out) (by have := HL.out; omega)
        have HC := Lib.hid hcall
        clear hE hlen2 hgo cel cb hcall HE hx hvs
        by_cases hl : i + 1 = n
        · have hd2 : ((i : Int) != (n : Int) - 1) = false := by simp; omega
          go_wp2_with (first | (go_at_call 16; (refine (HC.out).mono ?_); rintro e w4 ⟨v4, rfl, row4, bel4⟩; have c24 := (bel4.cell (p := ⟨pb, po + 2, none⟩) L2.out).trans c2r; have ROW4 := Lib.hid row4; have BEL4 := Lib.hid (HB.out.trans bel4); clear row4 bel4; try exact ⟨rfl, ‹_›⟩))
          go_roundg (n - i)
          case measure => have := HK.out; omega
          case rel =>
            have hE := HE2.out
            rw [if_pos hl] at hE
            exact ⟨i + 1, ys ++ packJ x, rfl, Lib.hid (by omega), by omega, Lib.hid (by rw [List.append_assoc]; simpa using hE), ROW4, BEL4⟩
        · have hd2 : ((i : Int) != (n : Int) - 1) = true := by simp; omega
          go_wp2_with (first | (go_at_call 16; (refine (HC.out).mono ?_); rintro e w4 ⟨v4, rfl, row4, bel4⟩; have c24 := (bel4.cell (p := ⟨pb, po + 2, none⟩) L2.out).trans c2r; have ROW4 := Lib.hid row4; have BEL4 := Lib.hid (HB.out.trans bel4); clear row4 bel4; try exact ⟨rfl, ‹_›⟩) | (at_builtin; refine print_append_num (w0 := w) base rfl (.tmp 60) (.tmp 61) 34 5 .u8 1 rfl Tryd.underlying34 infoB (by omega) v4 (ys ++ packJ x) 44 rfl rfl ROW4.out BEL4.out (BASE.out _ BEL4.out) (by have := HL.out; have := HL2.out; have := HG.out; rw [if_neg hl] at *; (try simp only [List.length_append, List.length_cons, List.length_nil, bytesOf_length] at this ⊢); omega) ?_; intro v5 w5 row5 bel5 _ _; have ROW5 := Lib.hid row5; have BEL5 := Lib.hid bel5; clear row5 bel5))
          go_roundg (n - i)
          case measure => have := HK.out; omega
          case rel =>
            have hE := HE2.out
            rw [if_neg hl] at hE
            exact ⟨i + 1, ys ++ packJ x ++ [44], rfl, Lib.hid (by omega), by omega, Lib.hid (by rw [List.append_assoc, List.append_assoc]; simpa using hE), ROW5, BEL5⟩
      · have hd1 : decide ((i : Int) < (n : Int)) = false := decide_eq_false (by omega)
        have hE := HE.out
        have hvs := HVS.out
        rw [List.drop_eq_nil_of_le (by omega), goE, List.append_nil] at hE
        have HL2 := Lib.hid (show ys.length = xs.length + 1 + (goE vs.length 0 vs).length by rw [hE, ← hvs.1]; simp; omega)
        have HE2 := Lib.hid hE
        clear hE hvs HE
        go_wp2_with (first | (at_builtin; refine print_append_num (w0 := w) base rfl (.tmp 64) (.tmp 65) 34 5 .u8 1 rfl Tryd.underlying34 infoB (by omega) u1 ys 93 rfl rfl HR.out HB.out (BASE.out _ HB.out) (by have := HL.out; have := HL2.out; (try simp only [List.length_append, List.length_cons, List.length_nil, bytesOf_length] at this ⊢); omega) ?_; intro v3 w3 row3 bel3 _ _; have ROW3 := Lib.hid row3; have BEL3 := Lib.hid bel3; clear row3 bel3))
        go_ret
        have e : xs ++ packJ (.arr vs) = ys ++ [93] := by rw [HPK.out, HE2.out, ← HVS.out.1]; simp
        exact ⟨v3, rfl, e ▸ ROW3.out, BEL3.out⟩

end Go.Proofs.YtfoloneeibgoiaaDoor.Fjh

/- fastjson's MarshalTo of an object; of any tree. -/
set_option linter.unusedVariables false
set_option linter.unusedSimpArgs false
namespace Go.Proofs.YtfoloneeibgoiaaDoor.Fjh
open Go Go.RowKit Go.Proofs.YtfoloneeibgoiaaDoorW.PrintWords Go.Proofs.YtfoloneeibgoiaaDoor.Lex Go.Proofs.YtfoloneeibgoiaaDoor.JTr

set_option maxRecDepth 100000 in
set_option maxHeartbeats 8000000 in
theorem omar0 {base pb po : Nat} {A : Option Addr} {c : Nat} {w : World} {v : Value} {xs : List Int} (hlow : pb < base) (c0 : w.cell? ⟨pb, po, none⟩ = some (.slice A 0 c)) (hrow : w.ownsRow base 5 1 v xs.length (nums .u8 xs)) (hbase : base ≤ w.heap.size) (hlen : xs.length + 2 ≤ 1000000000) :
    Calls Tryd.prog 30 #[.pointer (some ⟨pb, po, none⟩), v] w (MR base w xs [123, 125]) := by
  have BASE := Lib.hid (base_of hbase)
  have ROW0 := Lib.hid hrow
  have BEL0 := Lib.hid (Below.refl base w)
  have HL := Lib.hid hlen
  have L0 := Lib.hid hlow
  clear hlow hrow hbase hlen
  go_enter Tryd.func30, Tryd.ntmps30
  go_wp2_with (first | (at_builtin; refine print_append_num (w0 := w) base rfl (.tmp 8) (.tmp 9) 34 5 .u8 1 rfl Tryd.underlying34 infoB (by omega) v xs 123 rfl rfl ROW0.out BEL0.out (BASE.out _ BEL0.out) (by have := HL.out; (try simp only [List.length_append, List.length_cons, List.length_nil, bytesOf_length] at this ⊢); omega) ?_; intro v1 w1 row1 bel1 _ _; have ROW1 := Lib.hid row1; have BEL1 := Lib.hid bel1; have c01 := (bel1.cell (p := ⟨pb, po, none⟩) L0.out).trans c0; clear row1 bel1))
  go_loopg [1, 17] 1 (fun kq v1' v17 w' => v1 = v1' ∧ v17 = .int .i64 0 ∧ w1 = w')
  case atStart => exact ⟨rfl, rfl, rfl⟩
  case round =>
    obtain ⟨rfl, rfl, rfl⟩ := hrel
    go_wp2_with (first | (at_builtin; refine print_append_num (w0 := w) base rfl (.tmp 66) (.tmp 67) 34 5 .u8 1 rfl Tryd.underlying34 infoB (by omega) v1 (xs ++ [123]) 125 rfl rfl ROW1.out BEL1.out (BASE.out _ BEL1.out) (by have := HL.out; (try simp only [List.length_append, List.length_cons, List.length_nil, bytesOf_length] at this ⊢); omega) ?_; intro v3 w3 row3 bel3 _ _; have ROW3 := Lib.hid row3; have BEL3 := Lib.hid bel3; clear row3 bel3))
    go_ret
    have e : xs ++ [123, 125] = xs ++ [123] ++ [125] := by simp
    exact ⟨v3, rfl, e ▸ ROW3.out, BEL3.out⟩

set_option maxRecDepth 100000 in
set_option maxHeartbeats 8000000 in
theorem omar {ks : List ByteArray} {vs : List JV} (hl0 : ks.length = vs.length) (hne : 0 < vs.length) {base pb po ab c : Nat} {ps : Nat → Addr} {O : Nat → Addr → Prop} {w : World} {v : Value} {xs : List Int} (hlow : pb < base) (hab : ab < base) (c0 : w.cell? ⟨pb, po, none⟩ = some (.slice (some ⟨ab, 0, none⟩) vs.length c)) (c1 : w.cell? ⟨pb, po + 1, none⟩ = some (.bool false)) (hnc : vs.length ≤ c)
    (hA : ∀ i, i < vs.length → w.cell? ⟨ab, i * 2, none⟩ = some (.string (ks.getD i emptyS)) ∧ w.cell? ⟨ab, i * 2 + 1, none⟩ = some (.pointer (some (ps i))))
    (HKID : Hid (∀ (i : Nat) (x : JV), vs[i]? = some x → ∀ w', Below base w w' → Rep w' (O i) (ps i) x)) (HOW : Hid (∀ i a, O i a → a.block < base)) (HRAW : Hid (∀ (i : Nat) (x : JV), vs[i]? = some x → Mar x ∧ rawJ x = true))
    (hrow : w.ownsRow base 5 1 v xs.length (nums .u8 xs)) (hbase : base ≤ w.heap.size) (hlen : xs.length + ((goM vs.length 0 ks vs).length + 2) ≤ 1000000000) :
    Calls Tryd.prog 30 #[.pointer (some ⟨pb, po, none⟩), v] w (MR base w xs (123 :: (goM vs.length 0 ks vs ++ [125]))) := by
  have hvl := goM_len vs.length ks vs 0 hl0
  have BASE := Lib.hid (base_of hbase)
  have ROW0 := Lib.hid hrow
  have BEL0 := Lib.hid (Below.refl base w)
  have L0 := Lib.hid hlow
  have LA := Lib.hid hab
  obtain ⟨n, hn⟩ : ∃ n, n = vs.length := ⟨_, rfl⟩
  rw [← hn] at c0 hvl hne hlen hnc hA ⊢
  have HA := Lib.hid hA
  have HL := Lib.hid hlen
  have HVS := Lib.hid (And.intro hn hl0)
  have hn9 : (n : Int) ≤ 1000000000 := by omega
  have hw1 : IntKind.i64.wrap ((n : Int) - 1) = (n : Int) - 1 := wrap_small (by omega) (by omega)
  clear hlow hab hrow hbase hlen hn hl0 hvl hA
  go_enter Tryd.func30, Tryd.ntmps30
  go_wp2_with (first | (at_builtin; refine print_append_num (w0 := w) base rfl (.tmp 8) (.tmp 9) 34 5 .u8 1 rfl Tryd.underlying34 infoB (by omega) v xs 123 rfl rfl ROW0.out BEL0.out (BASE.out _ BEL0.out) (by have := HL.out; (try simp only [List.length_append, List.length_cons, List.length_nil, bytesOf_length] at this ⊢); omega) ?_; intro v1 w1 row1 bel1 _ _; have ROW1 := Lib.hid row1; have BEL1 := Lib.hid bel1; have c01 := (bel1.cell (p := ⟨pb, po, none⟩) L0.out).trans c0; clear row1 bel1))
  go_loopg [1, 17] (n + 1) (fun kq v1' v17 w' => ∃ (i : Nat) (ys : List Int), v17 = .int .i64 i ∧ Hid (kq = n + 1 - i) ∧ i ≤ n ∧ Hid (ys ++ goM n i (ks.drop i) (vs.drop i) = xs ++ 123 :: goM n 0 ks vs) ∧ Hid (w'.ownsRow base 5 1 v1' ys.length (nums .u8 ys)) ∧ Hid (Below base w w'))
  case atStart => exact ⟨0, xs ++ [123], rfl, Lib.hid (by omega), by omega, Lib.hid (by simp), ROW1, BEL1⟩
  case round =>
    obtain ⟨i, ys, rfl, HK, hin, HE, HR, HB⟩ := hrel
    have hwi : IntKind.i64.wrap ((i : Int) + 1) = (i : Int) + 1 := wrap_small (by omega) (by omega)
    have c1r := (HB.out.cell (p := ⟨pb, po + 1, none⟩) L0.out).trans c1
    rcases Nat.lt_or_ge i n with hlt | hge
    · have hd1 : decide ((i : Int) < (n : Int)) = true := decide_eq_true (by omega)
      have hvi : vs[i]? = some (vs[i]'(by have := HVS.out; omega)) := List.getElem?_eq_getElem _
      obtain ⟨x, hx⟩ : ∃ x, vs[i]? = some x := ⟨_, hvi⟩
      clear hvi
      have hE := HE.out
      have hvs := HVS.out
      rw [goM_at n hx hvs.2] at hE
      have hlen2 := congrArg List.length hE
      simp only [List.length_append, List.length_cons, bytesOf_length] at hlen2
      have HL2 := Lib.hid (show ys.length + 3 + (ks.getD i emptyS).size + (packJ x).length + ((if i + 1 = n then ([] : List Int) else [44])).length ≤ xs.length + 1 + (goM n 0 ks vs).length by omega)
      obtain ⟨cK, cV⟩ := HA.out i hlt
      have LK : Hid ((⟨ab, i * 2, none⟩ : Addr).block < base) := Lib.hid LA.out
      have LV : Hid ((⟨ab, i * 2 + 1, none⟩ : Addr).block < base) := Lib.hid LA.out
      have hi0 : (0 : Int) ≤ (i : Int) := by omega
      have HX := Lib.hid hx
      have HE2 := Lib.hid hE
      have hcall := fun v8 w8 (row8 : World.ownsRow w8 base 5 1 v8 (ys ++ [34] ++ bytesOf (ks.getD i emptyS) ++ [34] ++ [58]).length (nums .u8 (ys ++ [34] ++ bytesOf (ks.getD i emptyS) ++ [34] ++ [58]))) (bel8 : Below base w w8) => (HRAW.out i x hx).1 (HRAW.out i x hx).2 base (ps i) (O i) w8 v8 (ys ++ [34] ++ bytesOf (ks.getD i emptyS) ++ [34] ++ [58]) (HOW.out i) (HKID.out i x hx w8 bel8) row8 (BASE.out _ bel8) (by have := HL.out; have := HL2.out; simp only [List.length_append, List.length_cons, List.length_nil, bytesOf_length]; omega)
      have HC := Lib.hid hcall
      clear hE hlen2 hcall HE hx hvs
      by_cases hl : i + 1 = n
      · have hd2 : ((i : Int) != (n : Int) - 1) = false := by simp; omega
        go_wp2_with (first | (at_builtin; refine print_append_num (w0 := w) base rfl (.tmp 33) (.tmp 34) 34 5 .u8 1 rfl Tryd.underlying34 infoB (by omega) u1 ys 34 rfl rfl HR.out HB.out (BASE.out _ HB.out) (by have := HL.out; have := HL2.out; (try simp only [List.length_append, List.length_cons, List.length_nil, bytesOf_length] at this ⊢); omega) ?_; intro v5 w5 row5 bel5 _ _; have ROW5 := Lib.hid row5; have BEL5 := Lib.hid bel5; have cK5 := (bel5.cell (p := ⟨ab, i * 2, none⟩) LK.out).trans cK; clear row5 bel5) | (at_builtin; refine print_append_str (w0 := w) base rfl (.tmp 36) (.tmp 40) 34 9 5 rfl Tryd.underlying34 Tryd.underlying9 infoB v5 (ys ++ [34]) (ks.getD i emptyS) rfl rfl ROW5.out BEL5.out (BASE.out _ BEL5.out) (by have := HL.out; have := HL2.out; (try simp only [List.length_append, List.length_cons, List.length_nil, bytesOf_length] at this ⊢); omega) ?_; intro v6 w6 row6 bel6 _; have ROW6 := Lib.hid row6; have BEL6 := Lib.hid bel6; clear row6 bel6) | (at_builtin; refine print_append_num (w0 := w) base rfl (.tmp 42) (.tmp 43) 34 5 .u8 1 rfl Tryd.underlying34 infoB (by omega) v6 (ys ++ [34] ++ bytesOf (ks.getD i emptyS)) 34 rfl rfl ROW6.out BEL6.out (BASE.out _ BEL6.out) (by have := HL.out; have := HL2.out; (try simp only [List.length_append, List.length_cons, List.length_nil, bytesOf_length] at this ⊢); omega) ?_; intro v7 w7 row7 bel7 _ _; have ROW7 := Lib.hid row7; have BEL7 := Lib.hid bel7; clear row7 bel7) | (at_builtin; refine print_append_num (w0 := w) base rfl (.tmp 45) (.tmp 46) 34 5 .u8 1 rfl Tryd.underlying34 infoB (by omega) v7 (ys ++ [34] ++ bytesOf (ks.getD i emptyS) ++ [34]) 58 rfl rfl ROW7.out BEL7.out (BASE.out _ BEL7.out) (by have := HL.out; have := HL2.out; (try simp only [List.length_append, List.length_cons, List.length_nil, bytesOf_length] at this ⊢); omega) ?_; intro v8 w8 row8 bel8 _ _; have ROW8 := Lib.hid row8; have BEL8 := Lib.hid bel8; have cV8 := (bel8.cell (p := ⟨ab, i * 2 + 1, none⟩) LV.out).trans cV; have HCA := Lib.hid (HC.out v8 w8 row8 bel8); clear row8 bel8) | (go_at_call 16; (refine (HCA.out).mono ?_); rintro e w9 ⟨v9, rfl, row9, bel9⟩; have c09 := ((BEL8.out.trans bel9).cell (p := ⟨pb, po, none⟩) L0.out).trans c0; have ROW9 := Lib.hid row9; have BEL9 := Lib.hid (BEL8.out.trans bel9); clear row9 bel9; try exact ⟨rfl, ‹_›⟩))
        go_roundg (n - i)
        case measure => have := HK.out; omega
        case rel =>
          have hE := HE2.out
          rw [if_pos hl] at hE
          exact ⟨i + 1, (ys ++ [34] ++ bytesOf (ks.getD i emptyS) ++ [34] ++ [58]) ++ packJ x, rfl, Lib.hid (by omega), by omega, Lib.hid (by simpa using hE), ROW9, BEL9⟩
      · have hd2 : ((i : Int) != (n : Int) - 1) = true := by simp; omega
        go_wp2_with (first | (at_builtin; refine print_append_num (w0 := w) base rfl (.tmp 33) (.tmp 34) 34 5 .u8 1 rfl Tryd.underlying34 infoB (by omega) u1 ys 34 rfl rfl HR.out HB.out (BASE.out _ HB.out) (by have := HL.out; have := HL2.out; (try simp only [List.length_append, List.length_cons, List.length_nil, bytesOf_length] at this ⊢); omega) ?_; intro v5 w5 row5 bel5 _ _; have ROW5 := Lib.hid row5; have BEL5 := Lib.hid bel5; have cK5 := (bel5.cell (p := ⟨ab, i * 2, none⟩) LK.out).trans cK; clear row5 bel5) | (at_builtin; refine print_append_str (w0 := w) base rfl (.tmp 36) (.tmp 40) 34 9 5 rfl Tryd.underlying34 Tryd.underlying9 infoB v5 (ys ++ [34]) (ks.getD i emptyS) rfl rfl ROW5.out BEL5.out (BASE.out _ BEL5.out) (by have := HL.out; have := HL2.out; (try simp only [List.length_append, List.length_cons, List.length_nil, bytesOf_length] at this ⊢); omega) ?_; intro v6 w6 row6 bel6 _; have ROW6 := Lib.hid row6; have BEL6 := Lib.hid bel6; clear row6 bel6) | (at_builtin; refine print_append_num (w0 := w) base rfl (.tmp 42) (.tmp 43) 34 5 .u8 1 rfl Tryd.underlying34 infoB (by omega) v6 (ys ++ [34] ++ bytesOf (ks.getD i emptyS)) 34 rfl rfl ROW6.out BEL6.out (BASE.out _ BEL6.out) (by have := HL.out; have := HL2.out; (try simp only [List.length_append, List.length_cons, List.length_nil, bytesOf_length] at this ⊢); omega) ?_; intro v7 w7 row7 bel7 _ _; have ROW7 := Lib.hid row7; have BEL7 := Lib.hid bel7; clear row7 bel7) | (at_builtin; refine print_append_num (w0 := w) base rfl (.tmp 45) (.tmp 46) 34 5 .u8 1 rfl Tryd.underlying34 infoB (by omega) v7 (ys ++ [34] ++ bytesOf (ks.getD i emptyS) ++ [34]) 58 rfl rfl ROW7.out BEL7.out (BASE.out _ BEL7.out) (by have := HL.out; have := HL2.out; (try simp only [List.length_append, List.length_cons, List.length_nil, bytesOf_length] at this ⊢); omega) ?_; intro v8 w8 row8 bel8 _ _; have ROW8 := Lib.hid row8; have BEL8 := Lib.hid bel8; have cV8 := (bel8.cell (p := ⟨ab, i * 2 + 1, none⟩) LV.out).trans cV; have HCA := Lib.hid (HC.out v8 w8 row8 bel8); clear row8 bel8) | (go_at_call 16; (refine (HCA.out).mono ?_); rintro e w9 ⟨v9, rfl, row9, bel9⟩; have c09 := ((BEL8.out.trans bel9).cell (p := ⟨pb, po, none⟩) L0.out).trans c0; have ROW9 := Lib.hid row9; have BEL9 := Lib.hid (BEL8.out.trans bel9); clear row9 bel9; try exact ⟨rfl, ‹_›⟩) | (at_builtin; refine print_append_num (w0 := w) base rfl (.tmp 62) (.tmp 63) 34 5 .u8 1 rfl Tryd.underlying34 infoB (by omega) v9 ((ys ++ [34] ++ bytesOf (ks.getD i emptyS) ++ [34] ++ [58]) ++ packJ x) 44 rfl rfl ROW9.out BEL9.out (BASE.out _ BEL9.out) (by have := HL.out; have := HL2.out; rw [if_neg hl] at *; (try simp only [List.length_append, List.length_cons, List.length_nil, bytesOf_length] at this ⊢); omega) ?_; intro v10 w10 row10 bel10 _ _; have ROW10 := Lib.hid row10; have BEL10 := Lib.hid bel10; clear row10 bel10))
        go_roundg (n - i)
        case measure => have := HK.out; omega
        case rel =>
          have hE := HE2.out
          rw [if_neg hl] at hE
          exact ⟨i + 1, (ys ++ [34] ++ bytesOf (ks.getD i emptyS) ++ [34] ++ [58]) ++ packJ x ++ [44], rfl, Lib.hid (by omega), by omega, Lib.hid (by simpa using hE), ROW10, BEL10⟩
    · have hd1 : decide ((i : Int) < (n : Int)) = false := decide_eq_false (by omega)
      have hE := HE.out
      have hvs := HVS.out
      have e1 : vs.drop i = [] := List.drop_eq_nil_of_le (by omega)
      have e2 : ks.drop i = [] := List.drop_eq_nil_of_le (by omega)
      rw [e1, e2] at hE
      simp only [goM, List.append_nil] at hE
      have HL2 := Lib.hid (show ys.length = xs.length + 1 + (goM n 0 ks vs).length by rw [hE]; simp; omega)
      have HE2 := Lib.hid hE
      clear hE hvs HE
      go_wp2_with (first | (at_builtin; refine print_append_num (w0 := w) base rfl (.tmp 66) (.tmp 67) 34 5 .u8 1 rfl Tryd.underlying34 infoB (by omega) u1 ys 125 rfl rfl HR.out HB.out (BASE.out _ HB.out) (by have := HL.out; have := HL2.out; (try simp only [List.length_append, List.length_cons, List.length_nil, bytesOf_length] at this ⊢); omega) ?_; intro v3 w3 row3 bel3 _ _; have ROW3 := Lib.hid row3; have BEL3 := Lib.hid bel3; clear row3 bel3))
      go_ret
      have e : xs ++ 123 :: (goM n 0 ks vs ++ [125]) = ys ++ [125] := by rw [HE2.out]; simp
      exact ⟨v3, rfl, e ▸ ROW3.out, BEL3.out⟩

set_option maxRecDepth 100000 in
set_option maxHeartbeats 8000000 in
theorem mar_obj {u : Bool} {ks : List ByteArray} {vs : List JV} (IH : ∀ v ∈ vs, Mar v) : Mar (.obj u ks vs) := by
  intro hraw base p own w v xs hlow hrep hrow hbase hlen
  have hraw : (!u) = true ∧ rawJs vs = true := by simpa [rawJ] using hraw
  obtain rfl : u = false := by simpa using hraw.1
  cases hrep with
  | obj hp hl h0 h1 h4 o0 o1 o4 hR hA hO hD hk =>
    rename_i A c ps O
    obtain ⟨pb, po, rfl⟩ : ∃ pb po, p = ⟨pb, po, none⟩ := ⟨p.block, p.off, by cases p; simp_all⟩
    have c0 := h0.1
    have c1 := h1.1
    have c4 := h4.1
    simp only [fld, Nat.add_zero] at c0 c1 c4
    have hpk : packJ (.obj false ks vs) = 123 :: (goM vs.length 0 ks vs ++ [125]) := by simp only [packJ, toT, packL]; rw [goM_pack vs.length ks vs 0 hl (by omega)]
    rw [hpk] at hlen ⊢
    simp only [List.length_cons, List.length_append, List.length_nil] at hlen
    have hcall : Calls Tryd.prog 30 #[.pointer (some ⟨pb, po, none⟩), v] w (MR base w xs (123 :: (goM vs.length 0 ks vs ++ [125]))) := by
      rcases Nat.eq_zero_or_pos vs.length with hz | hz
      · have hv : vs = [] := List.eq_nil_of_length_eq_zero hz
        subst hv
        have hk0 : ks = [] := List.eq_nil_of_length_eq_zero hl
        subst hk0
        exact omar0 (hlow _ o0) c0 hrow hbase (by simpa [goM] using hlen)
      · obtain ⟨ab, rfl, -, hcs⟩ := hR.arr (by have := hR.le; omega)
        exact omar hl hz (hlow _ o0) (hlow _ (hcs 0 (by have := hR.le; omega)).2.2) c0 c1 hR.le (fun i hi => by rw [Nat.mul_comm i 2]; exact hA _ rfl i hi)
          (Lib.hid (fun i x hx w' hb => Rep.mono (own' := O i) (fun a ha => ⟨ha, hb.cell (hlow _ (hO i a ha).1), hb.frozen (hlow _ (hO i a ha).1)⟩) (hk i x hx))) (Lib.hid (fun i a ha => hlow _ (hO i a ha).1))
          (Lib.hid (fun i x hx => ⟨IH x (List.mem_of_getElem? hx), rawJs_mem hraw.2 x (List.mem_of_getElem? hx)⟩)) hrow hbase hlen
    have HC := Lib.hid hcall
    clear h0 h1 h4 o0 o1 o4 hlow hR hA hO hD hk hrow hbase hlen hraw hpk IH hcall c0 c1 hp hl
    go_enter Tryd.func16, Tryd.ntmps16
    go_wp2_with (first | (go_at_call 30; (refine (HC.out).mono ?_); rintro e w4 ⟨v4, rfl, row4, bel4⟩; have ROW4 := Lib.hid row4; have BEL4 := Lib.hid bel4; clear row4 bel4; try exact ⟨rfl, ‹_›⟩))
    go_ret
    exact ⟨v4, rfl, ROW4.out, BEL4.out⟩

/-- MarshalTo of a tree whose strings are as they stand. -/
theorem mar_any : ∀ (n : Nat) (t : JV), SizeOf.sizeOf t < n → Mar t
  | 0, t, h => by omega
  | n + 1, .raw s, h => mar_raw
  | n + 1, .dec s, h => fun h => by simp [rawJ] at h
  | n + 1, .num s, h => mar_num
  | n + 1, .lit t, h => fun hraw base p own w v xs hlow hrep => by
    cases hrep with
    | lit hp ht h4 o4 =>
      rcases ht with rfl | rfl | rfl
      · exact mar_null hraw base p own w v xs hlow (.lit hp (by simp) h4 o4)
      · exact mar_true hraw base p own w v xs hlow (.lit hp (by simp) h4 o4)
      · exact mar_false hraw base p own w v xs hlow (.lit hp (by simp) h4 o4)
  | n + 1, .arr vs, h => by
    cases vs with
    | nil => exact mar_arr0
    | cons x xs => exact mar_arr (by simp) (fun v hv => mar_any n v (by have := List.sizeOf_lt_of_mem hv; simp only [JV.arr.sizeOf_spec] at h; omega))
  | n + 1, .obj u ks vs, h => mar_obj (fun v hv => mar_any n v (by have := List.sizeOf_lt_of_mem hv; simp only [JV.obj.sizeOf_spec] at h; omega))
theorem mar_ok (t : JV) : Mar t := mar_any (SizeOf.sizeOf t + 1) t (by omega)

end Go.Proofs.YtfoloneeibgoiaaDoor.Fjh

/- impl.FjReprint: what MarshalTo writes of what Parse reads. -/
set_option linter.unusedVariables false
set_option linter.unusedSimpArgs false
namespace Go.Proofs.YtfoloneeibgoiaaDoor.Fjh
open Go Go.RowKit Go.Proofs.YtfoloneeibgoiaaDoorW.PrintWords Go.Proofs.YtfoloneeibgoiaaDoor.Lex Go.Proofs.YtfoloneeibgoiaaDoor.JTr

theorem row_form1 {w : World} {base : Nat} {e : TypeId} {size : Nat} {v : Value} {n : Nat} {xs : List Value} (h : w.ownsRow base e size v n xs) : ∃ A c, v = .slice A n c := by
  rcases h.2 with ⟨rfl, rfl⟩ | ⟨g, cap, cur, rfl, _⟩
  · exact ⟨_, _, rfl⟩
  · exact ⟨_, _, rfl⟩

set_option maxRecDepth 100000 in
set_option maxHeartbeats 8000000 in
theorem reprint_ok {K : Nat} {s : ByteArray} {v : JV} {w : World} (h : pParse K s = some (some v)) (hr : rawJ v = true) (hz : (packJ v).length ≤ 1000000000) :
    Calls Tryd.prog 6 #[.string s] w (fun e w' => e = .returned (.tuple #[.string (strOfNums (packJ v)), .bool true]) ∧ Below w.heap.size w w') := by
  have HP := Lib.hid (fun w qb => parse_calls K s (some v) h qb w)
  have HR := Lib.hid hr
  have HZ := Lib.hid hz
  clear h hr hz
  go_enter Tryd.func6, Tryd.ntmps6
  go_wp2_with (first
    | (go_at_call 15; refine (HP.out _ _ (blk_cell (blk_new w _) 0) (blk_frozen (blk_new w _) 0) (blk_cell (blk_new w _) 1) (blk_frozen (blk_new w _) 1)).mono ?_; rintro e w5 ⟨hb5, p, W, rfl, hps, hBW, -, hRep⟩; have HRep := Lib.hid hRep; have BEL := Lib.hid (((Below.refl w.heap.size w).alloc (Nat.le_refl _) _).trans hb5); clear hb5 hBW hRep)
    | (go_at_call 16; refine (mar_ok v HR.out w5.heap.size p _ w5 (.slice none 0 0) [] (fun a ha => ha.1.1) HRep.out (World.ownsRow_nil _ _ _ _) (Nat.le_refl _) (by have := HZ.out; simpa using this)).mono ?_; rintro e w6 ⟨v6, rfl, hrow, hb6⟩; rw [List.nil_append] at hrow; obtain ⟨A6, c6, rfl⟩ := row_form1 hrow; have hcv := own_string (P := Tryd.prog) Tryd.underlying34 Tryd.underlying5 Tryd.underlying9 hrow; replace BEL := Lib.hid (BEL.out.trans (hb6.mono BEL.out.size)); clear hrow hb6))
  go_ret2
  exact ⟨rfl, BEL.out⟩

end Go.Proofs.YtfoloneeibgoiaaDoor.Fjh

/- The reference's Read: of a text its tree's node. -/
import Derived.Test.YtfoloneeibgoiaaDoorSpTr
import Derived.Test.YtfoloneeibgoiaaDoorFjD
set_option linter.unusedVariables false
set_option linter.unusedSimpArgs false
namespace Go.Proofs.YtfoloneeibgoiaaDoor.Spr
open Go Go.RowKit Go.Proofs.YtfoloneeibgoiaaDoorW.PrintWords Go.Proofs.YtfoloneeibgoiaaDoor.Fjh Go.Proofs.YtfoloneeibgoiaaDoor.JTr

/-- What Read leaves. -/
def ReR (w : World) (o : Option JT) (e : Ending) (w' : World) : Prop :=
  match o with
  | some t => ∃ a, e = .returned (.tuple #[.agg a, .bool true]) ∧ NRep w' (Btw w w') a t ∧ Below w.heap.size w w'
  | none => e = .returned (.tuple #[.agg (nd 0 ByteArray.empty nilS nilS), .bool false]) ∧ Below w.heap.size w w'

set_option maxRecDepth 100000 in
set_option maxHeartbeats 8000000 in
theorem read_ok {s : ByteArray} {w : World} (hs : s.size ≤ 1000000000) (hg : ∀ t, readL (bytesOf s) = some t → szT t ≤ 1000000000 ∧ ∀ l ∈ strsT t, ∃ b, UQ l b) :
    Calls Tryd.prog 13 #[.string s] w (ReR w (readL (bytesOf s))) := by
  have HS := Lib.hid hs
  cases ho : readL (bytesOf s) with
  | none =>
    have HP := Lib.hid (fun w => places (s := s) (w := w) hs)
    rw [ho] at HP
    clear ho hs hg
    go_enter Tryd.func13, Tryd.ntmps13
    go_upto_region 3 with (first
      | ((with_reducible refine gate_dst (N := 2) rfl ?_); refine box_event ?hg (N := 2) ?hd (cs := nd 0 ByteArray.empty nilS nilS) (t := 25) ?hr ?_; (case hd => rfl); (case hg => rfl); (case hr => first | (go_simp; done) | (go_simp; rfl)); intro g2 hg2 w2 hb2 hbel2; have HB2 := Lib.hid hb2; have BEL := Lib.hid hbel2; have HG2 := Lib.hid (show w.heap.size ≤ g2 from by omega); have HG2L := Lib.hid (blk_lt hb2); clear hb2 hbel2 hg2)
      | (go_at_call 23; refine (HP.out _).mono ?_; rintro e w5 ⟨rfl, hb5⟩; replace HB2 := Lib.hid ((hb5.block g2 (blk_lt HB2.out)).trans HB2.out); replace BEL := Lib.hid (BEL.out.trans (hb5.mono BEL.out.size)); clear hb5))
    have hb7 := blk_alloc HB2.out (.cells #[.int .i64 0, .int .i64 0, .int .i64 0, .slice none 0 0, .slice none 0 0] 56 (0, 0))
    have hbe7 := BEL.out.alloc BEL.out.size (.cells #[.int .i64 0, .int .i64 0, .int .i64 0, .slice none 0 0, .slice none 0 0] 56 (0, 0))
    generalize hw7 : w5.alloc _ = w7 at hb7 hbe7 ⊢
    clear hw7
    obtain ⟨q0, q1, q2, q3⟩ := four hb7
    obtain ⟨f0, f1, f2, f3⟩ := four_f hb7
    replace HB2 := Lib.hid hb7
    replace BEL := Lib.hid hbe7
    clear hb7 hbe7
    go_wp2
    refine bodyPost_ret (results_ct rfl _ _ g2 25 _ (0, 0) _ rfl (four_put HB2.out) Tryd.underlying25 rfl (by kernel_rfl)) rfl ?_
    exact ⟨rfl, put4_below BEL.out HG2.out⟩
  | some t =>
    have HP := Lib.hid (fun w => places (s := s) (w := w) hs)
    rw [ho] at HP
    have HG := Lib.hid (hg t ho)
    clear ho hs hg
    go_enter Tryd.func13, Tryd.ntmps13
    go_upto_region 4 with (first
      | ((with_reducible refine gate_dst (N := 2) rfl ?_); refine box_event ?hg (N := 2) ?hd (cs := nd 0 ByteArray.empty nilS nilS) (t := 25) ?hr ?_; (case hd => rfl); (case hg => rfl); (case hr => first | (go_simp; done) | (go_simp; rfl)); intro g2 hg2 w2 hb2 hbel2; have HB2 := Lib.hid hb2; have BEL := Lib.hid hbel2; have HG2 := Lib.hid (show w.heap.size ≤ g2 from by omega); have HG2L := Lib.hid (blk_lt hb2); clear hb2 hbel2 hg2)
      | (go_at_call 23; refine (HP.out _).mono ?_; rintro e w5 ⟨a, rfl, hR, hb5⟩; obtain ⟨x, y, z, N, K, rfl, ⟨A1, n1', c1, rfl⟩, A2, n2', c2, rfl⟩ := hR.form; replace HB2 := Lib.hid ((hb5.block g2 (blk_lt HB2.out)).trans HB2.out); have HLT := Lib.hid (show g2 < w2.heap.size ∧ w.heap.size ≤ w2.heap.size from ⟨HG2L.out, BEL.out.size⟩); replace BEL := Lib.hid (BEL.out.trans (hb5.mono BEL.out.size)); have HR := Lib.hid hR; clear hb5 hR))
    have hb7 := blk_alloc HB2.out (.cells #[.int .i64 x, .int .i64 y, .int .i64 z, .slice A1 n1' c1, .slice A2 n2' c2] 56 (0, 0))
    have hb57 := blk_new w5 (.cells #[.int .i64 x, .int .i64 y, .int .i64 z, .slice A1 n1' c1, .slice A2 n2' c2] 56 (0, 0))
    have hbe7 := BEL.out.alloc BEL.out.size (.cells #[.int .i64 x, .int .i64 y, .int .i64 z, .slice A1 n1' c1, .slice A2 n2' c2] 56 (0, 0))
    have hr7 : PRep (w5.alloc (.cells #[.int .i64 x, .int .i64 y, .int .i64 z, .slice A1 n1' c1, .slice A2 n2' c2] 56 (0, 0))) s (fun k => k < w5.heap.size) (pl x y z (.slice A1 n1' c1) (.slice A2 n2' c2)) t := HR.out.mono (fun k hk => ⟨hk.2, Below.heap_alloc w5 _ k hk.2⟩)
    have hs7 : w5.heap.size ≤ (w5.alloc (.cells #[.int .i64 x, .int .i64 y, .int .i64 z, .slice A1 n1' c1, .slice A2 n2' c2] 56 (0, 0))).heap.size := by show _ ≤ (w5.heap.push _).size; simp
    generalize hw7 : w5.alloc _ = w7 at hb7 hb57 hbe7 hr7 hs7 ⊢
    clear hw7
    generalize hg5 : w5.heap.size = g5 at hb57 hr7 hs7 ⊢
    clear hg5
    have HC := Lib.hid (tree_ok t w7 s _ _ hr7 (fun k hk => Nat.lt_of_lt_of_le hk hs7) HS.out HG.out.1 HG.out.2)
    obtain ⟨q0, q1, q2, q3, q4⟩ := five hb57
    replace HB2 := Lib.hid hb7
    replace BEL := Lib.hid hbe7
    clear hb7 hbe7 hb57 hr7 hs7
    go_wp2_with (first
      | (go_at_call 24; refine HC.out.mono ?_; rintro e w8 ⟨b, rfl, hN, hb8⟩; obtain ⟨k8, x8, D1, D2, d1, e1, d2, e2, rfl⟩ := hN.form; have HN := Lib.hid hN; have hb28 := (hb8.block g2 (blk_lt HB2.out)).trans HB2.out; obtain ⟨x0, x1, x2, x3⟩ := four hb28; obtain ⟨f0, f1, f2, f3⟩ := four_f hb28; have HB8 := Lib.hid hb8; have HL7 := Lib.hid (show g2 < w7.heap.size ∧ w.heap.size ≤ w7.heap.size from ⟨blk_lt HB2.out, BEL.out.size⟩); replace HB2 := Lib.hid hb28; replace BEL := Lib.hid (BEL.out.trans (hb8.mono BEL.out.size)); clear hb8 hb28 hN))
    refine bodyPost_ret (results_ct rfl _ _ g2 25 _ (0, 0) _ rfl (four_put HB2.out) Tryd.underlying25 rfl (by kernel_rfl)) rfl ?_
    refine ⟨_, rfl, HN.out.mono (fun k hk => ?_), put4_below BEL.out HG2.out⟩
    have h1 := hk.1
    have h2 := hk.2
    have h3 := HL7.out
    exact ⟨⟨by omega, by rw [put4_size]; exact h2⟩, put4_other (by omega)⟩

end Go.Proofs.YtfoloneeibgoiaaDoor.Spr

/- The statements' 'reads': whether a text is one of a tree. -/
set_option linter.unusedVariables false
set_option linter.unusedSimpArgs false
namespace Go.Proofs.YtfoloneeibgoiaaDoor.Spr
open Go Go.RowKit Go.Proofs.YtfoloneeibgoiaaDoorW.PrintWords Go.Proofs.YtfoloneeibgoiaaDoor.Fjh Go.Proofs.YtfoloneeibgoiaaDoor.JTr

set_option maxRecDepth 100000 in
set_option maxHeartbeats 8000000 in
theorem reads_ok {s : ByteArray} {w : World} {t : JT} {O : Nat → Prop} {n : Array Value} (hs : s.size ≤ 1000000000) (ht : readL (bytesOf s) = some t) (hz : szT t ≤ 1000000000) (hu : ∀ l ∈ strsT t, ∃ b, UQ l b) (hN : NRep w O n t) (hO : ∀ k, O k → k < w.heap.size) :
    Calls Tryd.prog 7 #[.string s, .agg n] w (fun e w' => e = .returned (.bool true) ∧ Below w.heap.size w w') := by
  obtain ⟨kx, xx, D1, D2, d1, e1, d2, e2, rfl⟩ := hN.form
  have HP := Lib.hid (fun w => read_ok (s := s) (w := w) hs (fun t' h => by rw [ht] at h; injection h with h; subst h; exact ⟨hz, hu⟩))
  rw [ht] at HP
  have HN := Lib.hid hN
  have HO := Lib.hid hO
  clear hs ht hz hu hN hO
  go_enter Tryd.func7, Tryd.ntmps7
  go_upto_region 2 with (first
    | ((with_reducible refine gate_dst (N := 3) rfl ?_); refine box_event ?hg (N := 3) ?hd (cs := nd kx xx (.slice D1 d1 e1) (.slice D2 d2 e2)) (t := 25) ?hr ?_; (case hd => rfl); (case hg => rfl); (case hr => first | (go_simp; done) | (go_simp; rfl)); intro g2 hg2 w2 hb2 hbel2; have HB2 := Lib.hid hb2; have BEL := Lib.hid hbel2; clear hb2 hbel2 hg2)
    | (go_at_call 13; refine (HP.out _).mono ?_; rintro e w5 ⟨a, rfl, hR, hb5⟩; obtain ⟨ky, xy, E1, E2, i1, f1, i2, f2, rfl⟩ := hR.form; replace HB2 := Lib.hid ((hb5.block g2 (blk_lt HB2.out)).trans HB2.out); replace BEL := Lib.hid (BEL.out.trans (hb5.mono BEL.out.size)); have HR := Lib.hid hR; clear hb5 hR))
  have hb7 := blk_alloc HB2.out (.cells #[.int .i64 ky, .string xy, .slice E1 i1 f1, .slice E2 i2 f2] 25 (0, 0))
  have hb57 := blk_new w5 (.cells #[.int .i64 ky, .string xy, .slice E1 i1 f1, .slice E2 i2 f2] 25 (0, 0))
  have hbe7 := BEL.out.alloc BEL.out.size (.cells #[.int .i64 ky, .string xy, .slice E1 i1 f1, .slice E2 i2 f2] 25 (0, 0))
  have hr7 : NRep (w5.alloc (.cells #[.int .i64 ky, .string xy, .slice E1 i1 f1, .slice E2 i2 f2] 25 (0, 0))) (fun k => k < w5.heap.size) (nd ky xy (.slice E1 i1 f1) (.slice E2 i2 f2)) t := HR.out.mono (fun k hk => ⟨hk.2, Below.heap_alloc w5 _ k hk.2⟩)
  have hs7 : w5.heap.size ≤ (w5.alloc (.cells #[.int .i64 ky, .string xy, .slice E1 i1 f1, .slice E2 i2 f2] 25 (0, 0))).heap.size := by show _ ≤ (w5.heap.push _).size; simp
  generalize hw7 : w5.alloc _ = w7 at hb7 hb57 hbe7 hr7 hs7 ⊢
  clear hw7
  generalize hg5 : w5.heap.size = g5 at hb57 hr7 hs7 ⊢
  clear hg5
  have HC := Lib.hid (same_ok t w7 _ _ _ _ hr7 (HN.out.mono (w' := w7) (own' := O) (fun k hk => ⟨hk, hbe7.block k (HO.out k hk)⟩)) (fun k hk => Nat.lt_of_lt_of_le hk hs7) (fun k hk => Nat.lt_of_lt_of_le (HO.out k hk) hbe7.size))
  obtain ⟨q0, q1, q2, q3⟩ := four hb57
  obtain ⟨p0, p1, p2, p3⟩ := four hb7
  replace BEL := Lib.hid hbe7
  clear hb7 hbe7 hb57 hr7 hs7
  go_wp2_with (first
    | (go_at_call 10; refine HC.out.mono ?_; rintro e w8 ⟨rfl, hb8⟩; replace BEL := Lib.hid (BEL.out.trans (hb8.mono BEL.out.size)); clear hb8))
  go_ret
  exact ⟨rfl, BEL.out⟩

end Go.Proofs.YtfoloneeibgoiaaDoor.Spr

/- The statements' fjText: of a text that they speak of the tree's node. -/
set_option linter.unusedVariables false
set_option linter.unusedSimpArgs false
namespace Go.Proofs.YtfoloneeibgoiaaDoor.Spr
open Go Go.RowKit Go.Proofs.YtfoloneeibgoiaaDoorW.PrintWords Go.Proofs.YtfoloneeibgoiaaDoor.Fjh Go.Proofs.YtfoloneeibgoiaaDoor.JTr
attribute [local go_sem ↓] Go.wp_at_zero Go.wp_at_succ

/-- What fjText leaves. -/
def FtR (s : ByteArray) (w : World) (e : Ending) (w' : World) : Prop :=
  ∃ (k : Int) (x : ByteArray) (A1 A2 : Option Addr) (n1 c1 n2 c2 : Nat) (b : Bool), e = .returned (.tuple #[.agg (nd k x (.slice A1 n1 c1) (.slice A2 n2 c2)), .bool b]) ∧ Below w.heap.size w w' ∧
    (b = true → s.size ≤ 4000 ∧ ∃ t, readL (bytesOf s) = some t ∧ dep t ≤ 250 ∧ NRep w' (Btw w w') (nd k x (.slice A1 n1 c1) (.slice A2 n2 c2)) t)

set_option maxRecDepth 100000 in
set_option maxHeartbeats 8000000 in
theorem fjtext_bad {s : ByteArray} {w : World} {k1 k2 : Nat} (h : 4000 < s.size ∨ (s.size ≤ 4000 ∧ U8.spec_UTF8.f k1 s = some false) ∨ (s.size ≤ 4000 ∧ U8.spec_UTF8.f k1 s = some true ∧ U8.spec_Paired.f k2 s = some false)) :
    Calls Tryd.prog 5 #[.string s] w (FtR s w) := by
  have go : ∀ (w7 : World) (g2 : Nat), w.heap.size ≤ g2 → Below w.heap.size w w7 → FtR s w (.returned (.tuple #[.agg (nd 0 ByteArray.empty nilS nilS), .bool false])) (put4 w7 g2 (.int .i64 0) (.string ByteArray.empty) nilS nilS) :=
    fun w7 g2 h1 h2 => ⟨0, ByteArray.empty, none, none, 0, 0, 0, 0, false, rfl, put4_below h2 h1, fun h => by cases h⟩
  have GO := Lib.hid go
  clear go
  rcases h with h | ⟨h, hu⟩ | ⟨h, hu, hp⟩
  · have hd : decide ((4000 : Int) < (s.size : Int)) = true := decide_eq_true (by omega)
    have hd2 : decide (4000 < s.size) = true := decide_eq_true h
    clear h
    go_enter Tryd.func5, Tryd.ntmps5
    go_wp2_with (first
      | ((with_reducible refine gate_dst (N := 2) rfl ?_); refine box_event ?hg (N := 2) ?hd (cs := nd 0 ByteArray.empty nilS nilS) (t := 25) ?hr ?_; (case hd => rfl); (case hg => rfl); (case hr => first | (go_simp; done) | (go_simp; rfl)); intro g2 hg2 w2 hb2 hbel2; have HB2 := Lib.hid hb2; have BEL := Lib.hid hbel2; have HG2 := Lib.hid (show w.heap.size ≤ g2 from by omega); obtain ⟨q0, q1, q2, q3⟩ := four hb2; obtain ⟨f0, f1, f2, f3⟩ := four_f hb2; clear hb2 hbel2 hg2))
    refine bodyPost_ret (results_ct rfl _ _ g2 25 _ (0, 0) _ rfl (four_put HB2.out) Tryd.underlying25 rfl (by kernel_rfl)) rfl ?_
    exact GO.out _ _ HG2.out BEL.out
  · have hd : decide ((4000 : Int) < (s.size : Int)) = false := decide_eq_false (by omega)
    have hd2 : decide (4000 < s.size) = false := decide_eq_false (by omega)
    clear h
    go_enter Tryd.func5, Tryd.ntmps5
    go_wp2_with (first
      | ((with_reducible refine gate_dst (N := 2) rfl ?_); refine box_event ?hg (N := 2) ?hd (cs := nd 0 ByteArray.empty nilS nilS) (t := 25) ?hr ?_; (case hd => rfl); (case hg => rfl); (case hr => first | (go_simp; done) | (go_simp; rfl)); intro g2 hg2 w2 hb2 hbel2; have HB2 := Lib.hid hb2; have BEL := Lib.hid hbel2; have HG2 := Lib.hid (show w.heap.size ≤ g2 from by omega); obtain ⟨q0, q1, q2, q3⟩ := four hb2; obtain ⟨f0, f1, f2, f3⟩ := four_f hb2; clear hb2 hbel2 hg2)
      | (go_at_call 11; refine (U8.spec_UTF8.calls k1 s _ _ hu).mono ?_; rintro e w3 ⟨rfl, ⟨nd1, rfl⟩⟩))
    refine bodyPost_ret (results_ct rfl _ _ g2 25 _ (0, 0) _ rfl (four_put (blk_drewN HB2.out _)) Tryd.underlying25 rfl (by kernel_rfl)) rfl ?_
    exact GO.out _ _ HG2.out (below_drew BEL.out _)
  · have hd : decide ((4000 : Int) < (s.size : Int)) = false := decide_eq_false (by omega)
    have hd2 : decide (4000 < s.size) = false := decide_eq_false (by omega)
    clear h
    go_enter Tryd.func5, Tryd.ntmps5
    go_wp2_with (first
      | ((with_reducible refine gate_dst (N := 2) rfl ?_); refine box_event ?hg (N := 2) ?hd (cs := nd 0 ByteArray.empty nilS nilS) (t := 25) ?hr ?_; (case hd => rfl); (case hg => rfl); (case hr => first | (go_simp; done) | (go_simp; rfl)); intro g2 hg2 w2 hb2 hbel2; have HB2 := Lib.hid hb2; have BEL := Lib.hid hbel2; have HG2 := Lib.hid (show w.heap.size ≤ g2 from by omega); obtain ⟨q0, q1, q2, q3⟩ := four hb2; obtain ⟨f0, f1, f2, f3⟩ := four_f hb2; clear hb2 hbel2 hg2)
      | (go_at_call 11; refine (U8.spec_UTF8.calls k1 s _ _ hu).mono ?_; rintro e w3 ⟨rfl, ⟨nd1, rfl⟩⟩)
      | (go_at_call 12; refine (U8.spec_Paired.calls k2 s _ _ hp).mono ?_; rintro e w3 ⟨rfl, ⟨nd2, rfl⟩⟩))
    refine bodyPost_ret (results_ct rfl _ _ g2 25 _ (0, 0) _ rfl (four_put (blk_drewN HB2.out _)) Tryd.underlying25 rfl (by kernel_rfl)) rfl ?_
    exact GO.out _ _ HG2.out (below_drew BEL.out _)

set_option maxRecDepth 100000 in
set_option maxHeartbeats 8000000 in
theorem fjtext_some {s : ByteArray} {w : World} {k1 k2 : Nat} (h : s.size ≤ 4000) (hu : U8.spec_UTF8.f k1 s = some true) (hp : U8.spec_Paired.f k2 s = some true) (hg : ∀ t, readL (bytesOf s) = some t → (szT t ≤ 1000000000 ∧ ∀ l ∈ strsT t, ∃ b, UQ l b) ∧ dep t ≤ 1000000000) {t : JT} (ho : readL (bytesOf s) = some t) :
    Calls Tryd.prog 5 #[.string s] w (FtR s w) := by
  have hd : decide ((4000 : Int) < (s.size : Int)) = false := decide_eq_false (by omega)
  have hd2 : decide (4000 < s.size) = false := decide_eq_false (by omega)
  have HP := Lib.hid (fun w => read_ok (s := s) (w := w) (by omega) (fun t ht => (hg t ht).1))
  have H4 := Lib.hid h
  rw [ho] at HP
  have HG := Lib.hid (hg t ho).2
  have HT := Lib.hid ho
  clear ho hg h
  go_enter Tryd.func5, Tryd.ntmps5
  go_upto_region 4 with (first
    | ((with_reducible refine gate_dst (N := 2) rfl ?_); refine box_event ?hg (N := 2) ?hd (cs := nd 0 ByteArray.empty nilS nilS) (t := 25) ?hr ?_; (case hd => rfl); (case hg => rfl); (case hr => first | (go_simp; done) | (go_simp; rfl)); intro g2 hg2 w2 hb2 hbel2; have HB2 := Lib.hid hb2; have BEL := Lib.hid hbel2; have HG2 := Lib.hid (show w.heap.size ≤ g2 from by omega); clear hb2 hbel2 hg2)
    | (go_at_call 11; refine (U8.spec_UTF8.calls k1 s _ _ hu).mono ?_; rintro e w3 ⟨rfl, ⟨nd1, rfl⟩⟩)
    | (go_at_call 12; refine (U8.spec_Paired.calls k2 s _ _ hp).mono ?_; rintro e w3 ⟨rfl, ⟨nd2, rfl⟩⟩)
    | (go_at_call 13; refine (HP.out _).mono ?_; rintro e w5 ⟨a, rfl, hR, hb5⟩; obtain ⟨ky, xy, E1, E2, i1, f1, i2, f2, rfl⟩ := hR.form; have HBs := Lib.hid (show w.heap.size ≤ w2.heap.size from BEL.out.size); have hb25 := (hb5.block g2 (blk_lt HB2.out)).trans HB2.out; have HLT := Lib.hid (show g2 < w2.heap.size from blk_lt HB2.out); replace HB2 := Lib.hid hb25; replace BEL := Lib.hid ((below_drew BEL.out _).trans (hb5.mono BEL.out.size)); have HR := Lib.hid (show NRep w5 (Btw w2 w5) (nd ky xy (.slice E1 i1 f1) (.slice E2 i2 f2)) t from hR); clear hb5 hb25 hR))
  have hb7 := blk_alloc HB2.out (.cells #[.int .i64 ky, .string xy, .slice E1 i1 f1, .slice E2 i2 f2] 25 (0, 0))
  have hb57 := blk_new w5 (.cells #[.int .i64 ky, .string xy, .slice E1 i1 f1, .slice E2 i2 f2] 25 (0, 0))
  have hbe7 := BEL.out.alloc BEL.out.size (.cells #[.int .i64 ky, .string xy, .slice E1 i1 f1, .slice E2 i2 f2] 25 (0, 0))
  have HG5 := Lib.hid (show w5.heap.size ≠ g2 from Nat.ne_of_gt (blk_lt HB2.out))
  have hr7 : NRep (w5.alloc (.cells #[.int .i64 ky, .string xy, .slice E1 i1 f1, .slice E2 i2 f2] 25 (0, 0))) (fun k => w2.heap.size ≤ k ∧ k < w5.heap.size) (nd ky xy (.slice E1 i1 f1) (.slice E2 i2 f2)) t := HR.out.mono (fun k hk => ⟨hk, Below.heap_alloc w5 _ k hk.2⟩)
  have hs7 : w5.heap.size ≤ (w5.alloc (.cells #[.int .i64 ky, .string xy, .slice E1 i1 f1, .slice E2 i2 f2] 25 (0, 0))).heap.size := by show _ ≤ (w5.heap.push _).size; simp
  generalize hw7 : w5.alloc _ = w7 at hb7 hb57 hbe7 hr7 hs7 ⊢
  clear hw7
  generalize hg5 : w5.heap.size = g5 at hb57 HG5 hr7 hs7 ⊢
  clear hg5
  have HC := Lib.hid (show ∀ n, Calls Tryd.prog 14 #[.agg (nd ky xy (.slice E1 i1 f1) (.slice E2 i2 f2))] (w7.drewN n) (fun e w' => e = .returned (.int .i64 (dep t)) ∧ Below (w7.drewN n).heap.size (w7.drewN n) w') from fun n => depth_ok t (w7.drewN n) _ _ (NRep.mono (w := w7) (w' := w7.drewN n) (own := fun k => w2.heap.size ≤ k ∧ k < g5) (own' := fun k => w2.heap.size ≤ k ∧ k < g5) (fun k hk => ⟨hk, rfl⟩) hr7) (fun k hk => Nat.lt_of_lt_of_le hk.2 hs7) HG.out)
  have HR7 := Lib.hid hr7
  have HS7 := Lib.hid hs7
  obtain ⟨q0, q1, q2, q3⟩ := four hb57
  obtain ⟨p0, p1, p2, p3⟩ := four hb7
  obtain ⟨v0, v1, v2, v3⟩ := four_f hb7
  have n1 := HG5.out
  have n2 := n1.symm
  replace HB2 := Lib.hid hb7
  replace BEL := Lib.hid hbe7
  clear hb7 hbe7 hb57 hr7 hs7
  go_region_held3 (fun w' => w'.cell? ⟨g5, 0, none⟩ = some (.int .i64 ky) ∧ w'.cell? ⟨g5, 1, none⟩ = some (.string xy) ∧ w'.cell? ⟨g5, 2, none⟩ = some (.slice E1 i1 f1) ∧ w'.cell? ⟨g5, 3, none⟩ = some (.slice E2 i2 f2)) (go_keep)
    (first | (go_at_call 14; (refine (HC.out _).mono ?_); rintro e w8 ⟨rfl, hb8⟩; have HW8 := Lib.hid hb8; have k0 := cell_keep hb8 q0; have k1' := cell_keep hb8 q1; have k2' := cell_keep hb8 q2; have k3 := cell_keep hb8 q3; have hb28 := (hb8.block g2 (blk_lt HB2.out)).trans HB2.out; obtain ⟨x0, x1, x2, x3⟩ := four hb28; obtain ⟨z0, z1, z2, z3⟩ := four_f hb28; have HB28 := Lib.hid hb28; clear hb8 hb28))
  all_goals
    go_wp2
    refine bodyPost_ret (results_ct rfl _ _ g2 25 _ (0, 0) _ rfl (four_put HB28.out) Tryd.underlying25 rfl (by kernel_rfl)) rfl ?_
    refine ⟨ky, xy, E1, E2, i1, f1, i2, f2, decide ((dep t : Int) ≤ 250), rfl, put4_below ((below_drew BEL.out _).trans (HW8.out.mono BEL.out.size)) HG2.out, fun h => ⟨H4.out, t, HT.out, by have := of_decide_eq_true h; omega, ?_⟩⟩
    refine HR7.out.mono (fun k hk => ?_)
    have h1 := HS7.out
    have h2 : w7.heap.size ≤ w8.heap.size := HW8.out.size
    have h3 := HLT.out
    have h4 := HBs.out
    exact ⟨⟨by omega, by rw [put4_size]; omega⟩, (put4_other (by omega)).trans (HW8.out.block k (Nat.lt_of_lt_of_le hk.2 h1))⟩

end Go.Proofs.YtfoloneeibgoiaaDoor.Spr

/- The statements' fjText: of a text in UTF-8 (no tree, or one). -/
set_option linter.unusedVariables false
set_option linter.unusedSimpArgs false
namespace Go.Proofs.YtfoloneeibgoiaaDoor.Spr
open Go Go.RowKit Go.Proofs.YtfoloneeibgoiaaDoorW.PrintWords Go.Proofs.YtfoloneeibgoiaaDoorW.PrintLast Go.Proofs.YtfoloneeibgoiaaDoorW.PrintMore Go.Proofs.YtfoloneeibgoiaaDoor.Fjh Go.Proofs.YtfoloneeibgoiaaDoor.JTr
attribute [local go_sem ↓] Go.wp_at_zero Go.wp_at_succ

def fjText_T4 : Bool × List (List Nat × List Nat) := (true, [([], []), ([], []), ([1], [1]), ([2], [2]), ([3, 2, 2], [2, 3]), ([4, 2], [2, 4]), ([2, 5], [2, 5]), ([0, 4, 0], [0]), ([6, 7, 0, 1, 2, 3, 4, 5, 6, 7], [6])])
def fjText_B4 : List Nat := [0, 0, 2, 6, 14, 30, 62, 31, 255]
theorem fjText_tab4 : rtab .any (opsOf Tryd.f5 4) = fjText_T4 := by kernel_rfl
theorem fjText_bits4 : waitsOk fjText_T4.2 fjText_B4 = true := by kernel_rfl

set_option maxRecDepth 100000 in
set_option maxHeartbeats 8000000 in
theorem fjtext_none {s : ByteArray} {w : World} {k1 k2 : Nat} (h : s.size ≤ 4000) (hu : U8.spec_UTF8.f k1 s = some true) (hp : U8.spec_Paired.f k2 s = some true) (hg : ∀ t, readL (bytesOf s) = some t → (szT t ≤ 1000000000 ∧ ∀ l ∈ strsT t, ∃ b, UQ l b) ∧ dep t ≤ 1000000000) (ho : readL (bytesOf s) = none) :
    Calls Tryd.prog 5 #[.string s] w (FtR s w) := by
  have hd : decide ((4000 : Int) < (s.size : Int)) = false := decide_eq_false (by omega)
  have hd2 : decide (4000 < s.size) = false := decide_eq_false (by omega)
  have HP := Lib.hid (fun w => read_ok (s := s) (w := w) (by omega) (fun t ht => (hg t ht).1))
  have H4 := Lib.hid h
  rw [ho] at HP
  clear ho hg h
  go_enter Tryd.func5, Tryd.ntmps5
  go_upto_region 4 with (first
    | ((with_reducible refine gate_dst (N := 2) rfl ?_); refine box_event ?hg (N := 2) ?hd (cs := nd 0 ByteArray.empty nilS nilS) (t := 25) ?hr ?_; (case hd => rfl); (case hg => rfl); (case hr => first | (go_simp; done) | (go_simp; rfl)); intro g2 hg2 w2 hb2 hbel2; have HB2 := Lib.hid hb2; have BEL := Lib.hid hbel2; have HG2 := Lib.hid (show w.heap.size ≤ g2 from by omega); clear hb2 hbel2 hg2)
    | (go_at_call 11; refine (U8.spec_UTF8.calls k1 s _ _ hu).mono ?_; rintro e w3 ⟨rfl, ⟨nd1, rfl⟩⟩)
    | (go_at_call 12; refine (U8.spec_Paired.calls k2 s _ _ hp).mono ?_; rintro e w3 ⟨rfl, ⟨nd2, rfl⟩⟩)
    | (go_at_call 13; refine (HP.out _).mono ?_; rintro e w5 ⟨rfl, hb5⟩; have hb25 := (hb5.block g2 (blk_lt HB2.out)).trans HB2.out; replace HB2 := Lib.hid hb25; replace BEL := Lib.hid ((below_drew BEL.out _).trans (hb5.mono BEL.out.size)); clear hb5 hb25))
  have hb7 := blk_alloc HB2.out (.cells #[.int .i64 0, .string ByteArray.empty, .slice none 0 0, .slice none 0 0] 25 (0, 0))
  have hb57 := blk_new w5 (.cells #[.int .i64 0, .string ByteArray.empty, .slice none 0 0, .slice none 0 0] 25 (0, 0))
  have hbe7 := BEL.out.alloc BEL.out.size (.cells #[.int .i64 0, .string ByteArray.empty, .slice none 0 0, .slice none 0 0] 25 (0, 0))
  have HG5 := Lib.hid (show w5.heap.size ≠ g2 from Nat.ne_of_gt (blk_lt HB2.out))
  generalize hw7 : w5.alloc _ = w7 at hb7 hb57 hbe7 ⊢
  clear hw7
  generalize hg5 : w5.heap.size = g5 at hb57 HG5 ⊢
  clear hg5
  replace HB2 := Lib.hid hb7
  have HB5 := Lib.hid hb57
  replace BEL := Lib.hid hbe7
  clear hb7 hbe7 hb57
  have hbe := below_drew1 BEL.out
  have hb2 := blk_drew HB2.out
  have hb5 := blk_drew HB5.out
  refine start_ (n := 9) (S := fun w' => w'.cell? ⟨g5, 0, none⟩ = some (.int .i64 0) ∧ w'.cell? ⟨g5, 1, none⟩ = some (.string ByteArray.empty) ∧ w'.cell? ⟨g5, 2, none⟩ = some (.slice none 0 0) ∧ w'.cell? ⟨g5, 3, none⟩ = some (.slice none 0 0)) (ds := []) #[false, false, false, false, false, false, false, false, false] (by kernel_rfl) rfl rfl ⟨(blk_cell hb5 0).trans rfl, (blk_cell hb5 1).trans rfl, (blk_cell hb5 2).trans rfl, (blk_cell hb5 3).trans rfl⟩ (fun hHeld => ?_); refine with_tabW fjText_tab4 fjText_bits4 (fun HT_ HW_ => ?_)
  generalize w7.drew = w33 at hbe hb2 hb5 hHeld ⊢
  refine pure_ (i := 1) (N := some 26) (v := ?_) (a' := ?_) #[false, true, false, false, false, false, false, false, false] rfl rfl (any_of HT_.out (by kernel_rfl)) (fun _ _ _ h => h) (Or.inl ⟨by rfl, ?_⟩) ?_ ?_
  rotate_left
  · intro w'
    go_simp
    with_reducible rfl
  rotate_left
  · simp only [Act.put, List.setIfInBounds_toArray, List.set_cons_zero, List.set_cons_succ, i64_w, i32_w]
    rfl
  refine pure_ (i := 2) (N := some 27) (v := ?_) (a' := ?_) #[false, true, true, false, false, false, false, false, false] rfl rfl (any_of HT_.out (by kernel_rfl)) (fun _ _ _ h => h) (Or.inl ⟨by rfl, ?_⟩) ?_ ?_
  rotate_left
  · intro w'
    go_simp
    with_reducible rfl
  rotate_left
  · simp only [Act.put, List.setIfInBounds_toArray, List.set_cons_zero, List.set_cons_succ, i64_w, i32_w]
    rfl
  refine pure_ (i := 3) (N := some 28) (v := undef) (a' := ?_) #[false, true, true, true, false, false, false, false, false] rfl rfl (any_of HT_.out (by kernel_rfl)) (fun _ _ _ h => h) (Or.inr ⟨by rfl, rfl⟩) ?_ ?_
  rotate_left
  · simp only [Act.put, List.setIfInBounds_toArray, List.set_cons_zero, List.set_cons_succ, i64_w, i32_w]
    rfl
  refine pure_ (i := 4) (N := some 29) (v := undef) (a' := ?_) #[false, true, true, true, true, false, false, false, false] rfl rfl (any_of HT_.out (by kernel_rfl)) (fun _ _ _ h => h) (Or.inr ⟨by rfl, rfl⟩) ?_ ?_
  rotate_left
  · simp only [Act.put, List.setIfInBounds_toArray, List.set_cons_zero, List.set_cons_succ, i64_w, i32_w]
    rfl
  refine pure_ (i := 5) (N := some 30) (v := undef) (a' := ?_) #[false, true, true, true, true, true, false, false, false] rfl rfl (any_of HT_.out (by kernel_rfl)) (fun _ _ _ h => h) (Or.inr ⟨by rfl, rfl⟩) ?_ ?_
  rotate_left
  · simp only [Act.put, List.setIfInBounds_toArray, List.set_cons_zero, List.set_cons_succ, i64_w, i32_w]
    rfl
  refine pure_ (i := 6) (N := some 31) (v := ?_) (a' := ?_) #[false, true, true, true, true, true, true, false, false] rfl rfl (any_of HT_.out (by kernel_rfl)) (fun _ _ _ h => h) (Or.inl ⟨by rfl, ?_⟩) ?_ ?_
  rotate_left
  · intro w'
    go_simp
    with_reducible rfl
  rotate_left
  · simp only [Act.put, List.setIfInBounds_toArray, List.set_cons_zero, List.set_cons_succ, i64_w, i32_w]
    rfl
  refine take_ (i := 0) (N := some 25) (v := ?_) (a' := ?_) #[true, true, true, true, true, true, true, false, false] rfl rfl (take_ofW HT_.out HW_.out (by kernel_rfl)) (fun _ _ _ h => h) (Or.inl ⟨by rfl, ?_⟩) hHeld ?_ ?_
  rotate_left
  · rintro w' ⟨s0, s1, s2, s3⟩
    go_simp
    with_reducible rfl
  rotate_left
  · simp only [Act.put, List.setIfInBounds_toArray, List.set_cons_zero, List.set_cons_succ, i64_w, i32_w]
    rfl
  refine one_ (i := 7) (N := none) #[true, true, true, true, true, true, true, true, false] rfl rfl (one_of HT_.out (by kernel_rfl)) (by decide) (fun K hK => ?_)
  obtain ⟨p0, p1, p2, p3⟩ := four hb2
  obtain ⟨f0, f1, f2, f3⟩ := four_f hb2
  have n1 := HG5.out
  have n2 := n1.symm
  refine skip_ (w1 := ?_) (by rfl) rfl ?_ ?_
  rotate_left
  · go_simp
    rfl
  refine hK.out _ _ ⟨(cell_far n1 _).trans ((cell_far n1 _).trans ((cell_far n1 _).trans ((cell_far n1 _).trans hHeld.1))), (cell_far n1 _).trans ((cell_far n1 _).trans ((cell_far n1 _).trans ((cell_far n1 _).trans hHeld.2.1))), (cell_far n1 _).trans ((cell_far n1 _).trans ((cell_far n1 _).trans ((cell_far n1 _).trans hHeld.2.2.1))), (cell_far n1 _).trans ((cell_far n1 _).trans ((cell_far n1 _).trans ((cell_far n1 _).trans hHeld.2.2.2)))⟩ (fun hHeld => ?_)
  clear hK K
  refine pure_ (i := 8) (N := some 3) (v := ?_) (a' := ?_) #[true, true, true, true, true, true, true, true, true] rfl rfl (any_of HT_.out (by kernel_rfl)) (fun _ _ _ h => h) (Or.inl ⟨by rfl, ?_⟩) ?_ ?_
  rotate_left
  · intro w'
    go_simp
    with_reducible rfl
  rotate_left
  · simp only [Act.put, List.setIfInBounds_toArray, List.set_cons_zero, List.set_cons_succ, i64_w, i32_w]
    rfl
  refine done_ (done_of HT_.out (by kernel_rfl)) ?_
  try go_wp2
  refine bodyPost_ret (results_ct rfl _ _ g2 25 _ (0, 0) _ rfl (four_put hb2) Tryd.underlying25 rfl (by kernel_rfl)) rfl ?_
  exact ⟨0, ByteArray.empty, none, none, 0, 0, 0, 0, false, rfl, put4_below hbe HG2.out, fun h => by cases h⟩

theorem fjtext_good {s : ByteArray} {w : World} {k1 k2 : Nat} (h : s.size ≤ 4000) (hu : U8.spec_UTF8.f k1 s = some true) (hp : U8.spec_Paired.f k2 s = some true) (hg : ∀ t, readL (bytesOf s) = some t → (szT t ≤ 1000000000 ∧ ∀ l ∈ strsT t, ∃ b, UQ l b) ∧ dep t ≤ 1000000000) :
    Calls Tryd.prog 5 #[.string s] w (FtR s w) := by
  cases ho : readL (bytesOf s) with
  | none => exact fjtext_none h hu hp hg ho
  | some t => exact fjtext_some h hu hp hg ho

end Go.Proofs.YtfoloneeibgoiaaDoor.Spr

/- The law FnFjReprint, walked: it answers true for every text, if what the reader, the parser and the writer say agrees. -/
set_option linter.unusedVariables false
set_option linter.unusedSimpArgs false
namespace Go.Proofs.YtfoloneeibgoiaaDoor.Spr
open Go Go.RowKit Go.Proofs.YtfoloneeibgoiaaDoorW.PrintWords Go.Proofs.YtfoloneeibgoiaaDoor.Fjh Go.Proofs.YtfoloneeibgoiaaDoor.JTr

/-- What is asked of a text that the law speaks of: Parse reads a tree v, whose text is read as the same tree. -/
structure RpOk (s : ByteArray) (t : JT) (K : Nat) (v : JV) : Prop where
  parse : pParse K s = some (some v)
  raw : rawJ v = true
  len : (packJ v).length ≤ 1000000000
  back : readL (bytesOf (strOfNums (packJ v))) = some t
  size : szT t ≤ 1000000000
  strs : ∀ l ∈ strsT t, ∃ b, UQ l b

set_option maxRecDepth 100000 in
set_option maxHeartbeats 8000000 in
theorem law_big {s : ByteArray} {w : World} (h : 2147483647 < s.size) : Calls Tryd.prog 3 #[.string s] w (fun e w' => e = .returned (.bool true) ∧ Below w.heap.size w w') := by
  have hd : decide ((2147483647 : Int) < (s.size : Int)) = true := decide_eq_true (by omega)
  have hd2 : decide (2147483647 < s.size) = true := decide_eq_true h
  clear h
  go_enter Tryd.func3, Tryd.ntmps3
  go_wp2
  go_ret
  exact ⟨rfl, Below.refl _ _⟩

set_option maxRecDepth 100000 in
set_option maxHeartbeats 8000000 in
theorem law_small {s : ByteArray} {w : World} (h : s.size ≤ 2147483647) (hf : Calls Tryd.prog 5 #[.string s] w (FtR s w)) (hv : ∀ t, s.size ≤ 4000 → readL (bytesOf s) = some t → dep t ≤ 250 → ∃ K v, RpOk s t K v) :
    Calls Tryd.prog 3 #[.string s] w (fun e w' => e = .returned (.bool true) ∧ Below w.heap.size w w') := by
  have hd : decide ((2147483647 : Int) < (s.size : Int)) = false := decide_eq_false (by omega)
  have hd2 : decide (2147483647 < s.size) = false := decide_eq_false (by omega)
  have HF := Lib.hid hf
  have HV := Lib.hid hv
  have BEL := Lib.hid (Below.refl w.heap.size w)
  clear h hf hv
  go_enter Tryd.func3, Tryd.ntmps3
  go_upto_region 4 with (first
    | (go_at_call 5; refine HF.out.mono ?_; rintro e w5 ⟨kx, xx, D1, D2, d1, e1, d2, e2, b, rfl, hb5, hR⟩; have HR := Lib.hid hR; replace BEL := Lib.hid (BEL.out.trans hb5); clear hb5 hR))
  have hb57 := blk_new w5 (.cells #[.int .i64 kx, .string xx, .slice D1 d1 e1, .slice D2 d2 e2] 25 (0, 0))
  have hbe7 := BEL.out.alloc BEL.out.size (.cells #[.int .i64 kx, .string xx, .slice D1 d1 e1, .slice D2 d2 e2] 25 (0, 0))
  have hk7 : ∀ k, k < w5.heap.size → (w5.alloc (.cells #[.int .i64 kx, .string xx, .slice D1 d1 e1, .slice D2 d2 e2] 25 (0, 0))).heap[k]? = w5.heap[k]? := fun k hk => Below.heap_alloc w5 _ k hk
  have hs7 : w5.heap.size < (w5.alloc (.cells #[.int .i64 kx, .string xx, .slice D1 d1 e1, .slice D2 d2 e2] 25 (0, 0))).heap.size := by show _ < (w5.heap.push _).size; simp
  have hR7 : b = true → s.size ≤ 4000 ∧ ∃ t, readL (bytesOf s) = some t ∧ dep t ≤ 250 ∧ NRep (w5.alloc (.cells #[.int .i64 kx, .string xx, .slice D1 d1 e1, .slice D2 d2 e2] 25 (0, 0))) (fun k => k < w5.heap.size) (nd kx xx (.slice D1 d1 e1) (.slice D2 d2 e2)) t := by
    intro hb
    obtain ⟨a1, t, a2, a3, a4⟩ := HR.out hb
    exact ⟨a1, t, a2, a3, a4.mono (fun k hk => ⟨hk.2, hk7 k hk.2⟩)⟩
  clear hk7
  generalize hw7 : w5.alloc _ = w7 at hb57 hbe7 hs7 hR7 ⊢
  clear hw7
  generalize hg5 : w5.heap.size = g5 at hb57 hs7 hR7 ⊢
  clear hg5
  obtain ⟨q0, q1, q2, q3⟩ := four hb57
  replace BEL := Lib.hid hbe7
  have HB := Lib.hid hb57
  have HS7 := Lib.hid hs7
  clear hbe7 hb57 hs7 HR
  cases b with
  | false =>
    clear hR7
    go_wp2
    go_ret
    exact ⟨rfl, BEL.out⟩
  | true =>
    obtain ⟨a1, t, a2, a3, a4⟩ := hR7 rfl
    obtain ⟨K, v, hv⟩ := HV.out t a1 a2 a3
    have HN := Lib.hid a4
    have HP := Lib.hid (fun w => reprint_ok (K := K) (s := s) (v := v) (w := w) hv.parse hv.raw hv.len)
    have HVV := Lib.hid hv
    clear a1 a2 a3 a4 hR7 hv HV
    go_wp2_with (first
      | (go_at_call 6; refine (HP.out _).mono ?_; rintro e w8 ⟨rfl, hb8⟩; have HB8 := Lib.hid hb8; have k0 := cell_keep hb8 q0; have k1 := cell_keep hb8 q1; have k2 := cell_keep hb8 q2; have k3 := cell_keep hb8 q3; replace BEL := Lib.hid (BEL.out.trans (hb8.mono BEL.out.size)); clear hb8)
      | (go_at_call 7; refine (reads_ok (t := t) (O := fun k => k < g5) (by rw [StrL.strOfNums_size]; exact HVV.out.len) HVV.out.back HVV.out.size HVV.out.strs (HN.out.mono (w' := w8) (own' := fun k => k < g5) (fun k hk => ⟨hk, HB8.out.block k (Nat.lt_trans hk HS7.out)⟩)) (fun k hk => Nat.lt_of_lt_of_le (Nat.lt_trans hk HS7.out) HB8.out.size)).mono ?_; rintro e w9 ⟨rfl, hb9⟩; replace BEL := Lib.hid (BEL.out.trans (hb9.mono BEL.out.size)); clear hb9))
    go_ret
    exact ⟨rfl, BEL.out⟩

end Go.Proofs.YtfoloneeibgoiaaDoor.Spr

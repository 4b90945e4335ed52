/- The law FnFjReadBytes, walked (given fjNode's contract for every value). -/
import Derived.Test.YtfoloneeibgoiaaDoorFjRd
import Derived.Test.YtfoloneeibgoiaaDoorRbT
set_option linter.unusedVariables false
set_option linter.unusedSimpArgs false
namespace Go.Proofs.YtfoloneeibgoiaaDoor.Fjh
open Go Go.RowKit Go.Proofs.YtfoloneeibgoiaaDoorW.PrintWords Go.Proofs.YtfoloneeibgoiaaDoor.Un Go.Proofs.YtfoloneeibgoiaaDoor.JTr Go.Proofs.YtfoloneeibgoiaaDoor.Ndr
open Go.Proofs.YtfoloneeibgoiaaDoor.PFnFjReadBytes (Laid)

theorem parse_one : pParse 5 ⟨#[49]⟩ = some (some (.num ⟨#[49]⟩)) := by kernel_rfl

set_option maxRecDepth 100000 in
set_option maxHeartbeats 8000000 in
theorem rb_big {s : ByteArray} {w : World} (h : 4000 < s.size) : Calls Tryd.prog 4 #[.string s] w (fun e w' => e = .returned (.bool true) ∧ Below w.heap.size w w') := by
  have hd : decide ((4000 : Int) < (s.size : Int)) = true := decide_eq_true (by omega)
  have hd2 : decide (4000 < s.size) = true := decide_eq_true h
  by_cases hb : 2147483647 < s.size
  · have hd3 : decide ((2147483647 : Int) < (s.size : Int)) = true := decide_eq_true (by omega)
    have hd4 : decide (2147483647 < s.size) = true := decide_eq_true hb
    clear h hb
    go_enter Tryd.func4, Tryd.ntmps4
    go_wp2
    go_ret
    exact ⟨rfl, Below.refl _ _⟩
  · have hd3 : decide ((2147483647 : Int) < (s.size : Int)) = false := decide_eq_false (by omega)
    have hd4 : decide (2147483647 < s.size) = false := decide_eq_false hb
    clear h hb
    go_enter Tryd.func4, Tryd.ntmps4
    go_wp2
    go_ret
    exact ⟨rfl, Below.refl _ _⟩

set_option maxRecDepth 100000 in
set_option maxHeartbeats 8000000 in
theorem rb_small (HND : ∀ v, NdOk v) {s : ByteArray} {w : World} (h : s.size ≤ 4000) (hL : ∀ w', Below w.heap.size w w' → Laid w') : Calls Tryd.prog 4 #[.string s] w (fun e w' => e = .returned (.bool true) ∧ Below w.heap.size w w') := by
  have hd : decide ((4000 : Int) < (s.size : Int)) = false := decide_eq_false (by omega)
  have hd2 : decide (4000 < s.size) = false := decide_eq_false (by omega)
  have hd3 : decide ((2147483647 : Int) < (s.size : Int)) = false := decide_eq_false (by omega)
  have hd4 : decide (2147483647 < s.size) = false := decide_eq_false (by omega)
  obtain ⟨K, r, hp, hz⟩ := parse_any s (by omega)
  have H1 := Lib.hid (fun (w : World) hl => fjread_ok HND hp (fun v e => Nat.le_trans (hz v e) (by omega)) (w := w) hl)
  have H2 := Lib.hid (fun (w : World) hl => fjreadbytes_ok HND (by omega) hp (fun v e => Nat.le_trans (hz v e) (by omega)) (w := w) hl)
  have H3 := Lib.hid (fun (w : World) hl => fjreadbytes_ok HND (s := ⟨#[49]⟩) (by decide) parse_one (fun v e => by injection e with e; subst e; decide) (w := w) hl)
  have HT := Lib.hid (fun w O1 O2 a b => same_ok (rT r) w O1 O2 a b)
  obtain ⟨ok, hok⟩ : ∃ ok, ok = r.isSome := ⟨_, rfl⟩
  unfold RdP at H1 H2
  rw [← hok] at H1 H2
  have hoo : (ok == ok) = true := by simp
  have HLD := Lib.hid hL
  have BEL := Lib.hid (Below.refl w.heap.size w)
  clear h hL HND hp hz hok
  go_enter Tryd.func4, Tryd.ntmps4
  go_upto_region 6 with (first
    | (go_at_call 8; refine (H1.out _ (fun w' hb => HLD.out w' hb)).mono ?_; rintro e w5 ⟨b5, rfl, hN5, hb5⟩; obtain ⟨ka, xa, A1, A2, a1, e1, a2, e2, rfl⟩ := hN5.form; have HN5 := Lib.hid hN5; replace BEL := Lib.hid (BEL.out.trans hb5); clear hb5 hN5))
  have hq7 := blk_new w5 (.cells #[.int .i64 ka, .string xa, .slice A1 a1 e1, .slice A2 a2 e2] 25 (0, 0))
  have hbe7 := BEL.out.alloc BEL.out.size (.cells #[.int .i64 ka, .string xa, .slice A1 a1 e1, .slice A2 a2 e2] 25 (0, 0))
  have hN7 : NRep (w5.alloc (.cells #[.int .i64 ka, .string xa, .slice A1 a1 e1, .slice A2 a2 e2] 25 (0, 0))) (fun k => k < w5.heap.size) (nd ka xa (.slice A1 a1 e1) (.slice A2 a2 e2)) (rT r) := HN5.out.mono (fun k hk => ⟨hk.2, Below.heap_alloc w5 _ k hk.2⟩)
  have hs7 : w5.heap.size < (w5.alloc (.cells #[.int .i64 ka, .string xa, .slice A1 a1 e1, .slice A2 a2 e2] 25 (0, 0))).heap.size := by show _ < (w5.heap.push _).size; simp
  generalize hw7 : w5.alloc _ = w7 at hq7 hbe7 hN7 hs7 ⊢
  clear hw7
  generalize hg5 : w5.heap.size = g5 at hq7 hN7 hs7 ⊢
  clear hg5 HN5 BEL
  have BEL := Lib.hid hbe7
  have HA := Lib.hid hq7
  have HN7 := Lib.hid (And.intro hN7 hs7)
  clear hq7 hbe7 hN7 hs7
  go_upto_region 7 with (first
    | (go_at_call 9; refine (H2.out _ (fun w' hb => HLD.out w' (BEL.out.trans (hb.mono BEL.out.size)))).mono ?_; rintro e w8 ⟨b8, rfl, hN8, hb8⟩; obtain ⟨kb, xb, B1, B2, b1, f1, b2, f2, rfl⟩ := hN8.form; have HN8 := Lib.hid hN8; have HB8 := Lib.hid hb8; clear hb8 hN8))
  have hq9 := blk_new w8 (.cells #[.int .i64 kb, .string xb, .slice B1 b1 f1, .slice B2 b2 f2] 25 (0, 0))
  have hbe9 := (BEL.out.trans (HB8.out.mono BEL.out.size)).alloc (BEL.out.trans (HB8.out.mono BEL.out.size)).size (.cells #[.int .i64 kb, .string xb, .slice B1 b1 f1, .slice B2 b2 f2] 25 (0, 0))
  have hN9 : NRep (w8.alloc (.cells #[.int .i64 kb, .string xb, .slice B1 b1 f1, .slice B2 b2 f2] 25 (0, 0))) (fun k => k < w8.heap.size) (nd kb xb (.slice B1 b1 f1) (.slice B2 b2 f2)) (rT r) := HN8.out.mono (fun k hk => ⟨hk.2, Below.heap_alloc w8 _ k hk.2⟩)
  have hM9 : NRep (w8.alloc (.cells #[.int .i64 kb, .string xb, .slice B1 b1 f1, .slice B2 b2 f2] 25 (0, 0))) (fun k => k < w8.heap.size) (nd ka xa (.slice A1 a1 e1) (.slice A2 a2 e2)) (rT r) := HN7.out.1.mono (fun k hk => ⟨Nat.lt_of_lt_of_le (Nat.lt_trans hk HN7.out.2) HB8.out.size, (Below.heap_alloc w8 _ k (Nat.lt_of_lt_of_le (Nat.lt_trans hk HN7.out.2) HB8.out.size)).trans (HB8.out.block k (Nat.lt_trans hk HN7.out.2))⟩)
  have hA9 := blk_alloc ((HB8.out.block g5 (blk_lt HA.out)).trans HA.out) (.cells #[.int .i64 kb, .string xb, .slice B1 b1 f1, .slice B2 b2 f2] 25 (0, 0))
  have hs9 : w8.heap.size < (w8.alloc (.cells #[.int .i64 kb, .string xb, .slice B1 b1 f1, .slice B2 b2 f2] 25 (0, 0))).heap.size := by show _ < (w8.heap.push _).size; simp
  generalize hw9 : w8.alloc _ = w9 at hq9 hbe9 hN9 hM9 hA9 hs9 ⊢
  clear hw9
  generalize hg8 : w8.heap.size = g8 at hq9 hN9 hM9 hs9 ⊢
  clear hg8 HN8 HB8 BEL HA HN7
  have BEL := Lib.hid hbe9
  have HA := Lib.hid hA9
  have HB := Lib.hid hq9
  have HN9 := Lib.hid (And.intro hN9 (And.intro hM9 hs9))
  clear hq9 hbe9 hN9 hM9 hA9 hs9
  go_upto_region 8 with (first
    | (go_at_call 9; refine (H3.out _ (fun w' hb => HLD.out w' (BEL.out.trans (hb.mono BEL.out.size)))).mono ?_; rintro e w10 ⟨b10, rfl, hN10, hb10⟩; obtain ⟨kc, xc, C1, C2, c1, g1, c2, g2, rfl⟩ := hN10.form; have HB10 := Lib.hid hb10; clear hb10 hN10))
  have hbe11 := (HB10.out.alloc HB10.out.size (.cells #[.int .i64 kc, .string xc, .slice C1 c1 g1, .slice C2 c2 g2] 25 (0, 0)))
  generalize hw11 : w10.alloc _ = w11 at hbe11 ⊢
  clear hw11 HB10
  have HC := Lib.hid (HT.out w11 _ _ _ _ (HN9.out.2.1.mono (w' := w11) (own' := fun k => k < g8) (fun k hk => ⟨hk, hbe11.block k (Nat.lt_trans hk HN9.out.2.2)⟩)) (HN9.out.1.mono (w' := w11) (own' := fun k => k < g8) (fun k hk => ⟨hk, hbe11.block k (Nat.lt_trans hk HN9.out.2.2)⟩)) (fun k hk => Nat.lt_of_lt_of_le (Nat.lt_trans hk HN9.out.2.2) hbe11.size) (fun k hk => Nat.lt_of_lt_of_le (Nat.lt_trans hk HN9.out.2.2) hbe11.size))
  obtain ⟨q0, q1, q2, q3⟩ := four ((hbe11.block g5 (blk_lt HA.out)).trans HA.out)
  obtain ⟨p0, p1, p2, p3⟩ := four ((hbe11.block g8 (blk_lt HB.out)).trans HB.out)
  replace BEL := Lib.hid (BEL.out.trans (hbe11.mono BEL.out.size))
  clear hbe11
  go_wp2_with (first
    | (go_at_call 10; refine HC.out.mono ?_; rintro e w12 ⟨rfl, hb12⟩; replace BEL := Lib.hid (BEL.out.trans (hb12.mono BEL.out.size)); clear hb12))
  go_ret
  exact ⟨rfl, BEL.out⟩

end Go.Proofs.YtfoloneeibgoiaaDoor.Fjh

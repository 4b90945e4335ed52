/- The law of gjson's comparison "%" walked: match.MatchLimit, queryMatches, and the law itself. -/
import Derived.Test.YtkhgbacbnkgafaaGreatDoorMlZe
set_option linter.unusedVariables false
set_option linter.unusedSimpArgs false
namespace Go.Proofs.YtkhgbacbnkgafaaGreatDoor.Mlw
open Go Go.RowKit Go.Proofs.YtkhgbacbnkgafaaGreatDoor.PFnGjMatchesLike Go.Proofs.YtkhgbacbnkgafaaGreatDoor.PFnGjMatchesLike.Gb Go.Proofs.YtkhgbacbnkgafaaGreatDoor.PFnGjMatchesLike.Uc Go.Proofs.YtkhgbacbnkgafaaGreatDoorW.PrintWords Go.Proofs.YtkhgbacbnkgafaaGreatDoorW.PrintLast Go.Proofs.YtkhgbacbnkgafaaGreatDoor.EvL Go.Proofs.YtkhgbacbnkgafaaGreatDoor.StrL

attribute [local go_sem] run_store_float
/-- Text and pattern are such as the law speaks of. -/
structure Fair (s p : ByteArray) (cs : List Int) (ts : List S56) : Prop where
  hs : s.size ≤ 4096
  hp : p.size ≤ 4096
  ht : Txt (ints s) cs
  hg : Gl (ints p) ts
  st : stB (ints p) ≤ 2

theorem ma_all {B g n : Nat} (hBg : B ≤ g) (hn : 1 ≤ n ∧ n ≤ 4096) : ∀ k, MaOk B g n k
  | 0 => ma_ok hBg hn 0 (fun j h => by omega)
  | k + 1 => ma_ok hBg hn (k + 1) (fun j h => by obtain rfl : j = k := by omega
                                                 exact ma_all hBg hn j)

set_option maxRecDepth 100000 in
set_option maxHeartbeats 8000000 in
theorem lim0_ok {s p : ByteArray} {cs : List Int} {ts : List S56} {w : World} (h : Fair s p cs ts) (hL : ∀ w', Below w.heap.size w w' → Laid w') :
    Calls Tryz.prog 33 #[.string s, .string p, .int .i64 10000, .bool false] w (fun e w' => ∃ b1 b2 : Bool, e = .returned (.tuple #[.bool b1, .bool b2]) ∧ (b1 = true ↔ M ts cs) ∧ Below w.heap.size w w') := by
  by_cases c5 : p.toList = ([42] : List UInt8)
  · have c5b0 : (p.toList == ([42] : List UInt8)) = true := beq_iff_eq.mpr c5
    have hts : M ts cs := by
      have hp : ints p = [42] := by
        have h2 : p.data.toList = [42] := by rw [← ByteArray.toList_eq]; exact c5
        unfold ints
        rw [h2]; rfl
      have hg := h.hg
      rw [hp] at hg
      obtain ⟨ts', rfl, hg'⟩ := hg.star_inv
      rw [hg'.nil_inv]
      exact M_star_all cs
    clear c5
    have HTS := Lib.hid hts
    clear hts hL h
    go_enter Tryz.func33, Tryz.ntmps33
    go_wp2
    go_ret2
    exact ⟨true, false, rfl, ⟨fun _ => HTS.out, fun _ => rfl⟩, Below.refl _ _⟩
  · have c5b0 : (p.toList == ([42] : List UInt8)) = false := beq_eq_false_iff_ne.mpr c5
    clear c5
    have HLD := Lib.hid hL
    have HF := Lib.hid h
    by_cases hs0 : s.size = 0
    · have hcs : cs = [] := by have h := h.ht; rw [ints_nil hs0] at h; exact h.nil_inv
      have HC := Lib.hid (fun (g : Nat) (w3 : World) (hg : w.heap.size ≤ g) (h3 : w3.heap[g]? = some (.cells #[.int .i64 ((0 : Nat) : Int)] 3 (0, 0)) ∧ Below w.heap.size w w3) => ma_zero (B := w.heap.size) hg hs0 h.hp h.hg h3.1 (fun w' hb => HLD.out w' (h3.2.trans hb)))
      have hsz : (s.size : Int) = 0 := by omega
      have HCS := Lib.hid hcs
      clear h hL hs0 hcs
      go_enter Tryz.func33, Tryz.ntmps33
      go_wp2_with (first
        | ((with_reducible refine gate_dst (N := 10) rfl ?_); refine box_event ?hg (N := 10) ?hd (cs := #[.int .i64 0]) (t := 3) ?hr ?_; (case hd => rfl); (case hg => rfl); (case hr => first | (go_simp; done) | (go_simp; rfl)); intro g2 hg2 w2 hb2 hbel2; have q0 := blk_cell hb2 0; have f0 := blk_frozen hb2 0; have HB2 := Lib.hid hb2; have BEL := Lib.hid hbel2; have HG2 := Lib.hid (show w.heap.size ≤ g2 from by omega); clear hb2 hbel2 hg2)
        | (go_at_call 39; refine (HC.out g2 _ HG2.out ⟨blk_put HB2.out 0 _ rfl, BEL.out.setCell HG2.out _⟩).mono ?_; rintro e w5 ⟨r5, rfl, hr5, hb5⟩; have HR5 := Lib.hid hr5; replace BEL := Lib.hid ((BEL.out.setCell HG2.out (.int .i64 0)).trans (hb5.mono HG2.out)); clear hr5 hb5))
      · rename_i h2
        go_ret2
        have h3 : r5 = 2 := by simpa using h2
        exact ⟨false, true, rfl, ⟨fun h => (by cases h), fun h => (by have := HR5.out.2 (HCS.out ▸ h); omega)⟩, BEL.out⟩
      · go_ret2
        exact ⟨r5 == 1, false, rfl, by rw [beq_iff_eq, HCS.out]; exact HR5.out, BEL.out⟩
    · have HC := Lib.hid (fun (g : Nat) (w3 : World) (hg : w.heap.size ≤ g) (h3 : w3.heap[g]? = some (.cells #[.int .i64 ((0 : Nat) : Int)] 3 (0, 0)) ∧ Below w.heap.size w w3) => ma_all (B := w.heap.size) (n := s.size) hg ⟨by omega, h.hs⟩ 2 s p cs ts w3 0 (Nat.le_refl _) h.hp h.ht h.hg h.st (by rw [Nat.zero_add]; exact mcost_two (by omega) h.hs) h3.1 (fun w' hb => HLD.out w' (h3.2.trans hb)))
      clear h hL hs0
      go_enter Tryz.func33, Tryz.ntmps33
      go_wp2_with (first
        | ((with_reducible refine gate_dst (N := 10) rfl ?_); refine box_event ?hg (N := 10) ?hd (cs := #[.int .i64 0]) (t := 3) ?hr ?_; (case hd => rfl); (case hg => rfl); (case hr => first | (go_simp; done) | (go_simp; rfl)); intro g2 hg2 w2 hb2 hbel2; have q0 := blk_cell hb2 0; have f0 := blk_frozen hb2 0; have HB2 := Lib.hid hb2; have BEL := Lib.hid hbel2; have HG2 := Lib.hid (show w.heap.size ≤ g2 from by omega); clear hb2 hbel2 hg2)
        | (go_at_call 39; refine (HC.out g2 _ HG2.out ⟨blk_put HB2.out 0 _ rfl, BEL.out.setCell HG2.out _⟩).mono ?_; rintro e w5 ⟨r5, c5, rfl, hr5, hc5, hw5, hb5⟩; have e2 : (r5 == 2) = false := beq_eq_false_iff_ne.mpr (by omega); have HR5 := Lib.hid (show r5 = 1 ↔ M ts cs from ⟨fun h => hr5.elim (fun k => k.2) (fun k => by omega), fun h => hr5.elim (fun k => k.1) (fun k => absurd h k.2)⟩); replace BEL := Lib.hid ((BEL.out.setCell HG2.out (.int .i64 0)).trans (hb5.mono HG2.out)); clear hr5 hb5 hc5 hw5))
      go_ret2
      exact ⟨r5 == 1, false, rfl, by rw [beq_iff_eq]; exact HR5.out, BEL.out⟩

set_option maxRecDepth 100000 in
set_option maxHeartbeats 8000000 in
theorem lim_ok {s p : ByteArray} {cs : List Int} {ts : List S56} {w : World} (h : Fair s p cs ts) (hL : ∀ w', Below w.heap.size w w' → Laid w') :
    Calls Tryz.prog 29 #[.string s, .string p, .int .i64 10000] w (fun e w' => ∃ b1 b2 : Bool, e = .returned (.tuple #[.bool b1, .bool b2]) ∧ (b1 = true ↔ M ts cs) ∧ Below w.heap.size w w') := by
  have HC := Lib.hid (lim0_ok h hL)
  clear h hL
  go_enter Tryz.func29, Tryz.ntmps29
  go_wp2_with (first | (go_at_call 33; refine HC.out.mono ?_; rintro e w5 ⟨b1, b2, rfl, hb, hb5⟩; have HB := Lib.hid (And.intro hb hb5); clear hb hb5))
  go_ret2
  exact ⟨b1, b2, rfl, HB.out.1, HB.out.2⟩

set_option maxRecDepth 100000 in
set_option maxHeartbeats 8000000 in
theorem gml_ok {s p : ByteArray} {cs : List Int} {ts : List S56} {w : World} (h : Fair s p cs ts) (hL : ∀ w', Below w.heap.size w w' → Laid w') :
    Calls Tryz.prog 23 #[.string s, .string p] w (fun e w' => ∃ b : Bool, e = .returned (.bool b) ∧ (b = true ↔ M ts cs) ∧ Below w.heap.size w w') := by
  have HC := Lib.hid (lim_ok h hL)
  clear h hL
  go_enter Tryz.func23, Tryz.ntmps23
  go_wp2_with (first | (go_at_call 29; refine HC.out.mono ?_; rintro e w5 ⟨b1, b2, rfl, hb, hb5⟩; have HB := Lib.hid (And.intro hb hb5); clear hb hb5))
  go_ret
  exact ⟨b1, rfl, HB.out.1, HB.out.2⟩

/-- A Result of a text, as cells. -/
abbrev rs (raw s : ByteArray) : Array Value := #[.int .i64 3, .string raw, .string s, .float .f64 0, .int .i64 0, .slice none 0 0]

set_option maxRecDepth 100000 in
set_option maxHeartbeats 8000000 in
theorem ex_ok {raw s : ByteArray} {w : World} :
    Calls Tryz.prog 19 #[.agg (rs raw s)] w (fun e w' => e = .returned (.bool true) ∧ Below w.heap.size w w') := by
  go_enter Tryz.func19, Tryz.ntmps19
  go_wp2_with (first
    | ((with_reducible refine gate_dst (N := 1) rfl ?_); refine box_event ?hg (N := 1) ?hd (cs := rs raw s) (t := 35) ?hr ?_; (case hd => rfl); (case hg => rfl); (case hr => first | (go_simp; done) | (go_simp; rfl)); intro g2 hg2 w2 hb2 hbel2; have q0 := blk_cell hb2 0; have q1 := blk_cell hb2 1; have BEL := Lib.hid hbel2; clear hb2 hbel2 hg2))
  go_ret
  exact ⟨rfl, BEL.out⟩

set_option maxRecDepth 100000 in
set_option maxHeartbeats 8000000 in
theorem qm_like {q : Nat} {raw s p op : ByteArray} {cs : List Int} {ts : List S56} {w : World} (h : Fair s p cs ts) (hL : ∀ w', Below w.heap.size w w' → Laid w') (h11 : w.cell? ⟨q, 11, none⟩ = some (.string op)) (h12 : w.cell? ⟨q, 12, none⟩ = some (.string p)) (h126 : ∀ h : 0 < p.size, ((p[0]'h).toNat : Int) ≠ 126)
    (o0 : (op.toList == ([] : List UInt8)) = false) (o61 : (op.toList == ([61] : List UInt8)) = false) (o3361 : (op.toList == ([33, 61] : List UInt8)) = false) (o60 : (op.toList == ([60] : List UInt8)) = false) (o6061 : (op.toList == ([60, 61] : List UInt8)) = false) (o62 : (op.toList == ([62] : List UInt8)) = false) (o6261 : (op.toList == ([62, 61] : List UInt8)) = false) (o37 : (op.toList == ([37] : List UInt8)) = true) (o3337 : (op.toList == ([33, 37] : List UInt8)) = false) :
    Calls Tryz.prog 15 #[.pointer (some ⟨q, 0, none⟩), .agg (rs raw s)] w (fun e w' => ∃ b : Bool, e = .returned (.bool b) ∧ (b = true ↔ M ts cs) ∧ Below w.heap.size w w') := by
  have HQ := Lib.hid (And.intro (And.intro h11 h12) (World.block_lt_of_cell? w _ h11))
  have HF := Lib.hid h
  have HLD := Lib.hid hL
  by_cases hp : p.size = 0
  · have hd1 : decide ((0 : Int) < (p.size : Int)) = false := decide_eq_false (by omega)
    have hd2 : decide (0 < p.size) = false := decide_eq_false (by omega)
    clear h hL h11 h12 h126 hp
    go_enter Tryz.func15, Tryz.ntmps15
    go_wp2_with (first | ((with_reducible refine gate_dst (N := 3) rfl ?_); refine box_event ?hg (N := 3) ?hd (cs := rs raw s) (t := 35) ?hr ?_; (case hd => rfl); (case hg => rfl); (case hr => first | (go_simp; done) | (go_simp; rfl)); intro ag hg2 aw hb2 hbel2; have q0 := blk_cell hb2 0; have q1 := blk_cell hb2 1; have q2 := blk_cell hb2 2; have q3 := blk_cell hb2 3; have q4 := blk_cell hb2 4; have q5 := blk_cell hb2 5; have c11 := (hbel2.cell (p := ⟨q, 11, none⟩) HQ.out.2).trans HQ.out.1.1; have c12 := (hbel2.cell (p := ⟨q, 12, none⟩) HQ.out.2).trans HQ.out.1.2; have HB2 := Lib.hid hb2; have BEL := Lib.hid hbel2; clear hb2 hbel2 hg2) | (go_at_call 19; refine (ex_ok (raw := raw) (s := s)).mono ?_; rintro e w5 ⟨rfl, hb5⟩; have HB5 := Lib.hid ((hb5.block ag (blk_lt HB2.out)).trans HB2.out); have q0' := blk_cell HB5.out 0; have q2' := blk_cell HB5.out 2; have d11 := (hb5.cell (p := ⟨q, 11, none⟩) (Nat.lt_of_lt_of_le HQ.out.2 BEL.out.size)).trans c11; have d12 := (hb5.cell (p := ⟨q, 12, none⟩) (Nat.lt_of_lt_of_le HQ.out.2 BEL.out.size)).trans c12; have BEL5 := Lib.hid (BEL.out.trans (hb5.mono BEL.out.size)); clear hb5) | (go_at_call 23; refine (gml_ok HF.out (fun w' hb => HLD.out w' (BEL5.out.trans (hb.mono BEL5.out.size)))).mono ?_; rintro e w6 ⟨b6, rfl, hb6, hbel6⟩; have HB6 := Lib.hid hb6; have BEL6 := Lib.hid (BEL5.out.trans (hbel6.mono BEL5.out.size)); clear hb6 hbel6))
    go_ret
    exact ⟨b6, rfl, HB6.out, BEL6.out⟩
  · have hpp : 0 < p.size := by omega
    have hd1 : decide ((0 : Int) < (p.size : Int)) = true := decide_eq_true (by omega)
    have hd2 : decide (0 < p.size) = true := decide_eq_true hpp
    have hi1 : (0 : Int) < (p.size : Int) := by omega
    have hne : (((p[0]'hpp).toNat : Int) == 126) = false := beq_eq_false_iff_ne.mpr (h126 hpp)
    clear h hL h11 h12 h126 hp
    go_enter Tryz.func15, Tryz.ntmps15
    go_wp2_with (first | ((with_reducible refine gate_dst (N := 3) rfl ?_); refine box_event ?hg (N := 3) ?hd (cs := rs raw s) (t := 35) ?hr ?_; (case hd => rfl); (case hg => rfl); (case hr => first | (go_simp; done) | (go_simp; rfl)); intro ag hg2 aw hb2 hbel2; have q0 := blk_cell hb2 0; have q1 := blk_cell hb2 1; have q2 := blk_cell hb2 2; have q3 := blk_cell hb2 3; have q4 := blk_cell hb2 4; have q5 := blk_cell hb2 5; have c11 := (hbel2.cell (p := ⟨q, 11, none⟩) HQ.out.2).trans HQ.out.1.1; have c12 := (hbel2.cell (p := ⟨q, 12, none⟩) HQ.out.2).trans HQ.out.1.2; have HB2 := Lib.hid hb2; have BEL := Lib.hid hbel2; clear hb2 hbel2 hg2) | (go_at_call 19; refine (ex_ok (raw := raw) (s := s)).mono ?_; rintro e w5 ⟨rfl, hb5⟩; have HB5 := Lib.hid ((hb5.block ag (blk_lt HB2.out)).trans HB2.out); have q0' := blk_cell HB5.out 0; have q2' := blk_cell HB5.out 2; have d11 := (hb5.cell (p := ⟨q, 11, none⟩) (Nat.lt_of_lt_of_le HQ.out.2 BEL.out.size)).trans c11; have d12 := (hb5.cell (p := ⟨q, 12, none⟩) (Nat.lt_of_lt_of_le HQ.out.2 BEL.out.size)).trans c12; have BEL5 := Lib.hid (BEL.out.trans (hb5.mono BEL.out.size)); clear hb5) | (go_at_call 23; refine (gml_ok HF.out (fun w' hb => HLD.out w' (BEL5.out.trans (hb.mono BEL5.out.size)))).mono ?_; rintro e w6 ⟨b6, rfl, hb6, hbel6⟩; have HB6 := Lib.hid hb6; have BEL6 := Lib.hid (BEL5.out.trans (hbel6.mono BEL5.out.size)); clear hb6 hbel6))
    go_ret
    exact ⟨b6, rfl, HB6.out, BEL6.out⟩

set_option maxRecDepth 100000 in
set_option maxHeartbeats 8000000 in
theorem qm_unlike {q : Nat} {raw s p op : ByteArray} {cs : List Int} {ts : List S56} {w : World} (h : Fair s p cs ts) (hL : ∀ w', Below w.heap.size w w' → Laid w') (h11 : w.cell? ⟨q, 11, none⟩ = some (.string op)) (h12 : w.cell? ⟨q, 12, none⟩ = some (.string p)) (h126 : ∀ h : 0 < p.size, ((p[0]'h).toNat : Int) ≠ 126)
    (o0 : (op.toList == ([] : List UInt8)) = false) (o61 : (op.toList == ([61] : List UInt8)) = false) (o3361 : (op.toList == ([33, 61] : List UInt8)) = false) (o60 : (op.toList == ([60] : List UInt8)) = false) (o6061 : (op.toList == ([60, 61] : List UInt8)) = false) (o62 : (op.toList == ([62] : List UInt8)) = false) (o6261 : (op.toList == ([62, 61] : List UInt8)) = false) (o37 : (op.toList == ([37] : List UInt8)) = false) (o3337 : (op.toList == ([33, 37] : List UInt8)) = true) :
    Calls Tryz.prog 15 #[.pointer (some ⟨q, 0, none⟩), .agg (rs raw s)] w (fun e w' => ∃ b : Bool, e = .returned (.bool b) ∧ (b = true ↔ ¬ M ts cs) ∧ Below w.heap.size w w') := by
  have HQ := Lib.hid (And.intro (And.intro h11 h12) (World.block_lt_of_cell? w _ h11))
  have HF := Lib.hid h
  have HLD := Lib.hid hL
  by_cases hp : p.size = 0
  · have hd1 : decide ((0 : Int) < (p.size : Int)) = false := decide_eq_false (by omega)
    have hd2 : decide (0 < p.size) = false := decide_eq_false (by omega)
    clear h hL h11 h12 h126 hp
    go_enter Tryz.func15, Tryz.ntmps15
    go_wp2_with (first | ((with_reducible refine gate_dst (N := 3) rfl ?_); refine box_event ?hg (N := 3) ?hd (cs := rs raw s) (t := 35) ?hr ?_; (case hd => rfl); (case hg => rfl); (case hr => first | (go_simp; done) | (go_simp; rfl)); intro ag hg2 aw hb2 hbel2; have q0 := blk_cell hb2 0; have q1 := blk_cell hb2 1; have q2 := blk_cell hb2 2; have q3 := blk_cell hb2 3; have q4 := blk_cell hb2 4; have q5 := blk_cell hb2 5; have c11 := (hbel2.cell (p := ⟨q, 11, none⟩) HQ.out.2).trans HQ.out.1.1; have c12 := (hbel2.cell (p := ⟨q, 12, none⟩) HQ.out.2).trans HQ.out.1.2; have HB2 := Lib.hid hb2; have BEL := Lib.hid hbel2; clear hb2 hbel2 hg2) | (go_at_call 19; refine (ex_ok (raw := raw) (s := s)).mono ?_; rintro e w5 ⟨rfl, hb5⟩; have HB5 := Lib.hid ((hb5.block ag (blk_lt HB2.out)).trans HB2.out); have q0' := blk_cell HB5.out 0; have q2' := blk_cell HB5.out 2; have d11 := (hb5.cell (p := ⟨q, 11, none⟩) (Nat.lt_of_lt_of_le HQ.out.2 BEL.out.size)).trans c11; have d12 := (hb5.cell (p := ⟨q, 12, none⟩) (Nat.lt_of_lt_of_le HQ.out.2 BEL.out.size)).trans c12; have BEL5 := Lib.hid (BEL.out.trans (hb5.mono BEL.out.size)); clear hb5) | (go_at_call 23; refine (gml_ok HF.out (fun w' hb => HLD.out w' (BEL5.out.trans (hb.mono BEL5.out.size)))).mono ?_; rintro e w6 ⟨b6, rfl, hb6, hbel6⟩; have HB6 := Lib.hid hb6; have BEL6 := Lib.hid (BEL5.out.trans (hbel6.mono BEL5.out.size)); clear hb6 hbel6))
    go_ret
    exact ⟨!b6, rfl, by rw [Bool.not_eq_true', ← HB6.out, Bool.not_eq_true], BEL6.out⟩
  · have hpp : 0 < p.size := by omega
    have hd1 : decide ((0 : Int) < (p.size : Int)) = true := decide_eq_true (by omega)
    have hd2 : decide (0 < p.size) = true := decide_eq_true hpp
    have hi1 : (0 : Int) < (p.size : Int) := by omega
    have hne : (((p[0]'hpp).toNat : Int) == 126) = false := beq_eq_false_iff_ne.mpr (h126 hpp)
    clear h hL h11 h12 h126 hp
    go_enter Tryz.func15, Tryz.ntmps15
    go_wp2_with (first | ((with_reducible refine gate_dst (N := 3) rfl ?_); refine box_event ?hg (N := 3) ?hd (cs := rs raw s) (t := 35) ?hr ?_; (case hd => rfl); (case hg => rfl); (case hr => first | (go_simp; done) | (go_simp; rfl)); intro ag hg2 aw hb2 hbel2; have q0 := blk_cell hb2 0; have q1 := blk_cell hb2 1; have q2 := blk_cell hb2 2; have q3 := blk_cell hb2 3; have q4 := blk_cell hb2 4; have q5 := blk_cell hb2 5; have c11 := (hbel2.cell (p := ⟨q, 11, none⟩) HQ.out.2).trans HQ.out.1.1; have c12 := (hbel2.cell (p := ⟨q, 12, none⟩) HQ.out.2).trans HQ.out.1.2; have HB2 := Lib.hid hb2; have BEL := Lib.hid hbel2; clear hb2 hbel2 hg2) | (go_at_call 19; refine (ex_ok (raw := raw) (s := s)).mono ?_; rintro e w5 ⟨rfl, hb5⟩; have HB5 := Lib.hid ((hb5.block ag (blk_lt HB2.out)).trans HB2.out); have q0' := blk_cell HB5.out 0; have q2' := blk_cell HB5.out 2; have d11 := (hb5.cell (p := ⟨q, 11, none⟩) (Nat.lt_of_lt_of_le HQ.out.2 BEL.out.size)).trans c11; have d12 := (hb5.cell (p := ⟨q, 12, none⟩) (Nat.lt_of_lt_of_le HQ.out.2 BEL.out.size)).trans c12; have BEL5 := Lib.hid (BEL.out.trans (hb5.mono BEL.out.size)); clear hb5) | (go_at_call 23; refine (gml_ok HF.out (fun w' hb => HLD.out w' (BEL5.out.trans (hb.mono BEL5.out.size)))).mono ?_; rintro e w6 ⟨b6, rfl, hb6, hbel6⟩; have HB6 := Lib.hid hb6; have BEL6 := Lib.hid (BEL5.out.trans (hbel6.mono BEL5.out.size)); clear hb6 hbel6))
    go_ret
    exact ⟨!b6, rfl, by rw [Bool.not_eq_true', ← HB6.out, Bool.not_eq_true], BEL6.out⟩

/-- What the comparison tells, by its sign. -/
def Tells (op : ByteArray) (ts : List S56) (cs : List Int) (b : Bool) : Prop := (op = ⟨#[37]⟩ ∧ (b = true ↔ M ts cs)) ∨ (op = ⟨#[33, 37]⟩ ∧ (b = true ↔ ¬ M ts cs))
theorem lit_beq {a : ByteArray} {l : List UInt8} (h : (a.data.toList == l) = true) : (a.toList == l) = true := by rw [ByteArray.toList_eq]; exact h
theorem lit_bne {a : ByteArray} {l : List UInt8} (h : (a.data.toList == l) = false) : (a.toList == l) = false := by rw [ByteArray.toList_eq]; exact h

theorem qm_ok {q : Nat} {raw s p op : ByteArray} {cs : List Int} {ts : List S56} {w : World} (h : Fair s p cs ts) (hL : ∀ w', Below w.heap.size w w' → Laid w') (h11 : w.cell? ⟨q, 11, none⟩ = some (.string op)) (h12 : w.cell? ⟨q, 12, none⟩ = some (.string p)) (h126 : ∀ h : 0 < p.size, ((p[0]'h).toNat : Int) ≠ 126) (ho : op = ⟨#[37]⟩ ∨ op = ⟨#[33, 37]⟩) :
    Calls Tryz.prog 15 #[.pointer (some ⟨q, 0, none⟩), .agg (rs raw s)] w (fun e w' => ∃ b : Bool, e = .returned (.bool b) ∧ Tells op ts cs b ∧ Below w.heap.size w w') := by
  rcases ho with rfl | rfl
  · refine (qm_like h hL h11 h12 h126 (lit_bne rfl) (lit_bne rfl) (lit_bne rfl) (lit_bne rfl) (lit_bne rfl) (lit_bne rfl) (lit_bne rfl) (lit_beq rfl) (lit_bne rfl)).mono ?_
    rintro e w' ⟨b, rfl, hb, hbel⟩
    exact ⟨b, rfl, .inl ⟨rfl, hb⟩, hbel⟩
  · refine (qm_unlike h hL h11 h12 h126 (lit_bne rfl) (lit_bne rfl) (lit_bne rfl) (lit_bne rfl) (lit_bne rfl) (lit_bne rfl) (lit_bne rfl) (lit_bne rfl) (lit_beq rfl)).mono ?_
    rintro e w' ⟨b, rfl, hb, hbel⟩
    exact ⟨b, rfl, .inr ⟨rfl, hb⟩, hbel⟩

set_option maxRecDepth 100000 in
set_option maxHeartbeats 8000000 in
theorem dm_ok {raw s p op : ByteArray} {cs : List Int} {ts : List S56} {w : World} (h : Fair s p cs ts) (hL : ∀ w', Below w.heap.size w w' → Laid w') (h126 : ∀ h : 0 < p.size, ((p[0]'h).toNat : Int) ≠ 126) (ho : op = ⟨#[37]⟩ ∨ op = ⟨#[33, 37]⟩) :
    Calls Tryz.prog 9 #[.agg (rs raw s), .string op, .string p] w (fun e w' => ∃ b : Bool, e = .returned (.bool b) ∧ Tells op ts cs b ∧ Below w.heap.size w w') := by
  have HF := Lib.hid (And.intro h (And.intro h126 ho))
  have HLD := Lib.hid hL
  clear h hL h126 ho
  go_enter Tryz.func9, Tryz.ntmps9
  go_wp2_with (first
    | ((with_reducible refine gate_dst (N := 3) rfl ?_); refine box_event ?hg (N := 3) ?hd (cs := rs raw s) (t := 35) ?hr ?_; (case hd => rfl); (case hg => rfl); (case hr => first | (go_simp; done) | (go_simp; rfl)); intro ag hg2 aw hb2 hbel2; have HA := Lib.hid hb2; have BEL := Lib.hid hbel2; clear hb2 hbel2 hg2)
    | ((with_reducible refine gate_dst (N := 7) rfl ?_); refine box_event ?hg (N := 7) ?hd (cs := #[.string ByteArray.empty, .string ByteArray.empty, .string ByteArray.empty, .bool false, .bool false, .bool false, .bool false, .string ByteArray.empty, .bool false, .bool false, .string ByteArray.empty, .string ByteArray.empty, .string ByteArray.empty]) (t := 46) ?hr ?_; (case hd => rfl); (case hg => rfl); (case hr => first | (go_simp; done) | (go_simp; rfl)); intro bg hg2 bw hb2 hbel2; have f11 := blk_frozen hb2 11; have f12 := blk_frozen hb2 12; have r11 := blk_cell hb2 11; have r12 := blk_cell hb2 12; have hq := (hbel2.block ag (blk_lt HA.out)).trans HA.out; have q0 := blk_cell hq 0; have q1 := blk_cell hq 1; have q2 := blk_cell hq 2; have q3 := blk_cell hq 3; have q4 := blk_cell hq 4; have q5 := blk_cell hq 5; have hne : bg ≠ ag := (by have := blk_lt HA.out; omega); have hne2 := hne.symm; have HG := Lib.hid (show w.heap.size ≤ bg from by have := BEL.out.size; omega); have HB := Lib.hid hb2; replace BEL := Lib.hid (BEL.out.trans (hbel2.mono BEL.out.size)); clear hb2 hbel2 hg2 hq)
    | (go_at_call 15; have hbel := (BEL.out.setCell (p := ⟨bg, 11, none⟩) HG.out (.string op)).setCell (p := ⟨bg, 12, none⟩) HG.out (.string p); have hcell : ((bw.setCell ⟨bg, 11, none⟩ (.string op)).setCell ⟨bg, 12, none⟩ (.string p)).heap[bg]? = some (.cells #[.string ByteArray.empty, .string ByteArray.empty, .string ByteArray.empty, .bool false, .bool false, .bool false, .bool false, .string ByteArray.empty, .bool false, .bool false, .string ByteArray.empty, .string op, .string p] 46 (0, 0)) := blk_put (blk_put HB.out 11 _ rfl) 12 _ rfl; refine (qm_ok HF.out.1 (fun w' hb => HLD.out w' (hbel.trans (hb.mono hbel.size))) (blk_cell hcell 11) (blk_cell hcell 12) HF.out.2.1 HF.out.2.2).mono ?_; rintro e w6 ⟨b6, rfl, hb6, hbel6⟩; have HB6 := Lib.hid hb6; have BEL6 := Lib.hid (hbel.trans (hbel6.mono hbel.size)); clear hb6 hbel6 hbel hcell))
  go_ret
  exact ⟨b6, rfl, HB6.out, BEL6.out⟩

/-- The thin package's Result of a text. -/
abbrev rz (raw s : ByteArray) : Array Value := #[.int .i64 3, .string raw, .string s, .float .f64 0, .bool true]

set_option maxRecDepth 100000 in
set_option maxHeartbeats 8000000 in
theorem of_ok {raw s : ByteArray} {w : World} : Calls Tryz.prog 10 #[.agg (rz raw s)] w (fun e w' => e = .returned (.agg (rs raw s)) ∧ Below w.heap.size w w') := by
  go_enter Tryz.func10, Tryz.ntmps10
  go_wp2_with (first
    | ((with_reducible refine gate_dst (N := 1) rfl ?_); refine box_event ?hg (N := 1) ?hd (cs := rz raw s) (t := 28) ?hr ?_; (case hd => rfl); (case hg => rfl); (case hr => first | (go_simp; done) | (go_simp; rfl)); intro ag hg2 aw hb2 hbel2; have HA := Lib.hid hb2; have BEL := Lib.hid hbel2; clear hb2 hbel2 hg2)
    | ((with_reducible refine gate_dst (N := 2) rfl ?_); refine box_event ?hg (N := 2) ?hd (cs := #[.int .i64 0, .string ByteArray.empty, .string ByteArray.empty, .float .f64 0, .int .i64 0, .slice none 0 0]) (t := 35) ?hr ?_; (case hd => rfl); (case hg => rfl); (case hr => first | (go_simp; done) | (go_simp; rfl)); intro bg hg2 bw hb2 hbel2; have f0 := blk_frozen hb2 0; have f1 := blk_frozen hb2 1; have f2 := blk_frozen hb2 2; have f3 := blk_frozen hb2 3; have f4 := blk_frozen hb2 4; have f5 := blk_frozen hb2 5; have r0 := blk_cell hb2 0; have r1 := blk_cell hb2 1; have r2 := blk_cell hb2 2; have r3 := blk_cell hb2 3; have r4 := blk_cell hb2 4; have r5 := blk_cell hb2 5; have hq := (hbel2.block ag (blk_lt HA.out)).trans HA.out; have q0 := blk_cell hq 0; have q1 := blk_cell hq 1; have q2 := blk_cell hq 2; have q3 := blk_cell hq 3; have q4 := blk_cell hq 4; have HG := Lib.hid (show w.heap.size ≤ bg from by have := BEL.out.size; omega); have HB := Lib.hid hb2; replace BEL := Lib.hid (BEL.out.trans (hbel2.mono BEL.out.size)); clear hb2 hbel2 hg2 hq))
  refine bodyPost_ret (results_cell_row rfl _ _ bg 35 (rs raw s) (0, 0) _ rfl (blk_put (blk_put (blk_put (blk_put (blk_put (blk_put HB.out 0 _ rfl) 1 _ rfl) 2 _ rfl) 3 _ rfl) 4 _ rfl) 5 _ rfl) Tryz.underlying35 rfl (by kernel_rfl)) rfl ?_
  exact ⟨rfl, (((((BEL.out.setCell HG.out _).setCell HG.out _).setCell HG.out _).setCell HG.out _).setCell HG.out _).setCell HG.out _⟩

set_option maxRecDepth 100000 in
set_option maxHeartbeats 8000000 in
theorem gm_ok {raw s p op : ByteArray} {cs : List Int} {ts : List S56} {w : World} (h : Fair s p cs ts) (hL : ∀ w', Below w.heap.size w w' → Laid w') (h126 : ∀ h : 0 < p.size, ((p[0]'h).toNat : Int) ≠ 126) (ho : op = ⟨#[37]⟩ ∨ op = ⟨#[33, 37]⟩) :
    Calls Tryz.prog 6 #[.agg (rz raw s), .string op, .string p] w (fun e w' => ∃ b : Bool, e = .returned (.bool b) ∧ Tells op ts cs b ∧ Below w.heap.size w w') := by
  have HC := Lib.hid (fun (w3 : World) (h3 : Below w.heap.size w w3) => dm_ok (raw := raw) (w := w3) h (fun w' hb => hL w' (h3.trans (hb.mono h3.size))) h126 ho)
  clear h hL h126 ho
  go_enter Tryz.func6, Tryz.ntmps6
  go_wp2_with (first
    | ((with_reducible refine gate_dst (N := 3) rfl ?_); refine box_event ?hg (N := 3) ?hd (cs := rz raw s) (t := 28) ?hr ?_; (case hd => rfl); (case hg => rfl); (case hr => first | (go_simp; done) | (go_simp; rfl)); intro ag hg2 aw hb2 hbel2; have q0 := blk_cell hb2 0; have q1 := blk_cell hb2 1; have q2 := blk_cell hb2 2; have q3 := blk_cell hb2 3; have q4 := blk_cell hb2 4; have BEL := Lib.hid hbel2; clear hb2 hbel2 hg2)
    | (go_at_call 10; refine (of_ok (raw := raw) (s := s)).mono ?_; rintro e w5 ⟨rfl, hb5⟩; replace BEL := Lib.hid (BEL.out.trans (hb5.mono BEL.out.size)); clear hb5)
    | (go_at_call 9; refine (HC.out _ BEL.out).mono ?_; rintro e w6 ⟨b6, rfl, hb6, hbel6⟩; have HB6 := Lib.hid hb6; have BEL6 := Lib.hid (BEL.out.trans (hbel6.mono BEL.out.size)); clear hb6 hbel6))
  go_ret
  exact ⟨b6, rfl, HB6.out, BEL6.out⟩

set_option maxRecDepth 100000 in
set_option maxHeartbeats 8000000 in
theorem gs_ok {s : ByteArray} {w : World} (hs : s.size ≤ 2147483647) : Calls Tryz.prog 7 #[.string s] w (fun e w' => ∃ raw, e = .returned (.agg (rz raw s)) ∧ Below w.heap.size w w') := by
  obtain ⟨k, raw, hk, -⟩ := (quote_f hs).rounds
  have HK := Lib.hid hk
  clear hk hs
  go_enter Tryz.func7, Tryz.ntmps7
  go_wp2_with (first
    | ((with_reducible refine gate_dst (N := 2) rfl ?_); refine box_event ?hg (N := 2) ?hd (cs := #[.int .i64 0, .string ByteArray.empty, .string ByteArray.empty, .float .f64 0, .bool false]) (t := 28) ?hr ?_; (case hd => rfl); (case hg => rfl); (case hr => first | (go_simp; done) | (go_simp; rfl)); intro bg hg2 bw hb2 hbel2; have HG := Lib.hid (show w.heap.size ≤ bg from by omega); have HB := Lib.hid hb2; have BEL := Lib.hid hbel2; clear hb2 hbel2 hg2)
    | (go_at_call 11; refine (spec_Quote.calls k s raw _ HK.out).mono ?_; rintro e w5 ⟨rfl, hb5⟩; have hb2 := (hb5.block bg (blk_lt HB.out)).trans HB.out; have f0 := blk_frozen hb2 0; have f1 := blk_frozen hb2 1; have f2 := blk_frozen hb2 2; have f3 := blk_frozen hb2 3; have f4 := blk_frozen hb2 4; have r0 := blk_cell hb2 0; have r1 := blk_cell hb2 1; have r2 := blk_cell hb2 2; have r3 := blk_cell hb2 3; have r4 := blk_cell hb2 4; have HB5 := Lib.hid hb2; replace BEL := Lib.hid (BEL.out.trans (hb5.mono BEL.out.size)); clear hb5 hb2))
  refine bodyPost_ret (results_cell_row rfl _ _ bg 28 (rz raw s) (0, 0) _ rfl (blk_put (blk_put (blk_put (blk_put (blk_put HB5.out 0 _ rfl) 1 _ rfl) 2 _ rfl) 3 _ rfl) 4 _ rfl) Tryz.underlying28 rfl (by kernel_rfl)) rfl ?_
  exact ⟨raw, rfl, ((((BEL.out.setCell HG.out _).setCell HG.out _).setCell HG.out _).setCell HG.out _).setCell HG.out _⟩

end Go.Proofs.YtkhgbacbnkgafaaGreatDoor.Mlw

/- The law FnFjRawStringOf, walked. -/
import Derived.Test.YtkhgbacbnkgafaaDoorRsRd
set_option linter.unusedVariables false
set_option linter.unusedSimpArgs false
namespace Go.Proofs.YtkhgbacbnkgafaaDoor.Drs
open Go Go.RowKit Go.Proofs.YtkhgbacbnkgafaaDoorW.PrintWords Go.Proofs.YtkhgbacbnkgafaaDoorW.PrintLast Go.Proofs.YtkhgbacbnkgafaaDoorW.PrintMore Go.Proofs.YtkhgbacbnkgafaaDoor.Fjh Go.Proofs.YtkhgbacbnkgafaaDoor.Spr Go.Proofs.YtkhgbacbnkgafaaDoor.JTr Go.Proofs.YtkhgbacbnkgafaaDoor.Rs Go.Proofs.YtkhgbacbnkgafaaDoor.U8 Go.Proofs.YtkhgbacbnkgafaaDoor.U8.Uc Go.Proofs.YtkhgbacbnkgafaaDoor.StrL Go.Proofs.YtkhgbacbnkgafaaDoor.EvL
open Go.Proofs.YtkhgbacbnkgafaaDoor.PFnFjReadBytes (Laid)

theorem below_drewN {B : Nat} {w w' : World} (h : Below B w w') (n : Nat) : Below B w (w'.drewN n) := ⟨h.os, h.tape, h.output, h.size, h.block⟩

theorem prep_str {w : World} {q : ByteArray} {own : Nat → Prop} {a : Array Value} {l : List Int} (h : PRep w q own a (.str l)) : ∃ b e : Nat, a = pl 4 b e nilS nilS ∧ Seg q b e (34 :: (l ++ [34])) := by
  cases h with
  | str h => exact ⟨_, _, rfl, h⟩

set_option maxRecDepth 100000 in
set_option maxHeartbeats 8000000 in
theorem law_huge {s t : ByteArray} {A : Option Addr} {n c : Nat} {w : World} (h : 2147483647 < s.size ∨ 2147483647 < n ∨ 2147483647 < t.size) :
    Calls Tryd.prog 3 #[.string s, .slice A n c, .string t] w (fun e w' => e = .returned (.bool true) ∧ Below w.heap.size w w') := by
  by_cases h1 : 2147483647 < s.size
  · have hd1 : decide ((2147483647 : Int) < (s.size : Int)) = true := decide_eq_true (by omega)
    have hd2 : decide (2147483647 < s.size) = true := decide_eq_true h1
    clear h h1
    go_enter Tryd.func3, Tryd.ntmps3
    go_wp2
    go_ret
    exact ⟨rfl, Below.refl _ _⟩
  · have hd1 : decide ((2147483647 : Int) < (s.size : Int)) = false := decide_eq_false (by omega)
    have hd2 : decide (2147483647 < s.size) = false := decide_eq_false h1
    by_cases h2 : 2147483647 < n
    · have hd3 : decide ((2147483647 : Int) < (n : Int)) = true := decide_eq_true (by omega)
      have hd4 : decide (2147483647 < n) = true := decide_eq_true h2
      clear h h1 h2
      go_enter Tryd.func3, Tryd.ntmps3
      go_wp2
      go_ret
      exact ⟨rfl, Below.refl _ _⟩
    · have hd3 : decide ((2147483647 : Int) < (n : Int)) = false := decide_eq_false (by omega)
      have hd4 : decide (2147483647 < n) = false := decide_eq_false h2
      have h3 : 2147483647 < t.size := by omega
      have hd5 : decide ((2147483647 : Int) < (t.size : Int)) = true := decide_eq_true (by omega)
      have hd6 : decide (2147483647 < t.size) = true := decide_eq_true h3
      clear h h1 h2 h3
      go_enter Tryd.func3, Tryd.ntmps3
      go_wp2
      go_ret
      exact ⟨rfl, Below.refl _ _⟩

theorem cut_facts {q : ByteArray} {b e : Nat} {bd : List Int} (h : Seg q b e (34 :: (bd ++ [34]))) (hq : q.size ≤ 20000) :
    wrap64 ((b : Int) + 1) = (b : Int) + 1 ∧ wrap64 ((e : Int) - 1) = (e : Int) - 1 ∧ ∃ sl raw : ByteArray, sl.size ≤ 20000 ∧  ints sl = bd ++ [34] ∧ ints raw = bd ∧ (∀ wx, (Instr.slice 9 (.string q) (some (.int .i64 ((b : Int) + 1))) (some (.int .i64 (e : Int))) none).run Tryd.prog wx = .ok (.string sl) wx) ∧ (∀ wx, (Instr.slice 9 (.string q) (some (.int .i64 ((b : Int) + 1))) (some (.int .i64 ((e : Int) - 1))) none).run Tryd.prog wx = .ok (.string raw) wx) := by
  obtain ⟨h1, h2, h3⟩ := h
  simp only [List.length_cons, List.length_append, List.length_nil] at h1 h3
  refine ⟨by unfold wrap64; omega, by unfold wrap64; omega, q.extract (b + 1) e, q.extract (b + 1) (e - 1), by simp only [ByteArray.size_extract]; omega, ?_, ?_, fun wx => ?_, fun wx => ?_⟩
  · refine (ext_b q (b + 1) e).trans ?_
    have := congrArg (List.drop 1) h3
    rw [List.drop_take, List.drop_drop] at this
    rw [show e - (b + 1) = bd.length + (0 + 1) + 1 - 1 from by omega]
    exact this
  · refine (ext_b q (b + 1) (e - 1)).trans ?_
    have := congrArg (fun l => (l.drop 1).take bd.length) h3
    rw [List.drop_take, List.drop_drop, List.take_take] at this
    rw [show e - 1 - (b + 1) = min bd.length (bd.length + (0 + 1) + 1 - 1) from by omega]
    refine this.trans ?_
    simp
  · refine (run_slice_string (P := Tryd.prog) wx 9 q .i64 .i64 ((b : Int) + 1) (e : Int) Tryd.underlying9 (by omega) (by omega) (by omega)).trans ?_
    rfl
  · refine (run_slice_string (P := Tryd.prog) wx 9 q .i64 .i64 ((b : Int) + 1) ((e : Int) - 1) Tryd.underlying9 (by omega) (by omega) (by omega)).trans ?_
    rw [show ((e : Int) - 1).toNat = e - 1 from by omega]
    rfl

set_option maxRecDepth 100000 in
set_option maxHeartbeats 8000000 in
theorem law_odd {s t : ByteArray} {A : Option Addr} {n c k : Nat} {r : Bool} {w : World} (h : s.size ≤ 2147483647 ∧ n ≤ 2147483647 ∧ t.size ≤ 2147483647) (hu : spec_UTF8.f k s = some r) (ho : 1000 < s.size ∨ r = false ∨ 200 < n ∨ 1000 < t.size) :
    Calls Tryd.prog 3 #[.string s, .slice A n c, .string t] w (fun e w' => e = .returned (.bool true) ∧ Below w.heap.size w w') := by
  have hd1 : decide ((2147483647 : Int) < (s.size : Int)) = false := decide_eq_false (by omega)
  have hd2 : decide (2147483647 < s.size) = false := decide_eq_false (by omega)
  have hd3 : decide ((2147483647 : Int) < (n : Int)) = false := decide_eq_false (by omega)
  have hd4 : decide (2147483647 < n) = false := decide_eq_false (by omega)
  have hd5 : decide ((2147483647 : Int) < (t.size : Int)) = false := decide_eq_false (by omega)
  have hd6 : decide (2147483647 < t.size) = false := decide_eq_false (by omega)
  have HU := Lib.hid hu
  by_cases h1 : 1000 < s.size
  · have he1 : decide ((1000 : Int) < (s.size : Int)) = true := decide_eq_true (by omega)
    have he2 : decide (1000 < s.size) = true := decide_eq_true h1
    clear h h1 hu ho
    go_enter Tryd.func3, Tryd.ntmps3
    go_wp2
    go_ret
    exact ⟨rfl, Below.refl _ _⟩
  have he1 : decide ((1000 : Int) < (s.size : Int)) = false := decide_eq_false (by omega)
  have he2 : decide (1000 < s.size) = false := decide_eq_false h1
  cases r with
  | false =>
    clear h h1 hu ho
    go_enter Tryd.func3, Tryd.ntmps3
    go_wp2_with (first
      | (go_at_call 4; (with_reducible refine (spec_UTF8.calls k s false _ HU.out).mono ?_); rintro e w6 ⟨rfl, ⟨nd, rfl⟩⟩))
    go_ret
    exact ⟨rfl, below_drewN (Below.refl _ _) nd⟩
  | true =>
    by_cases h2 : 200 < n
    · have he3 : decide ((200 : Int) < (n : Int)) = true := decide_eq_true (by omega)
      have he4 : decide (200 < n) = true := decide_eq_true h2
      clear h h1 hu ho h2
      go_enter Tryd.func3, Tryd.ntmps3
      go_wp2_with (first
        | (go_at_call 4; (with_reducible refine (spec_UTF8.calls k s true _ HU.out).mono ?_); rintro e w6 ⟨rfl, ⟨nd, rfl⟩⟩))
      go_ret
      exact ⟨rfl, below_drewN (Below.refl _ _) nd⟩
    · have he3 : decide ((200 : Int) < (n : Int)) = false := decide_eq_false (by omega)
      have he4 : decide (200 < n) = false := decide_eq_false h2
      have h3 : 1000 < t.size := by rcases ho with h | h | h | h; · omega
                                    · exact absurd h (by decide)
                                    · omega
                                    · exact h
      have he5 : decide ((1000 : Int) < (t.size : Int)) = true := decide_eq_true (by omega)
      have he6 : decide (1000 < t.size) = true := decide_eq_true h3
      clear h h1 hu ho h2 h3
      go_enter Tryd.func3, Tryd.ntmps3
      go_wp2_with (first
        | (go_at_call 4; (with_reducible refine (spec_UTF8.calls k s true _ HU.out).mono ?_); rintro e w6 ⟨rfl, ⟨nd, rfl⟩⟩))
      go_ret
      exact ⟨rfl, below_drewN (Below.refl _ _) nd⟩

set_option maxRecDepth 100000 in
set_option maxHeartbeats 8000000 in
theorem law_main {s t : ByteArray} {cv : Value} {cs : List Int} {A : Option Addr} {n c k : Nat} {w : World} (h : s.size ≤ 1000 ∧ n ≤ 200 ∧ t.size ≤ 1000) (hu : spec_UTF8.f k s = some true) (ht : Txt (ints s) cs) (hc : Code w.heap.size w.heap.size w (.slice A n c)) (hL : ∀ w', Below w.heap.size w w' → Laid w') :
    Calls Tryd.prog 3 #[.string s, .slice A n c, .string t] w (fun e w' => e = .returned (.bool true) ∧ Below w.heap.size w w') := by
  have hd1 : decide ((2147483647 : Int) < (s.size : Int)) = false := decide_eq_false (by omega)
  have hd2 : decide (2147483647 < s.size) = false := decide_eq_false (by omega)
  have hd3 : decide ((2147483647 : Int) < (n : Int)) = false := decide_eq_false (by omega)
  have hd4 : decide (2147483647 < n) = false := decide_eq_false (by omega)
  have hd5 : decide ((2147483647 : Int) < (t.size : Int)) = false := decide_eq_false (by omega)
  have hd6 : decide (2147483647 < t.size) = false := decide_eq_false (by omega)
  have he1 : decide ((1000 : Int) < (s.size : Int)) = false := decide_eq_false (by omega)
  have he2 : decide (1000 < s.size) = false := decide_eq_false (by omega)
  have he3 : decide ((200 : Int) < (n : Int)) = false := decide_eq_false (by omega)
  have he4 : decide (200 < n) = false := decide_eq_false (by omega)
  have he5 : decide ((1000 : Int) < (t.size : Int)) = false := decide_eq_false (by omega)
  have he6 : decide (1000 < t.size) = false := decide_eq_false (by omega)
  have HU := Lib.hid hu
  have HS := Lib.hid h
  have HC := Lib.hid hc
  have HT := Lib.hid ht
  have HLD := Lib.hid hL
  clear h hu hc ht hL
  go_enter Tryd.func3, Tryd.ntmps3
  go_wp2_with (first
    | (go_at_call 4; (with_reducible refine (spec_UTF8.calls k s true _ HU.out).mono ?_); rintro e w6 ⟨rfl, ⟨nd, rfl⟩⟩))
  refine (dress_ok (w := w.drewN nd) HC.out (by have := HS.out; omega) HT.out).mono ?_
  rintro e w7 ⟨q, b1, bd, b2, rfl, k1, k2, k3, k4, k5, k6, k7, k8⟩
  have hq : q.size ≤ 20000 := by
    have hl := bytes_len q
    rw [k1] at hl
    simp only [List.length_append, List.length_cons] at hl
    have := HS.out
    omega
  have HRD := Lib.hid (read_dressed k1 k2 k3 k6)
  have HQ := Lib.hid hq
  have HDR := Lib.hid k6
  have BEL := Lib.hid ((below_drewN (Below.refl w.heap.size w) nd).trans k8)
  clear k1 k2 k3 k4 k5 k6 k7 k8 hq
  go_wp2_with (first
    | (go_at_call 6; refine (places (by have := HQ.out; omega)).mono ?_; rw [HRD.out]; rintro e w8 ⟨a8, rfl, hp8, hb8⟩; obtain ⟨pb, pe, rfl, hseg⟩ := prep_str hp8; obtain ⟨hw1, hw2, sl, raw, i0, i1, i2, hs1, hs2⟩ := cut_facts hseg HQ.out; have hct : ¬ 9223372036854775807 < sl.size + t.size := (by have := HS.out; omega); have hbr : (raw.toList == raw.toList) = true := beq_self_eq_true _; have hbt : (t.toList == t.toList) = true := beq_self_eq_true _; have hbs : (s.toList == s.toList) = true := beq_self_eq_true _; have HI := Lib.hid (And.intro i0 (And.intro i1 i2)); replace BEL := Lib.hid (BEL.out.trans (hb8.mono BEL.out.size)); clear hp8 hb8 hseg i0 i1 i2))
  refine (raw_calls (raw := raw) (rest := t) (W := bd) (T := ints t) ?_ ?_ (raw_dr HDR.out) HI.out.2.2 rfl).mono ?_
  · have h1 := HI.out.1
    have h2 := HS.out
    simp only [ByteArray.size_append]
    omega
  · rw [ints_append, HI.out.2.1, List.append_assoc]
    rfl
  rintro e w9 ⟨rfl, hb9⟩
  have BEL9 := Lib.hid ((below_alloc BEL.out _).trans (hb9.mono (below_alloc BEL.out _).size))
  have hbk := (hb9.block w8.heap.size (by simp)).trans (blk_new w8 _)
  have p1 := blk_cell hbk 1
  have p2 := blk_cell hbk 2
  clear hb9 hbk
  go_wp2_with (first
    | (go_at_call 8; refine (une_calls ?usize (HLD.out _ BEL9.out)).mono ?_; (case usize => have h := HI.out.1; have h1 := congrArg List.length HI.out.2.1; have h2 := congrArg List.length HI.out.2.2; rw [ints_length] at h1 h2; simp only [List.length_append, List.length_cons] at h1; omega); rw [unF_dr (s0 := s) (raw := raw) (by rw [show bytesOf raw = _ from HI.out.2.2]; exact HDR.out)]; rintro e w10 ⟨rfl, hb10⟩; have BEL10 := Lib.hid (BEL9.out.trans (hb10.mono BEL9.out.size)); clear hb10))
  go_ret
  exact ⟨rfl, BEL10.out⟩

theorem code_row {W : World} {a : Option Addr} {len cap : Nat} {zs : List Int} (h : (a = none ∧ len = 0 ∧ cap = 0 ∧ zs = []) ∨ ∃ x, a = some x ∧ len ≤ cap ∧ cap ≤ maxLen ∧ zs.length = cap ∧ (∀ i, i < zs.length → W.cell? (x.add i) = some (.int .u8 (zs.getD i 0))) ∧ ∀ n ∈ zs, (Lit.int .u8 n).wf = true) (hn : len ≤ 1000000000) : Code W.heap.size W.heap.size W (.slice a len cap) := by
  refine ⟨a, len, cap, rfl, hn, fun h0 => ?_⟩
  rcases h with ⟨_, h, _⟩ | ⟨x, rfl, h1, h2, h3, h4, h5⟩
  · omega
  · have hx := World.block_lt_of_cell? _ _ (h4 0 (by omega))
    have hx' : x.block < W.heap.size := hx
    refine ⟨x, rfl, hx', by omega, fun i hi => ⟨zs.getD i 0, h4 i (by omega), ?_⟩⟩
    have hwf := h5 (zs.getD i 0) (by rw [List.getD_eq_getElem?_getD, List.getElem?_eq_getElem (by omega)]; exact List.getElem_mem _)
    have hm : (0 : Int) ≤ zs.getD i 0 ∧ zs.getD i 0 ≤ 255 := by
      simp only [Lit.wf, Bool.and_eq_true, decide_eq_true_eq] at hwf
      exact hwf
    exact hm

theorem law_ok {s t : ByteArray} {a : Option Addr} {len cap : Nat} {zs : List Int} {W : World} (h : (a = none ∧ len = 0 ∧ cap = 0 ∧ zs = []) ∨ ∃ x, a = some x ∧ len ≤ cap ∧ cap ≤ maxLen ∧ zs.length = cap ∧ (∀ i, i < zs.length → W.cell? (x.add i) = some (.int .u8 (zs.getD i 0))) ∧ ∀ n ∈ zs, (Lit.int .u8 n).wf = true) (hL : ∀ w', Below W.heap.size W w' → Laid w') :
    Calls Tryd.prog 3 #[.string s, .slice a len cap, .string t] W (fun e w' => e = .returned (.bool true) ∧ Below W.heap.size W w') := by
  by_cases hb : 2147483647 < s.size ∨ 2147483647 < len ∨ 2147483647 < t.size
  · exact law_huge hb
  obtain ⟨k, r, hu, ht⟩ := (utf8_f (s := s) (by omega)).rounds
  by_cases ho : 1000 < s.size ∨ r = false ∨ 200 < len ∨ 1000 < t.size
  · exact law_odd ⟨by omega, by omega, by omega⟩ hu ho
  obtain ⟨h1, h2⟩ := not_or.1 ho
  obtain ⟨h3, h4⟩ := not_or.1 h2
  obtain rfl : r = true := by cases r <;> simp_all
  obtain ⟨cs, hcs⟩ := ht rfl
  exact law_main (cv := .nilIface) ⟨by omega, by omega, by omega⟩ hu hcs (code_row h (by omega)) hL

end Go.Proofs.YtkhgbacbnkgafaaDoor.Drs

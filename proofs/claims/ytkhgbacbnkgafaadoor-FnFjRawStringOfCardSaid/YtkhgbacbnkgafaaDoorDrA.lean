/- The reference's printer of dressed texts (dresser): a choice, and blanks. -/
import Derived.Test.YtkhgbacbnkgafaaDoorSpA
import Derived.Test.YtkhgbacbnkgafaaDoorWTab
import Derived.Lib.Hide
import Derived.Deep.QuietTactic
import Derived.BigQuiet
import Derived.Deep.LoopGhost
import Derived.Great.Walk
import Derived.Deep.DrawnRows
import Derived.Test.YtkhgbacbnkgafaaDoorRsPl
import Derived.Laws.BitsLemmas
set_option linter.unusedVariables false
set_option linter.unusedSimpArgs false
namespace Go.Proofs.YtkhgbacbnkgafaaDoor.Drs
open Go Go.RowKit Go.Proofs.YtkhgbacbnkgafaaDoorW.PrintWords Go.Proofs.YtkhgbacbnkgafaaDoorW.PrintLast Go.Proofs.YtkhgbacbnkgafaaDoorW.PrintMore Go.Proofs.YtkhgbacbnkgafaaDoor.Fjh Go.Proofs.YtkhgbacbnkgafaaDoor.Spr Go.Proofs.YtkhgbacbnkgafaaDoor.JTr
attribute [local go_sem ↓] Go.wp_at_zero Go.wp_at_succ

section
variable {P : Program} {ops : Array Oper} {o : Oper} {a : Act} {Q : Exit → Act → World → Prop} {Kc : Act → World → Prop}
/-- append of one element (of 'size' cells) as a step of a region that draws. -/
theorem append_cells_step {W : World} (base : Nat) (hw : Region.wanted o (yielded ops a.tmps) = true) (s x : Operand) (t e : TypeId) (z : Value) (size bytes : Nat)
    (ho : o.op = .call { callee := .builtin .append, args := #[s, x], argTypes := #[t, t] })
    (ht : P.underlying t = some (.slice e)) (hinfo : (P.info? e).map (fun i => (i.zero, i.size, i.bytes)) = some (some z, size, bytes)) (hz : z.cells.size = size) (hs0 : 0 < size) (hb0 : 0 < bytes)
    (v : Value) (n : Nat) (xs ys : List Value) (hs : a.eval s = v) (hx : a.eval x = .slice (some ⟨W.heap.size, 0, none⟩) 1 1) (hys : ys.length = size) (h1 : ∀ u ∈ ys, u.oneCell' = true)
    (HO : W.ownsRow base e size v n xs) (hbase : base ≤ W.heap.size) (hl : (n + 1) * bytes ≤ 140737488355328)
    (h : ∀ v1 w1, w1.ownsRow base e size v1 (n + 1) (xs ++ ys) → W.grownBy w1 v.ownBlock → (v1.ownBlock = v.ownBlock ∨ ∃ b, v1.ownBlock = some b ∧ W.heap.size ≤ b) → Kc (a.put o.dst v1) w1) :
    if Region.wanted o (yielded ops a.tmps) = true then Oper.wp P o a (W.alloc (.cells ys.toArray e)) Kc Q else Kc (a.put o.dst undef) (W.alloc (.cells ys.toArray e)) := by
  obtain ⟨i0, hi, hzz⟩ := Option.map_eq_some_iff.1 hinfo
  simp only [Prod.mk.injEq] at hzz
  obtain ⟨hz0, hz1, hz2⟩ := hzz
  have hlen : n + 1 ≤ 140737488355328 := Nat.le_trans (Nat.le_mul_of_pos_right _ hb0) hl
  obtain ⟨v1, w1, hr, h2, h3, h4, h5⟩ := run_append_own_at (P := P) (W.alloc (.cells ys.toArray e)) base t o.type e i0 z size bytes ht hi hz0 hz1 hz2 hz hs0 v n xs (HO.alloc _) ⟨W.heap.size, 0, none⟩ 1 1 ys (by rw [hys]; simp)
    (by simpa using World.news_of_block (cs := ys.toArray) (t := e) (fr := (0, 0)) (heap_alloc_new W (.cells ys.toArray e))) h1 (by simp only [maxLen]; omega) hl (by simp; omega)
  rw [if_pos hw]
  unfold Oper.wp execOp
  simp only [ho, resolve, invoke, builtin, Sem.run_bind, Sem.run_pure, Result.andThen_ok, List.map_toArray, List.map_cons, List.map_nil, hs, hx, hr]
  refine h _ _ h2 (World.grownBy.trans (World.grownBy_alloc W _ _) h3) ?_
  rcases h5 with h5 | h5
  · exact .inl h5
  · exact .inr ⟨_, h5, by simp⟩
end

theorem infoB8 : (Tryd.prog.info? 5).map (fun i => (i.zero, i.size, i.bytes)) = some (some (.int .u8 0), 1, 1) := by kernel_rfl
theorem row_form {w : World} {base : Nat} {e : TypeId} {size : Nat} {v : Value} {n : Nat} {xs : List Value} (h : w.ownsRow base e size v n xs) : ∃ A n c, v = .slice A n c := by
  rcases h.2 with ⟨rfl, _⟩ | ⟨g, cap, cur, rfl, _⟩
  · exact ⟨_, _, _, rfl⟩
  · exact ⟨_, _, _, rfl⟩

theorem add_blk (a : Addr) (n : Nat) : (a.add n).block = a.block := by unfold Addr.add; split <;> rfl
/-- The codes: a row of bytes that lies below B, not in the dresser's block. -/
def Code (B d : Nat) (w : World) (cv : Value) : Prop := ∃ A n c, cv = .slice A n c ∧ n ≤ 1000000000 ∧ (0 < n → ∃ x : Addr, A = some x ∧ x.block < B ∧ x.block ≠ d ∧ ∀ i, i < n → ∃ v : Int, w.cell? (x.add i) = some (.int .u8 v) ∧ 0 ≤ v ∧ v ≤ 255)
theorem Code.kb {B d : Nat} {w w' : World} {cv : Value} (h : Code B d w cv) (hk : ∀ k, k < B → k ≠ d → w'.heap[k]? = w.heap[k]?) : Code B d w' cv := by
  obtain ⟨A, n, c, rfl, hn, hc⟩ := h
  refine ⟨A, n, c, rfl, hn, fun h0 => ?_⟩
  obtain ⟨x, rfl, hb, hbd, hv⟩ := hc h0
  refine ⟨x, rfl, hb, hbd, fun i hi => ?_⟩
  obtain ⟨v, hv1, hv2⟩ := hv i hi
  exact ⟨v, (World.cell?_of_block (a := x.add i) (by rw [add_blk]; exact hk x.block hb hbd)).trans hv1, hv2⟩

set_option maxRecDepth 100000 in
set_option maxHeartbeats 8000000 in
/-- A choice: one of m, the count of codes used goes on. -/
theorem pick_ok {B d used : Nat} {w : World} {cv ov : Value} (hd : w.heap[d]? = some (.cells #[cv, .int .i64 (used : Int), ov] 42 (0, 0))) (hc : Code B d w cv) (hu : used ≤ 1000000000000) (m : Nat) (h1 : 1 ≤ m) (h4 : m ≤ 4) :
    Calls Tryd.prog 18 #[.pointer (some ⟨d, 0, none⟩), .int .i64 (m : Int)] w (fun e w' => ∃ (r : Int) (u : Nat), e = .returned (.int .i64 r) ∧ 0 ≤ r ∧ r < m ∧ u ≤ used + 1 ∧ w'.heap[d]? = some (.cells #[cv, .int .i64 (u : Int), ov] 42 (0, 0)) ∧ Kb d w w') := by
  obtain ⟨A, n, c, rfl, hn, hcode⟩ := hc
  have q0 := blk_cell hd 0
  have q1 := blk_cell hd 1
  have q2 := blk_cell hd 2
  have f1 := blk_frozen hd 1
  have HD := Lib.hid hd
  have HM := Lib.hid (And.intro h1 h4)
  by_cases h0 : n = 0
  · have he : ((n : Int) == 0) = true := beq_iff_eq.mpr (by omega)
    clear hcode hd h0 hu hn
    go_enter Tryd.func18, Tryd.ntmps18
    go_wp2
    go_ret
    exact ⟨0, used, rfl, by omega, by have := HM.out; omega, by omega, HD.out, Kb.refl _ _⟩
  · have he : ((n : Int) == 0) = false := beq_eq_false_iff_ne.mpr (by omega)
    obtain ⟨x, rfl, hb, hbd, hv⟩ := hcode (Nat.pos_of_ne_zero h0)
    have hlt : used % n < n := Nat.mod_lt _ (Nat.pos_of_ne_zero h0)
    obtain ⟨v, hc, hv0, hv1⟩ := hv (used % n) hlt
    have htm : Int.tmod (used : Int) (n : Int) = ((used % n : Nat) : Int) := rfl
    have hj0 : (0 : Int) ≤ ((used % n : Nat) : Int) := by omega
    have hj1 : ((used % n : Nat) : Int) < (n : Int) := by omega
    have hem : ((m : Int) == 0) = false := beq_eq_false_iff_ne.mpr (by omega)
    have hw1 : wrap64 ((used : Int) + 1) = (used : Int) + 1 := by unfold wrap64; omega
    have hwv : wrap64 v = v := by unfold wrap64; omega
    have HV := Lib.hid (And.intro hv0 hv1)
    have HU := Lib.hid hu
    generalize hj : used % n = j at hc htm hj0 hj1
    clear hj hlt hv hcode hd hu hn h0 hv0 hv1 hb hbd
    go_enter Tryd.func18, Tryd.ntmps18
    go_wp2
    go_quiet (fail)
    go_wp2
    go_ret
    refine ⟨Int.tmod v m, used + 1, by first | rfl | (congr 1; done) | (simp [hwv]; done), Int.tmod_nonneg _ HV.out.1, Int.tmod_lt_of_pos _ (by have := HM.out; omega), Nat.le_refl _, ?_, ?_⟩
    · have e2 : ((used + 1 : Nat) : Int) = (used : Int) + 1 := by omega
      rw [e2]
      exact blk_put (w := World.drewN w _) HD.out 1 _ rfl
    · exact ⟨rfl, rfl, rfl, by simp [World.setCell], fun k hk hkd => Below.heap_setCell _ _ _ _ hkd⟩

structure DS (B d : Nat) (w : World) (cv : Value) (used : Nat) (ov : Value) (out : List Int) : Prop where
  at_ : w.heap[d]? = some (.cells #[cv, .int .i64 (used : Int), ov] 42 (0, 0))
  row : w.ownsRow B 5 1 ov out.length (nums .u8 out)
  code : Code B d w cv
  low : d < B
  size : B ≤ w.heap.size
/-- Below B all is as it was, but d. -/
structure Bd (B d : Nat) (w w' : World) : Prop where
  os : w'.os = w.os
  tape : w'.tape = w.tape
  output : w'.output = w.output
  size : w.heap.size ≤ w'.heap.size
  block : ∀ k, k < B → k ≠ d → w'.heap[k]? = w.heap[k]?
theorem Bd.refl (B d : Nat) (w : World) : Bd B d w w := ⟨rfl, rfl, rfl, Nat.le_refl _, fun _ _ _ => rfl⟩
theorem Bd.trans {B d : Nat} {a b c : World} (h : Bd B d a b) (k : Bd B d b c) : Bd B d a c :=
  ⟨k.os.trans h.os, k.tape.trans h.tape, k.output.trans h.output, Nat.le_trans h.size k.size, fun i hi hd => (k.block i hi hd).trans (h.block i hi hd)⟩
theorem own_kb {B d n : Nat} {w w' : World} {e : TypeId} {size : Nat} {v : Value} {xs : List Value} (h : w.ownsRow B e size v n xs) (hk : Kb d w w') (hd : d < B) : w'.ownsRow B e size v n xs :=
  own_keep h (fun k hv => hk.block k (h.lt k hv).2 (fun e => by have := (h.lt k hv).1; omega))
theorem Bd.step {B d n : Nat} {w w5 w6 : World} {e : TypeId} {size : Nat} {v : Value} {xs : List Value} (hd : d < B) (hB : B ≤ w.heap.size) (hk : Kb d w w5) (hr : w.ownsRow B e size v n xs) (hg : w5.grownBy w6 v.ownBlock) (u : Value) : Bd B d w (w6.setCell ⟨d, 2, none⟩ u) :=
  ⟨hg.os.trans hk.os, hg.tape.trans hk.tape, hg.output.trans hk.output, by have := hk.size; have := hg.size; simp only [World.setCell, Array.size_modify]; omega,
   fun k h hkd => ((Below.heap_setCell _ _ _ _ hkd).trans (hg.block k (by have := hk.size; omega) (fun e => by have := (hr.lt k e.symm).1; omega))).trans (hk.block k (by omega) hkd)⟩

def Bl3_T : Bool × List (List Nat × List Nat) := (true, [([], []), ([], []), ([1], [1]), ([2], [2]), ([3], [3]), ([], []), ([5], [5]), ([6], [6]), ([7], [7]), ([4, 8, 6], [4, 8]), ([0, 0, 1, 2, 3, 4, 5, 6, 7, 8, 9], [0]), ([10, 0, 1, 2, 3, 4, 5, 6, 7, 8, 9], [10]), ([11, 9, 9, 0, 1, 2, 3, 4, 5, 6, 7, 8, 9], [9, 11])])
def Bl3_B : List Nat := [0, 0, 2, 6, 14, 0, 32, 96, 224, 510, 1023, 2047, 4095]
theorem Bl3_tab : rtab .any (opsOf Tryd.f10 3) = Bl3_T := by kernel_rfl
theorem Bl3_bits : waitsOk Bl3_T.2 Bl3_B = true := by kernel_rfl

set_option maxRecDepth 100000 in
set_option maxHeartbeats 8000000 in
/-- At most three blanks. -/
theorem blanks_ok {B d used : Nat} {w : World} {cv ov : Value} {out : List Int} (hD : DS B d w cv used ov out) (hu : used ≤ 100000000000) (hl : out.length ≤ 1000000000) :
    Calls Tryd.prog 10 #[.pointer (some ⟨d, 0, none⟩)] w (fun e w' => ∃ (bl : List Int) (u : Nat) (ov' : Value), e = .returned (.tuple #[]) ∧ (∀ b ∈ bl, isWs b = true) ∧ bl.length ≤ 3 ∧ u ≤ used + 4 ∧ DS B d w' cv u ov' (out ++ bl) ∧ Bd B d w w') := by
  have HP0 := Lib.hid (pick_ok hD.at_ hD.code (by omega) 4 (by omega) (by omega))
  have HD := Lib.hid hD
  have HU := Lib.hid (And.intro hu hl)
  clear hD hu hl
  go_enter Tryd.func10, Tryd.ntmps10
  go_wp2_with (first | (go_at_call 18; refine HP0.out.mono ?_; rintro e w5 ⟨r5, u5, rfl, hr5, hr6, hu5, hd5, hk5⟩; have HR := Lib.hid (And.intro hr5 (And.intro hr6 hu5)); have HK5 := Lib.hid (And.intro hd5 hk5); clear hr5 hr6 hu5 hd5 hk5))
  obtain ⟨k5, hk5⟩ : ∃ k5 : Nat, r5 = (k5 : Int) := ⟨r5.toNat, by have := HR.out; omega⟩
  subst hk5
  go_loopg [2] (k5 + 1) (fun kq v2 w' => ∃ (k : Nat) (bl : List Int) (u : Nat) (ov' : Value), kq = k + 1 ∧ v2 = .int .i64 (k : Int) ∧ Hid (k ≤ 3 ∧ bl.length + k ≤ 3 ∧ ∀ b ∈ bl, isWs b = true) ∧ Hid (DS B d w' cv u ov' (out ++ bl) ∧ u + k ≤ used + 4) ∧ Hid (Bd B d w w'))
  case atStart =>
    have hr := HR.out
    have hk := HK5.out
    exact ⟨k5, [], u5, ov, rfl, rfl, Lib.hid ⟨by omega, by simp; omega, fun b h => by cases h⟩, Lib.hid ⟨⟨hk.1, by simpa using own_kb HD.out.row hk.2 HD.out.low, HD.out.code.kb (fun k h hkd => hk.2.block k (by have := HD.out.size; omega) hkd), HD.out.low, Nat.le_trans HD.out.size hk.2.size⟩, by omega⟩, Lib.hid ⟨hk.2.os, hk.2.tape, hk.2.output, hk.2.size, fun k h hkd => hk.2.block k (by have := HD.out.size; omega) hkd⟩⟩
  case round =>
    obtain ⟨k, bl, u, ov', rfl, rfl, HK, HDS, HBD⟩ := hrel
    cases k with
    | zero =>
      go_wp2
      refine Go.Great.bodyPost_end0 rfl rfl ?_
      exact ⟨bl, u, ov', rfl, HK.out.2.2, by have := HK.out; omega, by have := HDS.out.2; omega, HDS.out.1, HBD.out⟩
    | succ k =>
      obtain ⟨AO, nO, cO, rfl⟩ := row_form HDS.out.1.row
      have HPK := Lib.hid (fun m h1 h4 => pick_ok (w := wr.drew) HDS.out.1.at_ (HDS.out.1.code.kb (fun _ _ _ => rfl)) (by have := HDS.out.2; have := HU.out; have := HK.out; omega) m h1 h4)
      have HLN := Lib.hid (show (out ++ bl).length ≤ 1000000010 from by rw [List.length_append]; have := HU.out; have := HK.out; omega)
      have hd1 : decide ((0 : Int) < ((k + 1 : Nat) : Int)) = true := decide_eq_true (by omega)
      have hd2 : decide (0 < k + 1) = true := decide_eq_true (by omega)
      have hw1 : wrap64 (((k + 1 : Nat) : Int) - 1) = (k : Int) := by have := HK.out; unfold wrap64; omega
      have hw2 : wrap64 (k : Int) = (k : Int) := by have := HK.out; unfold wrap64; omega
      have c2 : wr.cell? ⟨d, 2, none⟩ = some (.slice AO nO cO) := blk_cell HDS.out.1.at_ 2
      go_wp2
      refine start_ (n := 13) (S := fun w' => w'.cell? ⟨d, 2, none⟩ = some (.slice AO nO cO)) (ds := [12]) #[false, false, false, false, false, false, false, false, false, false, false, false, false] (by kernel_rfl) rfl rfl c2 (fun hHeld => ?_); refine with_tabW Bl3_tab Bl3_bits (fun HT_ HW_ => ?_)
      refine pure_ (i := 0) (N := some 9) (v := ?_) (a' := ?_) #[true, false, false, false, false, false, false, false, false, false, false, false, false] rfl rfl (any_of HT_.out (by kernel_rfl)) (fun _ _ _ h => h) (Or.inl ⟨by rfl, ?_⟩) ?_ ?_
      rotate_left
      · intro w'
        go_simp
        with_reducible rfl
      rotate_left
      · simp only [Act.put, List.setIfInBounds_toArray, List.set_cons_zero, List.set_cons_succ, i64_w, i32_w]
        rfl
      refine pure_ (i := 1) (N := some 10) (v := ?_) (a' := ?_) #[true, true, false, false, false, false, false, false, false, false, false, false, false] rfl rfl (any_of HT_.out (by kernel_rfl)) (fun _ _ _ h => h) (Or.inl ⟨by rfl, ?_⟩) ?_ ?_
      rotate_left
      · intro w'
        go_simp
        with_reducible rfl
      rotate_left
      · simp only [Act.put, List.setIfInBounds_toArray, List.set_cons_zero, List.set_cons_succ, i64_w, i32_w]
        rfl
      refine pure_ (i := 2) (N := some 11) (v := ?_) (a' := ?_) #[true, true, true, false, false, false, false, false, false, false, false, false, false] rfl rfl (any_of HT_.out (by kernel_rfl)) (fun _ _ _ h => h) (Or.inl ⟨by rfl, ?_⟩) ?_ ?_
      rotate_left
      · intro w'
        go_simp
        with_reducible rfl
      rotate_left
      · simp only [Act.put, List.setIfInBounds_toArray, List.set_cons_zero, List.set_cons_succ, i64_w, i32_w]
        rfl
      refine pure_ (i := 3) (N := some 12) (v := ?_) (a' := ?_) #[true, true, true, true, false, false, false, false, false, false, false, false, false] rfl rfl (any_of HT_.out (by kernel_rfl)) (fun _ _ _ h => h) (Or.inl ⟨by rfl, ?_⟩) ?_ ?_
      rotate_left
      · intro w'
        go_simp
        with_reducible rfl
      rotate_left
      · simp only [Act.put, List.setIfInBounds_toArray, List.set_cons_zero, List.set_cons_succ, i64_w, i32_w]
        rfl
      refine take_ (i := 4) (N := some 13) (v := ?_) (a' := ?_) #[true, true, true, true, true, false, false, false, false, false, false, false, false] rfl rfl (take_ofW HT_.out HW_.out (by kernel_rfl)) (fun _ _ _ h => h) (Or.inl ⟨by rfl, ?_⟩) hHeld ?_ ?_
      rotate_left
      · rintro w' s0
        go_simp
        with_reducible rfl
      rotate_left
      · simp only [Act.put, List.setIfInBounds_toArray, List.set_cons_zero, List.set_cons_succ, i64_w, i32_w]
        rfl
      refine pure_ (i := 5) (N := some 14) (v := ?_) (a' := ?_) #[true, true, true, true, true, true, false, false, false, false, false, false, false] rfl rfl (any_of HT_.out (by kernel_rfl)) (fun _ _ _ h => h) (Or.inl ⟨by rfl, ?_⟩) ?_ ?_
      rotate_left
      · intro w'
        go_simp
        with_reducible rfl
      rotate_left
      · simp only [Act.put, List.setIfInBounds_toArray, List.set_cons_zero, List.set_cons_succ, i64_w, i32_w]
        rfl
      refine one_ (i := 6) (N := some 15) #[true, true, true, true, true, true, true, false, false, false, false, false, false] rfl rfl (one_of HT_.out (by kernel_rfl)) (by decide) (fun K hK => ?_)
      refine goes_ Tryd.func18 (by kernel_rfl) rfl #[.pointer (some ⟨d, 0, none⟩), .int .i64 4] (by rfl) rfl rfl (by (try simp only [List.map_toArray, List.map_cons, List.map_nil]); first | done | rfl) ?_
      refine (HPK.out 4 (by omega) (by omega)).mono ?_
      rintro e w5 ⟨r5, u5, rfl, hr5, hr6, hu5, hd5, hk5⟩
      have hk5w : Kb d wr w5 := ⟨hk5.os, hk5.tape, hk5.output, hk5.size, hk5.block⟩
      have HK5 := Lib.hid (And.intro hd5 (And.intro hk5w hu5))
      have hr4 : r5 = 0 ∨ r5 = 1 ∨ r5 = 2 ∨ r5 = 3 := by omega
      have c25 := blk_cell hd5 2
      have f25 := blk_frozen hd5 2
      clear hr5 hr6 hd5 hk5 hk5w hu5
      refine ⟨_, rfl, ?_⟩
      refine hK.out _ _ c25 (fun hHeld => ?_)
      clear hK K
      refine norm_ (a' := ?_) ?_ ?_
      rotate_left
      · show Act.put _ (some 15) _ = _
        simp only [Act.put, List.setIfInBounds_toArray, List.set_cons_zero, List.set_cons_succ, i64_w, i32_w]
        rfl
      rcases hr4 with rfl | rfl | rfl | rfl
      · -- 0
        refine pure_ (i := 7) (N := some 16) (v := ?_) (a' := ?_) #[true, true, true, true, true, true, true, true, false, false, false, false, false] rfl rfl (any_of HT_.out (by kernel_rfl)) (fun _ _ _ h => h) (Or.inl ⟨by rfl, ?_⟩) ?_ ?_
        rotate_left
        · intro w'
          go_simp
          with_reducible rfl
        rotate_left
        · simp only [Act.put, List.setIfInBounds_toArray, List.set_cons_zero, List.set_cons_succ, i64_w, i32_w]
          rfl
        refine one_ (i := 8) (N := some 17) #[true, true, true, true, true, true, true, true, true, false, false, false, false] rfl rfl (one_of HT_.out (by kernel_rfl)) (by decide) (fun K hK => ?_)
        refine value_ (w1 := ?_) (v := ?_) (by rfl) rfl ?_ ?_
        rotate_left 2
        · go_simp
          constructor
          · rfl
          · rfl
        refine hK.out _ _ ((World.cell?_alloc_lt _ _ _ (World.block_lt_of_cell? _ _ c25)).trans c25) (fun hHeld => ?_)
        clear hK K
        refine norm_ (a' := ?_) ?_ ?_
        rotate_left
        · show Act.put _ (some 17) _ = _
          simp only [Act.put, List.setIfInBounds_toArray, List.set_cons_zero, List.set_cons_succ, i64_w, i32_w]
          rfl
        refine one_ (i := 9) (N := some 18) #[true, true, true, true, true, true, true, true, true, true, false, false, false] rfl rfl (one_of HT_.out (by kernel_rfl)) (by decide) (fun K hK => ?_)
        refine append_cells_step B rfl (.tmp 13) (.tmp 17) 22 5 (.int .u8 0) 1 1 rfl Tryd.underlying22 infoB8 rfl (by omega) (by omega) (.slice AO nO cO) (out ++ bl).length (nums .u8 (out ++ bl)) [.int .u8 32] rfl rfl rfl (by simp [Value.oneCell']) (own_kb HDS.out.1.row HK5.out.2.1 HDS.out.1.low) (Nat.le_trans HDS.out.1.size HK5.out.2.1.size) (by have := HLN.out; omega) ?_
        intro v6 w6 row6 gr6 hat6
        obtain ⟨A6, n6, c6, rfl⟩ := row_form row6
        have HG6 := Lib.hid (And.intro row6 gr6)
        have hd6 := (gr6.block d (blk_lt HK5.out.1) (fun e => by have h1 := (HDS.out.1.row.lt d e.symm).1; have h2 := HDS.out.1.low; omega)).trans HK5.out.1
        have c26 := blk_cell hd6 2
        have f26 := blk_frozen hd6 2
        refine hK.out _ _ c26 (fun hHeld => ?_)
        clear hK K
        refine norm_ (a' := ?_) ?_ ?_
        rotate_left
        · show Act.put _ (some 18) _ = _
          simp only [Act.put, List.setIfInBounds_toArray, List.set_cons_zero, List.set_cons_succ, i64_w, i32_w]
          rfl
        refine pure_ (i := 10) (N := some 19) (v := ?_) (a' := ?_) #[true, true, true, true, true, true, true, true, true, true, true, false, false] rfl rfl (any_of HT_.out (by kernel_rfl)) (fun _ _ _ h => h) (Or.inl ⟨by rfl, ?_⟩) ?_ ?_
        rotate_left
        · intro w'
          go_simp
          with_reducible rfl
        rotate_left
        · simp only [Act.put, List.setIfInBounds_toArray, List.set_cons_zero, List.set_cons_succ, i64_w, i32_w]
          rfl
        refine pure_ (i := 11) (N := some 20) (v := ?_) (a' := ?_) #[true, true, true, true, true, true, true, true, true, true, true, true, false] rfl rfl (any_of HT_.out (by kernel_rfl)) (fun _ _ _ h => h) (Or.inl ⟨by rfl, ?_⟩) ?_ ?_
        rotate_left
        · intro w'
          go_simp
          with_reducible rfl
        rotate_left
        · simp only [Act.put, List.setIfInBounds_toArray, List.set_cons_zero, List.set_cons_succ, i64_w, i32_w]
          rfl
        refine last_ (i := 12) (N := none) #[true, true, true, true, true, true, true, true, true, true, true, true, true] rfl rfl (one_of HT_.out (by kernel_rfl)) (by decide) (fun K hK => ?_)
        refine skip_ (w1 := ?_) (by rfl) rfl ?_ ?_
        rotate_left
        · go_simp
          rfl
        refine hK.out _ _ ?_
        clear hK K
        refine done_ (done_of HT_.out (by kernel_rfl)) ?_
        try go_wp2
        go_roundg (k + 1)
        case measure => omega
        case rel =>
          have hk5 := HK5.out
          have hds := HDS.out
          have hhk := HK.out
          refine ⟨k, bl ++ [32], u5, .slice A6 n6 c6, rfl, by first | rfl | rw [hw2], Lib.hid ⟨by omega, by simp; omega, fun b hb => (by rcases List.mem_append.mp hb with h | h; exact hhk.2.2 b h; simp only [List.mem_singleton] at h; subst h; decide)⟩, Lib.hid ⟨⟨blk_put hd6 2 _ rfl, ?_, ?_, hds.1.low, ?_⟩, by omega⟩, Lib.hid ?_⟩
          · have h := ownsRow_setCell_below HG6.out.1 (a := ⟨d, 2, none⟩) hds.1.low (.slice A6 n6 c6)
            simpa [nums, Nat.add_assoc] using h
          · refine hds.1.code.kb (fun k hk hkd => ?_)
            exact ((Below.heap_setCell _ _ _ _ hkd).trans (HG6.out.2.block k (by have := hds.1.size; have := hk5.2.1.size; omega) (fun e => by have := (hds.1.row.lt k e.symm).1; omega))).trans (hk5.2.1.block k (by have := hds.1.size; omega) hkd)
          · have h1 := hds.1.size; have h2 := hk5.2.1.size; have h3 := HG6.out.2.size
            simp only [World.setCell, Array.size_modify]
            omega
          · exact HBD.out.trans (Bd.step hds.1.low hds.1.size hk5.2.1 hds.1.row HG6.out.2 _)
      · -- 1
        refine pure_ (i := 7) (N := some 16) (v := ?_) (a' := ?_) #[true, true, true, true, true, true, true, true, false, false, false, false, false] rfl rfl (any_of HT_.out (by kernel_rfl)) (fun _ _ _ h => h) (Or.inl ⟨by rfl, ?_⟩) ?_ ?_
        rotate_left
        · intro w'
          go_simp
          with_reducible rfl
        rotate_left
        · simp only [Act.put, List.setIfInBounds_toArray, List.set_cons_zero, List.set_cons_succ, i64_w, i32_w]
          rfl
        refine one_ (i := 8) (N := some 17) #[true, true, true, true, true, true, true, true, true, false, false, false, false] rfl rfl (one_of HT_.out (by kernel_rfl)) (by decide) (fun K hK => ?_)
        refine value_ (w1 := ?_) (v := ?_) (by rfl) rfl ?_ ?_
        rotate_left 2
        · go_simp
          constructor
          · rfl
          · rfl
        refine hK.out _ _ ((World.cell?_alloc_lt _ _ _ (World.block_lt_of_cell? _ _ c25)).trans c25) (fun hHeld => ?_)
        clear hK K
        refine norm_ (a' := ?_) ?_ ?_
        rotate_left
        · show Act.put _ (some 17) _ = _
          simp only [Act.put, List.setIfInBounds_toArray, List.set_cons_zero, List.set_cons_succ, i64_w, i32_w]
          rfl
        refine one_ (i := 9) (N := some 18) #[true, true, true, true, true, true, true, true, true, true, false, false, false] rfl rfl (one_of HT_.out (by kernel_rfl)) (by decide) (fun K hK => ?_)
        refine append_cells_step B rfl (.tmp 13) (.tmp 17) 22 5 (.int .u8 0) 1 1 rfl Tryd.underlying22 infoB8 rfl (by omega) (by omega) (.slice AO nO cO) (out ++ bl).length (nums .u8 (out ++ bl)) [.int .u8 10] rfl rfl rfl (by simp [Value.oneCell']) (own_kb HDS.out.1.row HK5.out.2.1 HDS.out.1.low) (Nat.le_trans HDS.out.1.size HK5.out.2.1.size) (by have := HLN.out; omega) ?_
        intro v6 w6 row6 gr6 hat6
        obtain ⟨A6, n6, c6, rfl⟩ := row_form row6
        have HG6 := Lib.hid (And.intro row6 gr6)
        have hd6 := (gr6.block d (blk_lt HK5.out.1) (fun e => by have h1 := (HDS.out.1.row.lt d e.symm).1; have h2 := HDS.out.1.low; omega)).trans HK5.out.1
        have c26 := blk_cell hd6 2
        have f26 := blk_frozen hd6 2
        refine hK.out _ _ c26 (fun hHeld => ?_)
        clear hK K
        refine norm_ (a' := ?_) ?_ ?_
        rotate_left
        · show Act.put _ (some 18) _ = _
          simp only [Act.put, List.setIfInBounds_toArray, List.set_cons_zero, List.set_cons_succ, i64_w, i32_w]
          rfl
        refine pure_ (i := 10) (N := some 19) (v := ?_) (a' := ?_) #[true, true, true, true, true, true, true, true, true, true, true, false, false] rfl rfl (any_of HT_.out (by kernel_rfl)) (fun _ _ _ h => h) (Or.inl ⟨by rfl, ?_⟩) ?_ ?_
        rotate_left
        · intro w'
          go_simp
          with_reducible rfl
        rotate_left
        · simp only [Act.put, List.setIfInBounds_toArray, List.set_cons_zero, List.set_cons_succ, i64_w, i32_w]
          rfl
        refine pure_ (i := 11) (N := some 20) (v := ?_) (a' := ?_) #[true, true, true, true, true, true, true, true, true, true, true, true, false] rfl rfl (any_of HT_.out (by kernel_rfl)) (fun _ _ _ h => h) (Or.inl ⟨by rfl, ?_⟩) ?_ ?_
        rotate_left
        · intro w'
          go_simp
          with_reducible rfl
        rotate_left
        · simp only [Act.put, List.setIfInBounds_toArray, List.set_cons_zero, List.set_cons_succ, i64_w, i32_w]
          rfl
        refine last_ (i := 12) (N := none) #[true, true, true, true, true, true, true, true, true, true, true, true, true] rfl rfl (one_of HT_.out (by kernel_rfl)) (by decide) (fun K hK => ?_)
        refine skip_ (w1 := ?_) (by rfl) rfl ?_ ?_
        rotate_left
        · go_simp
          rfl
        refine hK.out _ _ ?_
        clear hK K
        refine done_ (done_of HT_.out (by kernel_rfl)) ?_
        try go_wp2
        go_roundg (k + 1)
        case measure => omega
        case rel =>
          have hk5 := HK5.out
          have hds := HDS.out
          have hhk := HK.out
          refine ⟨k, bl ++ [10], u5, .slice A6 n6 c6, rfl, by first | rfl | rw [hw2], Lib.hid ⟨by omega, by simp; omega, fun b hb => (by rcases List.mem_append.mp hb with h | h; exact hhk.2.2 b h; simp only [List.mem_singleton] at h; subst h; decide)⟩, Lib.hid ⟨⟨blk_put hd6 2 _ rfl, ?_, ?_, hds.1.low, ?_⟩, by omega⟩, Lib.hid ?_⟩
          · have h := ownsRow_setCell_below HG6.out.1 (a := ⟨d, 2, none⟩) hds.1.low (.slice A6 n6 c6)
            simpa [nums, Nat.add_assoc] using h
          · refine hds.1.code.kb (fun k hk hkd => ?_)
            exact ((Below.heap_setCell _ _ _ _ hkd).trans (HG6.out.2.block k (by have := hds.1.size; have := hk5.2.1.size; omega) (fun e => by have := (hds.1.row.lt k e.symm).1; omega))).trans (hk5.2.1.block k (by have := hds.1.size; omega) hkd)
          · have h1 := hds.1.size; have h2 := hk5.2.1.size; have h3 := HG6.out.2.size
            simp only [World.setCell, Array.size_modify]
            omega
          · exact HBD.out.trans (Bd.step hds.1.low hds.1.size hk5.2.1 hds.1.row HG6.out.2 _)
      · -- 2
        refine pure_ (i := 7) (N := some 16) (v := ?_) (a' := ?_) #[true, true, true, true, true, true, true, true, false, false, false, false, false] rfl rfl (any_of HT_.out (by kernel_rfl)) (fun _ _ _ h => h) (Or.inl ⟨by rfl, ?_⟩) ?_ ?_
        rotate_left
        · intro w'
          go_simp
          with_reducible rfl
        rotate_left
        · simp only [Act.put, List.setIfInBounds_toArray, List.set_cons_zero, List.set_cons_succ, i64_w, i32_w]
          rfl
        refine one_ (i := 8) (N := some 17) #[true, true, true, true, true, true, true, true, true, false, false, false, false] rfl rfl (one_of HT_.out (by kernel_rfl)) (by decide) (fun K hK => ?_)
        refine value_ (w1 := ?_) (v := ?_) (by rfl) rfl ?_ ?_
        rotate_left 2
        · go_simp
          constructor
          · rfl
          · rfl
        refine hK.out _ _ ((World.cell?_alloc_lt _ _ _ (World.block_lt_of_cell? _ _ c25)).trans c25) (fun hHeld => ?_)
        clear hK K
        refine norm_ (a' := ?_) ?_ ?_
        rotate_left
        · show Act.put _ (some 17) _ = _
          simp only [Act.put, List.setIfInBounds_toArray, List.set_cons_zero, List.set_cons_succ, i64_w, i32_w]
          rfl
        refine one_ (i := 9) (N := some 18) #[true, true, true, true, true, true, true, true, true, true, false, false, false] rfl rfl (one_of HT_.out (by kernel_rfl)) (by decide) (fun K hK => ?_)
        refine append_cells_step B rfl (.tmp 13) (.tmp 17) 22 5 (.int .u8 0) 1 1 rfl Tryd.underlying22 infoB8 rfl (by omega) (by omega) (.slice AO nO cO) (out ++ bl).length (nums .u8 (out ++ bl)) [.int .u8 9] rfl rfl rfl (by simp [Value.oneCell']) (own_kb HDS.out.1.row HK5.out.2.1 HDS.out.1.low) (Nat.le_trans HDS.out.1.size HK5.out.2.1.size) (by have := HLN.out; omega) ?_
        intro v6 w6 row6 gr6 hat6
        obtain ⟨A6, n6, c6, rfl⟩ := row_form row6
        have HG6 := Lib.hid (And.intro row6 gr6)
        have hd6 := (gr6.block d (blk_lt HK5.out.1) (fun e => by have h1 := (HDS.out.1.row.lt d e.symm).1; have h2 := HDS.out.1.low; omega)).trans HK5.out.1
        have c26 := blk_cell hd6 2
        have f26 := blk_frozen hd6 2
        refine hK.out _ _ c26 (fun hHeld => ?_)
        clear hK K
        refine norm_ (a' := ?_) ?_ ?_
        rotate_left
        · show Act.put _ (some 18) _ = _
          simp only [Act.put, List.setIfInBounds_toArray, List.set_cons_zero, List.set_cons_succ, i64_w, i32_w]
          rfl
        refine pure_ (i := 10) (N := some 19) (v := ?_) (a' := ?_) #[true, true, true, true, true, true, true, true, true, true, true, false, false] rfl rfl (any_of HT_.out (by kernel_rfl)) (fun _ _ _ h => h) (Or.inl ⟨by rfl, ?_⟩) ?_ ?_
        rotate_left
        · intro w'
          go_simp
          with_reducible rfl
        rotate_left
        · simp only [Act.put, List.setIfInBounds_toArray, List.set_cons_zero, List.set_cons_succ, i64_w, i32_w]
          rfl
        refine pure_ (i := 11) (N := some 20) (v := ?_) (a' := ?_) #[true, true, true, true, true, true, true, true, true, true, true, true, false] rfl rfl (any_of HT_.out (by kernel_rfl)) (fun _ _ _ h => h) (Or.inl ⟨by rfl, ?_⟩) ?_ ?_
        rotate_left
        · intro w'
          go_simp
          with_reducible rfl
        rotate_left
        · simp only [Act.put, List.setIfInBounds_toArray, List.set_cons_zero, List.set_cons_succ, i64_w, i32_w]
          rfl
        refine last_ (i := 12) (N := none) #[true, true, true, true, true, true, true, true, true, true, true, true, true] rfl rfl (one_of HT_.out (by kernel_rfl)) (by decide) (fun K hK => ?_)
        refine skip_ (w1 := ?_) (by rfl) rfl ?_ ?_
        rotate_left
        · go_simp
          rfl
        refine hK.out _ _ ?_
        clear hK K
        refine done_ (done_of HT_.out (by kernel_rfl)) ?_
        try go_wp2
        go_roundg (k + 1)
        case measure => omega
        case rel =>
          have hk5 := HK5.out
          have hds := HDS.out
          have hhk := HK.out
          refine ⟨k, bl ++ [9], u5, .slice A6 n6 c6, rfl, by first | rfl | rw [hw2], Lib.hid ⟨by omega, by simp; omega, fun b hb => (by rcases List.mem_append.mp hb with h | h; exact hhk.2.2 b h; simp only [List.mem_singleton] at h; subst h; decide)⟩, Lib.hid ⟨⟨blk_put hd6 2 _ rfl, ?_, ?_, hds.1.low, ?_⟩, by omega⟩, Lib.hid ?_⟩
          · have h := ownsRow_setCell_below HG6.out.1 (a := ⟨d, 2, none⟩) hds.1.low (.slice A6 n6 c6)
            simpa [nums, Nat.add_assoc] using h
          · refine hds.1.code.kb (fun k hk hkd => ?_)
            exact ((Below.heap_setCell _ _ _ _ hkd).trans (HG6.out.2.block k (by have := hds.1.size; have := hk5.2.1.size; omega) (fun e => by have := (hds.1.row.lt k e.symm).1; omega))).trans (hk5.2.1.block k (by have := hds.1.size; omega) hkd)
          · have h1 := hds.1.size; have h2 := hk5.2.1.size; have h3 := HG6.out.2.size
            simp only [World.setCell, Array.size_modify]
            omega
          · exact HBD.out.trans (Bd.step hds.1.low hds.1.size hk5.2.1 hds.1.row HG6.out.2 _)
      · -- 3
        refine pure_ (i := 7) (N := some 16) (v := ?_) (a' := ?_) #[true, true, true, true, true, true, true, true, false, false, false, false, false] rfl rfl (any_of HT_.out (by kernel_rfl)) (fun _ _ _ h => h) (Or.inl ⟨by rfl, ?_⟩) ?_ ?_
        rotate_left
        · intro w'
          go_simp
          with_reducible rfl
        rotate_left
        · simp only [Act.put, List.setIfInBounds_toArray, List.set_cons_zero, List.set_cons_succ, i64_w, i32_w]
          rfl
        refine one_ (i := 8) (N := some 17) #[true, true, true, true, true, true, true, true, true, false, false, false, false] rfl rfl (one_of HT_.out (by kernel_rfl)) (by decide) (fun K hK => ?_)
        refine value_ (w1 := ?_) (v := ?_) (by rfl) rfl ?_ ?_
        rotate_left 2
        · go_simp
          constructor
          · rfl
          · rfl
        refine hK.out _ _ ((World.cell?_alloc_lt _ _ _ (World.block_lt_of_cell? _ _ c25)).trans c25) (fun hHeld => ?_)
        clear hK K
        refine norm_ (a' := ?_) ?_ ?_
        rotate_left
        · show Act.put _ (some 17) _ = _
          simp only [Act.put, List.setIfInBounds_toArray, List.set_cons_zero, List.set_cons_succ, i64_w, i32_w]
          rfl
        refine one_ (i := 9) (N := some 18) #[true, true, true, true, true, true, true, true, true, true, false, false, false] rfl rfl (one_of HT_.out (by kernel_rfl)) (by decide) (fun K hK => ?_)
        refine append_cells_step B rfl (.tmp 13) (.tmp 17) 22 5 (.int .u8 0) 1 1 rfl Tryd.underlying22 infoB8 rfl (by omega) (by omega) (.slice AO nO cO) (out ++ bl).length (nums .u8 (out ++ bl)) [.int .u8 13] rfl rfl rfl (by simp [Value.oneCell']) (own_kb HDS.out.1.row HK5.out.2.1 HDS.out.1.low) (Nat.le_trans HDS.out.1.size HK5.out.2.1.size) (by have := HLN.out; omega) ?_
        intro v6 w6 row6 gr6 hat6
        obtain ⟨A6, n6, c6, rfl⟩ := row_form row6
        have HG6 := Lib.hid (And.intro row6 gr6)
        have hd6 := (gr6.block d (blk_lt HK5.out.1) (fun e => by have h1 := (HDS.out.1.row.lt d e.symm).1; have h2 := HDS.out.1.low; omega)).trans HK5.out.1
        have c26 := blk_cell hd6 2
        have f26 := blk_frozen hd6 2
        refine hK.out _ _ c26 (fun hHeld => ?_)
        clear hK K
        refine norm_ (a' := ?_) ?_ ?_
        rotate_left
        · show Act.put _ (some 18) _ = _
          simp only [Act.put, List.setIfInBounds_toArray, List.set_cons_zero, List.set_cons_succ, i64_w, i32_w]
          rfl
        refine pure_ (i := 10) (N := some 19) (v := ?_) (a' := ?_) #[true, true, true, true, true, true, true, true, true, true, true, false, false] rfl rfl (any_of HT_.out (by kernel_rfl)) (fun _ _ _ h => h) (Or.inl ⟨by rfl, ?_⟩) ?_ ?_
        rotate_left
        · intro w'
          go_simp
          with_reducible rfl
        rotate_left
        · simp only [Act.put, List.setIfInBounds_toArray, List.set_cons_zero, List.set_cons_succ, i64_w, i32_w]
          rfl
        refine pure_ (i := 11) (N := some 20) (v := ?_) (a' := ?_) #[true, true, true, true, true, true, true, true, true, true, true, true, false] rfl rfl (any_of HT_.out (by kernel_rfl)) (fun _ _ _ h => h) (Or.inl ⟨by rfl, ?_⟩) ?_ ?_
        rotate_left
        · intro w'
          go_simp
          with_reducible rfl
        rotate_left
        · simp only [Act.put, List.setIfInBounds_toArray, List.set_cons_zero, List.set_cons_succ, i64_w, i32_w]
          rfl
        refine last_ (i := 12) (N := none) #[true, true, true, true, true, true, true, true, true, true, true, true, true] rfl rfl (one_of HT_.out (by kernel_rfl)) (by decide) (fun K hK => ?_)
        refine skip_ (w1 := ?_) (by rfl) rfl ?_ ?_
        rotate_left
        · go_simp
          rfl
        refine hK.out _ _ ?_
        clear hK K
        refine done_ (done_of HT_.out (by kernel_rfl)) ?_
        try go_wp2
        go_roundg (k + 1)
        case measure => omega
        case rel =>
          have hk5 := HK5.out
          have hds := HDS.out
          have hhk := HK.out
          refine ⟨k, bl ++ [13], u5, .slice A6 n6 c6, rfl, by first | rfl | rw [hw2], Lib.hid ⟨by omega, by simp; omega, fun b hb => (by rcases List.mem_append.mp hb with h | h; exact hhk.2.2 b h; simp only [List.mem_singleton] at h; subst h; decide)⟩, Lib.hid ⟨⟨blk_put hd6 2 _ rfl, ?_, ?_, hds.1.low, ?_⟩, by omega⟩, Lib.hid ?_⟩
          · have h := ownsRow_setCell_below HG6.out.1 (a := ⟨d, 2, none⟩) hds.1.low (.slice A6 n6 c6)
            simpa [nums, Nat.add_assoc] using h
          · refine hds.1.code.kb (fun k hk hkd => ?_)
            exact ((Below.heap_setCell _ _ _ _ hkd).trans (HG6.out.2.block k (by have := hds.1.size; have := hk5.2.1.size; omega) (fun e => by have := (hds.1.row.lt k e.symm).1; omega))).trans (hk5.2.1.block k (by have := hds.1.size; omega) hkd)
          · have h1 := hds.1.size; have h2 := hk5.2.1.size; have h3 := HG6.out.2.size
            simp only [World.setCell, Array.size_modify]
            omega
          · exact HBD.out.trans (Bd.step hds.1.low hds.1.size hk5.2.1 hds.1.row HG6.out.2 _)


end Go.Proofs.YtkhgbacbnkgafaaDoor.Drs

/- The reference's printer of dressed texts (dresser): a character as an escape of four digits. -/
set_option linter.unusedVariables false
set_option linter.unusedSimpArgs false
namespace Go.Proofs.YtkhgbacbnkgafaaDoor.Drs
open Go Go.RowKit Go.Proofs.YtkhgbacbnkgafaaDoorW.PrintWords Go.Proofs.YtkhgbacbnkgafaaDoorW.PrintLast Go.Proofs.YtkhgbacbnkgafaaDoorW.PrintMore Go.Proofs.YtkhgbacbnkgafaaDoor.Fjh Go.Proofs.YtkhgbacbnkgafaaDoor.Spr Go.Proofs.YtkhgbacbnkgafaaDoor.JTr Go.Proofs.YtkhgbacbnkgafaaDoor.Rs Go.Proofs.YtkhgbacbnkgafaaDoor.U8
attribute [local go_sem ↓] Go.wp_at_zero Go.wp_at_succ

section
variable {P : Program} {ops : Array Oper} {rest : List Oper} {o : Oper} {a : Act} {Q : Exit → Act → World → Prop} {Kc : Act → World → Prop}
/-- append of bytes that were just built. -/
theorem app_wp {W : World} (base : Nat) (s x : Operand) (t : TypeId) (ho : o.op = .call { callee := .builtin .append, args := #[s, x], argTypes := #[t, t] })
    (ht : P.underlying t = some (.slice 5)) (hinfo : (P.info? 5).map (fun i => (i.zero, i.size, i.bytes)) = some (some (.int .u8 0), 1, 1))
    (v : Value) (xs ys : List Int) (hs : a.eval s = v) (hx : a.eval x = .slice (some ⟨W.heap.size, 0, none⟩) ys.length ys.length)
    (HO : W.ownsRow base 5 1 v xs.length (nums .u8 xs)) (hbase : base ≤ W.heap.size) (hl : xs.length + ys.length ≤ 140737488355328)
    (h : ∀ v1 w1, w1.ownsRow base 5 1 v1 (xs ++ ys).length (nums .u8 (xs ++ ys)) → W.grownBy w1 v.ownBlock → Kc (a.put o.dst v1) w1) :
    Oper.wp P o a (W.alloc (.cells (nums .u8 ys).toArray 5)) Kc Q := by
  obtain ⟨i0, hi, hzz⟩ := Option.map_eq_some_iff.1 hinfo
  simp only [Prod.mk.injEq] at hzz
  obtain ⟨hz0, hz1, hz2⟩ := hzz
  have hny : (nums .u8 ys).length = ys.length := nums_length ..
  obtain ⟨v1, w1, hr, h2, h3, h4, h5⟩ := run_append_own_at (P := P) (W.alloc (.cells (nums .u8 ys).toArray 5)) base t o.type 5 i0 (.int .u8 0) 1 1 ht hi hz0 hz1 hz2 rfl (by omega) v xs.length (nums .u8 xs) (HO.alloc _) ⟨W.heap.size, 0, none⟩ ys.length ys.length (nums .u8 ys) (by omega)
    (by simpa using World.news_of_block (cs := (nums .u8 ys).toArray) (t := 5) (fr := (0, 0)) (heap_alloc_new W (.cells (nums .u8 ys).toArray 5))) (fun u hu => by simp only [nums, List.mem_map] at hu; obtain ⟨y, _, rfl⟩ := hu; rfl) (by simp only [maxLen]; omega) (by omega) (by simp; omega)
  unfold Oper.wp execOp
  simp only [ho, resolve, invoke, builtin, Sem.run_bind, Sem.run_pure, Result.andThen_ok, List.map_toArray, List.map_cons, List.map_nil, hs, hx, hr]
  exact h _ _ (by rw [List.length_append, show nums .u8 (xs ++ ys) = nums .u8 xs ++ nums .u8 ys from by simp [nums]]; exact h2) (World.grownBy.trans (World.grownBy_alloc W _ _) h3)
theorem app_list {W : World} (base : Nat) (hgd : o.guard = none) (s x : Operand) (t : TypeId) (ho : o.op = .call { callee := .builtin .append, args := #[s, x], argTypes := #[t, t] })
    (ht : P.underlying t = some (.slice 5)) (hinfo : (P.info? 5).map (fun i => (i.zero, i.size, i.bytes)) = some (some (.int .u8 0), 1, 1))
    (v : Value) (xs ys : List Int) (hs : a.eval s = v) (hx : a.eval x = .slice (some ⟨W.heap.size, 0, none⟩) ys.length ys.length)
    (HO : W.ownsRow base 5 1 v xs.length (nums .u8 xs)) (hbase : base ≤ W.heap.size) (hl : xs.length + ys.length ≤ 140737488355328)
    (h : ∀ v1 w1, w1.ownsRow base 5 1 v1 (xs ++ ys).length (nums .u8 (xs ++ ys)) → W.grownBy w1 v.ownBlock → wpList P ops Q rest (a.put o.dst v1) w1) :
    wpList P ops Q (o :: rest) a (W.alloc (.cells (nums .u8 ys).toArray 5)) :=
  wpList_plain hgd fun K hK => app_wp base s x t ho ht hinfo v xs ys hs hx HO hbase hl (fun v1 w1 h1 h2 => hK _ _ (h v1 w1 h1 h2))
end

theorem and15 {x : Int} (h0 : 0 ≤ x) (h1 : x < 65536) : Go.bits .and .i64 x 15 = x % 16 := bits_mask .i64 16 (by decide) (fun n g0 g1 => by rw [IntKind.wrap_i64]; omega) 4 (by decide) x h0 h1
theorem digit_hd {dg : Int} (h0 : 0 ≤ dg) (h1 : dg ≤ 15) (b : Bool) : spec_digitOf.f dg b = some (hd dg b) := by
  unfold spec_digitOf.f hd
  split
  · congr 1; unfold wrap64; omega
  · cases b
    · simp only [Bool.false_eq_true, if_false]; congr 1; unfold wrap64; omega
    · simp only [if_true]; congr 1; unfold wrap64; omega

/-- The first i of the four digits. -/
def digs (n : Int) (ds : List Int) (i : Nat) : Prop := ∃ g : Nat → Bool, ds = ([hd (n / 4096 % 16) (g 0), hd (n / 256 % 16) (g 1), hd (n / 16 % 16) (g 2), hd (n % 16) (g 3)] : List Int).take i
theorem digs_more0 {n : Int} {ds : List Int} (h : digs n ds 0) (b : Bool) : digs n (ds ++ [hd (n / 4096 % 16) b]) 1 := by
  obtain ⟨g, rfl⟩ := h
  exact ⟨fun _ => b, rfl⟩
theorem digs_more1 {n : Int} {ds : List Int} (h : digs n ds 1) (b : Bool) : digs n (ds ++ [hd (n / 256 % 16) b]) 2 := by
  obtain ⟨g, rfl⟩ := h
  exact ⟨fun j => if j = 1 then b else g j, rfl⟩
theorem digs_more2 {n : Int} {ds : List Int} (h : digs n ds 2) (b : Bool) : digs n (ds ++ [hd (n / 16 % 16) b]) 3 := by
  obtain ⟨g, rfl⟩ := h
  exact ⟨fun j => if j = 2 then b else g j, rfl⟩
theorem digs_more3 {n : Int} {ds : List Int} (h : digs n ds 3) (b : Bool) : digs n (ds ++ [hd (n % 16) b]) 4 := by
  obtain ⟨g, rfl⟩ := h
  exact ⟨fun j => if j = 3 then b else g j, rfl⟩
theorem digs_all {n : Int} {ds : List Int} (h : digs n ds 4) : ∃ g, 92 :: 117 :: ds = u4 n g := by
  obtain ⟨g, rfl⟩ := h
  exact ⟨g, rfl⟩

def Un4_T : Bool × List (List Nat × List Nat) := (true, [([], []), ([], []), ([1], [1]), ([2], [2]), ([3], [3]), ([], []), ([], []), ([5, 6], [5, 6]), ([7], [7]), ([], []), ([9], [9]), ([10], [10]), ([8, 11, 10], [8, 11]), ([12], [12]), ([4, 13, 12], [4, 13]), ([0, 0, 1, 2, 3, 4, 5, 6, 7, 8, 9, 10, 11, 12, 13, 14], [0]), ([15, 0, 1, 2, 3, 4, 5, 6, 7, 8, 9, 10, 11, 12, 13, 14], [15]), ([16, 14, 14, 0, 1, 2, 3, 4, 5, 6, 7, 8, 9, 10, 11, 12, 13, 14], [14, 16])])
def Un4_B : List Nat := [0, 0, 2, 6, 14, 0, 0, 96, 224, 0, 512, 1536, 4064, 8160, 16382, 32767, 65535, 131071]
theorem Un4_tab : rtab .any (opsOf Tryd.f44 4) = Un4_T := by kernel_rfl
theorem Un4_bits : waitsOk Un4_T.2 Un4_B = true := by kernel_rfl

set_option maxRecDepth 100000 in
set_option maxHeartbeats 8000000 in
theorem unit_ok {B d used : Nat} {w : World} {cv ov : Value} {out0 : List Int} {n : Int} (hD : DS B d w cv used ov out0) (hu : used ≤ 100000000000) (hl : out0.length ≤ 1000000000) (hn : 0 ≤ n ∧ n < 65536) :
    Calls Tryd.prog 44 #[.pointer (some ⟨d, 0, none⟩), .int .i64 n] w (fun e w' => ∃ (g : Nat → Bool) (u : Nat) (ov' : Value), e = .returned (.tuple #[]) ∧ u ≤ used + 4 ∧ DS B d w' cv u ov' (out0 ++ u4 n g) ∧ Bd B d w w') := by
  obtain ⟨AQ, nQ, cQ, rfl⟩ := row_form hD.row
  have HD := Lib.hid hD
  have HU := Lib.hid (And.intro hu hl)
  have HN := Lib.hid hn
  have q2 := blk_cell hD.at_ 2
  have f2 := blk_frozen hD.at_ 2
  clear hD hu hl hn
  go_enter Tryd.func44, Tryd.ntmps44
  go_wp2_with (first
    | (at_builtin; refine app_list B rfl (.tmp 9) (.tmp 10) 22 rfl Tryd.underlying22 infoB8 (.slice AQ nQ cQ) out0 [92, 117] rfl rfl HD.out.row HD.out.size (by have := HU.out; simp; omega) ?_; intro v1 w1 row1 gr1; obtain ⟨A1, n1, c1, rfl⟩ := row_form row1; have hd1 := (gr1.block d (blk_lt HD.out.at_) (fun e => by have h1 := (HD.out.row.lt d e.symm).1; have h2 := HD.out.low; omega)).trans HD.out.at_; have q3 := blk_cell hd1 2; have f3 := blk_frozen hd1 2; have H1 := Lib.hid (And.intro row1 (And.intro gr1 hd1)); clear row1 gr1 hd1))
  obtain ⟨out, hout⟩ : ∃ out, out0 ++ [92, 117] = out := ⟨_, rfl⟩
  go_loopg [4] 5 (fun kq v4 w' => ∃ (i : Nat) (ds : List Int) (u : Nat) (ov' : Value), kq = 5 - i ∧ v4 = .int .i64 (12 - 4 * (i : Int)) ∧ Hid (i ≤ 4 ∧ digs n ds i) ∧ Hid (DS B d w' cv u ov' (out ++ ds) ∧ u ≤ used + i) ∧ Hid (Bd B d w w'))
  case atStart =>
    have h1 := H1.out
    have hD := HD.out
    refine ⟨0, [], used, .slice A1 n1 c1, rfl, rfl, Lib.hid ⟨by omega, ⟨fun _ => false, rfl⟩⟩, Lib.hid ⟨⟨blk_put h1.2.2 2 _ rfl, ?_, ?_, hD.low, ?_⟩, by omega⟩, Lib.hid ?_⟩
    · have h := ownsRow_setCell_below h1.1 (a := ⟨d, 2, none⟩) hD.low (.slice A1 n1 c1)
      rw [List.append_nil, ← hout]; exact h
    · refine hD.code.kb (fun k hk hkd => ?_)
      exact (Below.heap_setCell _ _ _ _ hkd).trans (h1.2.1.block k (by have := hD.size; omega) (fun e => by have := (hD.row.lt k e.symm).1; omega))
    · have h2 := hD.size; have h3 := h1.2.1.size
      simp only [World.setCell, Array.size_modify]
      omega
    · exact Bd.step hD.low hD.size (Kb.refl d w) hD.row h1.2.1 _
  case round =>
    obtain ⟨i, ds, u, ov', rfl, rfl, HD4, HDS, HBD⟩ := hrel
    obtain ⟨AO, nO, cO, rfl⟩ := row_form HDS.out.1.row
    have hlen : ds.length = i := by
      obtain ⟨g, hg⟩ := HD4.out.2
      have := HD4.out.1
      rw [hg, List.length_take]; simp; omega
    have HPK := Lib.hid (fun m h1 h4 => pick_ok (w := wr.drew) HDS.out.1.at_ (HDS.out.1.code.kb (fun _ _ _ => rfl)) (by have := HDS.out.2; have := HU.out; have := HD4.out; omega) m h1 h4)
    have HLN := Lib.hid (show (out ++ ds).length ≤ 1000000010 from by rw [List.length_append]; have := HU.out; have := HD4.out; simp only [← hout, List.length_append, List.length_cons, List.length_nil]; omega)
    have c2 : wr.cell? ⟨d, 2, none⟩ = some (.slice AO nO cO) := blk_cell HDS.out.1.at_ 2
    have hi4 : i = 0 ∨ i = 1 ∨ i = 2 ∨ i = 3 ∨ i = 4 := by have := HD4.out; omega
    clear hlen
    rcases hi4 with rfl | rfl | rfl | rfl | rfl
    · -- digit 0
      have HDG := Lib.hid (show 0 ≤ n / 4096 % 16 ∧ n / 4096 % 16 ≤ 15 from by have := HN.out; omega)
      have hand : Go.bits .and .i64 (n / 4096) 15 = n / 4096 % 16 := and15 (by have := HN.out; omega) (by have := HN.out; omega)
      have hd1 : decide ((0 : Int) ≤ 12 - 4 * ((0 : Nat) : Int)) = true := by decide
      go_wp2
      refine start_ (n := 18) (S := fun w' => w'.cell? ⟨d, 2, none⟩ = some (.slice AO nO cO)) (ds := [17]) #[false, false, false, false, false, false, false, false, false, false, false, false, false, false, false, false, false, false] (by kernel_rfl) rfl rfl c2 (fun hHeld => ?_); refine with_tabW Un4_tab Un4_bits (fun HT_ HW_ => ?_)
      refine pure_ (i := 0) (N := some 18) (v := ?_) (a' := ?_) #[true, false, false, false, false, false, false, false, false, false, false, false, false, false, false, false, false, false] rfl rfl (any_of HT_.out (by kernel_rfl)) (fun _ _ _ h => h) (Or.inl ⟨by rfl, ?_⟩) ?_ ?_
      rotate_left
      · intro w'
        go_simp
        with_reducible rfl
      rotate_left
      · simp only [Act.put, List.setIfInBounds_toArray, List.set_cons_zero, List.set_cons_succ, i64_w, i32_w]
        rfl
      refine pure_ (i := 1) (N := some 19) (v := ?_) (a' := ?_) #[true, true, false, false, false, false, false, false, false, false, false, false, false, false, false, false, false, false] rfl rfl (any_of HT_.out (by kernel_rfl)) (fun _ _ _ h => h) (Or.inl ⟨by rfl, ?_⟩) ?_ ?_
      rotate_left
      · intro w'
        go_simp
        with_reducible rfl
      rotate_left
      · simp only [Act.put, List.setIfInBounds_toArray, List.set_cons_zero, List.set_cons_succ, i64_w, i32_w]
        rfl
      refine pure_ (i := 2) (N := some 20) (v := ?_) (a' := ?_) #[true, true, true, false, false, false, false, false, false, false, false, false, false, false, false, false, false, false] rfl rfl (any_of HT_.out (by kernel_rfl)) (fun _ _ _ h => h) (Or.inl ⟨by rfl, ?_⟩) ?_ ?_
      rotate_left
      · intro w'
        go_simp
        with_reducible rfl
      rotate_left
      · simp only [Act.put, List.setIfInBounds_toArray, List.set_cons_zero, List.set_cons_succ, i64_w, i32_w]
        rfl
      refine pure_ (i := 3) (N := some 21) (v := ?_) (a' := ?_) #[true, true, true, true, false, false, false, false, false, false, false, false, false, false, false, false, false, false] rfl rfl (any_of HT_.out (by kernel_rfl)) (fun _ _ _ h => h) (Or.inl ⟨by rfl, ?_⟩) ?_ ?_
      rotate_left
      · intro w'
        go_simp
        with_reducible rfl
      rotate_left
      · simp only [Act.put, List.setIfInBounds_toArray, List.set_cons_zero, List.set_cons_succ, i64_w, i32_w]
        rfl
      refine take_ (i := 4) (N := some 22) (v := ?_) (a' := ?_) #[true, true, true, true, true, false, false, false, false, false, false, false, false, false, false, false, false, false] rfl rfl (take_ofW HT_.out HW_.out (by kernel_rfl)) (fun _ _ _ h => h) (Or.inl ⟨by rfl, ?_⟩) hHeld ?_ ?_
      rotate_left
      · rintro w' s0
        go_simp
        with_reducible rfl
      rotate_left
      · simp only [Act.put, List.setIfInBounds_toArray, List.set_cons_zero, List.set_cons_succ, i64_w, i32_w]
        rfl
      refine pure_ (i := 5) (N := some 23) (v := ?_) (a' := ?_) #[true, true, true, true, true, true, false, false, false, false, false, false, false, false, false, false, false, false] rfl rfl (any_of HT_.out (by kernel_rfl)) (fun _ _ _ h => h) (Or.inl ⟨by rfl, ?_⟩) ?_ ?_
      rotate_left
      · intro w'
        go_simp
        with_reducible rfl
      rotate_left
      · simp only [Act.put, List.setIfInBounds_toArray, List.set_cons_zero, List.set_cons_succ, i64_w, i32_w]
        rfl
      refine pure_ (i := 6) (N := some 24) (v := ?_) (a' := ?_) #[true, true, true, true, true, true, true, false, false, false, false, false, false, false, false, false, false, false] rfl rfl (any_of HT_.out (by kernel_rfl)) (fun _ _ _ h => h) (Or.inl ⟨by rfl, ?_⟩) ?_ ?_
      rotate_left
      · intro w'
        go_simp
        with_reducible rfl
      rotate_left
      · simp only [Act.put, List.setIfInBounds_toArray, List.set_cons_zero, List.set_cons_succ, i64_w, i32_w]
        rfl
      refine pure_ (i := 7) (N := some 25) (v := ?_) (a' := ?_) #[true, true, true, true, true, true, true, true, false, false, false, false, false, false, false, false, false, false] rfl rfl (any_of HT_.out (by kernel_rfl)) (fun _ _ _ h => h) (Or.inl ⟨by rfl, ?_⟩) ?_ ?_
      rotate_left
      · intro w'
        go_simp
        with_reducible rfl
      rotate_left
      · simp only [Act.put, List.setIfInBounds_toArray, List.set_cons_zero, List.set_cons_succ, i64_w, i32_w]
        rfl
      refine pure_ (i := 8) (N := some 26) (v := ?_) (a' := ?_) #[true, true, true, true, true, true, true, true, true, false, false, false, false, false, false, false, false, false] rfl rfl (any_of HT_.out (by kernel_rfl)) (fun _ _ _ h => h) (Or.inl ⟨by rfl, ?_⟩) ?_ ?_
      rotate_left
      · intro w'
        go_simp
        with_reducible rfl
      rotate_left
      · simp only [Act.put, List.setIfInBounds_toArray, List.set_cons_zero, List.set_cons_succ, i64_w, i32_w]
        rfl
      refine pure_ (i := 9) (N := some 27) (v := ?_) (a' := ?_) #[true, true, true, true, true, true, true, true, true, true, false, false, false, false, false, false, false, false] rfl rfl (any_of HT_.out (by kernel_rfl)) (fun _ _ _ h => h) (Or.inl ⟨by rfl, ?_⟩) ?_ ?_
      rotate_left
      · intro w'
        go_simp
        with_reducible rfl
      rotate_left
      · simp only [Act.put, List.setIfInBounds_toArray, List.set_cons_zero, List.set_cons_succ, i64_w, i32_w]
        rfl
      refine one_ (i := 10) (N := some 28) #[true, true, true, true, true, true, true, true, true, true, true, false, false, false, false, false, false, false] rfl rfl (one_of HT_.out (by kernel_rfl)) (by decide) (fun K hK => ?_)
      refine goes_ Tryd.func18 (by kernel_rfl) rfl #[.pointer (some ⟨d, 0, none⟩), .int .i64 2] (by rfl) rfl rfl (by (try simp only [List.map_toArray, List.map_cons, List.map_nil]); first | done | rfl) ?_
      refine (HPK.out 2 (by omega) (by omega)).mono ?_
      rintro e w5 ⟨r5, u5, rfl, hr5, hr6, hu5, hd5, hk5⟩
      have hk5w : Kb d wr w5 := ⟨hk5.os, hk5.tape, hk5.output, hk5.size, hk5.block⟩
      have HK5 := Lib.hid (And.intro hd5 (And.intro hk5w hu5))
      have c25 := blk_cell hd5 2
      have f25 := blk_frozen hd5 2
      clear hr5 hr6 hd5 hk5 hk5w hu5
      refine ⟨_, rfl, ?_⟩
      refine hK.out _ _ c25 (fun hHeld => ?_)
      clear hK K
      refine norm_ (a' := ?_) ?_ ?_
      rotate_left
      · show Act.put _ (some 28) _ = _
        simp only [Act.put, List.setIfInBounds_toArray, List.set_cons_zero, List.set_cons_succ, i64_w, i32_w]
        rfl
      refine pure_ (i := 11) (N := some 29) (v := ?_) (a' := ?_) #[true, true, true, true, true, true, true, true, true, true, true, true, false, false, false, false, false, false] rfl rfl (any_of HT_.out (by kernel_rfl)) (fun _ _ _ h => h) (Or.inl ⟨by rfl, ?_⟩) ?_ ?_
      rotate_left
      · intro w'
        go_simp
        with_reducible rfl
      rotate_left
      · simp only [Act.put, List.setIfInBounds_toArray, List.set_cons_zero, List.set_cons_succ, i64_w, i32_w]
        rfl
      refine one_ (i := 12) (N := some 30) #[true, true, true, true, true, true, true, true, true, true, true, true, true, false, false, false, false, false] rfl rfl (one_of HT_.out (by kernel_rfl)) (by decide) (fun K hK => ?_)
      refine goes_ Tryd.func45 (by kernel_rfl) rfl #[.int .i64 (n / 4096 % 16), .bool (r5 == 1)] (by rfl) rfl rfl (by (try simp only [List.map_toArray, List.map_cons, List.map_nil]); first | done | rfl) ?_
      refine (spec_digitOf.calls (n / 4096 % 16) (r5 == 1) (hd (n / 4096 % 16) (r5 == 1)) _ (digit_hd HDG.out.1 HDG.out.2 _)).mono ?_
      rintro e w6 ⟨rfl, ⟨nd, rfl⟩⟩
      refine ⟨_, rfl, ?_⟩
      refine hK.out _ _ c25 (fun hHeld => ?_)
      clear hK K
      refine norm_ (a' := ?_) ?_ ?_
      rotate_left
      · show Act.put _ (some 30) _ = _
        simp only [Act.put, List.setIfInBounds_toArray, List.set_cons_zero, List.set_cons_succ, i64_w, i32_w]
        rfl
      refine one_ (i := 13) (N := some 31) #[true, true, true, true, true, true, true, true, true, true, true, true, true, true, false, false, false, false] rfl rfl (one_of HT_.out (by kernel_rfl)) (by decide) (fun K hK => ?_)
      refine value_ (w1 := ?_) (v := ?_) (by rfl) rfl ?_ ?_
      rotate_left 2
      · go_simp
        constructor
        · rfl
        · rfl
      refine hK.out _ _ ((World.cell?_alloc_lt _ _ _ (World.block_lt_of_cell? _ _ c25)).trans c25) (fun hHeld => ?_)
      clear hK K
      refine norm_ (a' := ?_) ?_ ?_
      rotate_left
      · show Act.put _ (some 31) _ = _
        simp only [Act.put, List.setIfInBounds_toArray, List.set_cons_zero, List.set_cons_succ, i64_w, i32_w]
        rfl
      refine one_ (i := 14) (N := some 32) #[true, true, true, true, true, true, true, true, true, true, true, true, true, true, true, false, false, false] rfl rfl (one_of HT_.out (by kernel_rfl)) (by decide) (fun K hK => ?_)
      refine append_cells_step B rfl (.tmp 22) (.tmp 31) 22 5 (.int .u8 0) 1 1 rfl Tryd.underlying22 infoB8 rfl (by omega) (by omega) (.slice AO nO cO) (out ++ ds).length (nums .u8 (out ++ ds)) [.int .u8 (hd (n / 4096 % 16) (r5 == 1))] rfl rfl rfl (by simp [Value.oneCell']) (own_kb (w' := World.drewN w5 nd) HDS.out.1.row ⟨HK5.out.2.1.os, HK5.out.2.1.tape, HK5.out.2.1.output, HK5.out.2.1.size, HK5.out.2.1.block⟩ HDS.out.1.low) (Nat.le_trans HDS.out.1.size HK5.out.2.1.size) (by have := HLN.out; omega) ?_
      intro v6 w6 row6 gr6 hat6
      obtain ⟨A6, n6, c6, rfl⟩ := row_form row6
      have HG6 := Lib.hid (And.intro row6 (show w5.grownBy w6 (Value.slice AO nO cO).ownBlock from ⟨gr6.os, gr6.tape, gr6.output, gr6.size, gr6.block⟩))
      have hd6 := (gr6.block d (blk_lt HK5.out.1) (fun e => by have h1 := (HDS.out.1.row.lt d e.symm).1; have h2 := HDS.out.1.low; omega)).trans HK5.out.1
      have c26 := blk_cell hd6 2
      have f26 := blk_frozen hd6 2
      refine hK.out _ _ c26 (fun hHeld => ?_)
      clear hK K
      refine norm_ (a' := ?_) ?_ ?_
      rotate_left
      · show Act.put _ (some 32) _ = _
        simp only [Act.put, List.setIfInBounds_toArray, List.set_cons_zero, List.set_cons_succ, i64_w, i32_w]
        rfl
      refine pure_ (i := 15) (N := some 33) (v := ?_) (a' := ?_) #[true, true, true, true, true, true, true, true, true, true, true, true, true, true, true, true, false, false] rfl rfl (any_of HT_.out (by kernel_rfl)) (fun _ _ _ h => h) (Or.inl ⟨by rfl, ?_⟩) ?_ ?_
      rotate_left
      · intro w'
        go_simp
        with_reducible rfl
      rotate_left
      · simp only [Act.put, List.setIfInBounds_toArray, List.set_cons_zero, List.set_cons_succ, i64_w, i32_w]
        rfl
      refine pure_ (i := 16) (N := some 34) (v := ?_) (a' := ?_) #[true, true, true, true, true, true, true, true, true, true, true, true, true, true, true, true, true, false] rfl rfl (any_of HT_.out (by kernel_rfl)) (fun _ _ _ h => h) (Or.inl ⟨by rfl, ?_⟩) ?_ ?_
      rotate_left
      · intro w'
        go_simp
        with_reducible rfl
      rotate_left
      · simp only [Act.put, List.setIfInBounds_toArray, List.set_cons_zero, List.set_cons_succ, i64_w, i32_w]
        rfl
      refine last_ (i := 17) (N := none) #[true, true, true, true, true, true, true, true, true, true, true, true, true, true, true, true, true, true] rfl rfl (one_of HT_.out (by kernel_rfl)) (by decide) (fun K hK => ?_)
      refine skip_ (w1 := ?_) (by rfl) rfl ?_ ?_
      rotate_left
      · go_simp
        rfl
      refine hK.out _ _ ?_
      clear hK K
      refine done_ (done_of HT_.out (by kernel_rfl)) ?_
      try go_wp2
      go_roundg (4)
      case measure => decide
      case rel =>
        have hk5 := HK5.out
        have hds := HDS.out
        refine ⟨1, ds ++ [hd (n / 4096 % 16) (r5 == 1)], u5, .slice A6 n6 c6, rfl, by first | rfl | (simp; done), Lib.hid ⟨by omega, digs_more0 HD4.out.2 _⟩, Lib.hid ⟨⟨blk_put hd6 2 _ rfl, ?_, ?_, hds.1.low, ?_⟩, by omega⟩, Lib.hid ?_⟩
        · have h := ownsRow_setCell_below HG6.out.1 (a := ⟨d, 2, none⟩) hds.1.low (.slice A6 n6 c6)
          simpa [nums, Nat.add_assoc] using h
        · refine hds.1.code.kb (fun k hk hkd => ?_)
          exact ((Below.heap_setCell _ _ _ _ hkd).trans (HG6.out.2.block k (by have := hds.1.size; have := hk5.2.1.size; omega) (fun e => by have := (hds.1.row.lt k e.symm).1; omega))).trans (hk5.2.1.block k (by have := hds.1.size; omega) hkd)
        · have h1 := hds.1.size; have h2 := hk5.2.1.size; have h3 := HG6.out.2.size
          simp only [World.setCell, Array.size_modify]
          omega
        · exact HBD.out.trans (Bd.step hds.1.low hds.1.size hk5.2.1 hds.1.row HG6.out.2 _)
    · -- digit 1
      have HDG := Lib.hid (show 0 ≤ n / 256 % 16 ∧ n / 256 % 16 ≤ 15 from by have := HN.out; omega)
      have hand : Go.bits .and .i64 (n / 256) 15 = n / 256 % 16 := and15 (by have := HN.out; omega) (by have := HN.out; omega)
      have hd1 : decide ((0 : Int) ≤ 12 - 4 * ((1 : Nat) : Int)) = true := by decide
      go_wp2
      refine start_ (n := 18) (S := fun w' => w'.cell? ⟨d, 2, none⟩ = some (.slice AO nO cO)) (ds := [17]) #[false, false, false, false, false, false, false, false, false, false, false, false, false, false, false, false, false, false] (by kernel_rfl) rfl rfl c2 (fun hHeld => ?_); refine with_tabW Un4_tab Un4_bits (fun HT_ HW_ => ?_)
      refine pure_ (i := 0) (N := some 18) (v := ?_) (a' := ?_) #[true, false, false, false, false, false, false, false, false, false, false, false, false, false, false, false, false, false] rfl rfl (any_of HT_.out (by kernel_rfl)) (fun _ _ _ h => h) (Or.inl ⟨by rfl, ?_⟩) ?_ ?_
      rotate_left
      · intro w'
        go_simp
        with_reducible rfl
      rotate_left
      · simp only [Act.put, List.setIfInBounds_toArray, List.set_cons_zero, List.set_cons_succ, i64_w, i32_w]
        rfl
      refine pure_ (i := 1) (N := some 19) (v := ?_) (a' := ?_) #[true, true, false, false, false, false, false, false, false, false, false, false, false, false, false, false, false, false] rfl rfl (any_of HT_.out (by kernel_rfl)) (fun _ _ _ h => h) (Or.inl ⟨by rfl, ?_⟩) ?_ ?_
      rotate_left
      · intro w'
        go_simp
        with_reducible rfl
      rotate_left
      · simp only [Act.put, List.setIfInBounds_toArray, List.set_cons_zero, List.set_cons_succ, i64_w, i32_w]
        rfl
      refine pure_ (i := 2) (N := some 20) (v := ?_) (a' := ?_) #[true, true, true, false, false, false, false, false, false, false, false, false, false, false, false, false, false, false] rfl rfl (any_of HT_.out (by kernel_rfl)) (fun _ _ _ h => h) (Or.inl ⟨by rfl, ?_⟩) ?_ ?_
      rotate_left
      · intro w'
        go_simp
        with_reducible rfl
      rotate_left
      · simp only [Act.put, List.setIfInBounds_toArray, List.set_cons_zero, List.set_cons_succ, i64_w, i32_w]
        rfl
      refine pure_ (i := 3) (N := some 21) (v := ?_) (a' := ?_) #[true, true, true, true, false, false, false, false, false, false, false, false, false, false, false, false, false, false] rfl rfl (any_of HT_.out (by kernel_rfl)) (fun _ _ _ h => h) (Or.inl ⟨by rfl, ?_⟩) ?_ ?_
      rotate_left
      · intro w'
        go_simp
        with_reducible rfl
      rotate_left
      · simp only [Act.put, List.setIfInBounds_toArray, List.set_cons_zero, List.set_cons_succ, i64_w, i32_w]
        rfl
      refine take_ (i := 4) (N := some 22) (v := ?_) (a' := ?_) #[true, true, true, true, true, false, false, false, false, false, false, false, false, false, false, false, false, false] rfl rfl (take_ofW HT_.out HW_.out (by kernel_rfl)) (fun _ _ _ h => h) (Or.inl ⟨by rfl, ?_⟩) hHeld ?_ ?_
      rotate_left
      · rintro w' s0
        go_simp
        with_reducible rfl
      rotate_left
      · simp only [Act.put, List.setIfInBounds_toArray, List.set_cons_zero, List.set_cons_succ, i64_w, i32_w]
        rfl
      refine pure_ (i := 5) (N := some 23) (v := ?_) (a' := ?_) #[true, true, true, true, true, true, false, false, false, false, false, false, false, false, false, false, false, false] rfl rfl (any_of HT_.out (by kernel_rfl)) (fun _ _ _ h => h) (Or.inl ⟨by rfl, ?_⟩) ?_ ?_
      rotate_left
      · intro w'
        go_simp
        with_reducible rfl
      rotate_left
      · simp only [Act.put, List.setIfInBounds_toArray, List.set_cons_zero, List.set_cons_succ, i64_w, i32_w]
        rfl
      refine pure_ (i := 6) (N := some 24) (v := ?_) (a' := ?_) #[true, true, true, true, true, true, true, false, false, false, false, false, false, false, false, false, false, false] rfl rfl (any_of HT_.out (by kernel_rfl)) (fun _ _ _ h => h) (Or.inl ⟨by rfl, ?_⟩) ?_ ?_
      rotate_left
      · intro w'
        go_simp
        with_reducible rfl
      rotate_left
      · simp only [Act.put, List.setIfInBounds_toArray, List.set_cons_zero, List.set_cons_succ, i64_w, i32_w]
        rfl
      refine pure_ (i := 7) (N := some 25) (v := ?_) (a' := ?_) #[true, true, true, true, true, true, true, true, false, false, false, false, false, false, false, false, false, false] rfl rfl (any_of HT_.out (by kernel_rfl)) (fun _ _ _ h => h) (Or.inl ⟨by rfl, ?_⟩) ?_ ?_
      rotate_left
      · intro w'
        go_simp
        with_reducible rfl
      rotate_left
      · simp only [Act.put, List.setIfInBounds_toArray, List.set_cons_zero, List.set_cons_succ, i64_w, i32_w]
        rfl
      refine pure_ (i := 8) (N := some 26) (v := ?_) (a' := ?_) #[true, true, true, true, true, true, true, true, true, false, false, false, false, false, false, false, false, false] rfl rfl (any_of HT_.out (by kernel_rfl)) (fun _ _ _ h => h) (Or.inl ⟨by rfl, ?_⟩) ?_ ?_
      rotate_left
      · intro w'
        go_simp
        with_reducible rfl
      rotate_left
      · simp only [Act.put, List.setIfInBounds_toArray, List.set_cons_zero, List.set_cons_succ, i64_w, i32_w]
        rfl
      refine pure_ (i := 9) (N := some 27) (v := ?_) (a' := ?_) #[true, true, true, true, true, true, true, true, true, true, false, false, false, false, false, false, false, false] rfl rfl (any_of HT_.out (by kernel_rfl)) (fun _ _ _ h => h) (Or.inl ⟨by rfl, ?_⟩) ?_ ?_
      rotate_left
      · intro w'
        go_simp
        with_reducible rfl
      rotate_left
      · simp only [Act.put, List.setIfInBounds_toArray, List.set_cons_zero, List.set_cons_succ, i64_w, i32_w]
        rfl
      refine one_ (i := 10) (N := some 28) #[true, true, true, true, true, true, true, true, true, true, true, false, false, false, false, false, false, false] rfl rfl (one_of HT_.out (by kernel_rfl)) (by decide) (fun K hK => ?_)
      refine goes_ Tryd.func18 (by kernel_rfl) rfl #[.pointer (some ⟨d, 0, none⟩), .int .i64 2] (by rfl) rfl rfl (by (try simp only [List.map_toArray, List.map_cons, List.map_nil]); first | done | rfl) ?_
      refine (HPK.out 2 (by omega) (by omega)).mono ?_
      rintro e w5 ⟨r5, u5, rfl, hr5, hr6, hu5, hd5, hk5⟩
      have hk5w : Kb d wr w5 := ⟨hk5.os, hk5.tape, hk5.output, hk5.size, hk5.block⟩
      have HK5 := Lib.hid (And.intro hd5 (And.intro hk5w hu5))
      have c25 := blk_cell hd5 2
      have f25 := blk_frozen hd5 2
      clear hr5 hr6 hd5 hk5 hk5w hu5
      refine ⟨_, rfl, ?_⟩
      refine hK.out _ _ c25 (fun hHeld => ?_)
      clear hK K
      refine norm_ (a' := ?_) ?_ ?_
      rotate_left
      · show Act.put _ (some 28) _ = _
        simp only [Act.put, List.setIfInBounds_toArray, List.set_cons_zero, List.set_cons_succ, i64_w, i32_w]
        rfl
      refine pure_ (i := 11) (N := some 29) (v := ?_) (a' := ?_) #[true, true, true, true, true, true, true, true, true, true, true, true, false, false, false, false, false, false] rfl rfl (any_of HT_.out (by kernel_rfl)) (fun _ _ _ h => h) (Or.inl ⟨by rfl, ?_⟩) ?_ ?_
      rotate_left
      · intro w'
        go_simp
        with_reducible rfl
      rotate_left
      · simp only [Act.put, List.setIfInBounds_toArray, List.set_cons_zero, List.set_cons_succ, i64_w, i32_w]
        rfl
      refine one_ (i := 12) (N := some 30) #[true, true, true, true, true, true, true, true, true, true, true, true, true, false, false, false, false, false] rfl rfl (one_of HT_.out (by kernel_rfl)) (by decide) (fun K hK => ?_)
      refine goes_ Tryd.func45 (by kernel_rfl) rfl #[.int .i64 (n / 256 % 16), .bool (r5 == 1)] (by rfl) rfl rfl (by (try simp only [List.map_toArray, List.map_cons, List.map_nil]); first | done | rfl) ?_
      refine (spec_digitOf.calls (n / 256 % 16) (r5 == 1) (hd (n / 256 % 16) (r5 == 1)) _ (digit_hd HDG.out.1 HDG.out.2 _)).mono ?_
      rintro e w6 ⟨rfl, ⟨nd, rfl⟩⟩
      refine ⟨_, rfl, ?_⟩
      refine hK.out _ _ c25 (fun hHeld => ?_)
      clear hK K
      refine norm_ (a' := ?_) ?_ ?_
      rotate_left
      · show Act.put _ (some 30) _ = _
        simp only [Act.put, List.setIfInBounds_toArray, List.set_cons_zero, List.set_cons_succ, i64_w, i32_w]
        rfl
      refine one_ (i := 13) (N := some 31) #[true, true, true, true, true, true, true, true, true, true, true, true, true, true, false, false, false, false] rfl rfl (one_of HT_.out (by kernel_rfl)) (by decide) (fun K hK => ?_)
      refine value_ (w1 := ?_) (v := ?_) (by rfl) rfl ?_ ?_
      rotate_left 2
      · go_simp
        constructor
        · rfl
        · rfl
      refine hK.out _ _ ((World.cell?_alloc_lt _ _ _ (World.block_lt_of_cell? _ _ c25)).trans c25) (fun hHeld => ?_)
      clear hK K
      refine norm_ (a' := ?_) ?_ ?_
      rotate_left
      · show Act.put _ (some 31) _ = _
        simp only [Act.put, List.setIfInBounds_toArray, List.set_cons_zero, List.set_cons_succ, i64_w, i32_w]
        rfl
      refine one_ (i := 14) (N := some 32) #[true, true, true, true, true, true, true, true, true, true, true, true, true, true, true, false, false, false] rfl rfl (one_of HT_.out (by kernel_rfl)) (by decide) (fun K hK => ?_)
      refine append_cells_step B rfl (.tmp 22) (.tmp 31) 22 5 (.int .u8 0) 1 1 rfl Tryd.underlying22 infoB8 rfl (by omega) (by omega) (.slice AO nO cO) (out ++ ds).length (nums .u8 (out ++ ds)) [.int .u8 (hd (n / 256 % 16) (r5 == 1))] rfl rfl rfl (by simp [Value.oneCell']) (own_kb (w' := World.drewN w5 nd) HDS.out.1.row ⟨HK5.out.2.1.os, HK5.out.2.1.tape, HK5.out.2.1.output, HK5.out.2.1.size, HK5.out.2.1.block⟩ HDS.out.1.low) (Nat.le_trans HDS.out.1.size HK5.out.2.1.size) (by have := HLN.out; omega) ?_
      intro v6 w6 row6 gr6 hat6
      obtain ⟨A6, n6, c6, rfl⟩ := row_form row6
      have HG6 := Lib.hid (And.intro row6 (show w5.grownBy w6 (Value.slice AO nO cO).ownBlock from ⟨gr6.os, gr6.tape, gr6.output, gr6.size, gr6.block⟩))
      have hd6 := (gr6.block d (blk_lt HK5.out.1) (fun e => by have h1 := (HDS.out.1.row.lt d e.symm).1; have h2 := HDS.out.1.low; omega)).trans HK5.out.1
      have c26 := blk_cell hd6 2
      have f26 := blk_frozen hd6 2
      refine hK.out _ _ c26 (fun hHeld => ?_)
      clear hK K
      refine norm_ (a' := ?_) ?_ ?_
      rotate_left
      · show Act.put _ (some 32) _ = _
        simp only [Act.put, List.setIfInBounds_toArray, List.set_cons_zero, List.set_cons_succ, i64_w, i32_w]
        rfl
      refine pure_ (i := 15) (N := some 33) (v := ?_) (a' := ?_) #[true, true, true, true, true, true, true, true, true, true, true, true, true, true, true, true, false, false] rfl rfl (any_of HT_.out (by kernel_rfl)) (fun _ _ _ h => h) (Or.inl ⟨by rfl, ?_⟩) ?_ ?_
      rotate_left
      · intro w'
        go_simp
        with_reducible rfl
      rotate_left
      · simp only [Act.put, List.setIfInBounds_toArray, List.set_cons_zero, List.set_cons_succ, i64_w, i32_w]
        rfl
      refine pure_ (i := 16) (N := some 34) (v := ?_) (a' := ?_) #[true, true, true, true, true, true, true, true, true, true, true, true, true, true, true, true, true, false] rfl rfl (any_of HT_.out (by kernel_rfl)) (fun _ _ _ h => h) (Or.inl ⟨by rfl, ?_⟩) ?_ ?_
      rotate_left
      · intro w'
        go_simp
        with_reducible rfl
      rotate_left
      · simp only [Act.put, List.setIfInBounds_toArray, List.set_cons_zero, List.set_cons_succ, i64_w, i32_w]
        rfl
      refine last_ (i := 17) (N := none) #[true, true, true, true, true, true, true, true, true, true, true, true, true, true, true, true, true, true] rfl rfl (one_of HT_.out (by kernel_rfl)) (by decide) (fun K hK => ?_)
      refine skip_ (w1 := ?_) (by rfl) rfl ?_ ?_
      rotate_left
      · go_simp
        rfl
      refine hK.out _ _ ?_
      clear hK K
      refine done_ (done_of HT_.out (by kernel_rfl)) ?_
      try go_wp2
      go_roundg (3)
      case measure => decide
      case rel =>
        have hk5 := HK5.out
        have hds := HDS.out
        refine ⟨2, ds ++ [hd (n / 256 % 16) (r5 == 1)], u5, .slice A6 n6 c6, rfl, by first | rfl | (simp; done), Lib.hid ⟨by omega, digs_more1 HD4.out.2 _⟩, Lib.hid ⟨⟨blk_put hd6 2 _ rfl, ?_, ?_, hds.1.low, ?_⟩, by omega⟩, Lib.hid ?_⟩
        · have h := ownsRow_setCell_below HG6.out.1 (a := ⟨d, 2, none⟩) hds.1.low (.slice A6 n6 c6)
          simpa [nums, Nat.add_assoc] using h
        · refine hds.1.code.kb (fun k hk hkd => ?_)
          exact ((Below.heap_setCell _ _ _ _ hkd).trans (HG6.out.2.block k (by have := hds.1.size; have := hk5.2.1.size; omega) (fun e => by have := (hds.1.row.lt k e.symm).1; omega))).trans (hk5.2.1.block k (by have := hds.1.size; omega) hkd)
        · have h1 := hds.1.size; have h2 := hk5.2.1.size; have h3 := HG6.out.2.size
          simp only [World.setCell, Array.size_modify]
          omega
        · exact HBD.out.trans (Bd.step hds.1.low hds.1.size hk5.2.1 hds.1.row HG6.out.2 _)
    · -- digit 2
      have HDG := Lib.hid (show 0 ≤ n / 16 % 16 ∧ n / 16 % 16 ≤ 15 from by have := HN.out; omega)
      have hand : Go.bits .and .i64 (n / 16) 15 = n / 16 % 16 := and15 (by have := HN.out; omega) (by have := HN.out; omega)
      have hd1 : decide ((0 : Int) ≤ 12 - 4 * ((2 : Nat) : Int)) = true := by decide
      go_wp2
      refine start_ (n := 18) (S := fun w' => w'.cell? ⟨d, 2, none⟩ = some (.slice AO nO cO)) (ds := [17]) #[false, false, false, false, false, false, false, false, false, false, false, false, false, false, false, false, false, false] (by kernel_rfl) rfl rfl c2 (fun hHeld => ?_); refine with_tabW Un4_tab Un4_bits (fun HT_ HW_ => ?_)
      refine pure_ (i := 0) (N := some 18) (v := ?_) (a' := ?_) #[true, false, false, false, false, false, false, false, false, false, false, false, false, false, false, false, false, false] rfl rfl (any_of HT_.out (by kernel_rfl)) (fun _ _ _ h => h) (Or.inl ⟨by rfl, ?_⟩) ?_ ?_
      rotate_left
      · intro w'
        go_simp
        with_reducible rfl
      rotate_left
      · simp only [Act.put, List.setIfInBounds_toArray, List.set_cons_zero, List.set_cons_succ, i64_w, i32_w]
        rfl
      refine pure_ (i := 1) (N := some 19) (v := ?_) (a' := ?_) #[true, true, false, false, false, false, false, false, false, false, false, false, false, false, false, false, false, false] rfl rfl (any_of HT_.out (by kernel_rfl)) (fun _ _ _ h => h) (Or.inl ⟨by rfl, ?_⟩) ?_ ?_
      rotate_left
      · intro w'
        go_simp
        with_reducible rfl
      rotate_left
      · simp only [Act.put, List.setIfInBounds_toArray, List.set_cons_zero, List.set_cons_succ, i64_w, i32_w]
        rfl
      refine pure_ (i := 2) (N := some 20) (v := ?_) (a' := ?_) #[true, true, true, false, false, false, false, false, false, false, false, false, false, false, false, false, false, false] rfl rfl (any_of HT_.out (by kernel_rfl)) (fun _ _ _ h => h) (Or.inl ⟨by rfl, ?_⟩) ?_ ?_
      rotate_left
      · intro w'
        go_simp
        with_reducible rfl
      rotate_left
      · simp only [Act.put, List.setIfInBounds_toArray, List.set_cons_zero, List.set_cons_succ, i64_w, i32_w]
        rfl
      refine pure_ (i := 3) (N := some 21) (v := ?_) (a' := ?_) #[true, true, true, true, false, false, false, false, false, false, false, false, false, false, false, false, false, false] rfl rfl (any_of HT_.out (by kernel_rfl)) (fun _ _ _ h => h) (Or.inl ⟨by rfl, ?_⟩) ?_ ?_
      rotate_left
      · intro w'
        go_simp
        with_reducible rfl
      rotate_left
      · simp only [Act.put, List.setIfInBounds_toArray, List.set_cons_zero, List.set_cons_succ, i64_w, i32_w]
        rfl
      refine take_ (i := 4) (N := some 22) (v := ?_) (a' := ?_) #[true, true, true, true, true, false, false, false, false, false, false, false, false, false, false, false, false, false] rfl rfl (take_ofW HT_.out HW_.out (by kernel_rfl)) (fun _ _ _ h => h) (Or.inl ⟨by rfl, ?_⟩) hHeld ?_ ?_
      rotate_left
      · rintro w' s0
        go_simp
        with_reducible rfl
      rotate_left
      · simp only [Act.put, List.setIfInBounds_toArray, List.set_cons_zero, List.set_cons_succ, i64_w, i32_w]
        rfl
      refine pure_ (i := 5) (N := some 23) (v := ?_) (a' := ?_) #[true, true, true, true, true, true, false, false, false, false, false, false, false, false, false, false, false, false] rfl rfl (any_of HT_.out (by kernel_rfl)) (fun _ _ _ h => h) (Or.inl ⟨by rfl, ?_⟩) ?_ ?_
      rotate_left
      · intro w'
        go_simp
        with_reducible rfl
      rotate_left
      · simp only [Act.put, List.setIfInBounds_toArray, List.set_cons_zero, List.set_cons_succ, i64_w, i32_w]
        rfl
      refine pure_ (i := 6) (N := some 24) (v := ?_) (a' := ?_) #[true, true, true, true, true, true, true, false, false, false, false, false, false, false, false, false, false, false] rfl rfl (any_of HT_.out (by kernel_rfl)) (fun _ _ _ h => h) (Or.inl ⟨by rfl, ?_⟩) ?_ ?_
      rotate_left
      · intro w'
        go_simp
        with_reducible rfl
      rotate_left
      · simp only [Act.put, List.setIfInBounds_toArray, List.set_cons_zero, List.set_cons_succ, i64_w, i32_w]
        rfl
      refine pure_ (i := 7) (N := some 25) (v := ?_) (a' := ?_) #[true, true, true, true, true, true, true, true, false, false, false, false, false, false, false, false, false, false] rfl rfl (any_of HT_.out (by kernel_rfl)) (fun _ _ _ h => h) (Or.inl ⟨by rfl, ?_⟩) ?_ ?_
      rotate_left
      · intro w'
        go_simp
        with_reducible rfl
      rotate_left
      · simp only [Act.put, List.setIfInBounds_toArray, List.set_cons_zero, List.set_cons_succ, i64_w, i32_w]
        rfl
      refine pure_ (i := 8) (N := some 26) (v := ?_) (a' := ?_) #[true, true, true, true, true, true, true, true, true, false, false, false, false, false, false, false, false, false] rfl rfl (any_of HT_.out (by kernel_rfl)) (fun _ _ _ h => h) (Or.inl ⟨by rfl, ?_⟩) ?_ ?_
      rotate_left
      · intro w'
        go_simp
        with_reducible rfl
      rotate_left
      · simp only [Act.put, List.setIfInBounds_toArray, List.set_cons_zero, List.set_cons_succ, i64_w, i32_w]
        rfl
      refine pure_ (i := 9) (N := some 27) (v := ?_) (a' := ?_) #[true, true, true, true, true, true, true, true, true, true, false, false, false, false, false, false, false, false] rfl rfl (any_of HT_.out (by kernel_rfl)) (fun _ _ _ h => h) (Or.inl ⟨by rfl, ?_⟩) ?_ ?_
      rotate_left
      · intro w'
        go_simp
        with_reducible rfl
      rotate_left
      · simp only [Act.put, List.setIfInBounds_toArray, List.set_cons_zero, List.set_cons_succ, i64_w, i32_w]
        rfl
      refine one_ (i := 10) (N := some 28) #[true, true, true, true, true, true, true, true, true, true, true, false, false, false, false, false, false, false] rfl rfl (one_of HT_.out (by kernel_rfl)) (by decide) (fun K hK => ?_)
      refine goes_ Tryd.func18 (by kernel_rfl) rfl #[.pointer (some ⟨d, 0, none⟩), .int .i64 2] (by rfl) rfl rfl (by (try simp only [List.map_toArray, List.map_cons, List.map_nil]); first | done | rfl) ?_
      refine (HPK.out 2 (by omega) (by omega)).mono ?_
      rintro e w5 ⟨r5, u5, rfl, hr5, hr6, hu5, hd5, hk5⟩
      have hk5w : Kb d wr w5 := ⟨hk5.os, hk5.tape, hk5.output, hk5.size, hk5.block⟩
      have HK5 := Lib.hid (And.intro hd5 (And.intro hk5w hu5))
      have c25 := blk_cell hd5 2
      have f25 := blk_frozen hd5 2
      clear hr5 hr6 hd5 hk5 hk5w hu5
      refine ⟨_, rfl, ?_⟩
      refine hK.out _ _ c25 (fun hHeld => ?_)
      clear hK K
      refine norm_ (a' := ?_) ?_ ?_
      rotate_left
      · show Act.put _ (some 28) _ = _
        simp only [Act.put, List.setIfInBounds_toArray, List.set_cons_zero, List.set_cons_succ, i64_w, i32_w]
        rfl
      refine pure_ (i := 11) (N := some 29) (v := ?_) (a' := ?_) #[true, true, true, true, true, true, true, true, true, true, true, true, false, false, false, false, false, false] rfl rfl (any_of HT_.out (by kernel_rfl)) (fun _ _ _ h => h) (Or.inl ⟨by rfl, ?_⟩) ?_ ?_
      rotate_left
      · intro w'
        go_simp
        with_reducible rfl
      rotate_left
      · simp only [Act.put, List.setIfInBounds_toArray, List.set_cons_zero, List.set_cons_succ, i64_w, i32_w]
        rfl
      refine one_ (i := 12) (N := some 30) #[true, true, true, true, true, true, true, true, true, true, true, true, true, false, false, false, false, false] rfl rfl (one_of HT_.out (by kernel_rfl)) (by decide) (fun K hK => ?_)
      refine goes_ Tryd.func45 (by kernel_rfl) rfl #[.int .i64 (n / 16 % 16), .bool (r5 == 1)] (by rfl) rfl rfl (by (try simp only [List.map_toArray, List.map_cons, List.map_nil]); first | done | rfl) ?_
      refine (spec_digitOf.calls (n / 16 % 16) (r5 == 1) (hd (n / 16 % 16) (r5 == 1)) _ (digit_hd HDG.out.1 HDG.out.2 _)).mono ?_
      rintro e w6 ⟨rfl, ⟨nd, rfl⟩⟩
      refine ⟨_, rfl, ?_⟩
      refine hK.out _ _ c25 (fun hHeld => ?_)
      clear hK K
      refine norm_ (a' := ?_) ?_ ?_
      rotate_left
      · show Act.put _ (some 30) _ = _
        simp only [Act.put, List.setIfInBounds_toArray, List.set_cons_zero, List.set_cons_succ, i64_w, i32_w]
        rfl
      refine one_ (i := 13) (N := some 31) #[true, true, true, true, true, true, true, true, true, true, true, true, true, true, false, false, false, false] rfl rfl (one_of HT_.out (by kernel_rfl)) (by decide) (fun K hK => ?_)
      refine value_ (w1 := ?_) (v := ?_) (by rfl) rfl ?_ ?_
      rotate_left 2
      · go_simp
        constructor
        · rfl
        · rfl
      refine hK.out _ _ ((World.cell?_alloc_lt _ _ _ (World.block_lt_of_cell? _ _ c25)).trans c25) (fun hHeld => ?_)
      clear hK K
      refine norm_ (a' := ?_) ?_ ?_
      rotate_left
      · show Act.put _ (some 31) _ = _
        simp only [Act.put, List.setIfInBounds_toArray, List.set_cons_zero, List.set_cons_succ, i64_w, i32_w]
        rfl
      refine one_ (i := 14) (N := some 32) #[true, true, true, true, true, true, true, true, true, true, true, true, true, true, true, false, false, false] rfl rfl (one_of HT_.out (by kernel_rfl)) (by decide) (fun K hK => ?_)
      refine append_cells_step B rfl (.tmp 22) (.tmp 31) 22 5 (.int .u8 0) 1 1 rfl Tryd.underlying22 infoB8 rfl (by omega) (by omega) (.slice AO nO cO) (out ++ ds).length (nums .u8 (out ++ ds)) [.int .u8 (hd (n / 16 % 16) (r5 == 1))] rfl rfl rfl (by simp [Value.oneCell']) (own_kb (w' := World.drewN w5 nd) HDS.out.1.row ⟨HK5.out.2.1.os, HK5.out.2.1.tape, HK5.out.2.1.output, HK5.out.2.1.size, HK5.out.2.1.block⟩ HDS.out.1.low) (Nat.le_trans HDS.out.1.size HK5.out.2.1.size) (by have := HLN.out; omega) ?_
      intro v6 w6 row6 gr6 hat6
      obtain ⟨A6, n6, c6, rfl⟩ := row_form row6
      have HG6 := Lib.hid (And.intro row6 (show w5.grownBy w6 (Value.slice AO nO cO).ownBlock from ⟨gr6.os, gr6.tape, gr6.output, gr6.size, gr6.block⟩))
      have hd6 := (gr6.block d (blk_lt HK5.out.1) (fun e => by have h1 := (HDS.out.1.row.lt d e.symm).1; have h2 := HDS.out.1.low; omega)).trans HK5.out.1
      have c26 := blk_cell hd6 2
      have f26 := blk_frozen hd6 2
      refine hK.out _ _ c26 (fun hHeld => ?_)
      clear hK K
      refine norm_ (a' := ?_) ?_ ?_
      rotate_left
      · show Act.put _ (some 32) _ = _
        simp only [Act.put, List.setIfInBounds_toArray, List.set_cons_zero, List.set_cons_succ, i64_w, i32_w]
        rfl
      refine pure_ (i := 15) (N := some 33) (v := ?_) (a' := ?_) #[true, true, true, true, true, true, true, true, true, true, true, true, true, true, true, true, false, false] rfl rfl (any_of HT_.out (by kernel_rfl)) (fun _ _ _ h => h) (Or.inl ⟨by rfl, ?_⟩) ?_ ?_
      rotate_left
      · intro w'
        go_simp
        with_reducible rfl
      rotate_left
      · simp only [Act.put, List.setIfInBounds_toArray, List.set_cons_zero, List.set_cons_succ, i64_w, i32_w]
        rfl
      refine pure_ (i := 16) (N := some 34) (v := ?_) (a' := ?_) #[true, true, true, true, true, true, true, true, true, true, true, true, true, true, true, true, true, false] rfl rfl (any_of HT_.out (by kernel_rfl)) (fun _ _ _ h => h) (Or.inl ⟨by rfl, ?_⟩) ?_ ?_
      rotate_left
      · intro w'
        go_simp
        with_reducible rfl
      rotate_left
      · simp only [Act.put, List.setIfInBounds_toArray, List.set_cons_zero, List.set_cons_succ, i64_w, i32_w]
        rfl
      refine last_ (i := 17) (N := none) #[true, true, true, true, true, true, true, true, true, true, true, true, true, true, true, true, true, true] rfl rfl (one_of HT_.out (by kernel_rfl)) (by decide) (fun K hK => ?_)
      refine skip_ (w1 := ?_) (by rfl) rfl ?_ ?_
      rotate_left
      · go_simp
        rfl
      refine hK.out _ _ ?_
      clear hK K
      refine done_ (done_of HT_.out (by kernel_rfl)) ?_
      try go_wp2
      go_roundg (2)
      case measure => decide
      case rel =>
        have hk5 := HK5.out
        have hds := HDS.out
        refine ⟨3, ds ++ [hd (n / 16 % 16) (r5 == 1)], u5, .slice A6 n6 c6, rfl, by first | rfl | (simp; done), Lib.hid ⟨by omega, digs_more2 HD4.out.2 _⟩, Lib.hid ⟨⟨blk_put hd6 2 _ rfl, ?_, ?_, hds.1.low, ?_⟩, by omega⟩, Lib.hid ?_⟩
        · have h := ownsRow_setCell_below HG6.out.1 (a := ⟨d, 2, none⟩) hds.1.low (.slice A6 n6 c6)
          simpa [nums, Nat.add_assoc] using h
        · refine hds.1.code.kb (fun k hk hkd => ?_)
          exact ((Below.heap_setCell _ _ _ _ hkd).trans (HG6.out.2.block k (by have := hds.1.size; have := hk5.2.1.size; omega) (fun e => by have := (hds.1.row.lt k e.symm).1; omega))).trans (hk5.2.1.block k (by have := hds.1.size; omega) hkd)
        · have h1 := hds.1.size; have h2 := hk5.2.1.size; have h3 := HG6.out.2.size
          simp only [World.setCell, Array.size_modify]
          omega
        · exact HBD.out.trans (Bd.step hds.1.low hds.1.size hk5.2.1 hds.1.row HG6.out.2 _)
    · -- digit 3
      have HDG := Lib.hid (show 0 ≤ n % 16 ∧ n % 16 ≤ 15 from by have := HN.out; omega)
      have hand : Go.bits .and .i64 (n) 15 = n % 16 := and15 (by have := HN.out; omega) (by have := HN.out; omega)
      have hd1 : decide ((0 : Int) ≤ 12 - 4 * ((3 : Nat) : Int)) = true := by decide
      go_wp2
      refine start_ (n := 18) (S := fun w' => w'.cell? ⟨d, 2, none⟩ = some (.slice AO nO cO)) (ds := [17]) #[false, false, false, false, false, false, false, false, false, false, false, false, false, false, false, false, false, false] (by kernel_rfl) rfl rfl c2 (fun hHeld => ?_); refine with_tabW Un4_tab Un4_bits (fun HT_ HW_ => ?_)
      refine pure_ (i := 0) (N := some 18) (v := ?_) (a' := ?_) #[true, false, false, false, false, false, false, false, false, false, false, false, false, false, false, false, false, false] rfl rfl (any_of HT_.out (by kernel_rfl)) (fun _ _ _ h => h) (Or.inl ⟨by rfl, ?_⟩) ?_ ?_
      rotate_left
      · intro w'
        go_simp
        with_reducible rfl
      rotate_left
      · simp only [Act.put, List.setIfInBounds_toArray, List.set_cons_zero, List.set_cons_succ, i64_w, i32_w]
        rfl
      refine pure_ (i := 1) (N := some 19) (v := ?_) (a' := ?_) #[true, true, false, false, false, false, false, false, false, false, false, false, false, false, false, false, false, false] rfl rfl (any_of HT_.out (by kernel_rfl)) (fun _ _ _ h => h) (Or.inl ⟨by rfl, ?_⟩) ?_ ?_
      rotate_left
      · intro w'
        go_simp
        with_reducible rfl
      rotate_left
      · simp only [Act.put, List.setIfInBounds_toArray, List.set_cons_zero, List.set_cons_succ, i64_w, i32_w]
        rfl
      refine pure_ (i := 2) (N := some 20) (v := ?_) (a' := ?_) #[true, true, true, false, false, false, false, false, false, false, false, false, false, false, false, false, false, false] rfl rfl (any_of HT_.out (by kernel_rfl)) (fun _ _ _ h => h) (Or.inl ⟨by rfl, ?_⟩) ?_ ?_
      rotate_left
      · intro w'
        go_simp
        with_reducible rfl
      rotate_left
      · simp only [Act.put, List.setIfInBounds_toArray, List.set_cons_zero, List.set_cons_succ, i64_w, i32_w]
        rfl
      refine pure_ (i := 3) (N := some 21) (v := ?_) (a' := ?_) #[true, true, true, true, false, false, false, false, false, false, false, false, false, false, false, false, false, false] rfl rfl (any_of HT_.out (by kernel_rfl)) (fun _ _ _ h => h) (Or.inl ⟨by rfl, ?_⟩) ?_ ?_
      rotate_left
      · intro w'
        go_simp
        with_reducible rfl
      rotate_left
      · simp only [Act.put, List.setIfInBounds_toArray, List.set_cons_zero, List.set_cons_succ, i64_w, i32_w]
        rfl
      refine take_ (i := 4) (N := some 22) (v := ?_) (a' := ?_) #[true, true, true, true, true, false, false, false, false, false, false, false, false, false, false, false, false, false] rfl rfl (take_ofW HT_.out HW_.out (by kernel_rfl)) (fun _ _ _ h => h) (Or.inl ⟨by rfl, ?_⟩) hHeld ?_ ?_
      rotate_left
      · rintro w' s0
        go_simp
        with_reducible rfl
      rotate_left
      · simp only [Act.put, List.setIfInBounds_toArray, List.set_cons_zero, List.set_cons_succ, i64_w, i32_w]
        rfl
      refine pure_ (i := 5) (N := some 23) (v := ?_) (a' := ?_) #[true, true, true, true, true, true, false, false, false, false, false, false, false, false, false, false, false, false] rfl rfl (any_of HT_.out (by kernel_rfl)) (fun _ _ _ h => h) (Or.inl ⟨by rfl, ?_⟩) ?_ ?_
      rotate_left
      · intro w'
        go_simp
        with_reducible rfl
      rotate_left
      · simp only [Act.put, List.setIfInBounds_toArray, List.set_cons_zero, List.set_cons_succ, i64_w, i32_w]
        rfl
      refine pure_ (i := 6) (N := some 24) (v := ?_) (a' := ?_) #[true, true, true, true, true, true, true, false, false, false, false, false, false, false, false, false, false, false] rfl rfl (any_of HT_.out (by kernel_rfl)) (fun _ _ _ h => h) (Or.inl ⟨by rfl, ?_⟩) ?_ ?_
      rotate_left
      · intro w'
        go_simp
        with_reducible rfl
      rotate_left
      · simp only [Act.put, List.setIfInBounds_toArray, List.set_cons_zero, List.set_cons_succ, i64_w, i32_w]
        rfl
      refine pure_ (i := 7) (N := some 25) (v := ?_) (a' := ?_) #[true, true, true, true, true, true, true, true, false, false, false, false, false, false, false, false, false, false] rfl rfl (any_of HT_.out (by kernel_rfl)) (fun _ _ _ h => h) (Or.inl ⟨by rfl, ?_⟩) ?_ ?_
      rotate_left
      · intro w'
        go_simp
        with_reducible rfl
      rotate_left
      · simp only [Act.put, List.setIfInBounds_toArray, List.set_cons_zero, List.set_cons_succ, i64_w, i32_w]
        rfl
      refine pure_ (i := 8) (N := some 26) (v := ?_) (a' := ?_) #[true, true, true, true, true, true, true, true, true, false, false, false, false, false, false, false, false, false] rfl rfl (any_of HT_.out (by kernel_rfl)) (fun _ _ _ h => h) (Or.inl ⟨by rfl, ?_⟩) ?_ ?_
      rotate_left
      · intro w'
        go_simp
        with_reducible rfl
      rotate_left
      · simp only [Act.put, List.setIfInBounds_toArray, List.set_cons_zero, List.set_cons_succ, i64_w, i32_w]
        rfl
      refine pure_ (i := 9) (N := some 27) (v := ?_) (a' := ?_) #[true, true, true, true, true, true, true, true, true, true, false, false, false, false, false, false, false, false] rfl rfl (any_of HT_.out (by kernel_rfl)) (fun _ _ _ h => h) (Or.inl ⟨by rfl, ?_⟩) ?_ ?_
      rotate_left
      · intro w'
        go_simp
        with_reducible rfl
      rotate_left
      · simp only [Act.put, List.setIfInBounds_toArray, List.set_cons_zero, List.set_cons_succ, i64_w, i32_w]
        rfl
      refine one_ (i := 10) (N := some 28) #[true, true, true, true, true, true, true, true, true, true, true, false, false, false, false, false, false, false] rfl rfl (one_of HT_.out (by kernel_rfl)) (by decide) (fun K hK => ?_)
      refine goes_ Tryd.func18 (by kernel_rfl) rfl #[.pointer (some ⟨d, 0, none⟩), .int .i64 2] (by rfl) rfl rfl (by (try simp only [List.map_toArray, List.map_cons, List.map_nil]); first | done | rfl) ?_
      refine (HPK.out 2 (by omega) (by omega)).mono ?_
      rintro e w5 ⟨r5, u5, rfl, hr5, hr6, hu5, hd5, hk5⟩
      have hk5w : Kb d wr w5 := ⟨hk5.os, hk5.tape, hk5.output, hk5.size, hk5.block⟩
      have HK5 := Lib.hid (And.intro hd5 (And.intro hk5w hu5))
      have c25 := blk_cell hd5 2
      have f25 := blk_frozen hd5 2
      clear hr5 hr6 hd5 hk5 hk5w hu5
      refine ⟨_, rfl, ?_⟩
      refine hK.out _ _ c25 (fun hHeld => ?_)
      clear hK K
      refine norm_ (a' := ?_) ?_ ?_
      rotate_left
      · show Act.put _ (some 28) _ = _
        simp only [Act.put, List.setIfInBounds_toArray, List.set_cons_zero, List.set_cons_succ, i64_w, i32_w]
        rfl
      refine pure_ (i := 11) (N := some 29) (v := ?_) (a' := ?_) #[true, true, true, true, true, true, true, true, true, true, true, true, false, false, false, false, false, false] rfl rfl (any_of HT_.out (by kernel_rfl)) (fun _ _ _ h => h) (Or.inl ⟨by rfl, ?_⟩) ?_ ?_
      rotate_left
      · intro w'
        go_simp
        with_reducible rfl
      rotate_left
      · simp only [Act.put, List.setIfInBounds_toArray, List.set_cons_zero, List.set_cons_succ, i64_w, i32_w]
        rfl
      refine one_ (i := 12) (N := some 30) #[true, true, true, true, true, true, true, true, true, true, true, true, true, false, false, false, false, false] rfl rfl (one_of HT_.out (by kernel_rfl)) (by decide) (fun K hK => ?_)
      refine goes_ Tryd.func45 (by kernel_rfl) rfl #[.int .i64 (n % 16), .bool (r5 == 1)] (by rfl) rfl rfl (by (try simp only [List.map_toArray, List.map_cons, List.map_nil]); first | done | rfl) ?_
      refine (spec_digitOf.calls (n % 16) (r5 == 1) (hd (n % 16) (r5 == 1)) _ (digit_hd HDG.out.1 HDG.out.2 _)).mono ?_
      rintro e w6 ⟨rfl, ⟨nd, rfl⟩⟩
      refine ⟨_, rfl, ?_⟩
      refine hK.out _ _ c25 (fun hHeld => ?_)
      clear hK K
      refine norm_ (a' := ?_) ?_ ?_
      rotate_left
      · show Act.put _ (some 30) _ = _
        simp only [Act.put, List.setIfInBounds_toArray, List.set_cons_zero, List.set_cons_succ, i64_w, i32_w]
        rfl
      refine one_ (i := 13) (N := some 31) #[true, true, true, true, true, true, true, true, true, true, true, true, true, true, false, false, false, false] rfl rfl (one_of HT_.out (by kernel_rfl)) (by decide) (fun K hK => ?_)
      refine value_ (w1 := ?_) (v := ?_) (by rfl) rfl ?_ ?_
      rotate_left 2
      · go_simp
        constructor
        · rfl
        · rfl
      refine hK.out _ _ ((World.cell?_alloc_lt _ _ _ (World.block_lt_of_cell? _ _ c25)).trans c25) (fun hHeld => ?_)
      clear hK K
      refine norm_ (a' := ?_) ?_ ?_
      rotate_left
      · show Act.put _ (some 31) _ = _
        simp only [Act.put, List.setIfInBounds_toArray, List.set_cons_zero, List.set_cons_succ, i64_w, i32_w]
        rfl
      refine one_ (i := 14) (N := some 32) #[true, true, true, true, true, true, true, true, true, true, true, true, true, true, true, false, false, false] rfl rfl (one_of HT_.out (by kernel_rfl)) (by decide) (fun K hK => ?_)
      refine append_cells_step B rfl (.tmp 22) (.tmp 31) 22 5 (.int .u8 0) 1 1 rfl Tryd.underlying22 infoB8 rfl (by omega) (by omega) (.slice AO nO cO) (out ++ ds).length (nums .u8 (out ++ ds)) [.int .u8 (hd (n % 16) (r5 == 1))] rfl rfl rfl (by simp [Value.oneCell']) (own_kb (w' := World.drewN w5 nd) HDS.out.1.row ⟨HK5.out.2.1.os, HK5.out.2.1.tape, HK5.out.2.1.output, HK5.out.2.1.size, HK5.out.2.1.block⟩ HDS.out.1.low) (Nat.le_trans HDS.out.1.size HK5.out.2.1.size) (by have := HLN.out; omega) ?_
      intro v6 w6 row6 gr6 hat6
      obtain ⟨A6, n6, c6, rfl⟩ := row_form row6
      have HG6 := Lib.hid (And.intro row6 (show w5.grownBy w6 (Value.slice AO nO cO).ownBlock from ⟨gr6.os, gr6.tape, gr6.output, gr6.size, gr6.block⟩))
      have hd6 := (gr6.block d (blk_lt HK5.out.1) (fun e => by have h1 := (HDS.out.1.row.lt d e.symm).1; have h2 := HDS.out.1.low; omega)).trans HK5.out.1
      have c26 := blk_cell hd6 2
      have f26 := blk_frozen hd6 2
      refine hK.out _ _ c26 (fun hHeld => ?_)
      clear hK K
      refine norm_ (a' := ?_) ?_ ?_
      rotate_left
      · show Act.put _ (some 32) _ = _
        simp only [Act.put, List.setIfInBounds_toArray, List.set_cons_zero, List.set_cons_succ, i64_w, i32_w]
        rfl
      refine pure_ (i := 15) (N := some 33) (v := ?_) (a' := ?_) #[true, true, true, true, true, true, true, true, true, true, true, true, true, true, true, true, false, false] rfl rfl (any_of HT_.out (by kernel_rfl)) (fun _ _ _ h => h) (Or.inl ⟨by rfl, ?_⟩) ?_ ?_
      rotate_left
      · intro w'
        go_simp
        with_reducible rfl
      rotate_left
      · simp only [Act.put, List.setIfInBounds_toArray, List.set_cons_zero, List.set_cons_succ, i64_w, i32_w]
        rfl
      refine pure_ (i := 16) (N := some 34) (v := ?_) (a' := ?_) #[true, true, true, true, true, true, true, true, true, true, true, true, true, true, true, true, true, false] rfl rfl (any_of HT_.out (by kernel_rfl)) (fun _ _ _ h => h) (Or.inl ⟨by rfl, ?_⟩) ?_ ?_
      rotate_left
      · intro w'
        go_simp
        with_reducible rfl
      rotate_left
      · simp only [Act.put, List.setIfInBounds_toArray, List.set_cons_zero, List.set_cons_succ, i64_w, i32_w]
        rfl
      refine last_ (i := 17) (N := none) #[true, true, true, true, true, true, true, true, true, true, true, true, true, true, true, true, true, true] rfl rfl (one_of HT_.out (by kernel_rfl)) (by decide) (fun K hK => ?_)
      refine skip_ (w1 := ?_) (by rfl) rfl ?_ ?_
      rotate_left
      · go_simp
        rfl
      refine hK.out _ _ ?_
      clear hK K
      refine done_ (done_of HT_.out (by kernel_rfl)) ?_
      try go_wp2
      go_roundg (1)
      case measure => decide
      case rel =>
        have hk5 := HK5.out
        have hds := HDS.out
        refine ⟨4, ds ++ [hd (n % 16) (r5 == 1)], u5, .slice A6 n6 c6, rfl, by first | rfl | (simp; done), Lib.hid ⟨by omega, digs_more3 HD4.out.2 _⟩, Lib.hid ⟨⟨blk_put hd6 2 _ rfl, ?_, ?_, hds.1.low, ?_⟩, by omega⟩, Lib.hid ?_⟩
        · have h := ownsRow_setCell_below HG6.out.1 (a := ⟨d, 2, none⟩) hds.1.low (.slice A6 n6 c6)
          simpa [nums, Nat.add_assoc] using h
        · refine hds.1.code.kb (fun k hk hkd => ?_)
          exact ((Below.heap_setCell _ _ _ _ hkd).trans (HG6.out.2.block k (by have := hds.1.size; have := hk5.2.1.size; omega) (fun e => by have := (hds.1.row.lt k e.symm).1; omega))).trans (hk5.2.1.block k (by have := hds.1.size; omega) hkd)
        · have h1 := hds.1.size; have h2 := hk5.2.1.size; have h3 := HG6.out.2.size
          simp only [World.setCell, Array.size_modify]
          omega
        · exact HBD.out.trans (Bd.step hds.1.low hds.1.size hk5.2.1 hds.1.row HG6.out.2 _)
    · have hd1 : decide ((0 : Int) ≤ 12 - 4 * ((4 : Nat) : Int)) = false := by decide
      go_wp2
      refine Go.Great.bodyPost_end0 rfl rfl ?_
      obtain ⟨g, hg⟩ := digs_all HD4.out.2
      refine ⟨g, u, .slice AO nO cO, rfl, by have := HDS.out.2; omega, ?_, HBD.out⟩
      have h := HDS.out.1
      rw [← hout, List.append_assoc] at h
      rw [← hg]
      exact h

end Go.Proofs.YtkhgbacbnkgafaaDoor.Drs

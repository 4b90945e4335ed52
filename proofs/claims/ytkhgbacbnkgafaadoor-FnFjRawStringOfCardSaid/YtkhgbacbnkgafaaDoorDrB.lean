/- The reference's printer of dressed texts (dresser): a character as one escape or two. -/
import Derived.Test.YtkhgbacbnkgafaaDoorDrA
set_option linter.unusedVariables false
set_option linter.unusedSimpArgs false
namespace Go.Proofs.YtkhgbacbnkgafaaDoor.Drs
open Go Go.RowKit Go.Proofs.YtkhgbacbnkgafaaDoorW.PrintWords Go.Proofs.YtkhgbacbnkgafaaDoorW.PrintLast Go.Proofs.YtkhgbacbnkgafaaDoorW.PrintMore Go.Proofs.YtkhgbacbnkgafaaDoor.Fjh Go.Proofs.YtkhgbacbnkgafaaDoor.Spr Go.Proofs.YtkhgbacbnkgafaaDoor.JTr Go.Proofs.YtkhgbacbnkgafaaDoor.Rs Go.Proofs.YtkhgbacbnkgafaaDoor.U8
attribute [local go_sem ↓] Go.wp_at_zero Go.wp_at_succ

theorem DS.put {B d u : Nat} {w w6 : World} {cv ov ov6 : Value} {out out6 : List Int} (h : DS B d w cv u ov out) (row6 : w6.ownsRow B 5 1 ov6 out6.length (nums .u8 out6)) (gr : w.grownBy w6 ov.ownBlock) :
    DS B d (w6.setCell ⟨d, 2, none⟩ ov6) cv u ov6 out6 ∧ Bd B d w (w6.setCell ⟨d, 2, none⟩ ov6) := by
  have hd6 := (gr.block d (blk_lt h.at_) (fun e => by have h1 := (h.row.lt d e.symm).1; have h2 := h.low; omega)).trans h.at_
  refine ⟨⟨blk_put hd6 2 _ rfl, ownsRow_setCell_below row6 (a := ⟨d, 2, none⟩) h.low ov6, h.code.kb (fun k hk hkd => ?_), h.low, ?_⟩, Bd.step h.low h.size (Kb.refl d w) h.row gr _⟩
  · exact (Below.heap_setCell _ _ _ _ hkd).trans (gr.block k (by have := h.size; omega) (fun e => by have := (h.row.lt k e.symm).1; omega))
  · have h2 := h.size; have h3 := gr.size
    simp only [World.setCell, Array.size_modify]
    omega
theorem DS.pick {B d u u5 : Nat} {w w5 : World} {cv ov : Value} {out : List Int} (h : DS B d w cv u ov out) (hd5 : w5.heap[d]? = some (.cells #[cv, .int .i64 (u5 : Int), ov] 42 (0, 0))) (hk : Kb d w w5) :
    DS B d w5 cv u5 ov out ∧ Bd B d w w5 :=
  ⟨⟨hd5, own_kb h.row hk h.low, h.code.kb (fun k hk' hkd => hk.block k (by have := h.size; omega) hkd), h.low, Nat.le_trans h.size hk.size⟩, ⟨hk.os, hk.tape, hk.output, hk.size, fun k hk' hkd => hk.block k (by have := h.size; omega) hkd⟩⟩

/-- The escape of a character. -/
def Esc (c : Int) (y : List Int) : Prop := (c < 65536 ∧ ∃ g, y = u4 c g) ∨ (65536 ≤ c ∧ ∃ g g', y = u4 (55296 + (c - 65536) / 1024) g ++ u4 (56320 + (c - 65536) % 1024) g')
theorem Esc.len {c : Int} {y : List Int} (h : Esc c y) : y.length ≤ 12 := by
  rcases h with ⟨_, g, rfl⟩ | ⟨_, g, g', rfl⟩ <;> simp [u4]
theorem Esc.pc {x : List Int} {c : Int} {y : List Int} (h : Esc c y) : Pc x c y := by
  rcases h with ⟨h, g, rfl⟩ | ⟨h, g, g', rfl⟩
  · exact .uni h
  · exact .pair h

set_option maxRecDepth 100000 in
set_option maxHeartbeats 8000000 in
theorem escape_ok {B d used : Nat} {w : World} {cv ov : Value} {out : List Int} {c : Int} (hD : DS B d w cv used ov out) (hu : used ≤ 10000000000) (hl : out.length ≤ 900000000) (hc : 0 ≤ c ∧ c ≤ 1114111) :
    Calls Tryd.prog 32 #[.pointer (some ⟨d, 0, none⟩), .int .i64 c] w (fun e w' => ∃ (y : List Int) (u : Nat) (ov' : Value), e = .returned (.tuple #[]) ∧ Esc c y ∧ u ≤ used + 8 ∧ DS B d w' cv u ov' (out ++ y) ∧ Bd B d w w') := by
  have HD := Lib.hid hD
  have HU := Lib.hid (And.intro hu (And.intro hl hc))
  by_cases h6 : c < 65536
  · have hd1 : decide ((65536 : Int) ≤ c) = false := decide_eq_false (by omega)
    have HC6 := Lib.hid h6
    clear hD hu hl hc h6
    go_enter Tryd.func32, Tryd.ntmps32
    go_wp2_with (first | (go_at_call 44; refine (unit_ok HD.out (by have := HU.out; omega) (by have := HU.out; omega) ⟨HU.out.2.2.1, HC6.out⟩).mono ?_; rintro e w5 ⟨g5, u5, ov5, rfl, hu5, hd5, hb5⟩; have H5 := Lib.hid (And.intro hu5 (And.intro hd5 hb5)); clear hu5 hd5 hb5))
    refine Go.Great.bodyPost_end0 rfl rfl ?_
    exact ⟨_, u5, ov5, rfl, .inl ⟨HC6.out, g5, rfl⟩, by have := H5.out.1; omega, H5.out.2.1, H5.out.2.2⟩
  · have hd1 : decide ((65536 : Int) ≤ c) = true := decide_eq_true (by omega)
    have e1 : wrap64 (c - 65536) = c - 65536 := by unfold wrap64; omega
    have e2 : Int.tdiv (c - 65536) 1024 = (c - 65536) / 1024 := Int.tdiv_eq_ediv_of_nonneg (by omega)
    have e3 : Int.tmod (c - 65536) 1024 = (c - 65536) % 1024 := Int.tmod_eq_emod_of_nonneg (by omega)
    have e4 : wrap64 ((c - 65536) / 1024) = (c - 65536) / 1024 := by unfold wrap64; omega
    have e5 : wrap64 (55296 + (c - 65536) / 1024) = 55296 + (c - 65536) / 1024 := by unfold wrap64; omega
    have e6 : wrap64 (56320 + (c - 65536) % 1024) = 56320 + (c - 65536) % 1024 := by unfold wrap64; omega
    have HC6 := Lib.hid h6
    clear hD hu hl hc h6
    go_enter Tryd.func32, Tryd.ntmps32
    go_wp2_with (first
      | (go_at_call 44; (with_reducible refine (unit_ok (n := 55296 + (c - 65536) / 1024) HD.out (by have := HU.out; omega) (by have := HU.out; omega) (by have := HU.out; have := HC6.out; omega)).mono ?_); rintro e w5 ⟨g5, u5, ov5, rfl, hu5, hd5, hb5⟩; have H5 := Lib.hid (And.intro hu5 (And.intro hd5 hb5)); clear hu5 hd5 hb5)
      | (go_at_call 44; (with_reducible refine (unit_ok (n := 56320 + (c - 65536) % 1024) H5.out.2.1 (by have := HU.out; have := H5.out.1; omega) (by have := HU.out; simp [u4]; omega) (by have := HU.out; have := HC6.out; omega)).mono ?_); rintro e w6 ⟨g6, u6, ov6, rfl, hu6, hd6, hb6⟩; have H6 := Lib.hid (And.intro hu6 (And.intro hd6 hb6)); clear hu6 hd6 hb6))
    (try simp only [Exit.inBlock, Exit.then])
    refine bodyPost_ret (results_none rfl _ _ _) rfl ?_
    exact ⟨u4 (55296 + (c - 65536) / 1024) g5 ++ u4 (56320 + (c - 65536) % 1024) g6, u6, ov6, rfl, .inr ⟨by have := HC6.out; omega, g5, g6, rfl⟩, by have := H5.out.1; have := H6.out.1; omega, by rw [← List.append_assoc]; exact H6.out.2.1, H5.out.2.2.trans H6.out.2.2⟩

end Go.Proofs.YtkhgbacbnkgafaaDoor.Drs

/- The reference's printer of dressed texts (dresser): a string between its marks. -/
set_option linter.unusedVariables false
set_option linter.unusedSimpArgs false
namespace Go.Proofs.YtkhgbacbnkgafaaDoor.Drs
open Go Go.RowKit Go.Proofs.YtkhgbacbnkgafaaDoorW.PrintWords Go.Proofs.YtkhgbacbnkgafaaDoorW.PrintLast Go.Proofs.YtkhgbacbnkgafaaDoorW.PrintMore Go.Proofs.YtkhgbacbnkgafaaDoor.Fjh Go.Proofs.YtkhgbacbnkgafaaDoor.Spr Go.Proofs.YtkhgbacbnkgafaaDoor.JTr Go.Proofs.YtkhgbacbnkgafaaDoor.Rs Go.Proofs.YtkhgbacbnkgafaaDoor.U8 Go.Proofs.YtkhgbacbnkgafaaDoor.U8.Uc Go.Proofs.YtkhgbacbnkgafaaDoor.StrL Go.Proofs.YtkhgbacbnkgafaaDoor.EvL
attribute [local go_sem ↓] Go.wp_at_zero Go.wp_at_succ

theorem char_told {s : ByteArray} (hn : s.size ≤ 2147483647) {i : Nat} {x t : List Int} {c : Int} (h : (ints s).drop i = x ++ t) (hx : Ch x c) : ∃ k, spec_Character.f k s (i : Int) = some (c, (x.length : Int), true) := by
  have hlen := Ch.len hx
  obtain ⟨k, r, hk, hr⟩ := (char_f s hn (i : Int) (x ++ t) (by omega) (by simpa using h) (by intro e; have := congrArg List.length e; simp only [List.length_append, List.length_nil] at this; omega)).rounds
  refine ⟨k, ?_⟩
  rw [hk, hr]
  unfold tell
  rw [dec_of hx]
theorem short_told (b : Int) : ∃ l ok, spec_shortOf.f b = some (l, ok) ∧ (ok = true → Sh b l) ∧ (ok = false → b ≠ 34 ∧ b ≠ 92) := by
  unfold spec_shortOf.f Sh
  repeat' split
  all_goals refine ⟨_, _, rfl, fun h => ?_, fun h => ?_⟩
  all_goals first | (cases h; done) | omega
theorem ch_byte {x : List Int} {c : Int} (h : Ch x c) : 0 ≤ x.getD 0 0 ∧ x.getD 0 0 ≤ 255 ∧ (x.getD 0 0 < 128 → c = x.getD 0 0) ∧ (128 ≤ x.getD 0 0 → 194 ≤ x.getD 0 0 ∧ 128 ≤ c) := by
  generalize hb : x.getD 0 0 = b
  cases h <;> simp only [List.getD_cons_zero] at hb <;> subst hb <;> refine ⟨by omega, by omega, fun h => ?_, fun h => ⟨?_, ?_⟩⟩ <;> omega

theorem next_take {l x t : List Int} {i : Nat} (h : l.drop i = x ++ t) (hi : i ≤ l.length) : l.take (i + x.length) = l.take i ++ x ∧ l.drop (i + x.length) = t := by
  have e : l = l.take i ++ (x ++ t) := by rw [← h, List.take_append_drop]
  have hl : (l.take i).length = i := by rw [List.length_take]; omega
  constructor
  · rw [List.take_add, h, List.take_left]
  · rw [← List.drop_drop, h, List.drop_left]

section
variable {P : Program} {ops : Array Oper} {o : Oper} {a : Act} {Q : Exit → Act → World → Prop} {Kc : Act → World → Prop}
/-- append of a string's bytes. -/
theorem app_str_step {W : World} (base : Nat) (hw : Region.wanted o (yielded ops a.tmps) = true) (s x : Operand) (t u : TypeId) (ho : o.op = .call { callee := .builtin .append, args := #[s, x], argTypes := #[t, u] })
    (ht : P.underlying t = some (.slice 5)) (hu : P.underlying u = some .string) (hinfo : (P.info? 5).map (fun i => (i.zero, i.size, i.bytes)) = some (some (.int .u8 0), 1, 1))
    (v : Value) (xs : List Int) (y : ByteArray) (hs : a.eval s = v) (hx : a.eval x = .string y)
    (HO : W.ownsRow base 5 1 v xs.length (nums .u8 xs)) (hbase : base ≤ W.heap.size) (hl : xs.length + y.size ≤ 140737488355328)
    (h : ∀ v1 w1, w1.ownsRow base 5 1 v1 (xs ++ bytesOf y).length (nums .u8 (xs ++ bytesOf y)) → W.grownBy w1 v.ownBlock → Kc (a.put o.dst v1) w1) :
    if Region.wanted o (yielded ops a.tmps) = true then Oper.wp P o a W Kc Q else Kc (a.put o.dst undef) W := by
  obtain ⟨i0, hi, hzz⟩ := Option.map_eq_some_iff.1 hinfo
  simp only [Prod.mk.injEq] at hzz
  obtain ⟨hz0, hz1, hz2⟩ := hzz
  have hsc : Lib.strCells y = nums .u8 (bytesOf y) := by simp [nums, bytesOf, Lib.strCells]
  have hyl : (bytesOf y).length = y.size := bytesOf_length y
  obtain ⟨v1, w1, hr, h2, h3, h4⟩ := Lib.run_append_own_string (P := P) W base t u o.type 5 i0 ht hu hi hz0 hz1 hz2 v xs.length (nums .u8 xs) HO y (by simp only [maxLen]; omega) hl hbase
  rw [if_pos hw]
  unfold Oper.wp execOp
  simp only [ho, resolve, invoke, builtin, Sem.run_bind, Sem.run_pure, Result.andThen_ok, List.map_toArray, List.map_cons, List.map_nil, hs, hx, hr]
  exact h _ _ (by rw [List.length_append, hyl, show nums .u8 (xs ++ bytesOf y) = nums .u8 xs ++ Lib.strCells y from by rw [hsc]; simp [nums]]; exact h2) h3
end

def Qt7_T : Bool × List (List Nat × List Nat) := (true, [([], []), ([], []), ([1], [1]), ([2], [2]), ([3], [3]), ([], []), ([], []), ([], []), ([], []), ([7, 8], [7, 8]), ([5, 6, 9], [5, 6, 9]), ([4, 10], [4, 10]), ([0, 0, 1, 2, 3, 4, 5, 6, 7, 8, 9, 10, 11], [0]), ([12, 0, 1, 2, 3, 4, 5, 6, 7, 8, 9, 10, 11], [12]), ([13, 11, 11, 0, 1, 2, 3, 4, 5, 6, 7, 8, 9, 10, 11], [11, 13])])
def Qt7_B : List Nat := [0, 0, 2, 6, 14, 0, 0, 0, 0, 384, 992, 2046, 4095, 8191, 16383]
theorem Qt7_tab : rtab .any (opsOf Tryd.f20 7) = Qt7_T := by kernel_rfl
theorem Qt7_bits : waitsOk Qt7_T.2 Qt7_B = true := by kernel_rfl

set_option maxRecDepth 100000 in
set_option maxHeartbeats 16000000 in
theorem quoted_ok {B d used : Nat} {w : World} {cv ov : Value} {out0 : List Int} {s : ByteArray} {cs : List Int} (hD : DS B d w cv used ov out0) (hu : used ≤ 1000000000) (hl : out0.length ≤ 100000000) (hs : s.size ≤ 1000000) (ht : Txt (ints s) cs) :
    Calls Tryd.prog 20 #[.pointer (some ⟨d, 0, none⟩), .string s] w (fun e w' => ∃ (bd : List Int) (u : Nat) (ov' : Value), e = .returned (.tuple #[]) ∧ Dr (ints s) bd ∧ bd.length ≤ 12 * s.size ∧ u ≤ used + 9 * s.size ∧ DS B d w' cv u ov' (out0 ++ (34 :: (bd ++ [34]))) ∧ Bd B d w w') := by
  obtain ⟨AQ, nQ, cQ, rfl⟩ := row_form hD.row
  have HD := Lib.hid hD
  have HU := Lib.hid (And.intro hu (And.intro hl hs))
  have HT := Lib.hid ht
  have q2 := blk_cell hD.at_ 2
  have f2 := blk_frozen hD.at_ 2
  clear hD hu hl hs ht
  obtain ⟨out, hout⟩ : ∃ out, out0 ++ [34] = out := ⟨_, rfl⟩
  have HOL := Lib.hid (show out.length = out0.length + 1 from by rw [← hout]; simp)
  have HOUT := Lib.hid hout
  go_enter Tryd.func20, Tryd.ntmps20
  go_wp2_with (first | (at_builtin; refine app_list B rfl (.tmp 16) (.tmp 17) 22 rfl Tryd.underlying22 infoB8 (.slice AQ nQ cQ) out0 [34] rfl rfl HD.out.row HD.out.size (by have := HU.out; simp; omega) ?_; intro v1 w1 row1 gr1; obtain ⟨A1, n1, c1, rfl⟩ := row_form row1; have hz1 := (gr1.block d (blk_lt HD.out.at_) (fun e => by have h1 := (HD.out.row.lt d e.symm).1; have h2 := HD.out.low; omega)).trans HD.out.at_; have y1 := blk_cell hz1 2; have x1 := blk_frozen hz1 2; have R1 := Lib.hid (And.intro row1 gr1); clear row1 gr1 hz1))
  go_loopg [4] (s.size + 1) (fun kq v4 w' => ∃ (i : Nat) (bd cs1 : List Int) (u : Nat) (ov' : Value), kq = s.size - i + 1 ∧ v4 = .int .i64 (i : Int) ∧ Hid (i ≤ s.size ∧ bd.length ≤ 12 * i) ∧ Hid (Dr ((ints s).take i) bd ∧ Txt ((ints s).drop i) cs1) ∧ Hid (DS B d w' cv u ov' (out ++ bd) ∧ u ≤ used + 9 * i) ∧ Hid (Bd B d w w'))
  case atStart =>
    obtain ⟨p1, p2⟩ := DS.put HD.out R1.out.1 R1.out.2
    exact ⟨0, [], cs, used, _, rfl, rfl, Lib.hid ⟨Nat.zero_le _, Nat.zero_le _⟩, Lib.hid ⟨by simpa using Dr.nil, by simpa using HT.out⟩, Lib.hid ⟨by rw [List.append_nil, ← HOUT.out]; exact p1, by omega⟩, Lib.hid p2⟩
  case round =>
    clear q2 f2
    obtain ⟨i, bd, cs1, u, ov', rfl, rfl, HI, HDR, HDS, HBD⟩ := hrel
    obtain ⟨AO, nO, cO, rfl⟩ := row_form HDS.out.1.row
    by_cases hi : i < s.size
    · have hj0 : (0 : Int) ≤ (i : Int) := by omega
      have hj1 : (i : Int) < (s.size : Int) := by omega
      have hd1 : decide ((i : Int) < (s.size : Int)) = true := decide_eq_true (by omega)
      have hd2 : decide (i < s.size) = true := decide_eq_true hi
      obtain ⟨x, t, c, cs2, hxt, hcs, hx, htt⟩ : ∃ x t c cs2, (ints s).drop i = x ++ t ∧ cs1 = c :: cs2 ∧ Ch x c ∧ Txt t cs2 := by
        have h := HDR.out.2
        generalize hl : (ints s).drop i = l at h
        cases h with
        | nil => have := congrArg List.length hl; rw [List.length_drop, ints_length] at this; simp at this; omega
        | cons hx ht => exact ⟨_, _, _, _, rfl, rfl, hx, ht⟩
      have hlen := Ch.len hx
      have hsz := congrArg List.length hxt
      rw [List.length_drop, ints_length, List.length_append] at hsz
      obtain ⟨kc, hkc⟩ := char_told (by have := HU.out; omega) hxt hx
      obtain ⟨b, hb⟩ : ∃ b, b = x.getD 0 0 := ⟨_, rfl⟩
      obtain ⟨b0, b1, b2, b3⟩ := ch_byte hx
      rw [← hb] at b0 b1 b2 b3
      have hbt : bt s (i : Int) = b := by
        rw [bt_getD, hb, show ((i : Int)).toNat = i from by simp]
        have e1 : (ints s)[i]? = x[0]? := by
          have h := congrArg (fun l => l[0]?) hxt
          simp only [List.getElem?_drop, Nat.add_zero] at h
          rw [h, List.getElem?_append_left (by omega)]
        rw [List.getD_eq_getElem?_getD, e1, List.getD_eq_getElem?_getD]
      have hget : (((s[i]'hi).toNat : Nat) : Int) = b := by
        rw [← hbt, bt_getD, show ((i : Int)).toNat = i from by simp]
        unfold ints
        rw [List.getD_eq_getElem?_getD, List.getElem?_map, List.getElem?_eq_getElem (by rw [Array.length_toList]; exact hi)]
        rfl
      obtain ⟨lb, okb, hsh, hs1, hs2⟩ := short_told b
      have HCH := Lib.hid hkc
      have HX := Lib.hid (And.intro hx (And.intro htt (And.intro hxt (And.intro hlen hsz))))
      have HB := Lib.hid (And.intro b0 (And.intro b1 (And.intro b2 b3)))
      have HSP := Lib.hid (And.intro hs1 hs2)
      have HSH := Lib.hid hsh
      have hw1 : wrap64 ((i : Int) + (x.length : Int)) = (i : Int) + (x.length : Int) := by have := HU.out; unfold wrap64; omega
      clear hkc hx htt hxt hlen hsz b0 b1 b2 b3 hs1 hs2 hsh hb hcs
      have HRG := Lib.hid (ch_range HX.out.1)
      have HXS := Lib.hid (show (s.extract i (i + x.length)).size ≤ 4 from by rw [ByteArray.size_extract]; have := HX.out.2.2.2.1; omega)
      have HLN := Lib.hid (show (out ++ bd).length ≤ 200000000 from by rw [List.length_append]; have := HOL.out; have := HU.out; have := HI.out; omega)
      have hj2 : (i : Int) ≤ (i : Int) + (x.length : Int) := by omega
      have hj3 : (i : Int) + (x.length : Int) ≤ (s.size : Int) := by have := HX.out.2.2.2.2; omega
      cases okb with
      | false =>
        have hso := HSP.out.2 (by first | rfl | trivial)
        have hmm : b < 32 ∨ (32 ≤ b ∧ b ≠ 34 ∧ b ≠ 92) := by omega
        clear hso
        rcases hmm with hm | hm
        · have g1 : decide (b < 32) = true := decide_eq_true hm
          clear hm
          go_upto_block 2 with (first | (go_at_call 9; (with_reducible refine (spec_Character.calls kc s (i : Int) c (x.length : Int) true _ HCH.out).mono ?_); rintro e w2 ⟨rfl, ⟨nd2, rfl⟩⟩) | (go_at_call 31; (with_reducible refine (spec_shortOf.calls b lb false _ HSH.out).mono ?_); rintro e w3 ⟨rfl, ⟨nd3, rfl⟩⟩) | (go_at_call 18; (refine (pick_ok (w := World.drewN wr (nd2 + nd3)) HDS.out.1.at_ (HDS.out.1.code.kb (fun _ _ _ => rfl)) (by have := HDS.out.2; have := HU.out; have := HI.out; omega) 4 (by omega) (by omega)).mono ?_); rintro e w5 ⟨r5, u5, rfl, hr5, hr6, hu5, hd5, hk5⟩; obtain ⟨hDS5, hBd5⟩ := DS.pick HDS.out.1 hd5 (show Kb d wr w5 from ⟨hk5.os, hk5.tape, hk5.output, hk5.size, hk5.block⟩); have HR5 := Lib.hid (And.intro hr5 hr6); have HP5 := Lib.hid (And.intro hDS5 (And.intro hBd5 hu5)); have c25 := blk_cell hd5 2; have f25 := blk_frozen hd5 2; clear hr5 hr6 hu5 hd5 hk5 hDS5 hBd5))
          have hr4 : r5 = 3 ∨ r5 = 2 ∨ (r5 ≠ 3 ∧ r5 ≠ 2) := by omega
          rcases hr4 with rfl | rfl | ⟨hr3, hr2⟩
          · go_wp2_with (first | (go_at_call 32; refine (escape_ok HP5.out.1 (by have := HDS.out.2; have := HP5.out.2.2; have := HU.out; have := HI.out; omega) (by have := HLN.out; omega) ⟨HRG.out.1, HRG.out.2.1⟩).mono ?_; rintro e w6 ⟨y6, u6, ov6, rfl, hy6, hu6, hd6, hb6⟩; have H6 := Lib.hid (And.intro hy6 (And.intro hu6 (And.intro hd6 hb6))); clear hy6 hu6 hd6 hb6))
            go_roundg (s.size - (i + x.length) + 1)
            case measure => have := HX.out; have := HI.out; omega
            case rel =>
              have hX := HX.out
              have hI := HI.out
              obtain ⟨n1, n2⟩ := next_take hX.2.2.1 (by rw [ints_length]; omega)
              refine ⟨i + x.length, bd ++ y6, cs2, u6, ov6, rfl, by first | rfl | (rw [hw1]; rfl), Lib.hid ⟨by omega, by rw [List.length_append]; have : (y6).length ≤ 12 := H6.out.1.len; omega⟩, Lib.hid ⟨by rw [n1]; exact Dr.push hX.1 H6.out.1.pc HDR.out.1, by rw [n2]; exact hX.2.1⟩, Lib.hid ⟨by rw [← List.append_assoc]; exact H6.out.2.2.1, by have := HDS.out.2; have := HP5.out.2.2; have := H6.out.2.1; omega⟩, Lib.hid ((HBD.out.trans HP5.out.2.1).trans H6.out.2.2.2)⟩
          · go_wp2_with (first | (go_at_call 32; refine (escape_ok HP5.out.1 (by have := HDS.out.2; have := HP5.out.2.2; have := HU.out; have := HI.out; omega) (by have := HLN.out; omega) ⟨HRG.out.1, HRG.out.2.1⟩).mono ?_; rintro e w6 ⟨y6, u6, ov6, rfl, hy6, hu6, hd6, hb6⟩; have H6 := Lib.hid (And.intro hy6 (And.intro hu6 (And.intro hd6 hb6))); clear hy6 hu6 hd6 hb6))
            go_roundg (s.size - (i + x.length) + 1)
            case measure => have := HX.out; have := HI.out; omega
            case rel =>
              have hX := HX.out
              have hI := HI.out
              obtain ⟨n1, n2⟩ := next_take hX.2.2.1 (by rw [ints_length]; omega)
              refine ⟨i + x.length, bd ++ y6, cs2, u6, ov6, rfl, by first | rfl | (rw [hw1]; rfl), Lib.hid ⟨by omega, by rw [List.length_append]; have : (y6).length ≤ 12 := H6.out.1.len; omega⟩, Lib.hid ⟨by rw [n1]; exact Dr.push hX.1 H6.out.1.pc HDR.out.1, by rw [n2]; exact hX.2.1⟩, Lib.hid ⟨by rw [← List.append_assoc]; exact H6.out.2.2.1, by have := HDS.out.2; have := HP5.out.2.2; have := H6.out.2.1; omega⟩, Lib.hid ((HBD.out.trans HP5.out.2.1).trans H6.out.2.2.2)⟩
          · have k3 : (r5 == 3) = false := beq_eq_false_iff_ne.mpr hr3
            have k2 : (r5 == 2) = false := beq_eq_false_iff_ne.mpr hr2
            clear hr3 hr2
            go_wp2_with (first | (go_at_call 32; refine (escape_ok HP5.out.1 (by have := HDS.out.2; have := HP5.out.2.2; have := HU.out; have := HI.out; omega) (by have := HLN.out; omega) ⟨HRG.out.1, HRG.out.2.1⟩).mono ?_; rintro e w6 ⟨y6, u6, ov6, rfl, hy6, hu6, hd6, hb6⟩; have H6 := Lib.hid (And.intro hy6 (And.intro hu6 (And.intro hd6 hb6))); clear hy6 hu6 hd6 hb6))
            go_roundg (s.size - (i + x.length) + 1)
            case measure => have := HX.out; have := HI.out; omega
            case rel =>
              have hX := HX.out
              have hI := HI.out
              obtain ⟨n1, n2⟩ := next_take hX.2.2.1 (by rw [ints_length]; omega)
              refine ⟨i + x.length, bd ++ y6, cs2, u6, ov6, rfl, by first | rfl | (rw [hw1]; rfl), Lib.hid ⟨by omega, by rw [List.length_append]; have : (y6).length ≤ 12 := H6.out.1.len; omega⟩, Lib.hid ⟨by rw [n1]; exact Dr.push hX.1 H6.out.1.pc HDR.out.1, by rw [n2]; exact hX.2.1⟩, Lib.hid ⟨by rw [← List.append_assoc]; exact H6.out.2.2.1, by have := HDS.out.2; have := HP5.out.2.2; have := H6.out.2.1; omega⟩, Lib.hid ((HBD.out.trans HP5.out.2.1).trans H6.out.2.2.2)⟩
        · have g1 : decide (b < 32) = false := decide_eq_false (by omega)
          have g2 : (b == 34) = false := beq_eq_false_iff_ne.mpr (by omega)
          have g3 : (b == 92) = false := beq_eq_false_iff_ne.mpr (by omega)
          have HM := Lib.hid hm
          clear hm
          go_upto_block 2 with (first | (go_at_call 9; (with_reducible refine (spec_Character.calls kc s (i : Int) c (x.length : Int) true _ HCH.out).mono ?_); rintro e w2 ⟨rfl, ⟨nd2, rfl⟩⟩) | (go_at_call 31; (with_reducible refine (spec_shortOf.calls b lb false _ HSH.out).mono ?_); rintro e w3 ⟨rfl, ⟨nd3, rfl⟩⟩) | (go_at_call 18; (refine (pick_ok (w := World.drewN wr (nd2 + nd3)) HDS.out.1.at_ (HDS.out.1.code.kb (fun _ _ _ => rfl)) (by have := HDS.out.2; have := HU.out; have := HI.out; omega) 4 (by omega) (by omega)).mono ?_); rintro e w5 ⟨r5, u5, rfl, hr5, hr6, hu5, hd5, hk5⟩; obtain ⟨hDS5, hBd5⟩ := DS.pick HDS.out.1 hd5 (show Kb d wr w5 from ⟨hk5.os, hk5.tape, hk5.output, hk5.size, hk5.block⟩); have HR5 := Lib.hid (And.intro hr5 hr6); have HP5 := Lib.hid (And.intro hDS5 (And.intro hBd5 hu5)); have c25 := blk_cell hd5 2; have f25 := blk_frozen hd5 2; clear hr5 hr6 hu5 hd5 hk5 hDS5 hBd5))
          have hr4 : r5 = 3 ∨ r5 = 2 ∨ (r5 ≠ 3 ∧ r5 ≠ 2) := by omega
          rcases hr4 with rfl | rfl | ⟨hr3, hr2⟩
          · go_wp2_with (first | (go_at_call 32; refine (escape_ok HP5.out.1 (by have := HDS.out.2; have := HP5.out.2.2; have := HU.out; have := HI.out; omega) (by have := HLN.out; omega) ⟨HRG.out.1, HRG.out.2.1⟩).mono ?_; rintro e w6 ⟨y6, u6, ov6, rfl, hy6, hu6, hd6, hb6⟩; have H6 := Lib.hid (And.intro hy6 (And.intro hu6 (And.intro hd6 hb6))); clear hy6 hu6 hd6 hb6))
            go_roundg (s.size - (i + x.length) + 1)
            case measure => have := HX.out; have := HI.out; omega
            case rel =>
              have hX := HX.out
              have hI := HI.out
              obtain ⟨n1, n2⟩ := next_take hX.2.2.1 (by rw [ints_length]; omega)
              refine ⟨i + x.length, bd ++ y6, cs2, u6, ov6, rfl, by first | rfl | (rw [hw1]; rfl), Lib.hid ⟨by omega, by rw [List.length_append]; have : (y6).length ≤ 12 := H6.out.1.len; omega⟩, Lib.hid ⟨by rw [n1]; exact Dr.push hX.1 H6.out.1.pc HDR.out.1, by rw [n2]; exact hX.2.1⟩, Lib.hid ⟨by rw [← List.append_assoc]; exact H6.out.2.2.1, by have := HDS.out.2; have := HP5.out.2.2; have := H6.out.2.1; omega⟩, Lib.hid ((HBD.out.trans HP5.out.2.1).trans H6.out.2.2.2)⟩
          · go_wp2
            refine start_ (n := 15) (S := fun w' => w'.cell? ⟨d, 2, none⟩ = some (.slice AO nO cO)) (ds := [14]) #[false, false, false, false, false, false, false, false, false, false, false, false, false, false, false] (by kernel_rfl) rfl rfl c25 (fun hHeld => ?_); refine with_tabW Qt7_tab Qt7_bits (fun HT_ HW_ => ?_)
            refine pure_ (i := 0) (N := some 57) (v := ?_) (a' := ?_) #[true, false, false, false, false, false, false, false, false, false, false, false, false, false, false] rfl rfl (any_of HT_.out (by kernel_rfl)) (fun _ _ _ h => h) (Or.inl ⟨by rfl, ?_⟩) ?_ ?_
            rotate_left
            · intro w'
              go_simp
              with_reducible rfl
            rotate_left
            · simp only [Act.put, List.setIfInBounds_toArray, List.set_cons_zero, List.set_cons_succ, i64_w, i32_w]
              rfl
            refine pure_ (i := 1) (N := some 58) (v := ?_) (a' := ?_) #[true, true, false, false, false, false, false, false, false, false, false, false, false, false, false] rfl rfl (any_of HT_.out (by kernel_rfl)) (fun _ _ _ h => h) (Or.inl ⟨by rfl, ?_⟩) ?_ ?_
            rotate_left
            · intro w'
              go_simp
              with_reducible rfl
            rotate_left
            · simp only [Act.put, List.setIfInBounds_toArray, List.set_cons_zero, List.set_cons_succ, i64_w, i32_w]
              rfl
            refine pure_ (i := 2) (N := some 59) (v := ?_) (a' := ?_) #[true, true, true, false, false, false, false, false, false, false, false, false, false, false, false] rfl rfl (any_of HT_.out (by kernel_rfl)) (fun _ _ _ h => h) (Or.inl ⟨by rfl, ?_⟩) ?_ ?_
            rotate_left
            · intro w'
              go_simp
              with_reducible rfl
            rotate_left
            · simp only [Act.put, List.setIfInBounds_toArray, List.set_cons_zero, List.set_cons_succ, i64_w, i32_w]
              rfl
            refine pure_ (i := 3) (N := some 60) (v := ?_) (a' := ?_) #[true, true, true, true, false, false, false, false, false, false, false, false, false, false, false] rfl rfl (any_of HT_.out (by kernel_rfl)) (fun _ _ _ h => h) (Or.inl ⟨by rfl, ?_⟩) ?_ ?_
            rotate_left
            · intro w'
              go_simp
              with_reducible rfl
            rotate_left
            · simp only [Act.put, List.setIfInBounds_toArray, List.set_cons_zero, List.set_cons_succ, i64_w, i32_w]
              rfl
            refine take_ (i := 4) (N := some 61) (v := ?_) (a' := ?_) #[true, true, true, true, true, false, false, false, false, false, false, false, false, false, false] rfl rfl (take_ofW HT_.out HW_.out (by kernel_rfl)) (fun _ _ _ h => h) (Or.inl ⟨by rfl, ?_⟩) hHeld ?_ ?_
            rotate_left
            · rintro w' s0
              go_simp
              with_reducible rfl
            rotate_left
            · simp only [Act.put, List.setIfInBounds_toArray, List.set_cons_zero, List.set_cons_succ, i64_w, i32_w]
              rfl
            refine pure_ (i := 5) (N := some 62) (v := ?_) (a' := ?_) #[true, true, true, true, true, true, false, false, false, false, false, false, false, false, false] rfl rfl (any_of HT_.out (by kernel_rfl)) (fun _ _ _ h => h) (Or.inl ⟨by rfl, ?_⟩) ?_ ?_
            rotate_left
            · intro w'
              go_simp
              with_reducible rfl
            rotate_left
            · simp only [Act.put, List.setIfInBounds_toArray, List.set_cons_zero, List.set_cons_succ, i64_w, i32_w]
              rfl
            refine pure_ (i := 6) (N := some 63) (v := ?_) (a' := ?_) #[true, true, true, true, true, true, true, false, false, false, false, false, false, false, false] rfl rfl (any_of HT_.out (by kernel_rfl)) (fun _ _ _ h => h) (Or.inl ⟨by rfl, ?_⟩) ?_ ?_
            rotate_left
            · intro w'
              go_simp
              with_reducible rfl
            rotate_left
            · simp only [Act.put, List.setIfInBounds_toArray, List.set_cons_zero, List.set_cons_succ, i64_w, i32_w]
              rfl
            refine pure_ (i := 7) (N := some 64) (v := ?_) (a' := ?_) #[true, true, true, true, true, true, true, true, false, false, false, false, false, false, false] rfl rfl (any_of HT_.out (by kernel_rfl)) (fun _ _ _ h => h) (Or.inl ⟨by rfl, ?_⟩) ?_ ?_
            rotate_left
            · intro w'
              go_simp
              with_reducible rfl
            rotate_left
            · simp only [Act.put, List.setIfInBounds_toArray, List.set_cons_zero, List.set_cons_succ, i64_w, i32_w]
              rfl
            refine pure_ (i := 8) (N := some 65) (v := ?_) (a' := ?_) #[true, true, true, true, true, true, true, true, true, false, false, false, false, false, false] rfl rfl (any_of HT_.out (by kernel_rfl)) (fun _ _ _ h => h) (Or.inl ⟨by rfl, ?_⟩) ?_ ?_
            rotate_left
            · intro w'
              go_simp
              with_reducible rfl
            rotate_left
            · simp only [Act.put, List.setIfInBounds_toArray, List.set_cons_zero, List.set_cons_succ, i64_w, i32_w]
              rfl
            refine pure_ (i := 9) (N := some 66) (v := ?_) (a' := ?_) #[true, true, true, true, true, true, true, true, true, true, false, false, false, false, false] rfl rfl (any_of HT_.out (by kernel_rfl)) (fun _ _ _ h => h) (Or.inl ⟨by rfl, ?_⟩) ?_ ?_
            rotate_left
            · intro w'
              go_simp
              with_reducible rfl
            rotate_left
            · simp only [Act.put, List.setIfInBounds_toArray, List.set_cons_zero, List.set_cons_succ, i64_w, i32_w]
              rfl
            refine pure_ (i := 10) (N := some 67) (v := ?_) (a' := ?_) #[true, true, true, true, true, true, true, true, true, true, true, false, false, false, false] rfl rfl (any_of HT_.out (by kernel_rfl)) (fun _ _ _ h => h) (Or.inl ⟨by rfl, ?_⟩) ?_ ?_
            rotate_left
            · intro w'
              go_simp
              with_reducible rfl
            rotate_left
            · simp only [Act.put, List.setIfInBounds_toArray, List.set_cons_zero, List.set_cons_succ, i64_w, i32_w]
              rfl
            refine one_ (i := 11) (N := some 68) #[true, true, true, true, true, true, true, true, true, true, true, true, false, false, false] rfl rfl (one_of HT_.out (by kernel_rfl)) (by decide) (fun K hK => ?_)
            refine app_str_step B rfl (.tmp 61) (.tmp 67) 22 9 rfl Tryd.underlying22 Tryd.underlying9 infoB8 (.slice AO nO cO) (out ++ bd) (s.extract i (i + x.length)) rfl rfl (own_keep HP5.out.1.row (fun _ _ => rfl)) HP5.out.1.size (by have := HLN.out; have := HXS.out; omega) ?_
            intro v8 w8 row8 gr8
            obtain ⟨A8, n8, c8, rfl⟩ := row_form row8
            have R8 := Lib.hid (And.intro row8 (show w5.grownBy w8 (Value.slice AO nO cO).ownBlock from ⟨gr8.os, gr8.tape, gr8.output, gr8.size, gr8.block⟩))
            have hz8 := (gr8.block d (blk_lt HP5.out.1.at_) (fun e => by have h1 := (HP5.out.1.row.lt d e.symm).1; have h2 := HP5.out.1.low; omega)).trans HP5.out.1.at_
            have y8 := blk_cell hz8 2
            have x8 := blk_frozen hz8 2
            clear row8 gr8 hz8
            refine hK.out _ _ y8 (fun hHeld => ?_)
            clear hK K
            refine norm_ (a' := ?_) ?_ ?_
            rotate_left
            · show Act.put _ (some 68) _ = _
              simp only [Act.put, List.setIfInBounds_toArray, List.set_cons_zero, List.set_cons_succ, i64_w, i32_w]
              rfl
            refine pure_ (i := 12) (N := some 69) (v := ?_) (a' := ?_) #[true, true, true, true, true, true, true, true, true, true, true, true, true, false, false] rfl rfl (any_of HT_.out (by kernel_rfl)) (fun _ _ _ h => h) (Or.inl ⟨by rfl, ?_⟩) ?_ ?_
            rotate_left
            · intro w'
              go_simp
              with_reducible rfl
            rotate_left
            · simp only [Act.put, List.setIfInBounds_toArray, List.set_cons_zero, List.set_cons_succ, i64_w, i32_w]
              rfl
            refine pure_ (i := 13) (N := some 70) (v := ?_) (a' := ?_) #[true, true, true, true, true, true, true, true, true, true, true, true, true, true, false] rfl rfl (any_of HT_.out (by kernel_rfl)) (fun _ _ _ h => h) (Or.inl ⟨by rfl, ?_⟩) ?_ ?_
            rotate_left
            · intro w'
              go_simp
              with_reducible rfl
            rotate_left
            · simp only [Act.put, List.setIfInBounds_toArray, List.set_cons_zero, List.set_cons_succ, i64_w, i32_w]
              rfl
            refine last_ (i := 14) (N := none) #[true, true, true, true, true, true, true, true, true, true, true, true, true, true, true] rfl rfl (one_of HT_.out (by kernel_rfl)) (by decide) (fun K hK => ?_)
            refine skip_ (w1 := ?_) (by rfl) rfl ?_ ?_
            rotate_left
            · go_simp
              rfl
            refine hK.out _ _ ?_
            clear hK K
            refine done_ (done_of HT_.out (by kernel_rfl)) ?_
            try go_wp2
            obtain ⟨p1, p2⟩ := DS.put HP5.out.1 R8.out.1 R8.out.2
            have hxx : bytesOf (s.extract i (i + x.length)) = x := (ints_extract s i (i + x.length)).trans (by rw [HX.out.2.2.1, Nat.add_sub_cancel_left, List.take_left])
            rw [hxx] at p1
            go_roundg (s.size - (i + x.length) + 1)
            case measure => have := HX.out; have := HI.out; omega
            case rel =>
              have hX := HX.out
              have hI := HI.out
              obtain ⟨n1, n2⟩ := next_take hX.2.2.1 (by rw [ints_length]; omega)
              refine ⟨i + x.length, bd ++ x, cs2, u5, _, rfl, by first | rfl | (rw [hw1]; rfl), Lib.hid ⟨by omega, by rw [List.length_append]; have : (x).length ≤ 12 := (by have := hX.2.2.2.1; omega); omega⟩, Lib.hid ⟨by rw [n1]; exact Dr.push hX.1 (.self (by have h1 := HB.out; have h2 := HM.out; omega) (by have h1 := HB.out; have h2 := HM.out; omega) (by have h1 := HB.out; have h2 := HM.out; omega)) HDR.out.1, by rw [n2]; exact hX.2.1⟩, Lib.hid ⟨by rw [← List.append_assoc]; exact p1, by have := HDS.out.2; have := HP5.out.2.2; omega⟩, Lib.hid ((HBD.out.trans HP5.out.2.1).trans p2)⟩
          · have k3 : (r5 == 3) = false := beq_eq_false_iff_ne.mpr hr3
            have k2 : (r5 == 2) = false := beq_eq_false_iff_ne.mpr hr2
            clear hr3 hr2
            go_wp2
            refine start_ (n := 15) (S := fun w' => w'.cell? ⟨d, 2, none⟩ = some (.slice AO nO cO)) (ds := [14]) #[false, false, false, false, false, false, false, false, false, false, false, false, false, false, false] (by kernel_rfl) rfl rfl c25 (fun hHeld => ?_); refine with_tabW Qt7_tab Qt7_bits (fun HT_ HW_ => ?_)
            refine pure_ (i := 0) (N := some 57) (v := ?_) (a' := ?_) #[true, false, false, false, false, false, false, false, false, false, false, false, false, false, false] rfl rfl (any_of HT_.out (by kernel_rfl)) (fun _ _ _ h => h) (Or.inl ⟨by rfl, ?_⟩) ?_ ?_
            rotate_left
            · intro w'
              go_simp
              with_reducible rfl
            rotate_left
            · simp only [Act.put, List.setIfInBounds_toArray, List.set_cons_zero, List.set_cons_succ, i64_w, i32_w]
              rfl
            refine pure_ (i := 1) (N := some 58) (v := ?_) (a' := ?_) #[true, true, false, false, false, false, false, false, false, false, false, false, false, false, false] rfl rfl (any_of HT_.out (by kernel_rfl)) (fun _ _ _ h => h) (Or.inl ⟨by rfl, ?_⟩) ?_ ?_
            rotate_left
            · intro w'
              go_simp
              with_reducible rfl
            rotate_left
            · simp only [Act.put, List.setIfInBounds_toArray, List.set_cons_zero, List.set_cons_succ, i64_w, i32_w]
              rfl
            refine pure_ (i := 2) (N := some 59) (v := ?_) (a' := ?_) #[true, true, true, false, false, false, false, false, false, false, false, false, false, false, false] rfl rfl (any_of HT_.out (by kernel_rfl)) (fun _ _ _ h => h) (Or.inl ⟨by rfl, ?_⟩) ?_ ?_
            rotate_left
            · intro w'
              go_simp
              with_reducible rfl
            rotate_left
            · simp only [Act.put, List.setIfInBounds_toArray, List.set_cons_zero, List.set_cons_succ, i64_w, i32_w]
              rfl
            refine pure_ (i := 3) (N := some 60) (v := ?_) (a' := ?_) #[true, true, true, true, false, false, false, false, false, false, false, false, false, false, false] rfl rfl (any_of HT_.out (by kernel_rfl)) (fun _ _ _ h => h) (Or.inl ⟨by rfl, ?_⟩) ?_ ?_
            rotate_left
            · intro w'
              go_simp
              with_reducible rfl
            rotate_left
            · simp only [Act.put, List.setIfInBounds_toArray, List.set_cons_zero, List.set_cons_succ, i64_w, i32_w]
              rfl
            refine take_ (i := 4) (N := some 61) (v := ?_) (a' := ?_) #[true, true, true, true, true, false, false, false, false, false, false, false, false, false, false] rfl rfl (take_ofW HT_.out HW_.out (by kernel_rfl)) (fun _ _ _ h => h) (Or.inl ⟨by rfl, ?_⟩) hHeld ?_ ?_
            rotate_left
            · rintro w' s0
              go_simp
              with_reducible rfl
            rotate_left
            · simp only [Act.put, List.setIfInBounds_toArray, List.set_cons_zero, List.set_cons_succ, i64_w, i32_w]
              rfl
            refine pure_ (i := 5) (N := some 62) (v := ?_) (a' := ?_) #[true, true, true, true, true, true, false, false, false, false, false, false, false, false, false] rfl rfl (any_of HT_.out (by kernel_rfl)) (fun _ _ _ h => h) (Or.inl ⟨by rfl, ?_⟩) ?_ ?_
            rotate_left
            · intro w'
              go_simp
              with_reducible rfl
            rotate_left
            · simp only [Act.put, List.setIfInBounds_toArray, List.set_cons_zero, List.set_cons_succ, i64_w, i32_w]
              rfl
            refine pure_ (i := 6) (N := some 63) (v := ?_) (a' := ?_) #[true, true, true, true, true, true, true, false, false, false, false, false, false, false, false] rfl rfl (any_of HT_.out (by kernel_rfl)) (fun _ _ _ h => h) (Or.inl ⟨by rfl, ?_⟩) ?_ ?_
            rotate_left
            · intro w'
              go_simp
              with_reducible rfl
            rotate_left
            · simp only [Act.put, List.setIfInBounds_toArray, List.set_cons_zero, List.set_cons_succ, i64_w, i32_w]
              rfl
            refine pure_ (i := 7) (N := some 64) (v := ?_) (a' := ?_) #[true, true, true, true, true, true, true, true, false, false, false, false, false, false, false] rfl rfl (any_of HT_.out (by kernel_rfl)) (fun _ _ _ h => h) (Or.inl ⟨by rfl, ?_⟩) ?_ ?_
            rotate_left
            · intro w'
              go_simp
              with_reducible rfl
            rotate_left
            · simp only [Act.put, List.setIfInBounds_toArray, List.set_cons_zero, List.set_cons_succ, i64_w, i32_w]
              rfl
            refine pure_ (i := 8) (N := some 65) (v := ?_) (a' := ?_) #[true, true, true, true, true, true, true, true, true, false, false, false, false, false, false] rfl rfl (any_of HT_.out (by kernel_rfl)) (fun _ _ _ h => h) (Or.inl ⟨by rfl, ?_⟩) ?_ ?_
            rotate_left
            · intro w'
              go_simp
              with_reducible rfl
            rotate_left
            · simp only [Act.put, List.setIfInBounds_toArray, List.set_cons_zero, List.set_cons_succ, i64_w, i32_w]
              rfl
            refine pure_ (i := 9) (N := some 66) (v := ?_) (a' := ?_) #[true, true, true, true, true, true, true, true, true, true, false, false, false, false, false] rfl rfl (any_of HT_.out (by kernel_rfl)) (fun _ _ _ h => h) (Or.inl ⟨by rfl, ?_⟩) ?_ ?_
            rotate_left
            · intro w'
              go_simp
              with_reducible rfl
            rotate_left
            · simp only [Act.put, List.setIfInBounds_toArray, List.set_cons_zero, List.set_cons_succ, i64_w, i32_w]
              rfl
            refine pure_ (i := 10) (N := some 67) (v := ?_) (a' := ?_) #[true, true, true, true, true, true, true, true, true, true, true, false, false, false, false] rfl rfl (any_of HT_.out (by kernel_rfl)) (fun _ _ _ h => h) (Or.inl ⟨by rfl, ?_⟩) ?_ ?_
            rotate_left
            · intro w'
              go_simp
              with_reducible rfl
            rotate_left
            · simp only [Act.put, List.setIfInBounds_toArray, List.set_cons_zero, List.set_cons_succ, i64_w, i32_w]
              rfl
            refine one_ (i := 11) (N := some 68) #[true, true, true, true, true, true, true, true, true, true, true, true, false, false, false] rfl rfl (one_of HT_.out (by kernel_rfl)) (by decide) (fun K hK => ?_)
            refine app_str_step B rfl (.tmp 61) (.tmp 67) 22 9 rfl Tryd.underlying22 Tryd.underlying9 infoB8 (.slice AO nO cO) (out ++ bd) (s.extract i (i + x.length)) rfl rfl (own_keep HP5.out.1.row (fun _ _ => rfl)) HP5.out.1.size (by have := HLN.out; have := HXS.out; omega) ?_
            intro v8 w8 row8 gr8
            obtain ⟨A8, n8, c8, rfl⟩ := row_form row8
            have R8 := Lib.hid (And.intro row8 (show w5.grownBy w8 (Value.slice AO nO cO).ownBlock from ⟨gr8.os, gr8.tape, gr8.output, gr8.size, gr8.block⟩))
            have hz8 := (gr8.block d (blk_lt HP5.out.1.at_) (fun e => by have h1 := (HP5.out.1.row.lt d e.symm).1; have h2 := HP5.out.1.low; omega)).trans HP5.out.1.at_
            have y8 := blk_cell hz8 2
            have x8 := blk_frozen hz8 2
            clear row8 gr8 hz8
            refine hK.out _ _ y8 (fun hHeld => ?_)
            clear hK K
            refine norm_ (a' := ?_) ?_ ?_
            rotate_left
            · show Act.put _ (some 68) _ = _
              simp only [Act.put, List.setIfInBounds_toArray, List.set_cons_zero, List.set_cons_succ, i64_w, i32_w]
              rfl
            refine pure_ (i := 12) (N := some 69) (v := ?_) (a' := ?_) #[true, true, true, true, true, true, true, true, true, true, true, true, true, false, false] rfl rfl (any_of HT_.out (by kernel_rfl)) (fun _ _ _ h => h) (Or.inl ⟨by rfl, ?_⟩) ?_ ?_
            rotate_left
            · intro w'
              go_simp
              with_reducible rfl
            rotate_left
            · simp only [Act.put, List.setIfInBounds_toArray, List.set_cons_zero, List.set_cons_succ, i64_w, i32_w]
              rfl
            refine pure_ (i := 13) (N := some 70) (v := ?_) (a' := ?_) #[true, true, true, true, true, true, true, true, true, true, true, true, true, true, false] rfl rfl (any_of HT_.out (by kernel_rfl)) (fun _ _ _ h => h) (Or.inl ⟨by rfl, ?_⟩) ?_ ?_
            rotate_left
            · intro w'
              go_simp
              with_reducible rfl
            rotate_left
            · simp only [Act.put, List.setIfInBounds_toArray, List.set_cons_zero, List.set_cons_succ, i64_w, i32_w]
              rfl
            refine last_ (i := 14) (N := none) #[true, true, true, true, true, true, true, true, true, true, true, true, true, true, true] rfl rfl (one_of HT_.out (by kernel_rfl)) (by decide) (fun K hK => ?_)
            refine skip_ (w1 := ?_) (by rfl) rfl ?_ ?_
            rotate_left
            · go_simp
              rfl
            refine hK.out _ _ ?_
            clear hK K
            refine done_ (done_of HT_.out (by kernel_rfl)) ?_
            try go_wp2
            obtain ⟨p1, p2⟩ := DS.put HP5.out.1 R8.out.1 R8.out.2
            have hxx : bytesOf (s.extract i (i + x.length)) = x := (ints_extract s i (i + x.length)).trans (by rw [HX.out.2.2.1, Nat.add_sub_cancel_left, List.take_left])
            rw [hxx] at p1
            go_roundg (s.size - (i + x.length) + 1)
            case measure => have := HX.out; have := HI.out; omega
            case rel =>
              have hX := HX.out
              have hI := HI.out
              obtain ⟨n1, n2⟩ := next_take hX.2.2.1 (by rw [ints_length]; omega)
              refine ⟨i + x.length, bd ++ x, cs2, u5, _, rfl, by first | rfl | (rw [hw1]; rfl), Lib.hid ⟨by omega, by rw [List.length_append]; have : (x).length ≤ 12 := (by have := hX.2.2.2.1; omega); omega⟩, Lib.hid ⟨by rw [n1]; exact Dr.push hX.1 (.self (by have h1 := HB.out; have h2 := HM.out; omega) (by have h1 := HB.out; have h2 := HM.out; omega) (by have h1 := HB.out; have h2 := HM.out; omega)) HDR.out.1, by rw [n2]; exact hX.2.1⟩, Lib.hid ⟨by rw [← List.append_assoc]; exact p1, by have := HDS.out.2; have := HP5.out.2.2; omega⟩, Lib.hid ((HBD.out.trans HP5.out.2.1).trans p2)⟩
      | true =>
        have hmm : b < 32 ∨ b = 34 ∨ b = 92 ∨ (32 ≤ b ∧ b ≠ 34 ∧ b ≠ 92) := by omega
        rcases hmm with hm | hm | hm | hm
        · have g1 : decide (b < 32) = true := decide_eq_true hm
          clear hm
          go_upto_block 2 with (first | (go_at_call 9; (with_reducible refine (spec_Character.calls kc s (i : Int) c (x.length : Int) true _ HCH.out).mono ?_); rintro e w2 ⟨rfl, ⟨nd2, rfl⟩⟩) | (go_at_call 31; (with_reducible refine (spec_shortOf.calls b lb true _ HSH.out).mono ?_); rintro e w3 ⟨rfl, ⟨nd3, rfl⟩⟩) | (go_at_call 18; (refine (pick_ok (w := World.drewN wr (nd2 + nd3)) HDS.out.1.at_ (HDS.out.1.code.kb (fun _ _ _ => rfl)) (by have := HDS.out.2; have := HU.out; have := HI.out; omega) 4 (by omega) (by omega)).mono ?_); rintro e w5 ⟨r5, u5, rfl, hr5, hr6, hu5, hd5, hk5⟩; obtain ⟨hDS5, hBd5⟩ := DS.pick HDS.out.1 hd5 (show Kb d wr w5 from ⟨hk5.os, hk5.tape, hk5.output, hk5.size, hk5.block⟩); have HR5 := Lib.hid (And.intro hr5 hr6); have HP5 := Lib.hid (And.intro hDS5 (And.intro hBd5 hu5)); have c25 := blk_cell hd5 2; have f25 := blk_frozen hd5 2; clear hr5 hr6 hu5 hd5 hk5 hDS5 hBd5))
          have hr4 : r5 = 3 ∨ r5 = 2 ∨ (r5 ≠ 3 ∧ r5 ≠ 2) := by omega
          rcases hr4 with rfl | rfl | ⟨hr3, hr2⟩
          · go_wp2_with (first | (go_at_call 32; refine (escape_ok HP5.out.1 (by have := HDS.out.2; have := HP5.out.2.2; have := HU.out; have := HI.out; omega) (by have := HLN.out; omega) ⟨HRG.out.1, HRG.out.2.1⟩).mono ?_; rintro e w6 ⟨y6, u6, ov6, rfl, hy6, hu6, hd6, hb6⟩; have H6 := Lib.hid (And.intro hy6 (And.intro hu6 (And.intro hd6 hb6))); clear hy6 hu6 hd6 hb6))
            go_roundg (s.size - (i + x.length) + 1)
            case measure => have := HX.out; have := HI.out; omega
            case rel =>
              have hX := HX.out
              have hI := HI.out
              obtain ⟨n1, n2⟩ := next_take hX.2.2.1 (by rw [ints_length]; omega)
              refine ⟨i + x.length, bd ++ y6, cs2, u6, ov6, rfl, by first | rfl | (rw [hw1]; rfl), Lib.hid ⟨by omega, by rw [List.length_append]; have : (y6).length ≤ 12 := H6.out.1.len; omega⟩, Lib.hid ⟨by rw [n1]; exact Dr.push hX.1 H6.out.1.pc HDR.out.1, by rw [n2]; exact hX.2.1⟩, Lib.hid ⟨by rw [← List.append_assoc]; exact H6.out.2.2.1, by have := HDS.out.2; have := HP5.out.2.2; have := H6.out.2.1; omega⟩, Lib.hid ((HBD.out.trans HP5.out.2.1).trans H6.out.2.2.2)⟩
          · go_wp2_with (first | (at_builtin; refine app_list B rfl (.tmp 112) (.tmp 114) 22 rfl Tryd.underlying22 infoB8 (.slice AO nO cO) (out ++ bd) [92, lb] rfl rfl HP5.out.1.row HP5.out.1.size (by have := HLN.out; simp only [List.length_cons, List.length_nil]; omega) ?_; intro v7 w7 row7 gr7; obtain ⟨A7, n7, c7, rfl⟩ := row_form row7; have hz7 := (gr7.block d (blk_lt HP5.out.1.at_) (fun e => by have h1 := (HP5.out.1.row.lt d e.symm).1; have h2 := HP5.out.1.low; omega)).trans HP5.out.1.at_; have y7 := blk_cell hz7 2; have x7 := blk_frozen hz7 2; have R7 := Lib.hid (And.intro row7 gr7); clear row7 gr7 hz7))
            obtain ⟨p1, p2⟩ := DS.put HP5.out.1 R7.out.1 R7.out.2
            go_roundg (s.size - (i + x.length) + 1)
            case measure => have := HX.out; have := HI.out; omega
            case rel =>
              have hX := HX.out
              have hI := HI.out
              obtain ⟨n1, n2⟩ := next_take hX.2.2.1 (by rw [ints_length]; omega)
              refine ⟨i + x.length, bd ++ [92, lb], cs2, u5, _, rfl, by first | rfl | (rw [hw1]; rfl), Lib.hid ⟨by omega, by rw [List.length_append]; have : ([92, lb]).length ≤ 12 := (by simp); omega⟩, Lib.hid ⟨by rw [n1]; exact Dr.push hX.1 (.short (by have h1 := HSP.out.1 (by first | rfl | trivial); have h2 := HB.out.2.2.1 (by unfold Sh at h1; omega); rw [h2]; exact h1)) HDR.out.1, by rw [n2]; exact hX.2.1⟩, Lib.hid ⟨by rw [← List.append_assoc]; exact p1, by have := HDS.out.2; have := HP5.out.2.2; omega⟩, Lib.hid ((HBD.out.trans HP5.out.2.1).trans p2)⟩
          · have k3 : (r5 == 3) = false := beq_eq_false_iff_ne.mpr hr3
            have k2 : (r5 == 2) = false := beq_eq_false_iff_ne.mpr hr2
            clear hr3 hr2
            go_wp2_with (first | (at_builtin; refine app_list B rfl (.tmp 112) (.tmp 114) 22 rfl Tryd.underlying22 infoB8 (.slice AO nO cO) (out ++ bd) [92, lb] rfl rfl HP5.out.1.row HP5.out.1.size (by have := HLN.out; simp only [List.length_cons, List.length_nil]; omega) ?_; intro v7 w7 row7 gr7; obtain ⟨A7, n7, c7, rfl⟩ := row_form row7; have hz7 := (gr7.block d (blk_lt HP5.out.1.at_) (fun e => by have h1 := (HP5.out.1.row.lt d e.symm).1; have h2 := HP5.out.1.low; omega)).trans HP5.out.1.at_; have y7 := blk_cell hz7 2; have x7 := blk_frozen hz7 2; have R7 := Lib.hid (And.intro row7 gr7); clear row7 gr7 hz7))
            obtain ⟨p1, p2⟩ := DS.put HP5.out.1 R7.out.1 R7.out.2
            go_roundg (s.size - (i + x.length) + 1)
            case measure => have := HX.out; have := HI.out; omega
            case rel =>
              have hX := HX.out
              have hI := HI.out
              obtain ⟨n1, n2⟩ := next_take hX.2.2.1 (by rw [ints_length]; omega)
              refine ⟨i + x.length, bd ++ [92, lb], cs2, u5, _, rfl, by first | rfl | (rw [hw1]; rfl), Lib.hid ⟨by omega, by rw [List.length_append]; have : ([92, lb]).length ≤ 12 := (by simp); omega⟩, Lib.hid ⟨by rw [n1]; exact Dr.push hX.1 (.short (by have h1 := HSP.out.1 (by first | rfl | trivial); have h2 := HB.out.2.2.1 (by unfold Sh at h1; omega); rw [h2]; exact h1)) HDR.out.1, by rw [n2]; exact hX.2.1⟩, Lib.hid ⟨by rw [← List.append_assoc]; exact p1, by have := HDS.out.2; have := HP5.out.2.2; omega⟩, Lib.hid ((HBD.out.trans HP5.out.2.1).trans p2)⟩
        · have g1 : decide (b < 32) = false := decide_eq_false (by omega)
          have g2 : (b == 34) = true := beq_iff_eq.mpr (by omega)
          clear hm
          go_upto_block 2 with (first | (go_at_call 9; (with_reducible refine (spec_Character.calls kc s (i : Int) c (x.length : Int) true _ HCH.out).mono ?_); rintro e w2 ⟨rfl, ⟨nd2, rfl⟩⟩) | (go_at_call 31; (with_reducible refine (spec_shortOf.calls b lb true _ HSH.out).mono ?_); rintro e w3 ⟨rfl, ⟨nd3, rfl⟩⟩) | (go_at_call 18; (refine (pick_ok (w := World.drewN wr (nd2 + nd3)) HDS.out.1.at_ (HDS.out.1.code.kb (fun _ _ _ => rfl)) (by have := HDS.out.2; have := HU.out; have := HI.out; omega) 4 (by omega) (by omega)).mono ?_); rintro e w5 ⟨r5, u5, rfl, hr5, hr6, hu5, hd5, hk5⟩; obtain ⟨hDS5, hBd5⟩ := DS.pick HDS.out.1 hd5 (show Kb d wr w5 from ⟨hk5.os, hk5.tape, hk5.output, hk5.size, hk5.block⟩); have HR5 := Lib.hid (And.intro hr5 hr6); have HP5 := Lib.hid (And.intro hDS5 (And.intro hBd5 hu5)); have c25 := blk_cell hd5 2; have f25 := blk_frozen hd5 2; clear hr5 hr6 hu5 hd5 hk5 hDS5 hBd5))
          have hr4 : r5 = 3 ∨ r5 = 2 ∨ (r5 ≠ 3 ∧ r5 ≠ 2) := by omega
          rcases hr4 with rfl | rfl | ⟨hr3, hr2⟩
          · go_wp2_with (first | (go_at_call 32; refine (escape_ok HP5.out.1 (by have := HDS.out.2; have := HP5.out.2.2; have := HU.out; have := HI.out; omega) (by have := HLN.out; omega) ⟨HRG.out.1, HRG.out.2.1⟩).mono ?_; rintro e w6 ⟨y6, u6, ov6, rfl, hy6, hu6, hd6, hb6⟩; have H6 := Lib.hid (And.intro hy6 (And.intro hu6 (And.intro hd6 hb6))); clear hy6 hu6 hd6 hb6))
            go_roundg (s.size - (i + x.length) + 1)
            case measure => have := HX.out; have := HI.out; omega
            case rel =>
              have hX := HX.out
              have hI := HI.out
              obtain ⟨n1, n2⟩ := next_take hX.2.2.1 (by rw [ints_length]; omega)
              refine ⟨i + x.length, bd ++ y6, cs2, u6, ov6, rfl, by first | rfl | (rw [hw1]; rfl), Lib.hid ⟨by omega, by rw [List.length_append]; have : (y6).length ≤ 12 := H6.out.1.len; omega⟩, Lib.hid ⟨by rw [n1]; exact Dr.push hX.1 H6.out.1.pc HDR.out.1, by rw [n2]; exact hX.2.1⟩, Lib.hid ⟨by rw [← List.append_assoc]; exact H6.out.2.2.1, by have := HDS.out.2; have := HP5.out.2.2; have := H6.out.2.1; omega⟩, Lib.hid ((HBD.out.trans HP5.out.2.1).trans H6.out.2.2.2)⟩
          · go_wp2_with (first | (at_builtin; refine app_list B rfl (.tmp 112) (.tmp 114) 22 rfl Tryd.underlying22 infoB8 (.slice AO nO cO) (out ++ bd) [92, lb] rfl rfl HP5.out.1.row HP5.out.1.size (by have := HLN.out; simp only [List.length_cons, List.length_nil]; omega) ?_; intro v7 w7 row7 gr7; obtain ⟨A7, n7, c7, rfl⟩ := row_form row7; have hz7 := (gr7.block d (blk_lt HP5.out.1.at_) (fun e => by have h1 := (HP5.out.1.row.lt d e.symm).1; have h2 := HP5.out.1.low; omega)).trans HP5.out.1.at_; have y7 := blk_cell hz7 2; have x7 := blk_frozen hz7 2; have R7 := Lib.hid (And.intro row7 gr7); clear row7 gr7 hz7))
            obtain ⟨p1, p2⟩ := DS.put HP5.out.1 R7.out.1 R7.out.2
            go_roundg (s.size - (i + x.length) + 1)
            case measure => have := HX.out; have := HI.out; omega
            case rel =>
              have hX := HX.out
              have hI := HI.out
              obtain ⟨n1, n2⟩ := next_take hX.2.2.1 (by rw [ints_length]; omega)
              refine ⟨i + x.length, bd ++ [92, lb], cs2, u5, _, rfl, by first | rfl | (rw [hw1]; rfl), Lib.hid ⟨by omega, by rw [List.length_append]; have : ([92, lb]).length ≤ 12 := (by simp); omega⟩, Lib.hid ⟨by rw [n1]; exact Dr.push hX.1 (.short (by have h1 := HSP.out.1 (by first | rfl | trivial); have h2 := HB.out.2.2.1 (by unfold Sh at h1; omega); rw [h2]; exact h1)) HDR.out.1, by rw [n2]; exact hX.2.1⟩, Lib.hid ⟨by rw [← List.append_assoc]; exact p1, by have := HDS.out.2; have := HP5.out.2.2; omega⟩, Lib.hid ((HBD.out.trans HP5.out.2.1).trans p2)⟩
          · have k3 : (r5 == 3) = false := beq_eq_false_iff_ne.mpr hr3
            have k2 : (r5 == 2) = false := beq_eq_false_iff_ne.mpr hr2
            clear hr3 hr2
            go_wp2_with (first | (at_builtin; refine app_list B rfl (.tmp 112) (.tmp 114) 22 rfl Tryd.underlying22 infoB8 (.slice AO nO cO) (out ++ bd) [92, lb] rfl rfl HP5.out.1.row HP5.out.1.size (by have := HLN.out; simp only [List.length_cons, List.length_nil]; omega) ?_; intro v7 w7 row7 gr7; obtain ⟨A7, n7, c7, rfl⟩ := row_form row7; have hz7 := (gr7.block d (blk_lt HP5.out.1.at_) (fun e => by have h1 := (HP5.out.1.row.lt d e.symm).1; have h2 := HP5.out.1.low; omega)).trans HP5.out.1.at_; have y7 := blk_cell hz7 2; have x7 := blk_frozen hz7 2; have R7 := Lib.hid (And.intro row7 gr7); clear row7 gr7 hz7))
            obtain ⟨p1, p2⟩ := DS.put HP5.out.1 R7.out.1 R7.out.2
            go_roundg (s.size - (i + x.length) + 1)
            case measure => have := HX.out; have := HI.out; omega
            case rel =>
              have hX := HX.out
              have hI := HI.out
              obtain ⟨n1, n2⟩ := next_take hX.2.2.1 (by rw [ints_length]; omega)
              refine ⟨i + x.length, bd ++ [92, lb], cs2, u5, _, rfl, by first | rfl | (rw [hw1]; rfl), Lib.hid ⟨by omega, by rw [List.length_append]; have : ([92, lb]).length ≤ 12 := (by simp); omega⟩, Lib.hid ⟨by rw [n1]; exact Dr.push hX.1 (.short (by have h1 := HSP.out.1 (by first | rfl | trivial); have h2 := HB.out.2.2.1 (by unfold Sh at h1; omega); rw [h2]; exact h1)) HDR.out.1, by rw [n2]; exact hX.2.1⟩, Lib.hid ⟨by rw [← List.append_assoc]; exact p1, by have := HDS.out.2; have := HP5.out.2.2; omega⟩, Lib.hid ((HBD.out.trans HP5.out.2.1).trans p2)⟩
        · have g1 : decide (b < 32) = false := decide_eq_false (by omega)
          have g2 : (b == 34) = false := beq_eq_false_iff_ne.mpr (by omega)
          have g3 : (b == 92) = true := beq_iff_eq.mpr (by omega)
          clear hm
          go_upto_block 2 with (first | (go_at_call 9; (with_reducible refine (spec_Character.calls kc s (i : Int) c (x.length : Int) true _ HCH.out).mono ?_); rintro e w2 ⟨rfl, ⟨nd2, rfl⟩⟩) | (go_at_call 31; (with_reducible refine (spec_shortOf.calls b lb true _ HSH.out).mono ?_); rintro e w3 ⟨rfl, ⟨nd3, rfl⟩⟩) | (go_at_call 18; (refine (pick_ok (w := World.drewN wr (nd2 + nd3)) HDS.out.1.at_ (HDS.out.1.code.kb (fun _ _ _ => rfl)) (by have := HDS.out.2; have := HU.out; have := HI.out; omega) 4 (by omega) (by omega)).mono ?_); rintro e w5 ⟨r5, u5, rfl, hr5, hr6, hu5, hd5, hk5⟩; obtain ⟨hDS5, hBd5⟩ := DS.pick HDS.out.1 hd5 (show Kb d wr w5 from ⟨hk5.os, hk5.tape, hk5.output, hk5.size, hk5.block⟩); have HR5 := Lib.hid (And.intro hr5 hr6); have HP5 := Lib.hid (And.intro hDS5 (And.intro hBd5 hu5)); have c25 := blk_cell hd5 2; have f25 := blk_frozen hd5 2; clear hr5 hr6 hu5 hd5 hk5 hDS5 hBd5))
          have hr4 : r5 = 3 ∨ r5 = 2 ∨ (r5 ≠ 3 ∧ r5 ≠ 2) := by omega
          rcases hr4 with rfl | rfl | ⟨hr3, hr2⟩
          · go_wp2_with (first | (go_at_call 32; refine (escape_ok HP5.out.1 (by have := HDS.out.2; have := HP5.out.2.2; have := HU.out; have := HI.out; omega) (by have := HLN.out; omega) ⟨HRG.out.1, HRG.out.2.1⟩).mono ?_; rintro e w6 ⟨y6, u6, ov6, rfl, hy6, hu6, hd6, hb6⟩; have H6 := Lib.hid (And.intro hy6 (And.intro hu6 (And.intro hd6 hb6))); clear hy6 hu6 hd6 hb6))
            go_roundg (s.size - (i + x.length) + 1)
            case measure => have := HX.out; have := HI.out; omega
            case rel =>
              have hX := HX.out
              have hI := HI.out
              obtain ⟨n1, n2⟩ := next_take hX.2.2.1 (by rw [ints_length]; omega)
              refine ⟨i + x.length, bd ++ y6, cs2, u6, ov6, rfl, by first | rfl | (rw [hw1]; rfl), Lib.hid ⟨by omega, by rw [List.length_append]; have : (y6).length ≤ 12 := H6.out.1.len; omega⟩, Lib.hid ⟨by rw [n1]; exact Dr.push hX.1 H6.out.1.pc HDR.out.1, by rw [n2]; exact hX.2.1⟩, Lib.hid ⟨by rw [← List.append_assoc]; exact H6.out.2.2.1, by have := HDS.out.2; have := HP5.out.2.2; have := H6.out.2.1; omega⟩, Lib.hid ((HBD.out.trans HP5.out.2.1).trans H6.out.2.2.2)⟩
          · go_wp2_with (first | (at_builtin; refine app_list B rfl (.tmp 112) (.tmp 114) 22 rfl Tryd.underlying22 infoB8 (.slice AO nO cO) (out ++ bd) [92, lb] rfl rfl HP5.out.1.row HP5.out.1.size (by have := HLN.out; simp only [List.length_cons, List.length_nil]; omega) ?_; intro v7 w7 row7 gr7; obtain ⟨A7, n7, c7, rfl⟩ := row_form row7; have hz7 := (gr7.block d (blk_lt HP5.out.1.at_) (fun e => by have h1 := (HP5.out.1.row.lt d e.symm).1; have h2 := HP5.out.1.low; omega)).trans HP5.out.1.at_; have y7 := blk_cell hz7 2; have x7 := blk_frozen hz7 2; have R7 := Lib.hid (And.intro row7 gr7); clear row7 gr7 hz7))
            obtain ⟨p1, p2⟩ := DS.put HP5.out.1 R7.out.1 R7.out.2
            go_roundg (s.size - (i + x.length) + 1)
            case measure => have := HX.out; have := HI.out; omega
            case rel =>
              have hX := HX.out
              have hI := HI.out
              obtain ⟨n1, n2⟩ := next_take hX.2.2.1 (by rw [ints_length]; omega)
              refine ⟨i + x.length, bd ++ [92, lb], cs2, u5, _, rfl, by first | rfl | (rw [hw1]; rfl), Lib.hid ⟨by omega, by rw [List.length_append]; have : ([92, lb]).length ≤ 12 := (by simp); omega⟩, Lib.hid ⟨by rw [n1]; exact Dr.push hX.1 (.short (by have h1 := HSP.out.1 (by first | rfl | trivial); have h2 := HB.out.2.2.1 (by unfold Sh at h1; omega); rw [h2]; exact h1)) HDR.out.1, by rw [n2]; exact hX.2.1⟩, Lib.hid ⟨by rw [← List.append_assoc]; exact p1, by have := HDS.out.2; have := HP5.out.2.2; omega⟩, Lib.hid ((HBD.out.trans HP5.out.2.1).trans p2)⟩
          · have k3 : (r5 == 3) = false := beq_eq_false_iff_ne.mpr hr3
            have k2 : (r5 == 2) = false := beq_eq_false_iff_ne.mpr hr2
            clear hr3 hr2
            go_wp2_with (first | (at_builtin; refine app_list B rfl (.tmp 112) (.tmp 114) 22 rfl Tryd.underlying22 infoB8 (.slice AO nO cO) (out ++ bd) [92, lb] rfl rfl HP5.out.1.row HP5.out.1.size (by have := HLN.out; simp only [List.length_cons, List.length_nil]; omega) ?_; intro v7 w7 row7 gr7; obtain ⟨A7, n7, c7, rfl⟩ := row_form row7; have hz7 := (gr7.block d (blk_lt HP5.out.1.at_) (fun e => by have h1 := (HP5.out.1.row.lt d e.symm).1; have h2 := HP5.out.1.low; omega)).trans HP5.out.1.at_; have y7 := blk_cell hz7 2; have x7 := blk_frozen hz7 2; have R7 := Lib.hid (And.intro row7 gr7); clear row7 gr7 hz7))
            obtain ⟨p1, p2⟩ := DS.put HP5.out.1 R7.out.1 R7.out.2
            go_roundg (s.size - (i + x.length) + 1)
            case measure => have := HX.out; have := HI.out; omega
            case rel =>
              have hX := HX.out
              have hI := HI.out
              obtain ⟨n1, n2⟩ := next_take hX.2.2.1 (by rw [ints_length]; omega)
              refine ⟨i + x.length, bd ++ [92, lb], cs2, u5, _, rfl, by first | rfl | (rw [hw1]; rfl), Lib.hid ⟨by omega, by rw [List.length_append]; have : ([92, lb]).length ≤ 12 := (by simp); omega⟩, Lib.hid ⟨by rw [n1]; exact Dr.push hX.1 (.short (by have h1 := HSP.out.1 (by first | rfl | trivial); have h2 := HB.out.2.2.1 (by unfold Sh at h1; omega); rw [h2]; exact h1)) HDR.out.1, by rw [n2]; exact hX.2.1⟩, Lib.hid ⟨by rw [← List.append_assoc]; exact p1, by have := HDS.out.2; have := HP5.out.2.2; omega⟩, Lib.hid ((HBD.out.trans HP5.out.2.1).trans p2)⟩
        · have g1 : decide (b < 32) = false := decide_eq_false (by omega)
          have g2 : (b == 34) = false := beq_eq_false_iff_ne.mpr (by omega)
          have g3 : (b == 92) = false := beq_eq_false_iff_ne.mpr (by omega)
          have HM := Lib.hid hm
          clear hm
          go_upto_block 2 with (first | (go_at_call 9; (with_reducible refine (spec_Character.calls kc s (i : Int) c (x.length : Int) true _ HCH.out).mono ?_); rintro e w2 ⟨rfl, ⟨nd2, rfl⟩⟩) | (go_at_call 31; (with_reducible refine (spec_shortOf.calls b lb true _ HSH.out).mono ?_); rintro e w3 ⟨rfl, ⟨nd3, rfl⟩⟩) | (go_at_call 18; (refine (pick_ok (w := World.drewN wr (nd2 + nd3)) HDS.out.1.at_ (HDS.out.1.code.kb (fun _ _ _ => rfl)) (by have := HDS.out.2; have := HU.out; have := HI.out; omega) 4 (by omega) (by omega)).mono ?_); rintro e w5 ⟨r5, u5, rfl, hr5, hr6, hu5, hd5, hk5⟩; obtain ⟨hDS5, hBd5⟩ := DS.pick HDS.out.1 hd5 (show Kb d wr w5 from ⟨hk5.os, hk5.tape, hk5.output, hk5.size, hk5.block⟩); have HR5 := Lib.hid (And.intro hr5 hr6); have HP5 := Lib.hid (And.intro hDS5 (And.intro hBd5 hu5)); have c25 := blk_cell hd5 2; have f25 := blk_frozen hd5 2; clear hr5 hr6 hu5 hd5 hk5 hDS5 hBd5))
          have hr4 : r5 = 3 ∨ r5 = 2 ∨ (r5 ≠ 3 ∧ r5 ≠ 2) := by omega
          rcases hr4 with rfl | rfl | ⟨hr3, hr2⟩
          · go_wp2_with (first | (go_at_call 32; refine (escape_ok HP5.out.1 (by have := HDS.out.2; have := HP5.out.2.2; have := HU.out; have := HI.out; omega) (by have := HLN.out; omega) ⟨HRG.out.1, HRG.out.2.1⟩).mono ?_; rintro e w6 ⟨y6, u6, ov6, rfl, hy6, hu6, hd6, hb6⟩; have H6 := Lib.hid (And.intro hy6 (And.intro hu6 (And.intro hd6 hb6))); clear hy6 hu6 hd6 hb6))
            go_roundg (s.size - (i + x.length) + 1)
            case measure => have := HX.out; have := HI.out; omega
            case rel =>
              have hX := HX.out
              have hI := HI.out
              obtain ⟨n1, n2⟩ := next_take hX.2.2.1 (by rw [ints_length]; omega)
              refine ⟨i + x.length, bd ++ y6, cs2, u6, ov6, rfl, by first | rfl | (rw [hw1]; rfl), Lib.hid ⟨by omega, by rw [List.length_append]; have : (y6).length ≤ 12 := H6.out.1.len; omega⟩, Lib.hid ⟨by rw [n1]; exact Dr.push hX.1 H6.out.1.pc HDR.out.1, by rw [n2]; exact hX.2.1⟩, Lib.hid ⟨by rw [← List.append_assoc]; exact H6.out.2.2.1, by have := HDS.out.2; have := HP5.out.2.2; have := H6.out.2.1; omega⟩, Lib.hid ((HBD.out.trans HP5.out.2.1).trans H6.out.2.2.2)⟩
          · go_wp2_with (first | (at_builtin; refine app_list B rfl (.tmp 112) (.tmp 114) 22 rfl Tryd.underlying22 infoB8 (.slice AO nO cO) (out ++ bd) [92, lb] rfl rfl HP5.out.1.row HP5.out.1.size (by have := HLN.out; simp only [List.length_cons, List.length_nil]; omega) ?_; intro v7 w7 row7 gr7; obtain ⟨A7, n7, c7, rfl⟩ := row_form row7; have hz7 := (gr7.block d (blk_lt HP5.out.1.at_) (fun e => by have h1 := (HP5.out.1.row.lt d e.symm).1; have h2 := HP5.out.1.low; omega)).trans HP5.out.1.at_; have y7 := blk_cell hz7 2; have x7 := blk_frozen hz7 2; have R7 := Lib.hid (And.intro row7 gr7); clear row7 gr7 hz7))
            obtain ⟨p1, p2⟩ := DS.put HP5.out.1 R7.out.1 R7.out.2
            go_roundg (s.size - (i + x.length) + 1)
            case measure => have := HX.out; have := HI.out; omega
            case rel =>
              have hX := HX.out
              have hI := HI.out
              obtain ⟨n1, n2⟩ := next_take hX.2.2.1 (by rw [ints_length]; omega)
              refine ⟨i + x.length, bd ++ [92, lb], cs2, u5, _, rfl, by first | rfl | (rw [hw1]; rfl), Lib.hid ⟨by omega, by rw [List.length_append]; have : ([92, lb]).length ≤ 12 := (by simp); omega⟩, Lib.hid ⟨by rw [n1]; exact Dr.push hX.1 (.short (by have h1 := HSP.out.1 (by first | rfl | trivial); have h2 := HB.out.2.2.1 (by unfold Sh at h1; omega); rw [h2]; exact h1)) HDR.out.1, by rw [n2]; exact hX.2.1⟩, Lib.hid ⟨by rw [← List.append_assoc]; exact p1, by have := HDS.out.2; have := HP5.out.2.2; omega⟩, Lib.hid ((HBD.out.trans HP5.out.2.1).trans p2)⟩
          · have k3 : (r5 == 3) = false := beq_eq_false_iff_ne.mpr hr3
            have k2 : (r5 == 2) = false := beq_eq_false_iff_ne.mpr hr2
            clear hr3 hr2
            go_wp2
            refine start_ (n := 15) (S := fun w' => w'.cell? ⟨d, 2, none⟩ = some (.slice AO nO cO)) (ds := [14]) #[false, false, false, false, false, false, false, false, false, false, false, false, false, false, false] (by kernel_rfl) rfl rfl c25 (fun hHeld => ?_); refine with_tabW Qt7_tab Qt7_bits (fun HT_ HW_ => ?_)
            refine pure_ (i := 0) (N := some 57) (v := ?_) (a' := ?_) #[true, false, false, false, false, false, false, false, false, false, false, false, false, false, false] rfl rfl (any_of HT_.out (by kernel_rfl)) (fun _ _ _ h => h) (Or.inl ⟨by rfl, ?_⟩) ?_ ?_
            rotate_left
            · intro w'
              go_simp
              with_reducible rfl
            rotate_left
            · simp only [Act.put, List.setIfInBounds_toArray, List.set_cons_zero, List.set_cons_succ, i64_w, i32_w]
              rfl
            refine pure_ (i := 1) (N := some 58) (v := ?_) (a' := ?_) #[true, true, false, false, false, false, false, false, false, false, false, false, false, false, false] rfl rfl (any_of HT_.out (by kernel_rfl)) (fun _ _ _ h => h) (Or.inl ⟨by rfl, ?_⟩) ?_ ?_
            rotate_left
            · intro w'
              go_simp
              with_reducible rfl
            rotate_left
            · simp only [Act.put, List.setIfInBounds_toArray, List.set_cons_zero, List.set_cons_succ, i64_w, i32_w]
              rfl
            refine pure_ (i := 2) (N := some 59) (v := ?_) (a' := ?_) #[true, true, true, false, false, false, false, false, false, false, false, false, false, false, false] rfl rfl (any_of HT_.out (by kernel_rfl)) (fun _ _ _ h => h) (Or.inl ⟨by rfl, ?_⟩) ?_ ?_
            rotate_left
            · intro w'
              go_simp
              with_reducible rfl
            rotate_left
            · simp only [Act.put, List.setIfInBounds_toArray, List.set_cons_zero, List.set_cons_succ, i64_w, i32_w]
              rfl
            refine pure_ (i := 3) (N := some 60) (v := ?_) (a' := ?_) #[true, true, true, true, false, false, false, false, false, false, false, false, false, false, false] rfl rfl (any_of HT_.out (by kernel_rfl)) (fun _ _ _ h => h) (Or.inl ⟨by rfl, ?_⟩) ?_ ?_
            rotate_left
            · intro w'
              go_simp
              with_reducible rfl
            rotate_left
            · simp only [Act.put, List.setIfInBounds_toArray, List.set_cons_zero, List.set_cons_succ, i64_w, i32_w]
              rfl
            refine take_ (i := 4) (N := some 61) (v := ?_) (a' := ?_) #[true, true, true, true, true, false, false, false, false, false, false, false, false, false, false] rfl rfl (take_ofW HT_.out HW_.out (by kernel_rfl)) (fun _ _ _ h => h) (Or.inl ⟨by rfl, ?_⟩) hHeld ?_ ?_
            rotate_left
            · rintro w' s0
              go_simp
              with_reducible rfl
            rotate_left
            · simp only [Act.put, List.setIfInBounds_toArray, List.set_cons_zero, List.set_cons_succ, i64_w, i32_w]
              rfl
            refine pure_ (i := 5) (N := some 62) (v := ?_) (a' := ?_) #[true, true, true, true, true, true, false, false, false, false, false, false, false, false, false] rfl rfl (any_of HT_.out (by kernel_rfl)) (fun _ _ _ h => h) (Or.inl ⟨by rfl, ?_⟩) ?_ ?_
            rotate_left
            · intro w'
              go_simp
              with_reducible rfl
            rotate_left
            · simp only [Act.put, List.setIfInBounds_toArray, List.set_cons_zero, List.set_cons_succ, i64_w, i32_w]
              rfl
            refine pure_ (i := 6) (N := some 63) (v := ?_) (a' := ?_) #[true, true, true, true, true, true, true, false, false, false, false, false, false, false, false] rfl rfl (any_of HT_.out (by kernel_rfl)) (fun _ _ _ h => h) (Or.inl ⟨by rfl, ?_⟩) ?_ ?_
            rotate_left
            · intro w'
              go_simp
              with_reducible rfl
            rotate_left
            · simp only [Act.put, List.setIfInBounds_toArray, List.set_cons_zero, List.set_cons_succ, i64_w, i32_w]
              rfl
            refine pure_ (i := 7) (N := some 64) (v := ?_) (a' := ?_) #[true, true, true, true, true, true, true, true, false, false, false, false, false, false, false] rfl rfl (any_of HT_.out (by kernel_rfl)) (fun _ _ _ h => h) (Or.inl ⟨by rfl, ?_⟩) ?_ ?_
            rotate_left
            · intro w'
              go_simp
              with_reducible rfl
            rotate_left
            · simp only [Act.put, List.setIfInBounds_toArray, List.set_cons_zero, List.set_cons_succ, i64_w, i32_w]
              rfl
            refine pure_ (i := 8) (N := some 65) (v := ?_) (a' := ?_) #[true, true, true, true, true, true, true, true, true, false, false, false, false, false, false] rfl rfl (any_of HT_.out (by kernel_rfl)) (fun _ _ _ h => h) (Or.inl ⟨by rfl, ?_⟩) ?_ ?_
            rotate_left
            · intro w'
              go_simp
              with_reducible rfl
            rotate_left
            · simp only [Act.put, List.setIfInBounds_toArray, List.set_cons_zero, List.set_cons_succ, i64_w, i32_w]
              rfl
            refine pure_ (i := 9) (N := some 66) (v := ?_) (a' := ?_) #[true, true, true, true, true, true, true, true, true, true, false, false, false, false, false] rfl rfl (any_of HT_.out (by kernel_rfl)) (fun _ _ _ h => h) (Or.inl ⟨by rfl, ?_⟩) ?_ ?_
            rotate_left
            · intro w'
              go_simp
              with_reducible rfl
            rotate_left
            · simp only [Act.put, List.setIfInBounds_toArray, List.set_cons_zero, List.set_cons_succ, i64_w, i32_w]
              rfl
            refine pure_ (i := 10) (N := some 67) (v := ?_) (a' := ?_) #[true, true, true, true, true, true, true, true, true, true, true, false, false, false, false] rfl rfl (any_of HT_.out (by kernel_rfl)) (fun _ _ _ h => h) (Or.inl ⟨by rfl, ?_⟩) ?_ ?_
            rotate_left
            · intro w'
              go_simp
              with_reducible rfl
            rotate_left
            · simp only [Act.put, List.setIfInBounds_toArray, List.set_cons_zero, List.set_cons_succ, i64_w, i32_w]
              rfl
            refine one_ (i := 11) (N := some 68) #[true, true, true, true, true, true, true, true, true, true, true, true, false, false, false] rfl rfl (one_of HT_.out (by kernel_rfl)) (by decide) (fun K hK => ?_)
            refine app_str_step B rfl (.tmp 61) (.tmp 67) 22 9 rfl Tryd.underlying22 Tryd.underlying9 infoB8 (.slice AO nO cO) (out ++ bd) (s.extract i (i + x.length)) rfl rfl (own_keep HP5.out.1.row (fun _ _ => rfl)) HP5.out.1.size (by have := HLN.out; have := HXS.out; omega) ?_
            intro v8 w8 row8 gr8
            obtain ⟨A8, n8, c8, rfl⟩ := row_form row8
            have R8 := Lib.hid (And.intro row8 (show w5.grownBy w8 (Value.slice AO nO cO).ownBlock from ⟨gr8.os, gr8.tape, gr8.output, gr8.size, gr8.block⟩))
            have hz8 := (gr8.block d (blk_lt HP5.out.1.at_) (fun e => by have h1 := (HP5.out.1.row.lt d e.symm).1; have h2 := HP5.out.1.low; omega)).trans HP5.out.1.at_
            have y8 := blk_cell hz8 2
            have x8 := blk_frozen hz8 2
            clear row8 gr8 hz8
            refine hK.out _ _ y8 (fun hHeld => ?_)
            clear hK K
            refine norm_ (a' := ?_) ?_ ?_
            rotate_left
            · show Act.put _ (some 68) _ = _
              simp only [Act.put, List.setIfInBounds_toArray, List.set_cons_zero, List.set_cons_succ, i64_w, i32_w]
              rfl
            refine pure_ (i := 12) (N := some 69) (v := ?_) (a' := ?_) #[true, true, true, true, true, true, true, true, true, true, true, true, true, false, false] rfl rfl (any_of HT_.out (by kernel_rfl)) (fun _ _ _ h => h) (Or.inl ⟨by rfl, ?_⟩) ?_ ?_
            rotate_left
            · intro w'
              go_simp
              with_reducible rfl
            rotate_left
            · simp only [Act.put, List.setIfInBounds_toArray, List.set_cons_zero, List.set_cons_succ, i64_w, i32_w]
              rfl
            refine pure_ (i := 13) (N := some 70) (v := ?_) (a' := ?_) #[true, true, true, true, true, true, true, true, true, true, true, true, true, true, false] rfl rfl (any_of HT_.out (by kernel_rfl)) (fun _ _ _ h => h) (Or.inl ⟨by rfl, ?_⟩) ?_ ?_
            rotate_left
            · intro w'
              go_simp
              with_reducible rfl
            rotate_left
            · simp only [Act.put, List.setIfInBounds_toArray, List.set_cons_zero, List.set_cons_succ, i64_w, i32_w]
              rfl
            refine last_ (i := 14) (N := none) #[true, true, true, true, true, true, true, true, true, true, true, true, true, true, true] rfl rfl (one_of HT_.out (by kernel_rfl)) (by decide) (fun K hK => ?_)
            refine skip_ (w1 := ?_) (by rfl) rfl ?_ ?_
            rotate_left
            · go_simp
              rfl
            refine hK.out _ _ ?_
            clear hK K
            refine done_ (done_of HT_.out (by kernel_rfl)) ?_
            try go_wp2
            obtain ⟨p1, p2⟩ := DS.put HP5.out.1 R8.out.1 R8.out.2
            have hxx : bytesOf (s.extract i (i + x.length)) = x := (ints_extract s i (i + x.length)).trans (by rw [HX.out.2.2.1, Nat.add_sub_cancel_left, List.take_left])
            rw [hxx] at p1
            go_roundg (s.size - (i + x.length) + 1)
            case measure => have := HX.out; have := HI.out; omega
            case rel =>
              have hX := HX.out
              have hI := HI.out
              obtain ⟨n1, n2⟩ := next_take hX.2.2.1 (by rw [ints_length]; omega)
              refine ⟨i + x.length, bd ++ x, cs2, u5, _, rfl, by first | rfl | (rw [hw1]; rfl), Lib.hid ⟨by omega, by rw [List.length_append]; have : (x).length ≤ 12 := (by have := hX.2.2.2.1; omega); omega⟩, Lib.hid ⟨by rw [n1]; exact Dr.push hX.1 (.self (by have h1 := HB.out; have h2 := HM.out; omega) (by have h1 := HB.out; have h2 := HM.out; omega) (by have h1 := HB.out; have h2 := HM.out; omega)) HDR.out.1, by rw [n2]; exact hX.2.1⟩, Lib.hid ⟨by rw [← List.append_assoc]; exact p1, by have := HDS.out.2; have := HP5.out.2.2; omega⟩, Lib.hid ((HBD.out.trans HP5.out.2.1).trans p2)⟩
    · have hd1 : decide ((i : Int) < (s.size : Int)) = false := decide_eq_false (by omega)
      have hd2 : decide (i < s.size) = false := decide_eq_false hi
      have q2 := blk_cell HDS.out.1.at_ 2
      have f2 := blk_frozen HDS.out.1.at_ 2
      have hin : i = s.size := by have := HI.out; omega
      have HIN := Lib.hid hin
      clear hin hi
      go_wp2_with (first | (at_builtin; refine app_list B rfl (.tmp 125) (.tmp 126) 22 rfl Tryd.underlying22 infoB8 (.slice AO nO cO) (out ++ bd) [34] rfl rfl HDS.out.1.row HDS.out.1.size (by have := HOL.out; have := HU.out; have := HI.out; rw [List.length_append]; simp only [List.length_cons, List.length_nil]; omega) ?_; intro v9 w9 row9 gr9; obtain ⟨A9, n9, c9, rfl⟩ := row_form row9; have hz9 := (gr9.block d (blk_lt HDS.out.1.at_) (fun e => by have h1 := (HDS.out.1.row.lt d e.symm).1; have h2 := HDS.out.1.low; omega)).trans HDS.out.1.at_; have y9 := blk_cell hz9 2; have x9 := blk_frozen hz9 2; have R9 := Lib.hid (And.intro row9 gr9); clear row9 gr9 hz9))
      refine Go.Great.bodyPost_end0 rfl rfl ?_
      obtain ⟨p1, p2⟩ := DS.put HDS.out.1 R9.out.1 R9.out.2
      have hdr := HDR.out.1
      rw [HIN.out, List.take_of_length_le (by rw [ints_length]; omega)] at hdr
      exact ⟨bd, u, _, rfl, hdr, by have := HI.out; omega, by have := HDS.out.2; have := HI.out; omega, by rw [← HOUT.out] at p1; simpa using p1, HBD.out.trans p2⟩

end Go.Proofs.YtkhgbacbnkgafaaDoor.Drs

/- The reference's printer of dressed texts (Dress), of a string. -/
set_option linter.unusedVariables false
set_option linter.unusedSimpArgs false
namespace Go.Proofs.YtkhgbacbnkgafaaDoor.Drs
open Go Go.RowKit Go.Proofs.YtkhgbacbnkgafaaDoorW.PrintWords Go.Proofs.YtkhgbacbnkgafaaDoorW.PrintLast Go.Proofs.YtkhgbacbnkgafaaDoorW.PrintMore Go.Proofs.YtkhgbacbnkgafaaDoor.Fjh Go.Proofs.YtkhgbacbnkgafaaDoor.Spr Go.Proofs.YtkhgbacbnkgafaaDoor.JTr Go.Proofs.YtkhgbacbnkgafaaDoor.Rs Go.Proofs.YtkhgbacbnkgafaaDoor.U8 Go.Proofs.YtkhgbacbnkgafaaDoor.U8.Uc Go.Proofs.YtkhgbacbnkgafaaDoor.StrL Go.Proofs.YtkhgbacbnkgafaaDoor.EvL
attribute [local go_sem ↓] Go.wp_at_zero Go.wp_at_succ

theorem DS.below {B d u : Nat} {w w2 : World} {cv ov : Value} {out : List Int} (h : DS B d w cv u ov out) (hb : Below w.heap.size w w2) : DS B d w2 cv u ov out ∧ Bd B d w w2 :=
  ⟨⟨(hb.block d (blk_lt h.at_)).trans h.at_, own_keep h.row (fun k hk => hb.block k (h.row.lt k hk).2), h.code.kb (fun k hk _ => hb.block k (by have := h.size; omega)), h.low, Nat.le_trans h.size hb.size⟩, ⟨hb.os, hb.tape, hb.output, hb.size, fun k hk _ => hb.block k (by have := h.size; omega)⟩⟩
theorem Bd.below {B d C : Nat} {w w' : World} (h : Bd B d w w') (hC : C ≤ d) (hB : d < B) : Below C w w' := ⟨h.os, h.tape, h.output, h.size, fun k hk => h.block k (by omega) (by omega)⟩

theorem hd_byte {x : Int} (g : Bool) (h0 : 0 ≤ x) (h1 : x ≤ 15) : 0 ≤ hd x g ∧ hd x g ≤ 255 := by
  unfold hd
  split
  · omega
  · cases g
    · simp only [Bool.false_eq_true, if_false]; omega
    · simp only [if_true]; omega
theorem u4_bytes {n : Int} {g : Nat → Bool} (h0 : 0 ≤ n) : Bytes (u4 n g) := by
  intro b hb
  simp only [u4, List.mem_cons, List.not_mem_nil, or_false] at hb
  rcases hb with rfl | rfl | rfl | rfl | rfl | rfl
  · omega
  · omega
  · exact hd_byte _ (by omega) (by omega)
  · exact hd_byte _ (by omega) (by omega)
  · exact hd_byte _ (by omega) (by omega)
  · exact hd_byte _ (by omega) (by omega)
theorem ch_bytes {x : List Int} {c : Int} (h : Ch x c) : Bytes x := by
  intro b hb
  cases h <;> simp only [List.mem_cons, List.not_mem_nil, or_false] at hb
  · subst hb; omega
  · rcases hb with rfl | rfl <;> omega
  · rcases hb with rfl | rfl | rfl <;> omega
  · rcases hb with rfl | rfl | rfl | rfl <;> omega
theorem dr_bytes {l b : List Int} (h : Dr l b) : Bytes b := by
  induction h with
  | nil => exact bytes_nil
  | cons hx hp h ih =>
    refine bytes_append ?_ ih
    have hr := ch_range hx
    cases hp with
    | self => exact ch_bytes hx
    | short hs =>
      intro b hb
      simp only [List.mem_cons, List.not_mem_nil, or_false] at hb
      unfold Sh at hs
      rcases hb with rfl | rfl <;> omega
    | uni => exact u4_bytes (by omega)
    | pair => exact bytes_append (u4_bytes (by omega)) (u4_bytes (by omega))
theorem ws_bytes {l : List Int} (h : ∀ b ∈ l, isWs b = true) : Bytes l := by
  intro b hb
  have := h b hb
  unfold isWs at this
  have := of_decide_eq_true this
  omega

/-- A Node of a string, as cells. -/
abbrev ns (s : ByteArray) : Array Value := #[.int .i64 4, .string s, nilS, nilS]

set_option maxRecDepth 100000 in
set_option maxHeartbeats 8000000 in
theorem value_ok {B d used : Nat} {w : World} {cv ov : Value} {out : List Int} {s : ByteArray} {cs : List Int} (hD : DS B d w cv used ov out) (hu : used ≤ 1000000000) (hl : out.length ≤ 100000000) (hs : s.size ≤ 1000000) (ht : Txt (ints s) cs) :
    Calls Tryd.prog 11 #[.pointer (some ⟨d, 0, none⟩), .agg (ns s)] w (fun e w' => ∃ (bd : List Int) (u : Nat) (ov' : Value), e = .returned (.tuple #[]) ∧ Dr (ints s) bd ∧ bd.length ≤ 12 * s.size ∧ u ≤ used + 9 * s.size ∧ DS B d w' cv u ov' (out ++ (34 :: (bd ++ [34]))) ∧ Bd B d w w') := by
  have HD := Lib.hid hD
  have HU := Lib.hid (And.intro hu (And.intro hl (And.intro hs ht)))
  clear hD hu hl hs ht
  go_enter Tryd.func11, Tryd.ntmps11
  go_wp2_with (first
    | ((with_reducible refine gate_dst (N := 3) rfl ?_); refine box_event ?hg (N := 3) ?hd (cs := ns s) (t := 28) ?hr ?_; (case hd => rfl); (case hg => rfl); (case hr => first | (go_simp; done) | (go_simp; rfl)); intro g2 hg2 w2 hb2 hbel2; have q0 := blk_cell hb2 0; have q1 := blk_cell hb2 1; have BEL := Lib.hid hbel2; clear hb2 hbel2 hg2)
    | (go_at_call 20; refine (quoted_ok (HD.out.below BEL.out).1 HU.out.1 HU.out.2.1 HU.out.2.2.1 HU.out.2.2.2).mono ?_; rintro e w5 ⟨bd5, u5, ov5, rfl, h1, h2, h3, h4, h5⟩; have H5 := Lib.hid (And.intro h1 (And.intro h2 (And.intro h3 (And.intro h4 h5)))); clear h1 h2 h3 h4 h5))
  refine Go.Great.bodyPost_end0 rfl rfl ?_
  exact ⟨bd5, u5, ov5, rfl, H5.out.1, H5.out.2.1, H5.out.2.2.1, H5.out.2.2.2.1, (HD.out.below BEL.out).2.trans H5.out.2.2.2.2⟩

theorem Code.up {B0 d0 B d : Nat} {w w' : World} {cv : Value} (h : Code B0 d0 w cv) (hk : ∀ k, k < B0 → w'.heap[k]? = w.heap[k]?) (h0 : B0 ≤ d) (h1 : d < B) : Code B d w' cv := by
  obtain ⟨A, n, c, rfl, hn, hc⟩ := h
  refine ⟨A, n, c, rfl, hn, fun h0' => ?_⟩
  obtain ⟨x, rfl, hb, hbd, hv⟩ := hc h0'
  refine ⟨x, rfl, by omega, by omega, fun i hi => ?_⟩
  obtain ⟨v, hv1, hv2⟩ := hv i hi
  exact ⟨v, (World.cell?_of_block (a := x.add i) (by rw [add_blk]; exact hk x.block hb)).trans hv1, hv2⟩
theorem own_string {P : Program} {w : World} {base : Nat} {src dst : TypeId} {v : Value} {xs : List Int} (hs : P.underlying src = some (.slice 5)) (he : P.underlying 5 = some (.int .u8)) (hd : P.underlying dst = some .string) (h0 : 0 < xs.length) (h : w.ownsRow base 5 1 v xs.length (nums .u8 xs)) : (convert src dst v).run P w = .ok (.string (strOfNums xs)) w := by
  obtain ⟨g, c, rfl, hbg, hgl⟩ := h.form (by omega)
  refine run_convert_bytes_arg w src 5 hs he g 0 xs.length c xs rfl (fun i hi => ?_) dst hd
  rw [Nat.zero_add, h.cellAt i (by omega)]
  simp [nums, List.getElem?_map, List.getElem?_eq_getElem hi, List.getD_eq_getElem?_getD]

theorem init_ds {w w5 : World} {cv : Value} {g2 g5 : Nat} {o : Obj} (hc : Code w.heap.size w.heap.size w cv) (hb : Below w.heap.size w w5) (h5 : w.heap.size ≤ g5) (h25 : g2 < g5) (h : w5.heap[g5]? = some (.cells #[nilS, .int .i64 0, nilS] 42 (0, 0))) (h2 : w5.heap[g2]? = some o) :
    DS (g5 + 1) g5 (((w5.setCell ⟨g5, 0, none⟩ cv).setCell ⟨g5, 1, none⟩ (.int .i64 0)).setCell ⟨g5, 2, none⟩ nilS) cv 0 nilS [] ∧ Below w.heap.size w (((w5.setCell ⟨g5, 0, none⟩ cv).setCell ⟨g5, 1, none⟩ (.int .i64 0)).setCell ⟨g5, 2, none⟩ nilS) ∧ (((w5.setCell ⟨g5, 0, none⟩ cv).setCell ⟨g5, 1, none⟩ (.int .i64 0)).setCell ⟨g5, 2, none⟩ nilS).heap[g2]? = some o := by
  have hat := blk_put (blk_put (blk_put h 0 cv rfl) 1 (.int .i64 0) rfl) 2 nilS rfl
  have hbel := ((hb.setCell (p := ⟨g5, 0, none⟩) h5 cv).setCell (p := ⟨g5, 1, none⟩) h5 (.int .i64 0)).setCell (p := ⟨g5, 2, none⟩) h5 nilS
  refine ⟨⟨hat, World.ownsRow_nil _ _ _ _, hc.up hbel.block h5 (by omega), by omega, blk_lt hat⟩, hbel, ?_⟩
  have ne : g2 ≠ g5 := by omega
  rw [Below.heap_setCell _ _ _ _ ne, Below.heap_setCell _ _ _ _ ne, Below.heap_setCell _ _ _ _ ne]
  exact h2

/-- What Dress gives for a string: the string between its marks, blanks around. -/
def DressP (w : World) (s : ByteArray) (e : Ending) (w' : World) : Prop := ∃ (q : ByteArray) (b1 bd b2 : List Int), e = .returned (.string q) ∧ bytesOf q = b1 ++ (34 :: (bd ++ 34 :: b2)) ∧ (∀ b ∈ b1, isWs b = true) ∧ (∀ b ∈ b2, isWs b = true) ∧ b1.length ≤ 3 ∧ b2.length ≤ 3 ∧ Dr (ints s) bd ∧ bd.length ≤ 12 * s.size ∧ Below w.heap.size w w'

set_option maxRecDepth 100000 in
set_option maxHeartbeats 8000000 in
theorem dress_ok {w : World} {cv : Value} {s : ByteArray} {cs : List Int} (hc : Code w.heap.size w.heap.size w cv) (hs : s.size ≤ 1000000) (ht : Txt (ints s) cs) :
    Calls Tryd.prog 5 #[.agg (ns s), cv] w (DressP w s) := by
  have HC := Lib.hid hc
  have HU := Lib.hid (And.intro hs ht)
  obtain ⟨AC, nC, cC, rfl, -, -⟩ := hc
  clear hs ht
  go_enter Tryd.func5, Tryd.ntmps5
  go_wp2_with (first
    | ((with_reducible refine gate_dst (N := 2) rfl ?_); refine box_event ?hg (N := 2) ?hd (cs := ns s) (t := 28) ?hr ?_; (case hd => rfl); (case hg => rfl); (case hr => first | (go_simp; done) | (go_simp; rfl)); intro g2 hg2 w2 hb2 hbel2; have HB2 := Lib.hid hb2; have BEL := Lib.hid hbel2; have HG2 := Lib.hid (show w.heap.size ≤ g2 from by omega); clear hb2 hbel2 hg2)
    | ((with_reducible refine gate_dst (N := 5) rfl ?_); refine box_event ?hg (N := 5) ?hd (cs := #[nilS, .int .i64 0, nilS]) (t := 42) ?hr ?_; (case hd => rfl); (case hg => rfl); (case hr => first | (go_simp; done) | (go_simp; rfl)); intro g5 hg5 w5 hb5 hbel5; have r0 := blk_cell hb5 0; have r1 := blk_cell hb5 1; have r2 := blk_cell hb5 2; have f0 := blk_frozen hb5 0; have f1 := blk_frozen hb5 1; have f2 := blk_frozen hb5 2; have HB5 := Lib.hid hb5; have HG5 := Lib.hid (show g2 < g5 ∧ w.heap.size ≤ g5 from by have h1 := blk_lt HB2.out; have h2 := BEL.out.size; exact ⟨by omega, by omega⟩); have HB25 := Lib.hid ((hbel5.block g2 (blk_lt HB2.out)).trans HB2.out); have BEL5 := Lib.hid (BEL.out.trans (hbel5.mono BEL.out.size)); clear hb5 hbel5 hg5)    )
  obtain ⟨hD0, hbel, h25⟩ := init_ds HC.out BEL5.out HG5.out.2 HG5.out.1 HB5.out HB25.out
  refine (blanks_ok hD0 (by omega) (by simp)).mono ?_
  rintro e w6 ⟨bl1, u6, ov6, rfl, k1, k2, k3, k4, k5⟩
  have H6 := Lib.hid (And.intro k1 (And.intro k2 (And.intro k3 (And.intro k4 (hbel.trans (k5.below HG5.out.2 (by omega)))))))
  have hq6 := (k5.block g2 (by have := HG5.out.1; omega) (by have := HG5.out.1; omega)).trans h25
  have q0 := blk_cell hq6 0
  have q1 := blk_cell hq6 1
  have q2 := blk_cell hq6 2
  have q3 := blk_cell hq6 3
  clear hD0 hbel h25 k1 k2 k3 k4 k5 hq6 r0 r1 r2 f0 f1 f2
  go_wp2_with (first | (go_at_call 11; refine (value_ok H6.out.2.2.2.1 (by have := H6.out.2.2.1; omega) (by have := H6.out.2.1; simp; omega) HU.out.1 HU.out.2).mono ?_; rintro e w7 ⟨bd7, u7, ov7, rfl, k1, k2, k3, k4, k5⟩; have H7 := Lib.hid (And.intro k1 (And.intro k2 (And.intro k3 (And.intro k4 (k5.below HG5.out.2 (by omega)))))); clear k1 k2 k3 k4 k5))
  refine (blanks_ok H7.out.2.2.2.1 (by have := H6.out.2.2.1; have := H7.out.2.2.1; have := HU.out.1; omega) (by have h1 := H6.out.2.1; have h2 := H7.out.2.1; have h3 := HU.out.1; simp only [List.length_append, List.length_cons, List.length_nil]; omega)).mono ?_
  rintro e w8 ⟨bl8, u8, ov8, rfl, k1, k2, k3, k4, k5⟩
  have hcv := own_string (P := Tryd.prog) (src := 22) (dst := 9) Tryd.underlying22 Tryd.underlying5 Tryd.underlying9 (by simp only [List.length_append, List.length_cons]; omega) k4.row
  have q8 := blk_cell k4.at_ 2
  have H8 := Lib.hid (And.intro k1 (And.intro k2 (k5.below HG5.out.2 (by omega))))
  clear k1 k2 k3 k4 k5
  go_wp2
  go_ret
  refine ⟨_, bl1, bd7, bl8, rfl, ?_, H6.out.1, H8.out.1, H6.out.2.1, H8.out.2.1, H7.out.1, H7.out.2.1, (H6.out.2.2.2.2.trans H7.out.2.2.2.2).trans H8.out.2.2⟩
  have h7 := dr_bytes H7.out.1
  refine (ints_strOfNums ?_).trans ?_
  rotate_left
  · simp
  · exact bytes_append (ws_bytes H6.out.1) (bytes_cons (by omega) (by omega) (bytes_append h7 (bytes_cons (by omega) (by omega) (ws_bytes H8.out.1))))

end Go.Proofs.YtkhgbacbnkgafaaDoor.Drs

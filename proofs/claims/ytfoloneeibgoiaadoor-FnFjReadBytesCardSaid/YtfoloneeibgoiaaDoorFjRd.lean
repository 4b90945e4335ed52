/- impl.FjRead and impl.FjReadBytes: the node of what Parse reads (given fjNode's contract for every value). -/
import Derived.Test.YtfoloneeibgoiaaDoorFjNdA
set_option linter.unusedVariables false
set_option linter.unusedSimpArgs false
namespace Go.Proofs.YtfoloneeibgoiaaDoor.Fjh
open Go Go.RowKit Go.Proofs.YtfoloneeibgoiaaDoorW.PrintWords Go.Proofs.YtfoloneeibgoiaaDoor.Un Go.Proofs.YtfoloneeibgoiaaDoor.JTr Go.Proofs.YtfoloneeibgoiaaDoor.Ndr
open Go.Proofs.YtfoloneeibgoiaaDoor.PFnFjReadBytes (Laid)

/-- The tree that is handed on: of no value the empty node's. -/
def rT : Option JV → JT
  | some v => nt v
  | none => .lit 0
def RdP (w : World) (r : Option JV) (e : Ending) (w' : World) : Prop := ∃ b, e = .returned (.tuple #[.agg b, .bool r.isSome]) ∧ NRep w' (Btw w w') b (rT r) ∧ Below w.heap.size w w'

theorem nput_ne {w : World} {g k : Nat} {a b c d : Value} (hk : k ≠ g) : (nput w g a b c d).heap[k]? = w.heap[k]? := by
  unfold nput
  rw [Below.heap_setCell _ _ _ _ hk, Below.heap_setCell _ _ _ _ hk, Below.heap_setCell _ _ _ _ hk, Below.heap_setCell _ _ _ _ hk]
theorem nput_size {w : World} {g : Nat} {a b c d : Value} : (nput w g a b c d).heap.size = w.heap.size := by simp [nput, World.setCell]
theorem nput_below {B : Nat} {w0 w : World} {g : Nat} {a b c d : Value} (h : Below B w0 w) (hB : B ≤ g) : Below B w0 (nput w g a b c d) := (((h.setCell hB _).setCell hB _).setCell hB _).setCell hB _

set_option maxRecDepth 100000 in
set_option maxHeartbeats 8000000 in
theorem parsebytes_ok {K : Nat} {s : ByteArray} {r : Option JV} (h : pParse K s = some r) {qb base : Nat} {w : World} {v : Value} (hv : BR w base v (bytesOf s))
    (c0 : w.cell? ⟨qb, 0, none⟩ = some (.slice none 0 0)) (f0 : w.frozen? ⟨qb, 0, none⟩ = false) (c1 : w.cell? ⟨qb, 1, none⟩ = some (.slice none 0 0)) (f1 : w.frozen? ⟨qb, 1, none⟩ = false) :
    Calls Tryd.prog 18 #[.pointer (some ⟨qb, 0, none⟩), v] w (PB qb w r) := by
  have HP := Lib.hid (parse_calls K s r h qb w c0 f0 c1 f1)
  have HV := Lib.hid hv
  obtain ⟨g, c, rfl, -, -, -⟩ := hv.form
  have hs : strOfNums (bytesOf s) = s := StrL.strOfNums_ints s
  clear h hv c0 f0 c1 f1
  cases r with
  | none =>
    go_enter Tryd.func18, Tryd.ntmps18
    go_wp2_with (first
      | (go_at_call 28; refine (b2s_br HV.out).mono ?_; rintro e w3 ⟨rfl, rfl⟩; rw [hs])
      | (go_at_call 15; refine HP.out.mono ?_; rintro e w5 ⟨hb5, x5, rfl⟩; have HB5 := Lib.hid hb5; clear hb5))
    go_ret2
    exact ⟨HB5.out, x5, rfl⟩
  | some t =>
    go_enter Tryd.func18, Tryd.ntmps18
    go_wp2_with (first
      | (go_at_call 28; refine (b2s_br HV.out).mono ?_; rintro e w3 ⟨rfl, rfl⟩; rw [hs])
      | (go_at_call 15; refine HP.out.mono ?_; rintro e w5 ⟨hb5, p, W, rfl, hr5⟩; have HB5 := Lib.hid hb5; have HR5 := Lib.hid hr5; clear hb5 hr5))
    go_ret2
    exact ⟨HB5.out, p, W, rfl, HR5.out⟩

set_option maxRecDepth 100000 in
set_option maxHeartbeats 8000000 in
theorem fjread_ok (HND : ∀ v, NdOk v) {K : Nat} {s : ByteArray} {r : Option JV} (h : pParse K s = some r) (hz : ∀ v, r = some v → wsz v ≤ 1000000000) {w : World} (hL : ∀ w', Below w.heap.size w w' → Laid w') :
    Calls Tryd.prog 8 #[.string s] w (RdP w r) := by
  have HP := Lib.hid (fun w qb => parse_calls K s r h qb w)
  have HN := Lib.hid HND
  have HLD := Lib.hid hL
  have HZ := Lib.hid hz
  clear h HND hL hz
  cases r with
  | none =>
    go_enter Tryd.func8, Tryd.ntmps8
    go_wp2_with (first
      | ((with_reducible refine gate_dst (N := 2) rfl ?_); refine box_event ?hg (N := 2) ?hd (cs := nd 0 ByteArray.empty nilS nilS) (t := 25) ?hr ?_; (case hd => rfl); (case hg => rfl); (case hr => first | (go_simp; done) | (go_simp; rfl)); intro g2 hg2 w2 hb2 hbel2; have HB2 := Lib.hid hb2; have BEL := Lib.hid hbel2; have HG2 := Lib.hid (show w.heap.size ≤ g2 from by omega); clear hb2 hbel2 hg2)
      | (go_at_call 15; refine (HP.out _ _ (blk_cell (blk_new w2 _) 0) (blk_frozen (blk_new w2 _) 0) (blk_cell (blk_new w2 _) 1) (blk_frozen (blk_new w2 _) 1)).mono ?_; rintro e w5 ⟨hb5, x5, rfl⟩; replace HB2 := Lib.hid ((hb5.block g2 (blk_lt HB2.out)).trans (blk_alloc HB2.out _)); replace BEL := Lib.hid ((BEL.out.alloc BEL.out.size _).trans (hb5.mono BEL.out.size)); obtain ⟨q0, q1, q2, q3⟩ := four HB2.out; obtain ⟨f0, f1, f2, f3⟩ := four_f HB2.out; clear hb5))
    refine bodyPost_ret (results_ct rfl _ _ g2 25 _ (0, 0) _ rfl (nput_at HB2.out) Tryd.underlying25 rfl (by kernel_rfl)) rfl ?_
    exact ⟨_, rfl, .lit (by omega), nput_below BEL.out HG2.out⟩
  | some v =>
    go_enter Tryd.func8, Tryd.ntmps8
    go_wp2_with (first
      | ((with_reducible refine gate_dst (N := 2) rfl ?_); refine box_event ?hg (N := 2) ?hd (cs := nd 0 ByteArray.empty nilS nilS) (t := 25) ?hr ?_; (case hd => rfl); (case hg => rfl); (case hr => first | (go_simp; done) | (go_simp; rfl)); intro g2 hg2 w2 hb2 hbel2; have HB2 := Lib.hid hb2; have BEL := Lib.hid hbel2; have HG2 := Lib.hid (show w.heap.size ≤ g2 from by omega); clear hb2 hbel2 hg2)
      | (go_at_call 15; refine (HP.out _ _ (blk_cell (blk_new w2 _) 0) (blk_frozen (blk_new w2 _) 0) (blk_cell (blk_new w2 _) 1) (blk_frozen (blk_new w2 _) 1)).mono ?_; rintro e w5 ⟨hb5, p, W, rfl, hps, hBW, hlow, hRep⟩; have HLOW := Lib.hid (show ∀ a, Own ⟨w2.heap.size, 1, none⟩ W w5 a → g2 < a.block ∧ w.heap.size ≤ a.block from fun a ha => ⟨Nat.lt_of_lt_of_le (blk_lt HB2.out) (hlow a ha), Nat.le_trans BEL.out.size (hlow a ha)⟩); have HREP := Lib.hid hRep; replace HB2 := Lib.hid ((hb5.block g2 (blk_lt HB2.out)).trans (blk_alloc HB2.out _)); replace BEL := Lib.hid ((BEL.out.alloc BEL.out.size _).trans (hb5.mono BEL.out.size)); clear hb5 hRep hlow)
      | (go_at_call 17; refine (HN.out v w.heap.size _ p w5 HREP.out (fun a ha => ⟨(HLOW.out a ha).2, ha.1.1⟩) (fun w' hb => HLD.out w' (BEL.out.trans hb)) BEL.out.size (HZ.out v rfl)).mono ?_; rintro e w8 ⟨b8, rfl, hN8, hf8⟩; obtain ⟨kx, xx, D1, D2, d1, f1', d2, f2', rfl⟩ := hN8.form; have HN8 := Lib.hid hN8; have HS8 := Lib.hid (And.intro BEL.out.size (blk_lt HB2.out)); replace HB2 := Lib.hid ((hf8.block g2 (blk_lt HB2.out) (fun x hx e => by have := (HLOW.out x hx).1; omega)).trans HB2.out); replace BEL := Lib.hid (BEL.out.trans (hf8.belowB (fun a ha => (HLOW.out a ha).2) BEL.out.size)); obtain ⟨q0, q1, q2, q3⟩ := four HB2.out; obtain ⟨f0, f1, f2, f3⟩ := four_f HB2.out; clear hN8 hf8))
    refine bodyPost_ret (results_ct rfl _ _ g2 25 _ (0, 0) _ rfl (nput_at HB2.out) Tryd.underlying25 rfl (by kernel_rfl)) rfl ?_
    have hs8 := HS8.out
    exact ⟨_, rfl, HN8.out.mono (fun k hk => ⟨⟨by have := hk.1; omega, by rw [nput_size]; exact hk.2⟩, nput_ne (by have := hk.1; omega)⟩), nput_below BEL.out HG2.out⟩

set_option maxRecDepth 100000 in
set_option maxHeartbeats 8000000 in
theorem fjreadbytes_ok (HND : ∀ v, NdOk v) {K : Nat} {s : ByteArray} {r : Option JV} (hs : s.size ≤ 1000000) (h : pParse K s = some r) (hz : ∀ v, r = some v → wsz v ≤ 1000000000) {w : World} (hL : ∀ w', Below w.heap.size w w' → Laid w') :
    Calls Tryd.prog 9 #[.string s] w (RdP w r) := by
  have HP := Lib.hid (fun (qb base : Nat) (w : World) (v : Value) (hv : BR w base v (bytesOf s)) c0 f0 c1 f1 => parsebytes_ok (qb := qb) h hv c0 f0 c1 f1)
  have HN := Lib.hid HND
  have HLD := Lib.hid hL
  have HZ := Lib.hid hz
  have HS := Lib.hid (show s.size ≤ 140737488355328 from by omega)
  clear h HND hL hz hs
  cases r with
  | none =>
    go_enter Tryd.func9, Tryd.ntmps9
    go_upto_region 2 with (first
      | ((with_reducible refine gate_dst (N := 2) rfl ?_); refine box_event ?hg (N := 2) ?hd (cs := nd 0 ByteArray.empty nilS nilS) (t := 25) ?hr ?_; (case hd => rfl); (case hg => rfl); (case hr => first | (go_simp; done) | (go_simp; rfl)); intro g2 hg2 w2 hb2 hbel2; have HB2 := Lib.hid hb2; have BEL := Lib.hid hbel2; have HG2 := Lib.hid (show w.heap.size ≤ g2 from by omega); clear hb2 hbel2 hg2))
    have hb7 := blk_alloc HB2.out (.cells #[.slice none 0 0, .slice none 0 0] 39 (0, 0))
    have hq7 := blk_new w2 (.cells #[.slice none 0 0, .slice none 0 0] 39 (0, 0))
    have hbe7 := BEL.out.alloc BEL.out.size (.cells #[.slice none 0 0, .slice none 0 0] 39 (0, 0))
    have hlt7 := blk_lt HB2.out
    have hs7 := BEL.out.size
    generalize hw7 : w2.alloc _ = w7 at hb7 hq7 hbe7 ⊢
    clear hw7
    generalize hqb : w2.heap.size = qb at hq7 hlt7 hs7 ⊢
    clear hqb HB2 BEL
    have HB2 := Lib.hid hb7
    have BEL := Lib.hid hbe7
    have HQ := Lib.hid (And.intro (blk_lt hq7) (And.intro hlt7 hs7))
    have hcv := Lib.run_convert_string_bytes (P := Tryd.prog) w7 9 34 5 s (u := .string) Tryd.underlying9 Tryd.underlying34 Tryd.underlying5
    have hrow := br_bytes w7 s HS.out
    have hbb := bytes_below (Below.refl w7.heap.size w7) (Nat.le_refl _) 5 s
    have c0 := (hbb.cell (p := ⟨qb, 0, none⟩) HQ.out.1).trans (blk_cell hq7 0)
    have f0 := (hbb.frozen (p := ⟨qb, 0, none⟩) HQ.out.1).trans (blk_frozen hq7 0)
    have c1 := (hbb.cell (p := ⟨qb, 1, none⟩) HQ.out.1).trans (blk_cell hq7 1)
    have f1 := (hbb.frozen (p := ⟨qb, 1, none⟩) HQ.out.1).trans (blk_frozen hq7 1)
    have HC := Lib.hid (HP.out qb _ _ _ hrow c0 f0 c1 f1)
    have HBB := Lib.hid hbb
    clear hb7 hq7 hbe7 hlt7 hs7 hrow hbb c0 f0 c1 f1
    go_wp2_with (first
      | (go_at_call 18; refine HC.out.mono ?_; rintro e w5 ⟨hb5, x5, rfl⟩; have hb75 : Below qb w7 w5 := (HBB.out.mono (Nat.le_of_lt HQ.out.1)).trans hb5; replace HB2 := Lib.hid ((hb75.block g2 HQ.out.2.1).trans HB2.out); replace BEL := Lib.hid (BEL.out.trans (hb75.mono HQ.out.2.2)); obtain ⟨q0, q1, q2, q3⟩ := four HB2.out; obtain ⟨f0, f1, f2, f3⟩ := four_f HB2.out; clear hb5 hb75))
    refine bodyPost_ret (results_ct rfl _ _ g2 25 _ (0, 0) _ rfl (nput_at HB2.out) Tryd.underlying25 rfl (by kernel_rfl)) rfl ?_
    exact ⟨_, rfl, .lit (by omega), nput_below BEL.out HG2.out⟩
  | some v =>
    go_enter Tryd.func9, Tryd.ntmps9
    go_upto_region 2 with (first
      | ((with_reducible refine gate_dst (N := 2) rfl ?_); refine box_event ?hg (N := 2) ?hd (cs := nd 0 ByteArray.empty nilS nilS) (t := 25) ?hr ?_; (case hd => rfl); (case hg => rfl); (case hr => first | (go_simp; done) | (go_simp; rfl)); intro g2 hg2 w2 hb2 hbel2; have HB2 := Lib.hid hb2; have BEL := Lib.hid hbel2; have HG2 := Lib.hid (show w.heap.size ≤ g2 from by omega); clear hb2 hbel2 hg2))
    have hb7 := blk_alloc HB2.out (.cells #[.slice none 0 0, .slice none 0 0] 39 (0, 0))
    have hq7 := blk_new w2 (.cells #[.slice none 0 0, .slice none 0 0] 39 (0, 0))
    have hbe7 := BEL.out.alloc BEL.out.size (.cells #[.slice none 0 0, .slice none 0 0] 39 (0, 0))
    have hlt7 := blk_lt HB2.out
    have hs7 := BEL.out.size
    generalize hw7 : w2.alloc _ = w7 at hb7 hq7 hbe7 ⊢
    clear hw7
    generalize hqb : w2.heap.size = qb at hq7 hlt7 hs7 ⊢
    clear hqb HB2 BEL
    have HB2 := Lib.hid hb7
    have BEL := Lib.hid hbe7
    have HQ := Lib.hid (And.intro (blk_lt hq7) (And.intro hlt7 hs7))
    have hcv := Lib.run_convert_string_bytes (P := Tryd.prog) w7 9 34 5 s (u := .string) Tryd.underlying9 Tryd.underlying34 Tryd.underlying5
    have hrow := br_bytes w7 s HS.out
    have hbb := bytes_below (Below.refl w7.heap.size w7) (Nat.le_refl _) 5 s
    have c0 := (hbb.cell (p := ⟨qb, 0, none⟩) HQ.out.1).trans (blk_cell hq7 0)
    have f0 := (hbb.frozen (p := ⟨qb, 0, none⟩) HQ.out.1).trans (blk_frozen hq7 0)
    have c1 := (hbb.cell (p := ⟨qb, 1, none⟩) HQ.out.1).trans (blk_cell hq7 1)
    have f1 := (hbb.frozen (p := ⟨qb, 1, none⟩) HQ.out.1).trans (blk_frozen hq7 1)
    have HC := Lib.hid (HP.out qb _ _ _ hrow c0 f0 c1 f1)
    have HBB := Lib.hid hbb
    clear hb7 hq7 hbe7 hlt7 hs7 hrow hbb c0 f0 c1 f1
    go_wp2_with (first
      | (go_at_call 18; refine HC.out.mono ?_; rintro e w5 ⟨hb5, p, W, rfl, hps, hBW, hlow, hRep⟩; have hb75 : Below qb w7 w5 := (HBB.out.mono (Nat.le_of_lt HQ.out.1)).trans hb5; have HLOW := Lib.hid (show ∀ a, Own ⟨qb, 1, none⟩ W w5 a → g2 < a.block ∧ w.heap.size ≤ a.block from fun a ha => ⟨Nat.lt_of_lt_of_le HQ.out.2.1 (hlow a ha), Nat.le_trans HQ.out.2.2 (hlow a ha)⟩); have HREP := Lib.hid hRep; replace HB2 := Lib.hid ((hb75.block g2 HQ.out.2.1).trans HB2.out); replace BEL := Lib.hid (BEL.out.trans (hb75.mono HQ.out.2.2)); clear hb5 hRep hlow hb75)
      | (go_at_call 17; refine (HN.out v w.heap.size _ p w5 HREP.out (fun a ha => ⟨(HLOW.out a ha).2, ha.1.1⟩) (fun w' hb => HLD.out w' (BEL.out.trans hb)) BEL.out.size (HZ.out v rfl)).mono ?_; rintro e w8 ⟨b8, rfl, hN8, hf8⟩; obtain ⟨kx, xx, D1, D2, d1, f1', d2, f2', rfl⟩ := hN8.form; have HN8 := Lib.hid hN8; have HS8 := Lib.hid (And.intro BEL.out.size (blk_lt HB2.out)); replace HB2 := Lib.hid ((hf8.block g2 (blk_lt HB2.out) (fun x hx e => by have := (HLOW.out x hx).1; omega)).trans HB2.out); replace BEL := Lib.hid (BEL.out.trans (hf8.belowB (fun a ha => (HLOW.out a ha).2) BEL.out.size)); obtain ⟨q0, q1, q2, q3⟩ := four HB2.out; obtain ⟨f0, f1, f2, f3⟩ := four_f HB2.out; clear hN8 hf8))
    refine bodyPost_ret (results_ct rfl _ _ g2 25 _ (0, 0) _ rfl (nput_at HB2.out) Tryd.underlying25 rfl (by kernel_rfl)) rfl ?_
    have hs8 := HS8.out
    exact ⟨_, rfl, HN8.out.mono (fun k hk => ⟨⟨by have := hk.1; omega, by rw [nput_size]; exact hk.2⟩, nput_ne (by have := hk.1; omega)⟩), nput_below BEL.out HG2.out⟩

end Go.Proofs.YtfoloneeibgoiaaDoor.Fjh

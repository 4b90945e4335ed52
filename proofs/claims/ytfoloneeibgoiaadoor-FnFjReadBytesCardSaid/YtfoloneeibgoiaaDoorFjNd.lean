/- The thin package's walk over a value (fjNode): values without kids. -/
import Derived.Test.YtfoloneeibgoiaaDoorFjTy
import Derived.Test.YtfoloneeibgoiaaDoorNdRep
import Derived.Test.YtfoloneeibgoiaaDoorFjD
set_option linter.unusedVariables false
set_option linter.unusedSimpArgs false
namespace Go.Proofs.YtfoloneeibgoiaaDoor.Fjh
open Go Go.RowKit Go.Proofs.YtfoloneeibgoiaaDoorW.PrintWords Go.Proofs.YtfoloneeibgoiaaDoor.Un Go.Proofs.YtfoloneeibgoiaaDoor.JTr Go.Proofs.YtfoloneeibgoiaaDoor.Ndr
open Go.Proofs.YtfoloneeibgoiaaDoor.PFnFjReadBytes (Laid)

theorem uStep_size (c : Int) (s1 : ByteArray) : (uStep c s1).1.length + 6 * (uStep c s1).2.size ≤ 6 * s1.size + 6 := by
  unfold uStep
  repeat' split
  all_goals first
    | (simp only [List.length_cons, List.length_nil]; omega)
    | skip
  unfold uHex
  split
  · simp only [List.length_cons, List.length_nil]; omega
  · rename_i h4
    split
    · simp only [List.length_cons, List.length_nil]; omega
    · rename_i x _
      have h := uSur_size x (s1.extract 0 4) (s1.extract 4 s1.size) (by rw [ByteArray.size_extract]; omega)
      have h2 : (s1.extract 4 s1.size).size + 4 = s1.size := by rw [ByteArray.size_extract]; omega
      omega
theorem uL_size : ∀ (k : Nat) (s : ByteArray) (xs : List Int), (uL k s xs).length ≤ xs.length + 6 * s.size
  | 0, s, xs => by simp [uL]
  | k + 1, s, xs => by
    simp only [uL]
    split
    · omega
    · rename_i h0
      have h1 := uStep_size (bt s 0) (s.extract 1 s.size)
      have h2 : (s.extract 1 s.size).size + 1 = s.size := by rw [ByteArray.size_extract]; omega
      have hb := bytesOf_length (uStep (bt s 0) (s.extract 1 s.size)).2
      split
      · simp only [List.length_append]; omega
      · rename_i hi
        have h3 := uL_size k ((uStep (bt s 0) (s.extract 1 s.size)).2.extract ((ix (uStep (bt s 0) (s.extract 1 s.size)).2).toNat + 1) (uStep (bt s 0) (s.extract 1 s.size)).2.size) (xs ++ (uStep (bt s 0) (s.extract 1 s.size)).1 ++ bytesOf ((uStep (bt s 0) (s.extract 1 s.size)).2.extract 0 (ix (uStep (bt s 0) (s.extract 1 s.size)).2).toNat))
        simp only [List.length_append, bytesOf_length, ByteArray.size_extract] at h3
        omega
theorem unF_size (s : ByteArray) : (unF s).size ≤ 7 * s.size := by
  unfold unF
  split
  · omega
  · have h := uL_size (s.size + 1) (s.extract ((ix s).toNat + 1) s.size) ((bytesOf s).take (ix s).toNat)
    rw [StrL.strOfNums_size]
    simp only [List.length_take, bytesOf_length, ByteArray.size_extract] at h
    omega

mutual
/-- The node's tree of a value: strings and names for their characters. -/
def nt : JV → JT
  | .obj u ks vs => .obj (ks.map fun k => bytesOf (if u = true then k else unF k)) (nts vs)
  | .arr vs => .arr (nts vs)
  | .num s => .num (bytesOf s)
  | .raw s => .str (bytesOf (unF s))
  | .dec s => .str (bytesOf s)
  | .lit t => .lit t
def nts : List JV → List JT
  | [] => []
  | v :: vs => nt v :: nts vs
end
mutual
/-- The bytes of all strings, and how many values. -/
def wsz : JV → Nat
  | .obj _ ks vs => wszK ks + wszs vs + 1
  | .arr vs => wszs vs + 1
  | .num s => s.size + 1
  | .raw s => s.size + 1
  | .dec s => s.size + 1
  | .lit _ => 1
def wszs : List JV → Nat
  | [] => 0
  | v :: vs => wsz v + wszs vs
def wszK : List ByteArray → Nat
  | [] => 0
  | k :: ks => k.size + 1 + wszK ks
end

theorem Frame.setNew {X : Addr → Prop} {w w' : World} (h : Frame X w w') {x : Addr} (hx : w.heap.size ≤ x.block) (v : Value) : Frame X w (w'.setCell x v) := by
  have f : Frame (fun y => y = x) w' (w'.setCell x v) := (Frame.refl (fun y => y = x) w').setCell (X := fun y => y = x) rfl v
  refine ⟨f.os.trans h.os, f.tape.trans h.tape, f.output.trans h.output, Nat.le_trans h.size f.size, fun k hk hy => ?_, fun k cur t fr hg => ?_, fun a ha hk => ?_, fun a hk => ?_⟩
  · exact (f.block k (Nat.lt_of_lt_of_le hk h.size) (fun y hy e => by rw [hy] at e; omega)).trans (h.block k hk hy)
  · obtain ⟨c1, g1, s1⟩ := h.shape k cur t fr hg
    obtain ⟨c2, g2, s2⟩ := f.shape k c1 t fr g1
    exact ⟨c2, g2, s2.trans s1⟩
  · exact (f.cell a (fun e => by rw [e] at hk; omega) (Nat.lt_of_lt_of_le hk h.size)).trans (h.cell a ha hk)
  · exact (f.frozen a (Nat.lt_of_lt_of_le hk h.size)).trans (h.frozen a hk)
theorem Frame.belowB {X : Addr → Prop} {w w' : World} {B : Nat} (h : Frame X w w') (hX : ∀ a, X a → B ≤ a.block) (hB : B ≤ w.heap.size) : Below B w w' :=
  ⟨h.os, h.tape, h.output, h.size, fun k hk => h.block k (by omega) (fun x hx e => by have := hX x hx; omega)⟩

/-- A node's four stores. -/
abbrev nput (w : World) (g : Nat) (a b c d : Value) : World := (((w.setCell ⟨g, 0, none⟩ a).setCell ⟨g, 1, none⟩ b).setCell ⟨g, 2, none⟩ c).setCell ⟨g, 3, none⟩ d
theorem nput_at {w : World} {g : Nat} {t : TypeId} {a b c d a' b' c' d' : Value} (h : w.heap[g]? = some (.cells #[a', b', c', d'] t (0, 0))) : (nput w g a b c d).heap[g]? = some (.cells #[a, b, c, d] t (0, 0)) :=
  blk_put (blk_put (blk_put (blk_put h 0 _ rfl) 1 _ rfl) 2 _ rfl) 3 _ rfl
theorem nput_frame {X : Addr → Prop} {w w' : World} {g : Nat} {a b c d : Value} (h : Frame X w w') (hg : w.heap.size ≤ g) : Frame X w (nput w' g a b c d) := (((h.setNew hg _).setNew hg _).setNew hg _).setNew hg _
theorem four_f {w : World} {g : Nat} {t : TypeId} {a b c d : Value} (h : w.heap[g]? = some (.cells #[a, b, c, d] t (0, 0))) :
    w.frozen? ⟨g, 0, none⟩ = false ∧ w.frozen? ⟨g, 1, none⟩ = false ∧ w.frozen? ⟨g, 2, none⟩ = false ∧ w.frozen? ⟨g, 3, none⟩ = false :=
  ⟨blk_frozen h 0, blk_frozen h 1, blk_frozen h 2, blk_frozen h 3⟩

/-- What fjNode leaves. -/
def NdP (own : Addr → Prop) (w : World) (t : JT) (e : Ending) (w' : World) : Prop := ∃ b, e = .returned (.agg b) ∧ NRep w' (Btw w w') b t ∧ Frame own w w'
def NdOk (v : JV) : Prop := ∀ (B : Nat) (own : Addr → Prop) (p : Addr) (w : World), Rep w own p v → (∀ a, own a → B ≤ a.block ∧ a.block < w.heap.size) → (∀ w', Below B w w' → Laid w') → B ≤ w.heap.size → wsz v ≤ 1000000000 →
  Calls Tryd.prog 17 #[.pointer (some p)] w (NdP own w (nt v))

set_option maxRecDepth 100000 in
set_option maxHeartbeats 8000000 in
theorem nd_lit {t : Int} : NdOk (.lit t) := by
  intro B own p w hR hown hL hB hz
  cases hR with
  | lit hp ht h4 o4 =>
    obtain ⟨pb, po, rfl⟩ : ∃ pb po, p = ⟨pb, po, none⟩ := ⟨p.block, p.off, by cases p; simp_all⟩
    simp only [fld] at h4 o4
    have H4 := Lib.hid h4
    have HO := Lib.hid (hown _ o4)
    clear hown hL hB hz h4 o4 hp
    rcases ht with rfl | rfl | rfl
    all_goals
      go_enter Tryd.func17, Tryd.ntmps17
      go_wp2_with (first
        | ((with_reducible refine gate_dst (N := 2) rfl ?_); refine box_event ?hg (N := 2) ?hd (cs := nd 0 ByteArray.empty nilS nilS) (t := 25) ?hr ?_; (case hd => rfl); (case hg => rfl); (case hr => first | (go_simp; done) | (go_simp; rfl)); intro g2 hg2 w2 hb2 hbel2; have HB2 := Lib.hid hb2; have BEL := Lib.hid hbel2; have HG2 := Lib.hid (show w.heap.size ≤ g2 from by omega); obtain ⟨q0, q1, q2, q3⟩ := four hb2; obtain ⟨f0, f1, f2, f3⟩ := four_f hb2; clear hb2 hbel2 hg2)
        | (go_at_call 32; refine (type_other (by omega) (H4.out.mono ⟨BEL.out.cell HO.out.2, BEL.out.frozen HO.out.2⟩)).mono ?_; rintro e w3 ⟨rfl, rfl⟩))
      refine bodyPost_ret (results_cell_row rfl _ _ g2 25 _ (0, 0) _ rfl (nput_at HB2.out) Tryd.underlying25 rfl (by kernel_rfl)) rfl ?_
      exact ⟨_, rfl, .lit (by omega), nput_frame (Frame.below BEL.out) HG2.out⟩

set_option maxRecDepth 100000 in
set_option maxHeartbeats 8000000 in
theorem nd_dec {s : ByteArray} : NdOk (.dec s) := by
  intro B own p w hR hown hL hB hz
  cases hR with
  | dec hp h3 h4 o3 o4 =>
    obtain ⟨pb, po, rfl⟩ : ∃ pb po, p = ⟨pb, po, none⟩ := ⟨p.block, p.off, by cases p; simp_all⟩
    simp only [fld] at h3 h4 o3 o4
    have H4 := Lib.hid h4
    have H3 := Lib.hid h3
    have HO := Lib.hid (hown _ o4)
    have HS := Lib.hid (show s.size ≤ 140737488355328 from by simp only [wsz] at hz; omega)
    clear hown hL hB hz h3 h4 o3 o4 hp
    go_enter Tryd.func17, Tryd.ntmps17
    go_wp2_with (first
      | ((with_reducible refine gate_dst (N := 2) rfl ?_); refine box_event ?hg (N := 2) ?hd (cs := nd 0 ByteArray.empty nilS nilS) (t := 25) ?hr ?_; (case hd => rfl); (case hg => rfl); (case hr => first | (go_simp; done) | (go_simp; rfl)); intro g2 hg2 w2 hb2 hbel2; have HB2 := Lib.hid hb2; have BEL := Lib.hid hbel2; have HG2 := Lib.hid (show w.heap.size ≤ g2 from by omega); clear hb2 hbel2 hg2)
      | (go_at_call 32; refine (type_other (by omega) (H4.out.mono ⟨BEL.out.cell HO.out.2, BEL.out.frozen HO.out.2⟩)).mono ?_; rintro e w3 ⟨rfl, rfl⟩)
      | (go_at_call 37; refine (getstr (pb := pb) (po := po) (s := s) HS.out (H3.out.mono ⟨BEL.out.cell HO.out.2, BEL.out.frozen HO.out.2⟩) (H4.out.mono ⟨BEL.out.cell HO.out.2, BEL.out.frozen HO.out.2⟩)).mono ?_; rintro e w4 ⟨v4, rfl, row4, bel4⟩; have hcv := br_string (P := Tryd.prog) (dst := 9) Tryd.underlying34 Tryd.underlying5 Tryd.underlying9 row4; obtain ⟨g4, c4, rfl, -, -, -⟩ := row4.form; replace HB2 := Lib.hid ((bel4.block g2 (blk_lt HB2.out)).trans HB2.out); replace BEL := Lib.hid (BEL.out.trans (bel4.mono BEL.out.size)); obtain ⟨q0, q1, q2, q3⟩ := four HB2.out; obtain ⟨f0, f1, f2, f3⟩ := four_f HB2.out; clear bel4 row4))
    refine bodyPost_ret (results_cell_row rfl _ _ g2 25 _ (0, 0) _ rfl (nput_at HB2.out) Tryd.underlying25 rfl (by kernel_rfl)) rfl ?_
    exact ⟨_, rfl, .str (congrArg bytesOf (StrL.strOfNums_ints s)), nput_frame (Frame.below BEL.out) HG2.out⟩

theorem two_cells {w : World} {a b : Addr} {x y v u : Value} (ne : a ≠ b) (h3 : Cel w a v) (h4 : Cel w b u) : Cel ((w.setCell a x).setCell b y) a x ∧ Cel ((w.setCell a x).setCell b y) b y := by
  have e3 : (w.setCell a x).cell? a = some x := World.cell?_setCell_same _ _ _ h3.1
  have e4 : (w.setCell a x).cell? b = some u := (World.cell?_setCell_other _ _ _ _ ne).trans h4.1
  have f3 : (w.setCell a x).frozen? a = false := by rw [World.frozen?_setCell]; exact h3.2
  have f4 : (w.setCell a x).frozen? b = false := by rw [World.frozen?_setCell]; exact h4.2
  generalize w.setCell a x = w1 at e3 e4 f3 f4 ⊢
  have g3 : (w1.setCell b y).frozen? a = false := by rw [World.frozen?_setCell]; exact f3
  have g4 : (w1.setCell b y).frozen? b = false := by rw [World.frozen?_setCell]; exact f4
  exact ⟨⟨(World.cell?_setCell_other _ _ _ _ (fun e => ne e.symm)).trans e3, g3⟩, ⟨World.cell?_setCell_same _ _ _ e4, g4⟩⟩
theorem ty_cells {w : World} {pb po : Nat} {b : ByteArray} {v u : Value} (h3 : Cel w ⟨pb, po + 3, none⟩ v) (h4 : Cel w ⟨pb, po + 4, none⟩ u) : Cel (tyW w pb po b) ⟨pb, po + 3, none⟩ (.string b) ∧ Cel (tyW w pb po b) ⟨pb, po + 4, none⟩ (.int .i64 3) :=
  two_cells (fun e => by have h := congrArg Addr.off e; simp only at h; omega) h3 h4

set_option maxRecDepth 100000 in
set_option maxHeartbeats 8000000 in
theorem nd_raw {s : ByteArray} : NdOk (.raw s) := by
  intro B own p w hR hown hL hB hz
  cases hR with
  | raw hp h3 h4 o3 o4 =>
    obtain ⟨pb, po, rfl⟩ : ∃ pb po, p = ⟨pb, po, none⟩ := ⟨p.block, p.off, by cases p; simp_all⟩
    simp only [fld] at h3 h4 o3 o4
    have H4 := Lib.hid h4
    have H3 := Lib.hid h3
    have HO := Lib.hid (hown _ o4)
    have HOO := Lib.hid (And.intro o3 o4)
    have HLD := Lib.hid hL
    have HBB := Lib.hid hB
    have HS := Lib.hid (show s.size ≤ 1000000000 from by simp only [wsz] at hz; omega)
    clear hown hL hB hz h3 h4 o3 o4 hp
    go_enter Tryd.func17, Tryd.ntmps17
    go_wp2_with (first
      | ((with_reducible refine gate_dst (N := 2) rfl ?_); refine box_event ?hg (N := 2) ?hd (cs := nd 0 ByteArray.empty nilS nilS) (t := 25) ?hr ?_; (case hd => rfl); (case hg => rfl); (case hr => first | (go_simp; done) | (go_simp; rfl)); intro g2 hg2 w2 hb2 hbel2; have HB2 := Lib.hid hb2; have BEL := Lib.hid hbel2; have HG2 := Lib.hid (show w.heap.size ≤ g2 from by omega); clear hb2 hbel2 hg2)
      | (go_at_call 32; refine (type_raw (s := s) (by have := HS.out; omega) (HLD.out _ (BEL.out.mono HBB.out)) (H3.out.mono ⟨BEL.out.cell HO.out.2, BEL.out.frozen HO.out.2⟩) (H4.out.mono ⟨BEL.out.cell HO.out.2, BEL.out.frozen HO.out.2⟩)).mono ?_; rintro e w3 ⟨rfl, w1, hb1, rfl⟩; have bel1 := BEL.out.trans (hb1.mono BEL.out.size); obtain ⟨c3, c4⟩ := ty_cells (b := unF s) (H3.out.mono ⟨bel1.cell HO.out.2, bel1.frozen HO.out.2⟩) (H4.out.mono ⟨bel1.cell HO.out.2, bel1.frozen HO.out.2⟩); have FR := Lib.hid (show Frame own w (tyW w1 pb po (unF s)) from ((Frame.below (X := own) bel1).setCell HOO.out.1 (.string (unF s))).setCell HOO.out.2 (.int .i64 3)); have hne : (g2 : Nat) ≠ pb := fun e => (by have h1 : pb < w.heap.size := HO.out.2; have h2 := HG2.out; omega); replace HB2 := Lib.hid (show (tyW w1 pb po (unF s)).heap[g2]? = _ from ((Below.heap_setCell _ _ _ g2 hne).trans (Below.heap_setCell _ _ _ g2 hne)).trans ((hb1.block g2 (blk_lt HB2.out)).trans HB2.out)); have C3 := Lib.hid c3; have C4 := Lib.hid c4; clear c3 c4 bel1 hb1 hne BEL; generalize tyW w1 pb po (unF s) = w5 at C3 C4 FR HB2 ⊢)
      | (go_at_call 37; refine (getstr (pb := pb) (po := po) (s := unF s) (by have h1 := unF_size s; have := HS.out; omega) C3.out C4.out).mono ?_; rintro e w4 ⟨v4, rfl, row4, bel4⟩; have hcv := br_string (P := Tryd.prog) (dst := 9) Tryd.underlying34 Tryd.underlying5 Tryd.underlying9 row4; obtain ⟨g4, c4, rfl, -, -, -⟩ := row4.form; replace HB2 := Lib.hid ((bel4.block g2 (blk_lt HB2.out)).trans HB2.out); replace FR := Lib.hid (FR.out.trans (Frame.below bel4)); obtain ⟨q0, q1, q2, q3⟩ := four HB2.out; obtain ⟨f0, f1, f2, f3⟩ := four_f HB2.out; clear bel4 row4))
    refine bodyPost_ret (results_cell_row rfl _ _ g2 25 _ (0, 0) _ rfl (nput_at HB2.out) Tryd.underlying25 rfl (by kernel_rfl)) rfl ?_
    exact ⟨_, rfl, .str (congrArg bytesOf (StrL.strOfNums_ints (unF s))), nput_frame FR.out HG2.out⟩

set_option maxRecDepth 100000 in
set_option maxHeartbeats 8000000 in
theorem nd_num {s : ByteArray} : NdOk (.num s) := by
  intro B own p w hR hown hL hB hz
  have HR := Lib.hid hR
  cases hR with
  | num hp h3 h4 o3 o4 =>
    obtain ⟨pb, po, rfl⟩ : ∃ pb po, p = ⟨pb, po, none⟩ := ⟨p.block, p.off, by cases p; simp_all⟩
    simp only [fld] at h3 h4 o3 o4
    have H4 := Lib.hid h4
    have HO := Lib.hid (hown _ o4)
    have HW := Lib.hid hown
    have HS := Lib.hid (show s.size ≤ 1000000000 from by simp only [wsz] at hz; omega)
    clear hown hL hB hz h3 h4 o3 o4 hp
    go_enter Tryd.func17, Tryd.ntmps17
    go_wp2_with (first
      | ((with_reducible refine gate_dst (N := 2) rfl ?_); refine box_event ?hg (N := 2) ?hd (cs := nd 0 ByteArray.empty nilS nilS) (t := 25) ?hr ?_; (case hd => rfl); (case hg => rfl); (case hr => first | (go_simp; done) | (go_simp; rfl)); intro g2 hg2 w2 hb2 hbel2; have HB2 := Lib.hid hb2; have BEL := Lib.hid hbel2; have HG2 := Lib.hid (show w.heap.size ≤ g2 from by omega); clear hb2 hbel2 hg2)
      | (go_at_call 32; refine (type_other (by omega) (H4.out.mono ⟨BEL.out.cell HO.out.2, BEL.out.frozen HO.out.2⟩)).mono ?_; rintro e w3 ⟨rfl, rfl⟩)
      | (go_at_call 16; refine (mar_ok (.num s) rfl w3.heap.size ⟨pb, po, none⟩ own w3 (.slice none 0 0) [] (fun a ha => Nat.lt_of_lt_of_le (HW.out a ha).2 BEL.out.size) (HR.out.mono (fun a ha => ⟨ha, BEL.out.cell (HW.out a ha).2, BEL.out.frozen (HW.out a ha).2⟩)) (World.ownsRow_nil _ _ _ _) (Nat.le_refl _) (by have := HS.out; have h1 := bytesOf_length s; simp only [packJ, toT, packL, List.length_nil]; omega)).mono ?_; rintro e w6 ⟨v6, rfl, hrow, hb6⟩; rw [List.nil_append] at hrow; obtain ⟨A6, c6, rfl⟩ := row_form1 hrow; have hcv := own_string (P := Tryd.prog) Tryd.underlying34 Tryd.underlying5 Tryd.underlying9 hrow; replace HB2 := Lib.hid ((hb6.block g2 (blk_lt HB2.out)).trans HB2.out); replace BEL := Lib.hid (BEL.out.trans (hb6.mono BEL.out.size)); obtain ⟨q0, q1, q2, q3⟩ := four HB2.out; obtain ⟨f0, f1, f2, f3⟩ := four_f HB2.out; clear hrow hb6))
    refine bodyPost_ret (results_cell_row rfl _ _ g2 25 _ (0, 0) _ rfl (nput_at HB2.out) Tryd.underlying25 rfl (by kernel_rfl)) rfl ?_
    exact ⟨_, rfl, .num, nput_frame (Frame.below BEL.out) HG2.out⟩

end Go.Proofs.YtfoloneeibgoiaaDoor.Fjh

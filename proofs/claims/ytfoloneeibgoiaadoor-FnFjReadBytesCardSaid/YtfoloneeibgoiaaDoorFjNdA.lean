/- The thin package's walk over a value (fjNode): arrays. -/
import Derived.Test.YtfoloneeibgoiaaDoorFjNd
set_option linter.unusedVariables false
set_option linter.unusedSimpArgs false
namespace Go.Proofs.YtfoloneeibgoiaaDoor.Fjh
open Go Go.RowKit Go.Proofs.YtfoloneeibgoiaaDoorW.PrintWords Go.Proofs.YtfoloneeibgoiaaDoor.Un Go.Proofs.YtfoloneeibgoiaaDoor.JTr Go.Proofs.YtfoloneeibgoiaaDoor.Ndr
open Go.Proofs.YtfoloneeibgoiaaDoor.PFnFjReadBytes (Laid)

theorem own_range {w : World} {base : Nat} {e : TypeId} {size : Nat} {v : Value} {n : Nat} {xs : List Value} (h : w.ownsRow base e size v n xs) {k : Nat} (hk : v.ownBlock = some k) : base ≤ k ∧ k < w.heap.size := h.lt k hk
theorem Frame.thenBelow {X : Addr → Prop} {w w1 w2 : World} (h : Frame X w w1) (b : Below w.heap.size w1 w2) : Frame X w w2 :=
  ⟨b.os.trans h.os, b.tape.trans h.tape, b.output.trans h.output, Nat.le_trans h.size b.size, fun k hk hx => (b.block k hk).trans (h.block k hk hx),
   fun k cur t fr hg => by
     have hk : k < w.heap.size := by
       rcases Nat.lt_or_ge k w.heap.size with h' | h'
       · exact h'
       · rw [Array.getElem?_eq_none h'] at hg; cases hg
     obtain ⟨c1, g1, s1⟩ := h.shape k cur t fr hg
     exact ⟨c1, (b.block k hk).trans g1, s1⟩,
   fun a ha hk => (b.cell hk).trans (h.cell a ha hk), fun a hk => (b.frozen hk).trans (h.frozen a hk)⟩

/-- The blocks of the nodes made since w0, but the row's own. -/
def Kown (w0 w : World) (V : Value) (b : Nat) : Prop := Btw w0 w b ∧ V.ownBlock ≠ some b
theorem nk_frame {X : Addr → Prop} {w0 w w5 : World} {V : Value} {a : Array Value} {t : JT} (h : NRep w (Kown w0 w V) a t) (f : Frame X w w5) (hX : ∀ x, X x → x.block < w0.heap.size) : NRep w5 (Kown w0 w5 V) a t :=
  h.mono (fun k hk => ⟨⟨⟨hk.1.1, Nat.lt_of_lt_of_le hk.1.2 f.size⟩, hk.2⟩, f.block k hk.1.2 (fun x hx e => by have := hX x hx; have := hk.1.1; omega)⟩)
theorem nk_fresh {w0 w w5 : World} {V : Value} {a : Array Value} {t : JT} (h : NRep w5 (Btw w w5) a t) (hs : w0.heap.size ≤ w.heap.size) (hV : ∀ k, V.ownBlock = some k → k < w.heap.size) : NRep w5 (Kown w0 w5 V) a t :=
  h.mono (fun k hk => ⟨⟨⟨Nat.le_trans hs hk.1, hk.2⟩, fun e => by have := hV k e; have := hk.1; omega⟩, rfl⟩)
theorem nk_grown {w0 w5 w6 : World} {V V6 : Value} {a : Array Value} {t : JT} (h : NRep w5 (Kown w0 w5 V) a t) (hg : w5.grownBy w6 V.ownBlock) (hat : V6.ownBlock = V.ownBlock ∨ ∃ b, V6.ownBlock = some b ∧ w5.heap.size ≤ b) : NRep w6 (Kown w0 w6 V6) a t := by
  refine h.mono (fun k hk => ⟨⟨⟨hk.1.1, Nat.lt_of_lt_of_le hk.1.2 hg.size⟩, fun e => ?_⟩, hg.block k hk.1.2 (fun e => hk.2 e.symm)⟩)
  have hlt := hk.1.2
  rcases hat with h' | ⟨b, h', hb⟩
  · exact hk.2 (h' ▸ e)
  · rw [h'] at e; injection e with e; omega
theorem kids_push {w : World} {O : Nat → Prop} {ds : List (Array Value)} {vs : List JT} {a : Array Value} {v : JT} (hk : ∀ (i : Nat) (b : Array Value) (t : JT), ds[i]? = some b → vs[i]? = some t → NRep w O b t) (hv : vs[ds.length]? = some v) (ha : NRep w O a v) :
    ∀ (i : Nat) (b : Array Value) (t : JT), (ds ++ [a])[i]? = some b → vs[i]? = some t → NRep w O b t := by
  intro i b t h1 h2
  rw [List.getElem?_append] at h1
  by_cases hi : i < ds.length
  · rw [if_pos hi] at h1
    exact hk i b t h1 h2
  · rw [if_neg hi] at h1
    have : i - ds.length = 0 := by
      rcases Nat.eq_zero_or_pos (i - ds.length) with h0 | h0
      · exact h0
      · rw [List.getElem?_eq_none (by simp; omega)] at h1; cases h1
    rw [this] at h1
    simp only [List.getElem?_cons_zero, Option.some.injEq] at h1
    subst h1
    obtain rfl : i = ds.length := by omega
    rw [hv] at h2
    injection h2 with h2
    subst h2
    exact ha
theorem infoNd : (Tryd.prog.info? 25).map (fun i => (i.zero, i.size, i.bytes)) = some (some (.agg (nd 0 ByteArray.empty nilS nilS)), 4, 72) := by kernel_rfl
theorem nts_get : ∀ (vs : List JV) (i : Nat), (nts vs)[i]? = vs[i]?.map nt
  | [], i => by simp [nts]
  | v :: vs, 0 => by simp [nts]
  | v :: vs, i + 1 => by simp [nts, nts_get vs i]
theorem nts_len : ∀ vs : List JV, (nts vs).length = vs.length
  | [] => rfl
  | v :: vs => by simp [nts, nts_len vs]
theorem wszs_mem {vs : List JV} {v : JV} (h : v ∈ vs) : wsz v ≤ wszs vs := by
  induction vs with
  | nil => cases h
  | cons a vs ih =>
    simp only [wszs]
    rcases List.mem_cons.mp h with rfl | h
    · omega
    · have := ih h; omega
theorem wsz_pos (v : JV) : 1 ≤ wsz v := by cases v <;> simp [wsz]
theorem wszs_len : ∀ vs : List JV, vs.length ≤ wszs vs
  | [] => Nat.le_refl _
  | v :: vs => by have := wszs_len vs; have := wsz_pos v; simp only [wszs, List.length_cons]; omega

/-- What fjNodes leaves. -/
def NsP (own : Addr → Prop) (w : World) (vs : List JV) (e : Ending) (w' : World) : Prop := ∃ (K : Value) (ds : List (Array Value)), e = .returned K ∧ ds.length = vs.length ∧ w'.ownsRow w.heap.size 25 4 K ds.length (flat ds) ∧ (∀ (i : Nat) (b : Array Value) (t : JT), ds[i]? = some b → (nts vs)[i]? = some t → NRep w' (Kown w w' K) b t) ∧ Frame own w w'

set_option maxRecDepth 100000 in
set_option maxHeartbeats 8000000 in
theorem nodes_ok {vs : List JV} (IH : ∀ v ∈ vs, NdOk v) {B : Nat} {own : Addr → Prop} {w : World} {ab c : Nat} {A : Option Addr} {ps : Nat → Addr} {O : Nat → Addr → Prop}
    (hA0 : 0 < vs.length → A = some ⟨ab, 0, none⟩) (hA : ∀ i, i < vs.length → w.cell? ⟨ab, i, none⟩ = some (.pointer (some (ps i)))) (hO : ∀ i a, O i a → own a ∧ a.block ≠ ab) (hown : ∀ a, own a → B ≤ a.block ∧ a.block < w.heap.size) (hD : ∀ i j a, i < j → O i a → O j a → False)
    (hk : ∀ (i : Nat) (v : JV), vs[i]? = some v → Rep w (O i) (ps i) v) (hL : ∀ w', Below B w w' → Laid w') (hB : B ≤ w.heap.size) (hz : wszs vs ≤ 1000000000) :
    Calls Tryd.prog 35 #[.slice A vs.length c] w (NsP own w vs) := by
  have HIH := Lib.hid IH
  have HA0 := Lib.hid hA0
  have HA := Lib.hid hA
  have HO := Lib.hid hO
  have HW := Lib.hid hown
  have HD := Lib.hid hD
  have HK := Lib.hid hk
  have HLD := Lib.hid hL
  have HBB := Lib.hid hB
  have HZ := Lib.hid (And.intro hz (Nat.le_trans (wszs_len vs) hz))
  clear IH hA0 hA hO hown hD hk hL hB hz
  go_enter Tryd.func35, Tryd.ntmps35
  go_wp2
  go_loopg [3, 8] (vs.length + 1) (fun kq v3 v8 w' => ∃ (i : Nat) (ds : List (Array Value)) (AK : Option Addr) (nK cK : Nat), Hid (i ≤ vs.length ∧ kq = vs.length - i + 1) ∧ v3 = .slice AK nK cK ∧ v8 = .int .i64 i ∧ Hid (w'.ownsRow w.heap.size 25 4 (.slice AK nK cK) ds.length (flat ds) ∧ ds.length = i) ∧ Hid (∀ (j : Nat) (b : Array Value) (t : JT), ds[j]? = some b → (nts vs)[j]? = some t → NRep w' (Kown w w' (.slice AK nK cK)) b t) ∧ Hid (Frame (fun a => ∃ j, j < i ∧ O j a) w w'))
  case atStart => exact ⟨0, [], none, 0, 0, Lib.hid ⟨Nat.zero_le _, rfl⟩, rfl, rfl, Lib.hid ⟨World.ownsRow_nil _ _ _ _, rfl⟩, Lib.hid (fun j b t h => by simp at h), Lib.hid (Frame.refl _ _)⟩
  case round =>
    obtain ⟨i, ds, AK, nK, cK, HI, rfl, rfl, HR, HN, HF⟩ := hrel
    by_cases hi : i < vs.length
    · obtain ⟨v, hv⟩ : ∃ v, vs[i]? = some v := ⟨_, List.getElem?_eq_getElem hi⟩
      obtain rfl := HA0.out (by omega)
      have hlt := World.block_lt_of_cell? w _ (HA.out i hi)
      have hci := (HF.out.cell ⟨ab, i, none⟩ (by rintro ⟨j, _, hj⟩; exact (HO.out j _ hj).2 rfl) hlt).trans (HA.out i hi)
      have h0 : (0 : Int) ≤ (i : Int) := by omega
      have hlti : (i : Int) < (vs.length : Int) := by omega
      have hd1 : decide ((i : Int) < (vs.length : Int)) = true := decide_eq_true (by omega)
      have hd2 : decide (i < vs.length) = true := decide_eq_true (by omega)
      have hw1 : IntKind.i64.wrap ((i : Int) + 1) = (i : Int) + 1 := by rw [IntKind.wrap_i64]; have := HZ.out; omega
      have HC := Lib.hid (HIH.out v (List.mem_of_getElem? hv) B (O i) (ps i) wr ((HK.out i v hv).mono (fun a ha => ⟨ha, HF.out.cell a (by rintro ⟨j, hj, hj2⟩; exact HD.out j i a hj hj2 ha) (HW.out a (HO.out i a ha).1).2, HF.out.frozen a (HW.out a (HO.out i a ha).1).2⟩)) (fun a ha => ⟨(HW.out a (HO.out i a ha).1).1, Nat.lt_of_lt_of_le (HW.out a (HO.out i a ha).1).2 HF.out.size⟩)
        (fun w' hb => HLD.out w' ((HF.out.belowB (fun a ha => by obtain ⟨j, _, hj⟩ := ha; exact (HW.out a (HO.out j a hj).1).1) HBB.out).trans hb)) (Nat.le_trans HBB.out HF.out.size) (by have := wszs_mem (List.mem_of_getElem? hv); have := HZ.out; omega))
      have HV := Lib.hid (show (nts vs)[ds.length]? = some (nt v) from by rw [nts_get, HR.out.2, hv]; rfl)
      have HX := Lib.hid (show ∀ x, O i x → x.block < w.heap.size from fun x hx => (HW.out x (HO.out i x hx).1).2)
      clear hv
      go_wp2_with (first
        | (go_at_call 17; refine HC.out.mono ?_; rintro e w5 ⟨b5, rfl, hN5, hf5⟩; obtain ⟨kx, xx, D1, D2, d1, f1, d2, f2', rfl⟩ := hN5.form; have HN5 := Lib.hid hN5; have HF5 := Lib.hid hf5; have HR5 := Lib.hid (own_keep HR.out.1 (fun k hk => hf5.block k (own_range HR.out.1 hk).2 (fun x hx e => by have h1 := HX.out x hx; have h2 := (own_range HR.out.1 hk).1; omega))); clear hN5 hf5)
        | (at_builtin; refine print_append_cells (w0 := w5) w.heap.size rfl (.tmp 12) (.tmp 15) 23 25 (.agg (nd 0 ByteArray.empty nilS nilS)) 4 72 rfl Tryd.underlying23 infoNd rfl (by omega) (by omega) (.slice AK nK cK) ds.length (flat ds) (nd kx xx (.slice D1 d1 f1) (.slice D2 d2 f2')).toList rfl rfl rfl (by simp [nd, Value.oneCell']) HR5.out (Below.refl _ _) (Nat.le_trans HF.out.size HF5.out.size) (by have := HI.out; have := HR.out.2; have := HZ.out; omega) ?_; intro v6 w6 row6 bel6 gr6 hat6; obtain ⟨A6, n6, c6, rfl⟩ := row_form row6; have HROW := Lib.hid row6; have HB6 := Lib.hid bel6; have HGR := Lib.hid gr6; have HAT := Lib.hid hat6; clear row6 bel6 gr6 hat6))
      go_roundg (vs.length - i)
      case measure => have := HI.out; omega
      case rel => exact ⟨i + 1, ds ++ [nd kx xx (.slice D1 d1 f1) (.slice D2 d2 f2')], A6, n6, c6, Lib.hid ⟨hi, by have := HI.out; omega⟩, rfl, by congr 1, Lib.hid ⟨by simpa [flat_append, flat] using HROW.out, by simp [HR.out.2]⟩, Lib.hid (kids_push (fun j b t h1 h2 => nk_grown (nk_frame (HN.out j b t h1 h2) HF5.out HX.out) HGR.out HAT.out) HV.out (nk_grown (nk_fresh HN5.out HF.out.size (fun k hk => (own_range HR.out.1 hk).2)) HGR.out HAT.out)), Lib.hid (((HF.out.mono (fun a ha => by obtain ⟨j, h1, h2⟩ := ha; exact ⟨j, by omega, h2⟩)).trans (HF5.out.mono (fun a ha => ⟨i, by omega, ha⟩))).thenBelow HB6.out)⟩
    · have hd1 : decide ((i : Int) < (vs.length : Int)) = false := decide_eq_false (by omega)
      have hd2 : decide (i < vs.length) = false := decide_eq_false (by omega)
      go_wp2
      go_ret
      exact ⟨_, ds, rfl, by have := HI.out; have := HR.out.2; omega, HR.out.1, HN.out, HF.out.mono (fun a ha => by obtain ⟨j, _, h2⟩ := ha; exact (HO.out j a h2).1)⟩

set_option maxRecDepth 100000 in
set_option maxHeartbeats 8000000 in
theorem nd_arr {vs : List JV} (IH : ∀ v ∈ vs, NdOk v) : NdOk (.arr vs) := by
  intro B own p w hR hown hL hB hz
  cases hR with
  | arr hp h2 h4 o2 o4 hRR hA hO hD hk =>
    rename_i A c ps O
    obtain ⟨pb, po, rfl⟩ : ∃ pb po, p = ⟨pb, po, none⟩ := ⟨p.block, p.off, by cases p; simp_all⟩
    simp only [fld] at h2 h4 o2 o4
    have HCALL := Lib.hid (fun (w2 : World) (hb : Below w.heap.size w w2) => show Calls Tryd.prog 35 #[.slice A vs.length c] w2 (NsP own w2 vs) from by
      rcases Nat.eq_zero_or_pos vs.length with h0 | h0
      · refine nodes_ok (ab := 0) (B := B) (ps := ps) (O := fun _ _ => False) IH (fun h => by omega) (fun i h => by omega) (fun i a h => h.elim) (fun a ha => ⟨(hown a ha).1, Nat.lt_of_lt_of_le (hown a ha).2 hb.size⟩) (fun i j a _ h => h.elim) (fun i v h => ?_) (fun w' h => hL w' ((hb.mono hB).trans h)) (Nat.le_trans hB hb.size) (by simp only [wsz] at hz; omega)
        rw [List.length_eq_zero_iff.1 h0] at h; simp at h
      · obtain ⟨ab, rfl, hab, _⟩ := hRR.arr (by have := hRR.le; omega)
        refine nodes_ok (ab := ab) (B := B) (ps := ps) (O := O) IH (fun _ => rfl) (fun i h => ?_) (fun i a h => ⟨(hO i a h).1, (hO i a h).2.2 _ rfl⟩) (fun a ha => ⟨(hown a ha).1, Nat.lt_of_lt_of_le (hown a ha).2 hb.size⟩) hD (fun i v h => (hk i v h).mono (fun a ha => ⟨ha, hb.cell (hown a (hO i a ha).1).2, hb.frozen (hown a (hO i a ha).1).2⟩)) (fun w' h => hL w' ((hb.mono hB).trans h)) (Nat.le_trans hB hb.size) (by simp only [wsz] at hz; omega)
        have := hA _ rfl i h
        exact (hb.cell (World.block_lt_of_cell? w _ this)).trans this)
    have H4 := Lib.hid h4
    have H2 := Lib.hid h2
    have HO := Lib.hid (hown _ o4)
    have HX := Lib.hid hown
    clear hown hL hB hz h2 h4 o2 o4 hp hRR hA hO hD hk IH
    go_enter Tryd.func17, Tryd.ntmps17
    go_wp2_with (first
      | ((with_reducible refine gate_dst (N := 2) rfl ?_); refine box_event ?hg (N := 2) ?hd (cs := nd 0 ByteArray.empty nilS nilS) (t := 25) ?hr ?_; (case hd => rfl); (case hg => rfl); (case hr => first | (go_simp; done) | (go_simp; rfl)); intro g2 hg2 w2 hb2 hbel2; have HB2 := Lib.hid hb2; have BEL := Lib.hid hbel2; have HG2 := Lib.hid (show w.heap.size ≤ g2 from by omega); clear hb2 hbel2 hg2)
      | (go_at_call 32; refine (type_other (by omega) (H4.out.mono ⟨BEL.out.cell HO.out.2, BEL.out.frozen HO.out.2⟩)).mono ?_; rintro e w3 ⟨rfl, rfl⟩)
      | (go_at_call 36; refine (getarr (pb := pb) (po := po) (H2.out.mono ⟨BEL.out.cell HO.out.2, BEL.out.frozen HO.out.2⟩) (H4.out.mono ⟨BEL.out.cell HO.out.2, BEL.out.frozen HO.out.2⟩)).mono ?_; rintro e w4 ⟨rfl, rfl⟩)
      | (go_at_call 35; refine (HCALL.out _ BEL.out).mono ?_; rintro e w6 ⟨K6, ds, rfl, hl6, row6, hk6, hf6⟩; obtain ⟨A6, n6, c6, rfl⟩ := row_form row6; have HROW := Lib.hid row6; have HK6 := Lib.hid hk6; have HL6 := Lib.hid hl6; have HS6 := Lib.hid (And.intro BEL.out.size hf6.size); have HG26 := Lib.hid (blk_lt HB2.out); replace HB2 := Lib.hid ((hf6.block g2 (blk_lt HB2.out) (fun x hx e => by have h1 := (HX.out x hx).2; have h2 := HG2.out; omega)).trans HB2.out); have FR := Lib.hid ((Frame.below (X := own) BEL.out).trans hf6); obtain ⟨q0, q1, q2, q3⟩ := four HB2.out; obtain ⟨f0, f1, f2, f3⟩ := four_f HB2.out; clear row6 hk6 hl6 hf6))
    refine bodyPost_ret (results_cell_row rfl _ _ g2 25 _ (0, 0) _ rfl (nput_at HB2.out) Tryd.underlying25 rfl (by kernel_rfl)) rfl ?_
    have hne : ∀ k, k ≠ g2 → (nput w6 g2 (.int .i64 5) (.string ⟨#[]⟩) (.slice none 0 0) (.slice A6 n6 c6)).heap[k]? = w6.heap[k]? := fun k hk => by
      unfold nput
      rw [Below.heap_setCell _ _ _ _ hk, Below.heap_setCell _ _ _ _ hk, Below.heap_setCell _ _ _ _ hk, Below.heap_setCell _ _ _ _ hk]
    have hsz : (nput w6 g2 (.int .i64 5) (.string ⟨#[]⟩) (.slice none 0 0) (.slice A6 n6 c6)).heap.size = w6.heap.size := by simp [nput, World.setCell]
    have h26 := HG26.out
    have hs6 := HS6.out
    refine ⟨_, rfl, .arr (O := Kown w4 w6 (.slice A6 n6 c6)) (cs := ds) (by rw [nts_len]; exact HL6.out) (own_keep (own_le HROW.out (Nat.zero_le _)) (fun k hk => hne k (fun e => by have := (own_range HROW.out hk).1; omega))) (fun k hk => ⟨by have := (own_range HROW.out hk).1; omega, by rw [hsz]; exact (own_range HROW.out hk).2⟩) (fun k hk => ⟨by have := hk.1.1; omega, by rw [hsz]; exact hk.1.2⟩) (fun i a t h1 h2 => (HK6.out i a t h1 h2).mono (fun k hk => ⟨hk, hne k (fun e => by have := hk.1.1; omega)⟩)), nput_frame FR.out HG2.out⟩

end Go.Proofs.YtfoloneeibgoiaaDoor.Fjh

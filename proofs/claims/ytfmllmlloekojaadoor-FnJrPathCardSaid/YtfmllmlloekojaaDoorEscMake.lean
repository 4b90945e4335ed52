/- jsonparser.unescapeConfig (function 112): its contract, the room made by itself. -/
import Derived.Test.YtfmllmlloekojaaDoorEscCfg
import Derived.Deep.LoopGhost
import Derived.Deep.QuietTactic
import Derived.BigQuiet
set_option linter.unusedVariables false
namespace Go.Proofs.YtfmllmlloekojaaDoor.Esc
open Go Go.RowKit Go.Proofs.YtfmllmlloekojaaDoorW.PrintWords Go.Proofs.YtfmllmlloekojaaDoor.LaidL Go.Proofs.YtfmllmlloekojaaDoor.PFnJrPath
variable {E : ErrTab}

/-- What the whole leaves: the bytes in a row of the call's own, or an error. -/
def CfgPost (E : ErrTab) (q u : Bool) (xs : List Int) (w : World) (e : Ending) (w' : World) : Prop :=
  Below w.heap.size w w' ∧
  match unesc q u xs with
  | none => e = .returned (.tuple #[.slice none 0 0, errE E (some 10)])
  | some ys => ∃ g c, w.heap.size ≤ g ∧ e = .returned (.tuple #[.slice (some ⟨g, 0, none⟩) ys.length c, .nilIface]) ∧ ys.length ≤ c ∧ c ≤ maxLen ∧ ∃ L, RowIs g L w' ∧ L.length = c ∧ L.take ys.length = ys

theorem made_row (w : World) (n : Nat) : RowIs w.heap.size (List.replicate n 0) (w.alloc (.cells (madeCells #[.int .u8 0] n) 5)) := by
  unfold RowIs
  rw [heap_alloc_new]
  congr 2
  apply Array.toList_inj.1
  apply List.ext_getElem
  · simp [madeCells]
  · intro i h1 h2
    simp [madeCells, Nat.mod_one]

theorem C_grown {w w' : World} {ai : Addr} {n : Nat} {xs : List Int} {g : Nat} (h : Kd.C (Kd.int .u8) w (some ai) n xs) (hg : w.grownBy w' (some g)) (hne : ai.block ≠ g) : Kd.C (Kd.int .u8) w' (some ai) n xs := by
  refine ⟨h.1, h.2.1, fun hp => ?_⟩
  obtain ⟨ad, e, hc⟩ := h.2.2 hp
  obtain rfl := Option.some.inj e
  refine ⟨ai, rfl, fun j p hj => ?_⟩
  obtain ⟨c, h1, h2, h3⟩ := hc j p hj
  refine ⟨c, h1, h2, fun i u hu => hg.cell (h3 i u hu) (fun e => hne ?_)⟩
  have hb : (ai.add (j * (Kd.int .u8).sz + i)).block = ai.block := by unfold Addr.add; split <;> rfl
  rw [hb] at e
  exact Option.some.inj e

/-- What holds at each round's head: what is still to be read, how much has been written. -/
structure Inv (E : ErrTab) (q u : Bool) (m : Int) (xs : List Int) (w : World) (G C : Nat) (ai : Addr) (zs : List Int) (cz o : Nat) (L : List Int) (wr : World) : Prop where
  len1 : 1 ≤ zs.length
  room : o + zs.length ≤ xs.length
  cap : zs.length ≤ cz
  reads : Kd.C (Kd.int .u8) wr (some ai) zs.length zs
  apart : ai.block ≠ G
  below : Below w.heap.size w wr
  row : RowIs G L wr
  rowlen : L.length = xs.length
  rest : unesc q u xs = (unescF q u zs.length zs).map (fun t => L.take o ++ t)
  c0 : wr.cell? ⟨C, 0, none⟩ = some (.bool q)
  c1 : wr.cell? ⟨C, 1, none⟩ = some (.bool u)
  c2 : wr.cell? ⟨C, 2, none⟩ = some (.int .i64 m)
  laid : Laid E wr

theorem splice_map (L : List Int) (o : Nat) (ys : List Int) : splice (L.map (Value.int .u8)) o (ys.map (Value.int .u8)) = (splice L o ys).map (Value.int .u8) := by simp [splice]
theorem splice_take (L : List Int) (o : Nat) (ys : List Int) (h : o + ys.length ≤ L.length) : (splice L o ys).take (o + ys.length) = L.take o ++ ys := by
  unfold splice
  have hl : (L.take o ++ ys).length = o + ys.length := by simp; omega
  rw [← List.append_assoc, List.take_left' hl]
theorem below_of_grown {w w1 w2 : World} {g : Nat} (hb : Below w.heap.size w w1) (hg : w1.grownBy w2 (some g)) (h : w.heap.size ≤ g) : Below w.heap.size w w2 := hb.grown hg hb.size (fun k hk => by obtain rfl := Option.some.inj hk; exact h)
theorem C_sub {w : World} {ai : Addr} {xs : List Int} (h : Kd.C (Kd.int .u8) w (some ai) xs.length xs) (p : Nat) (hp : p < xs.length) : Kd.C (Kd.int .u8) w (some (ai.add p)) (xs.drop p).length (xs.drop p) := by
  have := Kd.C_drop (c := xs.length) (m := p) h (by omega) (Nat.le_refl _)
  rw [if_neg (by omega)] at this
  have e : p * (Kd.int .u8).sz = p := by show p * 1 = p; omega
  rwa [e] at this
theorem add_block (a : Addr) (n : Nat) : (a.add n).block = a.block := by unfold Addr.add; split <;> rfl
theorem C_lt {w : World} {ai : Addr} {xs : List Int} (h : Kd.C (Kd.int .u8) w (some ai) xs.length xs) (hp : 0 < xs.length) : ai.block < w.heap.size := by
  obtain ⟨ad, e, hc⟩ := h.2.2 hp
  obtain rfl := Option.some.inj e
  obtain ⟨c, h1, h2, h3⟩ := hc 0 (xs.getD 0 0) (by simp [List.getD, hp])
  obtain rfl : c = [.int .u8 (xs.getD 0 0)] := h2
  have := cell_lt (h3 0 _ rfl)
  rwa [add_block] at this

theorem cells_of {w : World} {ai : Addr} {xs : List Int} (h : Kd.C (Kd.int .u8) w (some ai) xs.length xs) (i : Nat) (hi : i < xs.length) : w.cell? (ai.add i) = some (.int .u8 (xs.getD i 0)) := by
  obtain ⟨ad, e, hc⟩ := h.2.2 (by omega)
  obtain rfl := Option.some.inj e
  obtain ⟨c, h1, h2, h3⟩ := hc i (xs.getD i 0) (by simp [List.getD, hi])
  obtain rfl : c = [.int .u8 (xs.getD i 0)] := h2
  have := h3 0 _ rfl
  rwa [show i * (Kd.int .u8).sz + 0 = i from by show i * 1 + 0 = i; omega] at this

theorem sub_cells {w : World} {ai : Addr} {xs : List Int} (h : Kd.C (Kd.int .u8) w (some ai) xs.length xs) (n : Nat) : ∀ j v, ((xs.take n).map (Value.int .u8))[j]? = some v → w.cell? (ai.add j) = some v := by
  intro j v hj
  simp only [List.getElem?_map, Option.map_eq_some_iff] at hj
  obtain ⟨x, hx, rfl⟩ := hj
  rw [List.getElem?_take] at hx
  split at hx
  · have hlt : j < xs.length := by
      rcases Nat.lt_or_ge j xs.length with h' | h'
      · exact h'
      · rw [List.getElem?_eq_none h'] at hx; cases hx
    rw [cells_of h j hlt]
    simp [List.getD, hx]
  · cases hx
theorem one_cells (xs : List Int) : ∀ v ∈ xs.map (Value.int .u8), v.oneCell' = true := by
  intro v hv
  obtain ⟨x, _, rfl⟩ := List.mem_map.1 hv
  rfl

theorem RowIs.heap {g : Nat} {L : List Int} {w : World} (h : RowIs g L w) : w.heap[g]? = some (.cells (L.map (Value.int .u8)).toArray 5 (0, 0)) := h

theorem inv_start {q u : Bool} {m : Int} {xs : List Int} {w w2 : World} {ad : Addr} {ci p : Nat} (hL : Laid E w) (hC : Kd.C (Kd.int .u8) w (some ad) xs.length xs) (hs : suf xs ≠ []) (hci : xs.length ≤ ci) (hp : p = (pre xs).length)
    (h : w2.heap[w.heap.size + 1]? = some (.cells (splice ((List.replicate xs.length 0).map (Value.int .u8)) 0 ((xs.take p).map (Value.int .u8))).toArray 5 (0, 0)))
    (hg : ((w.alloc (.cells #[.bool q, .bool u, .int .i64 m] 134)).alloc (.cells (madeCells #[.int .u8 0] xs.length) 5)).grownBy w2 (some (w.heap.size + 1))) :
    Inv E q u m xs w (w.heap.size + 1) w.heap.size (ad.add p) (suf xs) (ci - p) p (splice (List.replicate xs.length 0) 0 (xs.take p)) w2 := by
  have hps := pre_len xs
  have hs1 : 1 ≤ (suf xs).length := by
    cases hq : suf xs with
    | nil => exact absurd hq hs
    | cons => simp
  have hpl : (xs.take p).length = p := by rw [List.length_take]; omega
  have hb0 : Below w.heap.size w ((w.alloc (.cells #[.bool q, .bool u, .int .i64 m] 134)).alloc (.cells (madeCells #[.int .u8 0] xs.length) 5)) :=
    ((Below.refl _ _).alloc (Nat.le_refl _) _).alloc (by simp) _
  have hb : Below w.heap.size w w2 := below_of_grown hb0 hg (by omega)
  have hcfg : ∀ j v, (#[.bool q, .bool u, .int .i64 m] : Array Value)[j]? = some v → w2.cell? ⟨w.heap.size, j, none⟩ = some v := by
    intro j v hj
    refine hg.cell ?_ (fun e => by have := Option.some.inj e; simp at this)
    rw [World.cell?_of_block (w := w.alloc (.cells #[.bool q, .bool u, .int .i64 m] 134)) (Below.heap_alloc _ _ _ (by simp))]
    simp only [World.cell?, heap_alloc_new]
    exact hj
  refine ⟨hs1, by omega, by omega, ?_, ?_, hb, ?_, ?_, ?_, hcfg 0 _ rfl, hcfg 1 _ rfl, hcfg 2 _ rfl, hL.below hb⟩
  · have h1 := C_sub (Kd.C_below hC hb) p (by omega)
    rw [suf_drop, ← hp]
    exact h1
  · rw [add_block]
    have := C_lt hC (by omega)
    omega
  · unfold RowIs
    rw [h, splice_map]
  · rw [length_splice _ _ _ (by rw [hpl, List.length_replicate]; omega), List.length_replicate]
  · unfold unesc
    rw [if_neg hs]
    have := splice_take (List.replicate xs.length 0) 0 (xs.take p) (by rw [hpl, List.length_replicate]; omega)
    rw [hpl] at this
    simp only [Nat.zero_add, List.take_zero, List.nil_append] at this
    rw [this, hp, ← pre_take]

theorem hg_below {q u : Bool} {m : Int} {xs zs : List Int} {w wr w3 : World} {ai : Addr} {cz o C G : Nat} {L : List Int} (hg : wr.grownBy w3 (some G)) (h : Inv E q u m xs w G C ai zs cz o L wr) (hG : w.heap.size ≤ G) : Below w.heap.size w w3 := below_of_grown h.below hg hG

theorem esc_none {q u : Bool} {xs : List Int} {g off : Nat} {L : List Int} {w w' : World} {e : Ending} (he : escOne q u xs = none) (h : EscPost q u xs g off L w e w') :
    w.grownBy w' (some g) ∧ e = .returned (.tuple #[.int .i64 (-1), .int .i64 (-1)]) ∧ RowIs g L w' := by
  obtain ⟨h1, h2⟩ := h
  rw [he] at h2
  exact ⟨h1, h2.1, h2.2⟩
theorem esc_some {q u : Bool} {xs ys : List Int} {g off i : Nat} {L : List Int} {w w' : World} {e : Ending} (he : escOne q u xs = some (i, ys)) (h : EscPost q u xs g off L w e w') :
    w.grownBy w' (some g) ∧ e = .returned (.tuple #[.int .i64 i, .int .i64 ys.length]) ∧ RowIs g (splice L off ys) w' := by
  obtain ⟨h1, h2⟩ := h
  rw [he] at h2
  exact ⟨h1, h2.1, h2.2⟩

theorem unescF_none {q u : Bool} {zs : List Int} (h : escOne q u zs = none) (h1 : 1 ≤ zs.length) : unescF q u zs.length zs = none := by
  obtain ⟨k, hk⟩ : ∃ k, zs.length = k + 1 := ⟨zs.length - 1, by omega⟩
  rw [hk]
  simp only [unescF, h]

theorem cfg_none {q u : Bool} {m : Int} {xs zs : List Int} {w wr w3 : World} {ai : Addr} {cz o C G nd : Nat} {L : List Int} (h : Inv E q u m xs w G C ai zs cz o L wr) (he : escOne q u zs = none) (hg : wr.grownBy w3 (some G)) (hG : w.heap.size ≤ G) :
    CfgPost E q u xs w (.returned (.tuple #[.slice none 0 0, .iface 128 (.pointer (some (E 10)))])) (w3.drewN nd) := by
  have hb := hg_below hg h hG
  refine ⟨⟨hb.os, hb.tape, hb.output, hb.size, hb.block⟩, ?_⟩
  rw [h.rest, unescF_none he h.len1]
  rfl

theorem unescF_next {q u : Bool} {zs ys : List Int} {i : Nat} (he : escOne q u zs = some (i, ys)) (hs : suf (zs.drop i) ≠ []) :
    unescF q u zs.length zs = (unescF q u (suf (zs.drop i)).length (suf (zs.drop i))).map fun t => ys ++ pre (zs.drop i) ++ t := by
  obtain ⟨n1, n2, _, _⟩ := escOne_len he
  obtain ⟨k, hk⟩ : ∃ k, zs.length = k + 1 := ⟨zs.length - 1, by omega⟩
  have hp := pre_len (zs.drop i)
  rw [List.length_drop] at hp
  have hs1 : 1 ≤ (suf (zs.drop i)).length := by
    cases hq : suf (zs.drop i) with
    | nil => exact absurd hq hs
    | cons => simp
  rw [hk]
  simp only [unescF, he]
  rw [if_neg hs, unescF_more k (suf (zs.drop i)).length _ (by omega) (Nat.le_refl _) (by omega) hs1]
theorem unescF_last {q u : Bool} {zs ys : List Int} {i : Nat} (he : escOne q u zs = some (i, ys)) (hs : suf (zs.drop i) = []) :
    unescF q u zs.length zs = some (ys ++ zs.drop i) := by
  obtain ⟨n1, n2, _, _⟩ := escOne_len he
  obtain ⟨k, hk⟩ : ∃ k, zs.length = k + 1 := ⟨zs.length - 1, by omega⟩
  rw [hk]
  simp only [unescF, he]
  rw [if_pos hs]

theorem inv_next {q u : Bool} {m : Int} {xs zs ys : List Int} {w wr w3 w4 : World} {ai : Addr} {cz o C G i j : Nat} {L : List Int} (h : Inv E q u m xs w G C ai zs cz o L wr) (hL : Laid E w) (hG : w.heap.size ≤ G) (hCG : C ≠ G)
    (he : escOne q u zs = some (i, ys)) (hlt : i < zs.length) (hs : suf (zs.drop i) ≠ []) (hj : j = (pre (zs.drop i)).length) (hg3 : wr.grownBy w3 (some G)) (hg4 : w3.grownBy w4 (some G))
    (hr4 : w4.heap[G]? = some (.cells (splice ((splice L o ys).map (Value.int .u8)) (o + ys.length) (((zs.drop i).take j).map (Value.int .u8))).toArray 5 (0, 0))) :
    Inv E q u m xs w G C ((ai.add i).add j) (suf (zs.drop i)) (cz - i - j) (o + ys.length + j) (splice (splice L o ys) (o + ys.length) ((zs.drop i).take j)) w4 := by
  obtain ⟨n1, n2, n3, n4⟩ := escOne_len he
  have hp := pre_len (zs.drop i)
  rw [List.length_drop] at hp
  have hs1 : 1 ≤ (suf (zs.drop i)).length := by
    cases hq : suf (zs.drop i) with
    | nil => exact absurd hq hs
    | cons => simp
  have hrm := h.room
  have hcp := h.cap
  have hrl := h.rowlen
  have hg := grown_trans hg3 hg4
  have hb := below_of_grown h.below hg hG
  have hpl : ((zs.drop i).take j).length = j := by rw [List.length_take, List.length_drop]; omega
  have hl1 : (splice L o ys).length = L.length := length_splice _ _ _ (by omega)
  have hR := C_grown h.reads hg h.apart
  refine ⟨hs1, by omega, by omega, ?_, ?_, hb, ?_, ?_, ?_, hg.cell h.c0 (fun e => hCG (Option.some.inj e)), hg.cell h.c1 (fun e => hCG (Option.some.inj e)), hg.cell h.c2 (fun e => hCG (Option.some.inj e)), hL.below hb⟩
  · have h1 := C_sub (C_sub hR i hlt) j (by rw [List.length_drop]; omega)
    rw [suf_drop, ← hj]
    exact h1
  · rw [add_block, add_block]; exact h.apart
  · unfold RowIs
    rw [hr4, splice_map]
  · rw [length_splice _ _ _ (by rw [hpl, hl1]; omega), hl1, hrl]
  · rw [h.rest, unescF_next he hs, Option.map_map]
    congr 1
    funext t
    simp only [Function.comp_apply]
    have h1 := splice_take (splice L o ys) (o + ys.length) ((zs.drop i).take j) (by rw [hpl, hl1]; omega)
    rw [hpl] at h1
    rw [h1, splice_take L o ys (by omega), hj, ← pre_take]
    simp only [List.append_assoc]

theorem cfg_some {q u : Bool} {m : Int} {xs zs ys L' : List Int} {w wr w4 : World} {ai : Addr} {cz o C G i K : Nat} {L : List Int} (h : Inv E q u m xs w G C ai zs cz o L wr) (hG : w.heap.size ≤ G)
    (he : escOne q u zs = some (i, ys)) (hs : suf (zs.drop i) = []) (hbd : xs.length ≤ 140737488355328) (hg : wr.grownBy w4 (some G)) (hr : RowIs G L' w4) (hl : L'.length = xs.length)
    (ht : L'.take (o + ys.length + (zs.length - i)) = L.take o ++ ys ++ zs.drop i) (hK : K = o + ys.length + (zs.length - i)) :
    CfgPost E q u xs w (.returned (.tuple #[.slice (some ⟨G, 0, none⟩) K xs.length, .nilIface])) w4 := by
  obtain ⟨n1, n2, n3, n4⟩ := escOne_len he
  have hrm := h.room
  have hrl := h.rowlen
  refine ⟨below_of_grown h.below hg hG, ?_⟩
  rw [h.rest, unescF_last he hs]
  have hln : (L.take o ++ (ys ++ zs.drop i)).length = o + ys.length + (zs.length - i) := by
    rw [List.length_append, List.length_append, List.length_take, List.length_drop]; omega
  simp only [Option.map_some]
  refine ⟨G, xs.length, hG, ?_, by rw [hln]; omega, by unfold maxLen; omega, L', hr, hl, ?_⟩
  · rw [hln, hK]
  · rw [hln, ht, List.append_assoc]

theorem last_take {xs zs ys L : List Int} {o i : Nat} (hl : L.length = xs.length) (hrm : o + zs.length ≤ xs.length) (h1 : i ≤ zs.length) (h2 : ys.length ≤ i) :
    (splice (splice L o ys) (o + ys.length) ((zs.drop i).take (zs.length - i))).length = xs.length ∧ (splice (splice L o ys) (o + ys.length) ((zs.drop i).take (zs.length - i))).take (o + ys.length + (zs.length - i)) = L.take o ++ ys ++ zs.drop i := by
  have hpl : ((zs.drop i).take (zs.length - i)).length = zs.length - i := by rw [List.length_take, List.length_drop]; omega
  have hl1 : (splice L o ys).length = L.length := length_splice _ _ _ (by omega)
  refine ⟨by rw [length_splice _ _ _ (by rw [hpl, hl1]; omega), hl1, hl], ?_⟩
  have h3 := splice_take (splice L o ys) (o + ys.length) ((zs.drop i).take (zs.length - i)) (by rw [hpl, hl1]; omega)
  rw [hpl] at h3
  rw [h3, splice_take L o ys (by omega), List.take_of_length_le (l := zs.drop i) (by rw [List.length_drop]; exact Nat.le_refl _)]

theorem last_take0 {xs zs ys L : List Int} {o : Nat} (hl : L.length = xs.length) (hrm : o + zs.length ≤ xs.length) (h2 : ys.length ≤ zs.length) :
    (splice L o ys).length = xs.length ∧ (splice L o ys).take (o + ys.length + (zs.length - zs.length)) = L.take o ++ ys ++ zs.drop zs.length := by
  refine ⟨by rw [length_splice _ _ _ (by omega), hl], ?_⟩
  rw [Nat.sub_self, Nat.add_zero, splice_take L o ys (by omega), List.drop_length, List.append_nil]
theorem suf_end (zs : List Int) : suf (zs.drop zs.length) = [] := by rw [List.drop_length]; rfl

theorem row_of {g o : Nat} {L cs : List Int} {w : World} (h : w.heap[g]? = some (.cells (splice (L.map (Value.int .u8)) o (cs.map (Value.int .u8))).toArray 5 (0, 0))) : RowIs g (splice L o cs) w := by
  unfold RowIs
  rw [h, splice_map]

set_option maxHeartbeats 60000000 in
set_option maxRecDepth 100000 in
theorem cfg_make (q u : Bool) (m : Int) (A Ao : Option Addr) (ci : Nat) (xs : List Int) (w : World) (hL : Laid E w) (hs : suf xs ≠ [])
    (hC : Kd.C (Kd.int .u8) w A xs.length xs) (hci : xs.length ≤ ci) (hbd : xs.length ≤ 140737488355328) :
    Calls Tryd.prog 112 #[.agg #[.bool q, .bool u, .int .i64 m], .slice A xs.length ci, .slice Ao 0 0] w (CfgPost E q u xs w) := by
  have hx1 : 1 ≤ xs.length := by
    cases xs with
    | nil => exact absurd rfl hs
    | cons => simp
  obtain ⟨ad, rfl, hcell⟩ := hC.2.2 (by omega)
  have hidx : Lib.indexByte (Lib.bytesOf xs) 92 = ((pre xs).length : Int) := by
    rcases index_pre xs with ⟨h, _⟩ | ⟨_, h⟩
    · exact absurd h hs
    · exact h
  have hps := pre_len xs
  have hs1 : 1 ≤ (suf xs).length := by
    cases hq : suf xs with
    | nil => exact absurd hq hs
    | cons => simp
  have hread : ∀ o : Obj, ∀ i, i < xs.length → (w.alloc o).cell? (ad.add i) = some (.int .u8 (xs.getD i 0)) := by
    intro o i hi
    obtain ⟨c, hl, hk, hc⟩ := hcell i (xs.getD i 0) (by simp [List.getD, hi])
    obtain rfl : c = [.int .u8 (xs.getD i 0)] := hk
    have h0 := hc 0 _ rfl
    have : i * (Kd.int .u8).sz + 0 = i := by show i * 1 + 0 = i; omega
    rw [this] at h0
    rw [World.cell?_of_block (w := w) (Below.heap_alloc w o _ (cell_lt h0))]; exact h0
  have hmk := fun (wx : World) => run_make_row' (P := Tryd.prog) 22 5 (.int .u8 0) 1 Tryd.underlying22 (by kernel_rfl) rfl .i64 .i64 xs.length (by omega) (by omega) wx
  obtain ⟨p, hp⟩ : ∃ p, p = (pre xs).length := ⟨_, rfl⟩
  rw [← hp] at hidx hps
  have HX := Lib.hid hidx
  have HPS := Lib.hid hps
  have HP0 := Lib.hid hp
  have HR := fun o => Lib.hid (hread o)
  have hb1 : ((p : Int) == -1) = false := by simp
  have hpx : p < xs.length := by omega
  have hrow0 := made_row (w.alloc (Obj.cells #[.bool q, .bool u, .int .i64 m] 134)) xs.length
  have hcs1 : (((xs.take p).map (Value.int .u8)).length) = p := by rw [List.length_map, List.length_take]; omega
  have HRow := Lib.hid hrow0
  have HCS := Lib.hid hcs1
  have hsub : ∀ o o' : Obj, ∀ j v, ((xs.take p).map (Value.int .u8))[j]? = some v → ((w.alloc o).alloc o').cell? (ad.add j) = some v := by
    intro o o' j v hj
    simp only [List.getElem?_map, Option.map_eq_some_iff] at hj
    obtain ⟨x, hx, rfl⟩ := hj
    rw [List.getElem?_take] at hx
    split at hx
    · have h1 := hread o j (by omega)
      rw [World.cell?_of_block (w := w.alloc o) (Below.heap_alloc (w.alloc o) o' _ (cell_lt h1)), h1]
      simp [List.getD, hx]
    · cases hx
  have HSub := Lib.hid hsub
  have hone1 : ∀ v ∈ (xs.take p).map (Value.int .u8), v.oneCell' = true := by
    intro v hv
    obtain ⟨x, _, rfl⟩ := List.mem_map.1 hv
    rfl
  have HOne := Lib.hid hone1
  clear hcell hread hidx hps hp hrow0 hcs1 hsub hone1
  go_enter Tryd.func112, Tryd.ntmps112
  go_wp2_with (first | (go_at_call 122; (refine (Tryd.bytes_IndexByte_at ad xs.length ci xs 92 _ rfl (HR _).out).mono ?_); rintro e w' ⟨rfl, rfl⟩; (try rw [show ((92 : Int).toNat.toUInt8) = 92 from rfl]); rw [HX.out]) | (with_reducible refine wpList_copy_g rfl (.tmp 30) (.tmp 33) 22 22 rfl 5 Tryd.underlying22 (by kernel_rfl) (some ⟨w.heap.size + 1, 0, none⟩) (some ad) xs.length xs.length p ci rfl rfl (w.heap.size + 1) 0 ((List.replicate xs.length 0).map (Value.int .u8)) 5 (by simpa [RowIs] using HRow.out) ((xs.take p).map (Value.int .u8)) (by rw [HCS.out]; exact (Nat.min_eq_left (by omega)).symm) (fun _ => ⟨rfl, ad, rfl, HSub.out _ _⟩) (by rw [HCS.out, List.length_map, List.length_replicate]; omega) HOne.out ?_; intro w2 HG2 HB2))
  go_loopg [1, 9] xs.length (fun k vi vb wr => ∃ (ai : Addr) (zs : List Int) (cz o : Nat) (L : List Int), vi = .slice (some ai) zs.length cz ∧ vb = .slice (some ⟨w.heap.size + 1, o, none⟩) (xs.length - o) (xs.length - o) ∧ zs.length ≤ k ∧ Hid (Inv E q u m xs w (w.heap.size + 1) w.heap.size ai zs cz o L wr))
  case atStart =>
    refine ⟨ad.add p, suf xs, ci - p, p, _, ?_, rfl, by have := HPS.out; omega, Lib.hid (inv_start hL hC hs hci HP0.out HG2.out HB2.out)⟩
    rw [show (suf xs).length = xs.length - p from by have := HPS.out; omega]
  case round =>
    obtain ⟨ai, zs, cz, o, L, rfl, rfl, hk, hi⟩ := hrel
    have hI := hi.out
    have hl1 := hI.len1
    have hrm := hI.room
    have hcz := hI.cap
    have g0 := hI.c0
    have g1 := hI.c1
    have g2 := hI.c2
    have HLd := Lib.hid hL
    clear hI hL hC HG2 HB2 HSub HR HRow HOne HX HCS
    cases he : escOne q u zs with
    | none =>
      have HE := Lib.hid he
      clear he
      go_wp2_with (go_at_call 123; (refine (esc_calls q u m (some ai) cz zs (w.heap.size + 1) o (xs.length - o) (xs.length - o) L wr hi.out.laid hi.out.row hi.out.reads hi.out.cap (by omega) (by rw [hi.out.rowlen]; omega)).mono ?_); rintro e w3 hp; obtain ⟨hg, rfl, hr⟩ := esc_none HE.out hp; have hz := (HLd.out.below (hg_below hg hi.out (by omega))).s10; have HG := Lib.hid hg; clear hp hg hr)
      go_quiet (fail)
      go_wp2
      go_ret2
      exact cfg_none hi.out HE.out HG.out (by omega)
    | some iy =>
      obtain ⟨i, ys⟩ := iy
      obtain ⟨n1, n2, n3, n4⟩ := escOne_len he
      have HE := Lib.hid he
      clear he
      by_cases hend : i = zs.length
      · subst hend
        have hb2 : ((zs.length : Int) == -1) = false := by simp
        rcases (by omega : (cz ≤ zs.length) ∨ zs.length < cz) with k1 | k1
        all_goals rcases (by omega : (xs.length - o ≤ ys.length) ∨ ys.length < xs.length - o) with q1 | q1
        all_goals
          go_wp2_with (first | (go_at_call 123; (refine (esc_calls q u m (some ai) cz zs (w.heap.size + 1) o (xs.length - o) (xs.length - o) L wr hi.out.laid hi.out.row hi.out.reads hi.out.cap (by omega) (by rw [hi.out.rowlen]; omega)).mono ?_); rintro e w3 hp; obtain ⟨hg, rfl, hr⟩ := esc_some HE.out hp; have HG := Lib.hid hg; have HRW := Lib.hid hr; clear hp hg hr) | (go_at_call 122; (refine (Tryd.bytes_IndexByte_at _ 0 _ [] 92 _ rfl (fun x hx => absurd hx (Nat.not_lt_zero _))).mono ?_); rintro e w' ⟨rfl, rfl⟩; rw [show Lib.indexByte (Lib.bytesOf []) ((92 : Int).toNat.toUInt8) = -1 from rfl]) | (refine wpList_copy_nothing rfl (.tmp 61) (.tmp 62) 22 22 rfl 5 Tryd.underlying22 (by kernel_rfl) _ _ _ _ _ _ rfl rfl (by simp) ?_))
          go_ret2
          exact cfg_some hi.out (by omega) HE.out (suf_end zs) hbd HG.out HRW.out (last_take0 hi.out.rowlen hrm n4).1 (last_take0 hi.out.rowlen hrm n4).2 (by omega)
      · have hlt : i < zs.length := by omega
        have hyo : ys.length < xs.length - o := by omega
        have hic : i < cz := by omega
        have hb2 : ((i : Int) == -1) = false := by simp
        by_cases hsuf : suf (zs.drop i) = []
        · have hidx : Lib.indexByte (Lib.bytesOf (zs.drop i)) 92 = -1 := by
            rcases index_pre (zs.drop i) with ⟨_, h⟩ | ⟨h, _⟩
            · exact h
            · exact absurd hsuf h
          have HX := Lib.hid hidx
          have HSF := Lib.hid hsuf
          have HC3 : Hid ((((zs.drop i).take (zs.length - i)).map (Value.int .u8)).length = zs.length - i) := Lib.hid (by rw [List.length_map, List.length_take, List.length_drop]; omega)
          clear hidx hsuf hend
          rcases (by omega : (zs.length - i ≤ xs.length - o - ys.length ∧ xs.length - o - ys.length ≤ zs.length - i) ∨ zs.length - i < xs.length - o - ys.length) with ⟨q1, q2⟩ | q1
          · go_wp2_with (first | (go_at_call 123; (refine (esc_calls q u m (some ai) cz zs (w.heap.size + 1) o (xs.length - o) (xs.length - o) L wr hi.out.laid hi.out.row hi.out.reads hi.out.cap (by omega) (by rw [hi.out.rowlen]; omega)).mono ?_); rintro e w3 hp; obtain ⟨hg, rfl, hr⟩ := esc_some HE.out hp; have HG := Lib.hid hg; have HRW := Lib.hid hr; clear hp hg hr) | (go_at_call 122; (refine (Tryd.bytes_IndexByte_at (ai.add i) (zs.length - i) (cz - i) (zs.drop i) 92 _ (by simp) (fun x hx => cells_of (C_sub (C_grown hi.out.reads HG.out hi.out.apart) i hlt) x (by simpa using hx))).mono ?_); rintro e w' ⟨rfl, rfl⟩; (try rw [show ((92 : Int).toNat.toUInt8) = 92 from rfl]); rw [HX.out]) | (refine wpList_copy_g rfl (.tmp 61) (.tmp 62) 22 22 rfl 5 Tryd.underlying22 (by kernel_rfl) (some ⟨w.heap.size + 1, o + ys.length, none⟩) (some (ai.add i)) (xs.length - o - ys.length) (xs.length - o - ys.length) (zs.length - i) (cz - i) rfl rfl (w.heap.size + 1) (o + ys.length) ((splice L o ys).map (Value.int .u8)) 5 HRW.out.heap (((zs.drop i).take (zs.length - i)).map (Value.int .u8)) (by rw [HC3.out]; exact (Nat.min_eq_left (by omega)).symm) (fun _ => ⟨rfl, ai.add i, rfl, sub_cells (C_sub (C_grown hi.out.reads HG.out hi.out.apart) i hlt) (zs.length - i)⟩) (by rw [HC3.out, List.length_map, length_splice _ _ _ (by rw [hi.out.rowlen]; omega), hi.out.rowlen]; omega) (one_cells _) ?_; intro w4 HG4 HB4))
            go_ret2
            exact cfg_some hi.out (by omega) HE.out HSF.out hbd (grown_trans HG.out HB4.out) (row_of HG4.out) (last_take hi.out.rowlen hrm (by omega) n4).1 (last_take hi.out.rowlen hrm (by omega) n4).2 (by omega)
          · go_wp2_with (first | (go_at_call 123; (refine (esc_calls q u m (some ai) cz zs (w.heap.size + 1) o (xs.length - o) (xs.length - o) L wr hi.out.laid hi.out.row hi.out.reads hi.out.cap (by omega) (by rw [hi.out.rowlen]; omega)).mono ?_); rintro e w3 hp; obtain ⟨hg, rfl, hr⟩ := esc_some HE.out hp; have HG := Lib.hid hg; have HRW := Lib.hid hr; clear hp hg hr) | (go_at_call 122; (refine (Tryd.bytes_IndexByte_at (ai.add i) (zs.length - i) (cz - i) (zs.drop i) 92 _ (by simp) (fun x hx => cells_of (C_sub (C_grown hi.out.reads HG.out hi.out.apart) i hlt) x (by simpa using hx))).mono ?_); rintro e w' ⟨rfl, rfl⟩; (try rw [show ((92 : Int).toNat.toUInt8) = 92 from rfl]); rw [HX.out]) | (refine wpList_copy_g rfl (.tmp 61) (.tmp 62) 22 22 rfl 5 Tryd.underlying22 (by kernel_rfl) (some ⟨w.heap.size + 1, o + ys.length, none⟩) (some (ai.add i)) (xs.length - o - ys.length) (xs.length - o - ys.length) (zs.length - i) (cz - i) rfl rfl (w.heap.size + 1) (o + ys.length) ((splice L o ys).map (Value.int .u8)) 5 HRW.out.heap (((zs.drop i).take (zs.length - i)).map (Value.int .u8)) (by rw [HC3.out]; exact (Nat.min_eq_left (by omega)).symm) (fun _ => ⟨rfl, ai.add i, rfl, sub_cells (C_sub (C_grown hi.out.reads HG.out hi.out.apart) i hlt) (zs.length - i)⟩) (by rw [HC3.out, List.length_map, length_splice _ _ _ (by rw [hi.out.rowlen]; omega), hi.out.rowlen]; omega) (one_cells _) ?_; intro w4 HG4 HB4))
            go_ret2
            exact cfg_some hi.out (by omega) HE.out HSF.out hbd (grown_trans HG.out HB4.out) (row_of HG4.out) (last_take hi.out.rowlen hrm (by omega) n4).1 (last_take hi.out.rowlen hrm (by omega) n4).2 (by omega)
        · have hidx : Lib.indexByte (Lib.bytesOf (zs.drop i)) 92 = ((pre (zs.drop i)).length : Int) := by
            rcases index_pre (zs.drop i) with ⟨h, _⟩ | ⟨_, h⟩
            · exact absurd h hsuf
            · exact h
          have hpl := pre_len (zs.drop i)
          have hs1 : 1 ≤ (suf (zs.drop i)).length := by
            cases hq : suf (zs.drop i) with
            | nil => exact absurd hq hsuf
            | cons => simp
          rw [List.length_drop] at hpl
          obtain ⟨j, hj⟩ : ∃ j, j = (pre (zs.drop i)).length := ⟨_, rfl⟩
          rw [← hj] at hidx hpl
          have HJ := Lib.hid hj
          have HX := Lib.hid hidx
          have hjx : i + j < zs.length := by omega
          have hb3 : ((j : Int) == -1) = false := by simp
          have HSF := Lib.hid hsuf
          have HC3 : Hid ((((zs.drop i).take j).map (Value.int .u8)).length = j) := Lib.hid (by rw [List.length_map, List.length_take, List.length_drop]; omega)
          clear hj hidx hpl hs1 hsuf hend
          go_wp2_with (first | (go_at_call 123; (refine (esc_calls q u m (some ai) cz zs (w.heap.size + 1) o (xs.length - o) (xs.length - o) L wr hi.out.laid hi.out.row hi.out.reads hi.out.cap (by omega) (by rw [hi.out.rowlen]; omega)).mono ?_); rintro e w3 hp; obtain ⟨hg, rfl, hr⟩ := esc_some HE.out hp; have HG := Lib.hid hg; have HRW := Lib.hid hr; clear hp hg hr) | (go_at_call 122; (refine (Tryd.bytes_IndexByte_at (ai.add i) (zs.length - i) (cz - i) (zs.drop i) 92 _ (by simp) (fun x hx => cells_of (C_sub (C_grown hi.out.reads HG.out hi.out.apart) i hlt) x (by simpa using hx))).mono ?_); rintro e w' ⟨rfl, rfl⟩; (try rw [show ((92 : Int).toNat.toUInt8) = 92 from rfl]); rw [HX.out]) | (with_reducible refine wpList_copy_g rfl (.tmp 68) (.tmp 71) 22 22 rfl 5 Tryd.underlying22 (by kernel_rfl) (some ⟨w.heap.size + 1, o + ys.length, none⟩) (some (ai.add i)) (xs.length - o - ys.length) (xs.length - o - ys.length) j (cz - i) rfl rfl (w.heap.size + 1) (o + ys.length) ((splice L o ys).map (Value.int .u8)) 5 HRW.out.heap (((zs.drop i).take j).map (Value.int .u8)) (by rw [HC3.out]; exact (Nat.min_eq_left (by omega)).symm) (fun _ => ⟨rfl, ai.add i, rfl, sub_cells (C_sub (C_grown hi.out.reads HG.out hi.out.apart) i hlt) j⟩) (by rw [HC3.out, List.length_map, length_splice _ _ _ (by rw [hi.out.rowlen]; omega), hi.out.rowlen]; omega) (one_cells _) ?_; intro w4 HG4 HB4))
          have hsl : (suf (zs.drop i)).length = zs.length - i - j := by
            have := pre_len (zs.drop i)
            rw [← HJ.out, List.length_drop] at this
            omega
          go_roundg (zs.length - i - j)
          case measure => omega
          case rel =>
            refine ⟨(ai.add i).add j, suf (zs.drop i), cz - i - j, o + ys.length + j, _, ?_, ?_, by omega, Lib.hid (inv_next hi.out HLd.out (by omega) (by omega) HE.out hlt HSF.out HJ.out HG.out HB4.out HG4.out)⟩
            · rw [hsl]
            · rw [show xs.length - (o + ys.length + j) = xs.length - o - ys.length - j from by omega]

end Go.Proofs.YtfmllmlloekojaaDoor.Esc

/- jsonparser.unescapeToUTF8Config (function 123): its contract. -/
import Derived.Test.YtfmllmlloekojaaDoorEscOne
import Derived.Lib.Hide
set_option linter.unusedVariables false
namespace Go.Proofs.YtfmllmlloekojaaDoor.Esc
open Go Go.RowKit Go.Proofs.YtfmllmlloekojaaDoorW.PrintWords Go.Proofs.YtfmllmlloekojaaDoor.LaidL Go.Proofs.YtfmllmlloekojaaDoor.PFnJrPath
variable {E : ErrTab}

theorem grown_alloc (w : World) (o : Obj) (g : Nat) : w.grownBy (w.alloc o) (some g) := World.grownBy_alloc w o (some g)

theorem RowIs.alloc {g : Nat} {L : List Int} {w : World} (h : RowIs g L w) (o : Obj) : RowIs g L (w.alloc o) := by
  unfold RowIs at h ⊢
  rw [Below.heap_alloc w o g]
  · exact h
  · rcases Nat.lt_or_ge g w.heap.size with h' | h'
    · exact h'
    · rw [Array.getElem?_eq_none h'] at h; cases h

set_option maxHeartbeats 4000000 in
set_option maxRecDepth 100000 in
theorem esc_short (q u : Bool) (m : Int) (A : Option Addr) (ci : Nat) (xs : List Int) (g off n c : Nat) (L : List Int) (w : World) (hr : RowIs g L w)
    (hC : Kd.C (Kd.int .u8) w A xs.length xs) (hs : xs.length < 2) :
    Calls Tryd.prog 123 #[.agg #[.bool q, .bool u, .int .i64 m], .slice A xs.length ci, .slice (some ⟨g, off, none⟩) n c] w (EscPost q u xs g off L w) := by
  have hE : escOne q u xs = none := by
    match xs, hs with
    | [], _ => rfl
    | [_], _ => rfl
  have HP : ∀ w', w.grownBy w' (some g) → RowIs g L w' → EscPost q u xs g off L w (.returned (.tuple #[.int .i64 (-1), .int .i64 (-1)])) w' := fun w' h1 h2 => by
    refine ⟨h1, ?_⟩
    rw [hE]
    exact ⟨rfl, h2⟩
  have HP' := Lib.hid HP
  have HR := Lib.hid hr
  clear HP hr hE hC
  go_enter Tryd.func123, Tryd.ntmps123
  go_wp2
  go_ret2
  exact HP'.out _ (grown_alloc _ _ _) (HR.out.alloc _)

theorem two_cells {w : World} {A : Option Addr} {b e : Int} {t : List Int} (hC : Kd.C (Kd.int .u8) w A (b :: e :: t).length (b :: e :: t)) :
    ∃ ad, A = some ad ∧ ∀ o, (w.alloc o).cell? ad = some (.int .u8 b) ∧ (w.alloc o).cell? ⟨ad.block, ad.off + 1, none⟩ = some (.int .u8 e) := by
  obtain ⟨ad, rfl, h⟩ := hC.2.2 (by simp)
  have al : ∀ (o : Obj) (a : Addr) (v : Value), w.cell? a = some v → (w.alloc o).cell? a = some v := by
    intro o a v hv
    rw [World.cell?_of_block (w := w) (Below.heap_alloc w o _ (cell_lt hv))]; exact hv
  refine ⟨ad, rfl, fun o => ⟨al o _ _ ?_, al o _ _ ?_⟩⟩
  · obtain ⟨c, hl, hk, hc⟩ := h 0 b rfl
    obtain rfl : c = [.int .u8 b] := hk
    have := hc 0 _ rfl
    simpa [Addr.add] using this
  · obtain ⟨c, hl, hk, hc⟩ := h 1 e rfl
    obtain rfl : c = [.int .u8 e] := hk
    exact hc 0 _ rfl

theorem HPnone {q u : Bool} {xs L : List Int} {g off : Nat} {w : World} (hE : escOne q u xs = none) (w' : World) (h1 : w.grownBy w' (some g)) (h2 : RowIs g L w') : EscPost q u xs g off L w (.returned (.tuple #[.int .i64 (-1), .int .i64 (-1)])) w' := by
  refine ⟨h1, ?_⟩
  rw [hE]
  exact ⟨rfl, h2⟩

set_option maxHeartbeats 4000000 in
set_option maxRecDepth 100000 in
theorem esc_nobs (q u : Bool) (m : Int) (A : Option Addr) (ci : Nat) (b e : Int) (t : List Int) (g off n c : Nat) (L : List Int) (w : World) (hr : RowIs g L w)
    (hC : Kd.C (Kd.int .u8) w A (b :: e :: t).length (b :: e :: t)) (hb : b ≠ 92) :
    Calls Tryd.prog 123 #[.agg #[.bool q, .bool u, .int .i64 m], .slice A (b :: e :: t).length ci, .slice (some ⟨g, off, none⟩) n c] w (EscPost q u (b :: e :: t) g off L w) := by
  have hE : escOne q u (b :: e :: t) = none := by simp only [escOne]; rw [if_pos hb]
  have HP' := Lib.hid (HPnone (off := off) (w := w) (g := g) (L := L) hE)
  have HR := Lib.hid hr
  obtain ⟨ad, rfl, cc⟩ := two_cells hC
  obtain ⟨c0, c1⟩ := cc (.cells #[.bool q, .bool u, .int .i64 m] 134)
  have hb2 : (b != 92) = true := by simpa using hb
  obtain ⟨N, hN⟩ : ∃ N, N = (b :: e :: t).length := ⟨_, rfl⟩
  have h2 : 2 ≤ N := by rw [hN]; simp
  rw [← hN]
  clear hr hE hC hb hN cc
  go_enter Tryd.func123, Tryd.ntmps123
  go_wp2
  go_ret2
  exact HP'.out _ (grown_alloc _ _ _) (HR.out.alloc _)

theorem RowIs.cell {g off : Nat} {L : List Int} {w : World} (h : RowIs g L w) (ho : off < L.length) : w.cell? ⟨g, off, none⟩ = some (.int .u8 (L.getD off 0)) ∧ w.frozen? ⟨g, off, none⟩ = false := by
  constructor
  · unfold RowIs at h
    simp [World.cell?, h, List.getD, ho]
  · unfold RowIs at h
    simp [World.frozen?, h]

theorem RowIs.set {g off : Nat} {L : List Int} {w : World} (h : RowIs g L w) (ho : off < L.length) (v : Int) : RowIs g (splice L off [v]) (w.setCell ⟨g, off, none⟩ (.int .u8 v)) ∧ w.grownBy (w.setCell ⟨g, off, none⟩ (.int .u8 v)) (some g) := by
  refine ⟨?_, ⟨rfl, rfl, rfl, by simp [World.setCell], fun k _ hk => Below.heap_setCell _ _ _ _ (fun e => hk (by rw [e]))⟩⟩
  unfold RowIs at h ⊢
  rw [setCell_eq_setRow w g off _ _ (0, 0) _ h]
  rw [setRow_heap w g _ _ _ _ h]
  congr 2
  apply Array.toList_inj.1
  simp [splice, List.set_eq_take_append_cons_drop, ho]

theorem HPsome {q u : Bool} {xs L ys : List Int} {g off i : Nat} {w : World} (hE : escOne q u xs = some (i, ys)) (w' : World) (h1 : w.grownBy w' (some g)) (h2 : RowIs g (splice L off ys) w') : EscPost q u xs g off L w (.returned (.tuple #[.int .i64 i, .int .i64 ys.length])) w' := by
  refine ⟨h1, ?_⟩
  rw [hE]
  exact ⟨rfl, h2⟩

theorem grown_trans {a b c : World} {g : Nat} (h : a.grownBy b (some g)) (k : b.grownBy c (some g)) : a.grownBy c (some g) :=
  ⟨k.os.trans h.os, k.tape.trans h.tape, k.output.trans h.output, Nat.le_trans h.size k.size, fun i hi hn => (k.block i (Nat.lt_of_lt_of_le hi h.size) hn).trans (h.block i hi hn)⟩

set_option maxHeartbeats 4000000 in
set_option maxRecDepth 100000 in
theorem esc_simple (q u : Bool) (m : Int) (A : Option Addr) (ci : Nat) (e : Int) (t : List Int) (g off n c : Nat) (L : List Int) (w : World) (hL : Laid E w) (hr : RowIs g L w)
    (hC : Kd.C (Kd.int .u8) w A (92 :: e :: t).length (92 :: e :: t)) (ho : off < L.length) (hn : 0 < n) (he : e = 34 ∨ e = 92 ∨ e = 47 ∨ e = 98 ∨ e = 102 ∨ e = 110 ∨ e = 114 ∨ e = 116) :
    Calls Tryd.prog 123 #[.agg #[.bool q, .bool u, .int .i64 m], .slice A (92 :: e :: t).length ci, .slice (some ⟨g, off, none⟩) n c] w (EscPost q u (92 :: e :: t) g off L w) := by
  have hE : escOne q u (92 :: e :: t) = some (2, [tab17.getD e.toNat 0]) := by simp only [escOne]; rw [if_neg (by simp), if_pos he]
  have HP' := Lib.hid (HPsome (off := off) (w := w) (g := g) (L := L) hE)
  obtain ⟨ad, rfl, cc⟩ := two_cells hC
  obtain ⟨O, hO⟩ : ∃ O, O = Obj.cells #[.bool q, .bool u, .int .i64 m] 134 := ⟨_, rfl⟩
  obtain ⟨c0, c1⟩ := cc O
  have hr1 := hr.alloc O
  obtain ⟨c2, f2⟩ := hr1.cell ho
  have HS := Lib.hid (hr1.set ho (tab17.getD e.toNat 0))
  have hT := (hL.below ((Below.refl w.heap.size w).alloc (Nat.le_refl _) O)).t17
  obtain ⟨N, hN⟩ : ∃ N, N = (92 :: e :: t).length := ⟨_, rfl⟩
  have h2 : 2 ≤ N := by rw [hN]; simp
  rw [← hN]
  have ht : (w.alloc O).cell? ⟨17, e.toNat, none⟩ = some (.int .u8 (tab17.getD e.toNat 0)) := hT e.toNat (by rcases he with rfl | rfl | rfl | rfl | rfl | rfl | rfl | rfl <;> decide)
  generalize tab17.getD e.toNat 0 = v at ht HS HP'
  clear hr hE hC hN cc hL hT hr1
  rcases he with rfl | rfl | rfl | rfl | rfl | rfl | rfl | rfl
  all_goals subst hO
  all_goals simp only [Int.reduceToNat] at ht
  all_goals
    go_enter Tryd.func123, Tryd.ntmps123
    go_wp2
    go_ret2
    exact HP'.out _ (grown_trans (grown_alloc _ _ _) HS.out.2) HS.out.1

end Go.Proofs.YtfmllmlloekojaaDoor.Esc

/- A value's Type (a string that stands as it is in the text is taken for its characters then), and the looks at it without keys. -/
import Derived.Test.YtfoloneeibgoiaaDoorFjA
import Derived.Test.YtfoloneeibgoiaaDoorUnEs
set_option linter.unusedVariables false
set_option linter.unusedSimpArgs false
namespace Go.Proofs.YtfoloneeibgoiaaDoor.Fjh
open Go Go.RowKit Go.Proofs.YtfoloneeibgoiaaDoorW.PrintWords Go.Proofs.YtfoloneeibgoiaaDoor.Un

/-- What Type leaves of a string that stands as it is in the text. -/
abbrev tyW (w : World) (pb po : Nat) (b : ByteArray) : World := (w.setCell ⟨pb, po + 3, none⟩ (.string b)).setCell ⟨pb, po + 4, none⟩ (.int .i64 3)

set_option maxRecDepth 100000 in
set_option maxHeartbeats 8000000 in
theorem type_raw {pb po : Nat} {w : World} {s : ByteArray} (hs : s.size ≤ 2147483647) (hL : PFnFjReadBytes.Laid w) (h3 : Cel w ⟨pb, po + 3, none⟩ (.string s)) (h4 : Cel w ⟨pb, po + 4, none⟩ (.int .i64 7)) :
    Calls Tryd.prog 32 #[.pointer (some ⟨pb, po, none⟩)] w (fun e w' => e = .returned (.int .i64 3) ∧ ∃ w1, Below w.heap.size w w1 ∧ w' = tyW w1 pb po (unF s)) := by
  have HS := Lib.hid hs
  have HL := Lib.hid hL
  obtain ⟨c3, f3⟩ := h3
  obtain ⟨c4, f4⟩ := h4
  have B3 := Lib.hid (World.block_lt_of_cell? w _ c3)
  clear hs hL
  go_enter Tryd.func32, Tryd.ntmps32
  go_wp2_with (first
    | (go_at_call 52; refine (un_calls HS.out HL.out).mono ?_; rintro e w1 ⟨rfl, hb1⟩; have HB1 := Lib.hid hb1; have d3 := (hb1.cell (p := ⟨pb, po + 3, none⟩) B3.out).trans c3; have k3 := (hb1.frozen (p := ⟨pb, po + 3, none⟩) B3.out).trans f3; have d4 := (hb1.cell (p := ⟨pb, po + 4, none⟩) B3.out).trans c4; have k4 := (hb1.frozen (p := ⟨pb, po + 4, none⟩) B3.out).trans f4; clear hb1))
  go_ret
  exact ⟨rfl, w1, HB1.out, rfl⟩

set_option maxRecDepth 100000 in
set_option maxHeartbeats 8000000 in
theorem type_other {pb po : Nat} {w : World} {t : Int} (ht : t ≠ 7) (h4 : Cel w ⟨pb, po + 4, none⟩ (.int .i64 t)) :
    Calls Tryd.prog 32 #[.pointer (some ⟨pb, po, none⟩)] w (fun e w' => e = .returned (.int .i64 t) ∧ w' = w) := by
  obtain ⟨c4, f4⟩ := h4
  have d7 : (t == 7) = false := beq_eq_false_iff_ne.mpr ht
  clear ht
  go_enter Tryd.func32, Tryd.ntmps32
  go_wp2
  go_ret
  exact ⟨rfl, rfl⟩

set_option maxRecDepth 100000 in
set_option maxHeartbeats 8000000 in
/-- Get without keys gives the value itself. -/
theorem get_none {p : Addr} {w : World} :
    Calls Tryd.prog 55 #[.pointer (some p), .slice none 0 0] w (fun e w' => e = .returned (.pointer (some p)) ∧ w' = w) := by
  go_enter Tryd.func55, Tryd.ntmps55
  go_wp2
  go_loopg [0, 13] 1 (fun kq v0 v13 w' => v0 = .pointer (some p) ∧ v13 = .int .i64 0 ∧ w' = w)
  case atStart => exact ⟨rfl, rfl, rfl⟩
  case round =>
    obtain ⟨rfl, rfl, rfl⟩ := hrel
    go_wp2
    go_ret
    exact ⟨rfl, rfl⟩

set_option maxRecDepth 100000 in
set_option maxHeartbeats 8000000 in
theorem getobj {pb po : Nat} {w : World} (h4 : Cel w ⟨pb, po + 4, none⟩ (.int .i64 1)) :
    Calls Tryd.prog 34 #[.pointer (some ⟨pb, po, none⟩), .slice none 0 0] w (fun e w' => e = .returned (.pointer (some ⟨pb, po, none⟩)) ∧ w' = w) := by
  obtain ⟨c4, f4⟩ := h4
  go_enter Tryd.func34, Tryd.ntmps34
  go_wp2_with (first | (go_at_call 55; refine get_none.mono ?_; rintro e w1 ⟨rfl, rfl⟩))
  go_ret
  exact ⟨rfl, rfl⟩

set_option maxRecDepth 100000 in
set_option maxHeartbeats 8000000 in
theorem getarr {pb po : Nat} {w : World} {A : Option Addr} {n c : Nat} (h2 : Cel w ⟨pb, po + 2, none⟩ (.slice A n c)) (h4 : Cel w ⟨pb, po + 4, none⟩ (.int .i64 2)) :
    Calls Tryd.prog 36 #[.pointer (some ⟨pb, po, none⟩), .slice none 0 0] w (fun e w' => e = .returned (.slice A n c) ∧ w' = w) := by
  obtain ⟨c4, f4⟩ := h4
  obtain ⟨c2, f2⟩ := h2
  go_enter Tryd.func36, Tryd.ntmps36
  go_wp2_with (first | (go_at_call 55; refine get_none.mono ?_; rintro e w1 ⟨rfl, rfl⟩))
  go_ret
  exact ⟨rfl, rfl⟩

set_option maxRecDepth 100000 in
set_option maxHeartbeats 8000000 in
theorem getstr {pb po : Nat} {w : World} {s : ByteArray} (hs : s.size ≤ 140737488355328) (h3 : Cel w ⟨pb, po + 3, none⟩ (.string s)) (h4 : Cel w ⟨pb, po + 4, none⟩ (.int .i64 3)) :
    Calls Tryd.prog 37 #[.pointer (some ⟨pb, po, none⟩), .slice none 0 0] w (fun e w' => ∃ v, e = .returned v ∧ BR w' w.heap.size v (bytesOf s) ∧ Below w.heap.size w w') := by
  have HS := Lib.hid hs
  have H4 := Lib.hid h4
  obtain ⟨c4, f4⟩ := h4
  obtain ⟨c3, f3⟩ := h3
  clear hs
  go_enter Tryd.func37, Tryd.ntmps37
  go_wp2_with (first | (go_at_call 55; refine get_none.mono ?_; rintro e w1 ⟨rfl, rfl⟩) | (go_at_call 32; refine (type_other (by omega) H4.out).mono ?_; rintro e w1 ⟨rfl, rfl⟩) | (go_at_call 56; refine (s2b_calls HS.out).mono ?_; rintro e w1 ⟨v1, rfl, row1, bel1⟩; have ROW1 := Lib.hid row1; have BEL1 := Lib.hid bel1; clear row1 bel1))
  go_ret
  exact ⟨_, rfl, ROW1.out, BEL1.out⟩

end Go.Proofs.YtfoloneeibgoiaaDoor.Fjh

/- A dressed string read; fastjson's own reading of a raw string, and its unescaping, called. -/
import Derived.Test.YtkhgbacbnkgafaaDoorDrB
import Derived.Test.YtkhgbacbnkgafaaDoorSpC
import Derived.Test.YtkhgbacbnkgafaaDoorRsUn
set_option linter.unusedVariables false
set_option linter.unusedSimpArgs false
namespace Go.Proofs.YtkhgbacbnkgafaaDoor.Drs
open Go Go.RowKit Go.Proofs.YtkhgbacbnkgafaaDoorW.PrintWords Go.Proofs.YtkhgbacbnkgafaaDoorW.PrintLast Go.Proofs.YtkhgbacbnkgafaaDoorW.PrintMore Go.Proofs.YtkhgbacbnkgafaaDoor.Fjh Go.Proofs.YtkhgbacbnkgafaaDoor.Spr Go.Proofs.YtkhgbacbnkgafaaDoor.JTr Go.Proofs.YtkhgbacbnkgafaaDoor.Rs Go.Proofs.YtkhgbacbnkgafaaDoor.U8 Go.Proofs.YtkhgbacbnkgafaaDoor.U8.Uc Go.Proofs.YtkhgbacbnkgafaaDoor.StrL Go.Proofs.YtkhgbacbnkgafaaDoor.EvL
open Go.Proofs.YtkhgbacbnkgafaaDoor.PFnFjReadBytes (Laid)

theorem ws_front : ∀ {l t : List Int}, (∀ b ∈ l, isWs b = true) → ws (l ++ t) = ws t
  | [], _, _ => rfl
  | c :: l, t, h => by
    rw [List.cons_append]
    simp only [ws]
    rw [if_pos (h c List.mem_cons_self)]
    exact ws_front (fun b hb => h b (List.mem_cons_of_mem _ hb))
theorem read_dressed {l b1 bd b2 x : List Int} (h : l = b1 ++ (34 :: (bd ++ 34 :: b2))) (h1 : ∀ b ∈ b1, isWs b = true) (h2 : ∀ b ∈ b2, isWs b = true) (hd : Dr x bd) : readL l = some (.str bd) := by
  have hw : ws l = 34 :: (bd ++ 34 :: b2) := by
    rw [h, ws_front h1]
    simp only [ws]
    rw [if_neg (by decide)]
  have hl : bd.length + 1 ≤ 2 * l.length + 1 := by rw [h]; simp only [List.length_append, List.length_cons]; omega
  have hst := str_more (dr_str hd b2) hl
  have hup : upto (bd ++ 34 :: b2) b2 1 = bd := by
    unfold upto
    rw [show (bd ++ 34 :: b2).length - b2.length - 1 = bd.length from by simp only [List.length_append, List.length_cons]; omega, List.take_left]
  have hwb : ws b2 = [] := by have := ws_front (t := []) h2; rw [List.append_nil] at this; rw [this]; rfl
  unfold readL
  rw [hw, show 2 * l.length + 2 = (2 * l.length + 1) + 1 from rfl]
  simp only [tval]
  rw [if_neg (by decide), if_neg (by decide), if_pos trivial, hst]
  simp only [Option.map_some, Option.bind_some, hup, hwb, if_true]

set_option maxRecDepth 100000 in
set_option maxHeartbeats 8000000 in
theorem raw_calls {s raw rest : ByteArray} {W T : List Int} {w : World} (hn : s.size ≤ 2147483647) (hw : ints s = W ++ 34 :: T) (hW : Lx.Raw W) (hr : ints raw = W) (ht : ints rest = T) :
    Calls Tryd.prog 7 #[.string s] w (fun e w' => e = .returned (.tuple #[.string raw, .string rest, .bool true]) ∧ Below w.heap.size w w') := by
  obtain ⟨⟨r1, r2, r3⟩, ⟨K, hK⟩, h3, h1, h2⟩ := Lx.rawstr_ev hn hw hW
  obtain rfl : r1 = raw := ints_inj (h1.trans hr.symm)
  obtain rfl : r2 = rest := ints_inj (h2.trans ht.symm)
  obtain rfl : r3 = none := h3
  have HK := Lib.hid (hK K (Nat.le_refl _))
  clear hn hw hW hr ht hK h1 h2
  have HC := Lib.hid (show ∀ w1 : World, Calls Tryd.prog 14 #[.string s] w1 (fun e w' => e = .returned (.tuple #[.string r1, .string r2, .nilIface]) ∧ Below w1.heap.size w1 w') from fun w1 => by
    go_enter Tryd.func14, Tryd.ntmps14
    go_wp2_with (first | (go_at_call 29; refine (Lex.fastjson_parseRawString.calls K s r1 r2 none _ HK.out).mono ?_; rintro e w5 ⟨x2, he, hb5⟩; obtain rfl : e = .returned (.tuple #[.string r1, .string r2, .nilIface]) := he; have BEL := Lib.hid hb5; clear hb5))
    go_ret3
    exact ⟨rfl, BEL.out⟩)
  go_enter Tryd.func7, Tryd.ntmps7
  go_wp2_with (first | (go_at_call 14; refine (HC.out _).mono ?_; rintro e w5 ⟨rfl, hb5⟩; have BEL := Lib.hid hb5; clear hb5))
  go_ret3
  exact ⟨rfl, BEL.out⟩

set_option maxRecDepth 100000 in
set_option maxHeartbeats 8000000 in
theorem une_calls {s : ByteArray} {w : World} (hs : s.size ≤ 2147483647) (hL : Laid w) : Calls Tryd.prog 8 #[.string s] w (fun e w' => e = .returned (.string (Un.unF s)) ∧ Below w.heap.size w w') := by
  have HU := Lib.hid (Un.un_calls (w := w) hs hL)
  clear hs hL
  have HC := Lib.hid (show Calls Tryd.prog 15 #[.string s] w (fun e w' => e = .returned (.string (Un.unF s)) ∧ Below w.heap.size w w') from by
    go_enter Tryd.func15, Tryd.ntmps15
    go_wp2_with (first | (go_at_call 30; refine HU.out.mono ?_; rintro e w5 ⟨rfl, hb5⟩; have BEL := Lib.hid hb5; clear hb5))
    go_ret
    exact ⟨rfl, BEL.out⟩)
  go_enter Tryd.func8, Tryd.ntmps8
  go_wp2_with (first | (go_at_call 15; refine HC.out.mono ?_; rintro e w5 ⟨rfl, hb5⟩; have BEL := Lib.hid hb5; clear hb5))
  go_ret
  exact ⟨rfl, BEL.out⟩

end Go.Proofs.YtkhgbacbnkgafaaDoor.Drs

/- An object's names taken for their characters (unescapeKeys). -/
import Derived.Test.YtfoloneeibgoiaaDoorFjNdA
set_option linter.unusedVariables false
set_option linter.unusedSimpArgs false
namespace Go.Proofs.YtfoloneeibgoiaaDoor.Fjh
open Go Go.RowKit Go.Proofs.YtfoloneeibgoiaaDoorW.PrintWords Go.Proofs.YtfoloneeibgoiaaDoor.Un Go.Proofs.YtfoloneeibgoiaaDoor.JTr Go.Proofs.YtfoloneeibgoiaaDoor.Ndr
open Go.Proofs.YtfoloneeibgoiaaDoor.PFnFjReadBytes (Laid)

/-- The cells that unescapeKeys writes. -/
def UkX (pb po ab n : Nat) (a : Addr) : Prop := (∃ j, j < n ∧ a = ⟨ab, j * 2, none⟩) ∨ a = ⟨pb, po + 1, none⟩

set_option maxRecDepth 100000 in
set_option maxHeartbeats 8000000 in
theorem uk_done {pb po : Nat} {w : World} (h1 : Cel w ⟨pb, po + 1, none⟩ (.bool true)) :
    Calls Tryd.prog 74 #[.pointer (some ⟨pb, po, none⟩)] w (fun e w' => e = .returned (.tuple #[]) ∧ w' = w) := by
  obtain ⟨c1, f1⟩ := h1
  go_enter Tryd.func74, Tryd.ntmps74
  go_wp2
  (try simp only [Exit.inBlock, Exit.then])
  refine bodyPost_ret (results_none rfl _ _ _) rfl ?_
  exact ⟨rfl, rfl⟩

set_option maxRecDepth 100000 in
set_option maxHeartbeats 8000000 in
theorem uk_ok {B pb po ab c : Nat} {A : Option Addr} {ks : List ByteArray} {w : World} (h0 : Cel w ⟨pb, po, none⟩ (.slice A ks.length c)) (h1 : Cel w ⟨pb, po + 1, none⟩ (.bool false)) (hA : 0 < ks.length → A = some ⟨ab, 0, none⟩) (hab : pb ≠ ab)
    (hk : ∀ i, i < ks.length → Cel w ⟨ab, i * 2, none⟩ (.string (ks.getD i emptyS))) (hs : ∀ k ∈ ks, k.size ≤ 1000000000) (hn : ks.length ≤ 1000000000) (hL : ∀ w', Below B w w' → Laid w') (hB : B ≤ w.heap.size) (hBp : B ≤ pb) (hBa : 0 < ks.length → B ≤ ab) :
    Calls Tryd.prog 74 #[.pointer (some ⟨pb, po, none⟩)] w (fun e w' => e = .returned (.tuple #[]) ∧ Frame (UkX pb po ab ks.length) w w' ∧ ∀ j, j < ks.length → w'.cell? ⟨ab, j * 2, none⟩ = some (.string (unF (ks.getD j emptyS)))) := by
  have HA := Lib.hid hA
  have HAB := Lib.hid hab
  have HK := Lib.hid hk
  have HS := Lib.hid hs
  have HN := Lib.hid hn
  have HLD := Lib.hid hL
  have HB := Lib.hid (And.intro hB (And.intro hBp hBa))
  obtain ⟨c0, f0⟩ := h0
  obtain ⟨c1, f1⟩ := h1
  have P0 := Lib.hid (World.block_lt_of_cell? w _ c1)
  have C1 := Lib.hid (And.intro c1 f1)
  clear hA hab hk hs hn hL hB hBp hBa
  go_enter Tryd.func74, Tryd.ntmps74
  go_wp2
  go_loopg [15] (ks.length + 1) (fun kq v15 w' => ∃ (i : Nat), Hid (i ≤ ks.length ∧ kq = ks.length - i + 1) ∧ v15 = .int .i64 i ∧ Hid (Frame (fun a => ∃ j, j < ks.length ∧ a = ⟨ab, j * 2, none⟩) w w') ∧ Hid (∀ j, j < i → w'.cell? ⟨ab, j * 2, none⟩ = some (.string (unF (ks.getD j emptyS)))) ∧ Hid (∀ j, i ≤ j → j < ks.length → w'.cell? ⟨ab, j * 2, none⟩ = some (.string (ks.getD j emptyS))))
  case atStart => exact ⟨0, Lib.hid ⟨Nat.zero_le _, rfl⟩, rfl, Lib.hid (Frame.refl _ _), Lib.hid (fun j h => by omega), Lib.hid (fun j _ h => (HK.out j h).1)⟩
  case round =>
    obtain ⟨i, HI, rfl, HF, HD, HR⟩ := hrel
    by_cases hi : i < ks.length
    · obtain rfl := HA.out (by omega)
      obtain ⟨kx, hkx⟩ : ∃ kx, kx = ks.getD i emptyS := ⟨_, rfl⟩
      have hci := HR.out i (Nat.le_refl _) hi
      rw [← hkx] at hci
      have hlt := World.block_lt_of_cell? w _ (HK.out i hi).1
      have hfi := (HF.out.frozen ⟨ab, i * 2, none⟩ hlt).trans (HK.out i hi).2
      have h0 : (0 : Int) ≤ (i : Int) := by omega
      have hlti : (i : Int) < (ks.length : Int) := by omega
      have hd1 : decide ((i : Int) < (ks.length : Int)) = true := decide_eq_true (by omega)
      have hd2 : decide (i < ks.length) = true := decide_eq_true (by omega)
      have hw1 : IntKind.i64.wrap ((i : Int) + 1) = (i : Int) + 1 := by rw [IntKind.wrap_i64]; have := HN.out; omega
      have HLW := Lib.hid (HLD.out wr (HF.out.belowB (fun a ha => by obtain ⟨j, h1, rfl⟩ := ha; exact HB.out.2.2 (by omega)) HB.out.1))
      have HSI := Lib.hid (show kx.size ≤ 2147483647 from by rw [hkx, List.getD_eq_getElem?_getD, List.getElem?_eq_getElem hi]; have := HS.out _ (List.getElem_mem hi); simp only [Option.getD_some]; omega)
      have HKX := Lib.hid hkx
      clear hkx
      go_wp2_with (first
        | (go_at_call 52; (with_reducible refine (un_calls HSI.out HLW.out).mono ?_); rintro e w5 ⟨rfl, hb5⟩; have HB5 := Lib.hid hb5; have hlw : ab < wr.heap.size := (Nat.lt_of_lt_of_le hlt HF.out.size); have d1 := (hb5.cell (p := ⟨ab, i * 2, none⟩) hlw).trans hci; have d2 := (hb5.frozen (p := ⟨ab, i * 2, none⟩) hlw).trans hfi; have HLWR := Lib.hid hlw; clear hb5))
      go_roundg (ks.length - i)
      case measure => have := HI.out; omega
      case rel =>
        have hne : ∀ j, j ≠ i → (⟨ab, j * 2, none⟩ : Addr) ≠ ⟨ab, i * 2, none⟩ := fun j hj e => hj (by have h := congrArg Addr.off e; simp only at h; omega)
        refine ⟨i + 1, Lib.hid ⟨hi, by have := HI.out; omega⟩, by congr 1, Lib.hid ((HF.out.trans (Frame.below HB5.out)).setCell ⟨i, hi, rfl⟩ _), Lib.hid (fun j hj => ?_), Lib.hid (fun j h1 h2 => ?_)⟩
        · by_cases e : j = i
          · subst e
            rw [← HKX.out]
            exact World.cell?_setCell_same _ _ _ d1
          · rw [World.cell?_setCell_other _ _ _ _ (fun e2 => hne j e e2.symm)]
            exact (HB5.out.cell (p := ⟨ab, j * 2, none⟩) HLWR.out).trans (HD.out j (by omega))
        · rw [World.cell?_setCell_other _ _ _ _ (fun e2 => hne j (by omega) e2.symm)]
          exact (HB5.out.cell (p := ⟨ab, j * 2, none⟩) HLWR.out).trans (HR.out j (by omega) h2)
    · have hd1 : decide ((i : Int) < (ks.length : Int)) = false := decide_eq_false (by omega)
      have hd2 : decide (i < ks.length) = false := decide_eq_false (by omega)
      have hx : ¬ ∃ j, j < ks.length ∧ (⟨pb, po + 1, none⟩ : Addr) = ⟨ab, j * 2, none⟩ := by
        rintro ⟨j, _, e⟩
        exact HAB.out (congrArg Addr.block e)
      have d1 := (HF.out.cell ⟨pb, po + 1, none⟩ hx P0.out).trans C1.out.1
      have d2 := (HF.out.frozen ⟨pb, po + 1, none⟩ P0.out).trans C1.out.2
      have hin : i = ks.length := by have := HI.out; omega
      subst hin
      have HX := Lib.hid hx
      clear hx
      go_wp2
      refine Go.Great.bodyPost_end0 rfl rfl ?_
      refine ⟨rfl, (HF.out.mono (fun a ha => .inl ha)).setCell (.inr rfl) _, fun j hj => ?_⟩
      rw [World.cell?_setCell_other _ _ _ _ (fun e => HAB.out (congrArg Addr.block e))]
      exact HD.out j hj

end Go.Proofs.YtfoloneeibgoiaaDoor.Fjh

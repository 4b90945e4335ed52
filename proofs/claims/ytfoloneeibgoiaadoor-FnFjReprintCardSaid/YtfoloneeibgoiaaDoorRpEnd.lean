/- The law FnFjReprint answers true: what MarshalTo writes of the value that Parse reads is a JSON text of the same tree. Condition: the text has at most 140737488351232 bytes (no other). -/
import Derived.Test.YtfoloneeibgoiaaDoorSpD
import Derived.Test.YtfoloneeibgoiaaDoorRpQ
import Derived.Test.YtfoloneeibgoiaaDoorRpP
set_option linter.unusedVariables false
namespace Go.Proofs.YtfoloneeibgoiaaDoor.Spr
open Go Go.RowKit Go.Proofs.YtfoloneeibgoiaaDoorW.PrintWords Go.Proofs.YtfoloneeibgoiaaDoor.Fjh Go.Proofs.YtfoloneeibgoiaaDoor.JTr Go.Proofs.YtfoloneeibgoiaaDoor.StrL Go.Proofs.YtfoloneeibgoiaaDoor.Lx

theorem uq_of {N : Nat} {t : JT} (h : TOk N t) (hN : N ≤ 2147480000) : ∀ l ∈ strsT t, ∃ b, UQ l b := by
  intro l hl
  obtain ⟨a1, a2, a3⟩ := h.ins l hl
  obtain ⟨k, b, hb⟩ := unquote_some (raw_ins a1) a2 (Nat.le_trans a3 hN)
  exact ⟨b, k, hb⟩

theorem text_calls {s : ByteArray} (w : World) : Calls Tryd.prog 5 #[.string s] w (FtR s w) := by
  by_cases h : 4000 < s.size
  · exact fjtext_bad (k1 := 0) (k2 := 0) (.inl h)
  have h4 : s.size ≤ 4000 := by omega
  obtain ⟨k1, b1, hu⟩ := utf8_some (s := s) (by omega)
  obtain ⟨k2, b2, hp⟩ := paired_some (s := s) (by omega)
  cases b1 with
  | false => exact fjtext_bad (k2 := 0) (.inr (.inl ⟨h4, hu⟩))
  | true =>
    cases b2 with
    | false => exact fjtext_bad (.inr (.inr ⟨h4, hu, hp⟩))
    | true =>
      refine fjtext_good h4 hu hp (fun t ht => ?_)
      obtain ⟨z1, z2, _, _⟩ := readL_ok ht (ints_bytes s)
      have hl := bytes_len s
      have hd := dep_sz t
      exact ⟨⟨by omega, uq_of z2 (by omega)⟩, by omega⟩

theorem law_calls (s : ByteArray) (w : World) (hs : s.size ≤ 140737488351232) : Calls Tryd.prog 3 #[.string s] w (fun e w' => e = .returned (.bool true) ∧ Below w.heap.size w w') := by
  by_cases h : 2147483647 < s.size
  · exact law_big h
  refine law_small (by omega) (text_calls w) (fun t h4 ht hd => ?_)
  obtain ⟨z1, z2, z3, z4⟩ := readL_ok ht (ints_bytes s)
  have hl := bytes_len s
  obtain ⟨K, v, p1, p2, p3⟩ := parse_plain ht (by omega) (by omega)
  have hp : packJ v = packL t := by unfold packJ; rw [p2]
  refine ⟨K, v, p1, p3, by rw [hp]; omega, ?_, by omega, uq_of z2 (by omega)⟩
  rw [hp, show bytesOf (strOfNums (packL t)) = packL t from ints_strOfNums z2.bytes]
  exact z4

end Go.Proofs.YtfoloneeibgoiaaDoor.Spr

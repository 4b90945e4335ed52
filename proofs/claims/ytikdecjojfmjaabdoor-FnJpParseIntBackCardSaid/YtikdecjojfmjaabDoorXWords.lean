/- Words for walks beyond the print's own: the conversion of a text to bytes as an event. -/
import Derived.Test.YtikdecjojfmjaabDoorWMore
namespace Go.Proofs.YtikdecjojfmjaabDoorW.PrintWords
open Go.RowKit Go.Proofs.YtikdecjojfmjaabDoorW.PrintMore

section
variable {P : Program} {ops : Array Oper} {rest : List Oper} {o : Oper} {a : Act} {Q : Exit → Act → World → Prop}

/-- '[]byte(s)': a row of its own block that is only read. -/
theorem conv_event {s : ByteArray} {src dst e : Nat} {W : World} (hgd : o.guard = none) {N : Tmp} (_hd : o.dst = some N) (x : Operand) (ho : o.op = .convert src dst x) (hx : a.eval x = .string s)
    (hsrc : P.underlying src = some .string) (hdst : P.underlying dst = some (.slice e)) (he : P.underlying e = some (.int .u8)) (hs : s.size ≤ 9223372036854775807)
    (h : ∀ v w1, Kd.V (Kd.int .u8) e w1 W.heap.size (fun k => W.heap.size ≤ k) v (bytesOf s) → Below W.heap.size W w1 → wpList P ops Q rest (a.put o.dst v) w1) :
    wpList P ops Q (o :: rest) a W := by
  have hl := bytesOf_length s
  refine Kd.event_run (v := .slice (some ⟨W.heap.size, 0, none⟩) s.size (grownCap W s.size 0 e)) (w1 := Lib.bytesWorld W e s) hgd ?_ (h _ _ ?_ ?_)
  · simp [execOp, ho, hx, print_bytes (P := P) src dst e hsrc hdst he s W]
  · refine ⟨some ⟨W.heap.size, 0, none⟩, grownCap W s.size 0 e, ?_, ?_, ?_⟩
    · rw [hl]
    · rw [hl]; exact grownCap_ge W s.size 0 e
    · rw [hl]
      intro W' hW
      have hr := bytes_reads W e s hs
      have hb : W'.heap[W.heap.size]? = (Lib.bytesWorld W e s).heap[W.heap.size]? := hW _ (Nat.le_refl _) (by rw [Lib.bytesWorld_size]; omega)
      have hr' : ReadsInt W' .u8 (some ⟨W.heap.size, 0, none⟩) s.size (bytesOf s) := by
        refine ⟨hr.1, hr.2.1, fun hn => ?_⟩
        obtain ⟨ad, e1, hc⟩ := hr.2.2 hn
        refine ⟨ad, e1, fun j hj => ?_⟩
        injection e1 with e1
        subst e1
        rw [← hc j hj]
        rw [add_plain]
        exact World.cell?_of_block hb
      exact Kd.C_of_reads (d := (0 : Int)) (h1 := fun _ => rfl) hr'
  · exact bytes_below (Below.refl _ _) (Nat.le_refl _) e s
end

end Go.Proofs.YtikdecjojfmjaabDoorW.PrintWords

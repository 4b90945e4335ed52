/- Plain laws of the reader of trees: enough rounds; sizes; the strings' insides; a tree's text is read to the same tree. -/
import Derived.Test.YtfoloneeibgoiaaDoorSpTr
import Derived.Test.YtfoloneeibgoiaaDoorRpP
import Derived.Test.YtfoloneeibgoiaaDoorFjD
set_option linter.unusedVariables false
namespace Go.Proofs.YtfoloneeibgoiaaDoor.Spr
open Go Go.RowKit Go.Proofs.YtfoloneeibgoiaaDoorW.PrintWords Go.Proofs.YtfoloneeibgoiaaDoor.JTr Go.Proofs.YtfoloneeibgoiaaDoor.StrL

mutual
theorem dep_sz : ∀ t : JT, dep t ≤ szT t
  | .obj ks vs => by have := dep_szL vs; simp only [dep, szT]; omega
  | .arr vs => by have := dep_szL vs; simp only [dep, szT]; omega
  | .num _ => by simp [dep]
  | .str _ => by simp [dep]
  | .lit _ => by simp [dep]
theorem dep_szL : ∀ vs : List JT, depL vs ≤ szL vs
  | [] => by simp [depL]
  | v :: vs => by have := dep_sz v; have := dep_szL vs; simp only [depL, szL]; omega
end

theorem ws_bytes : ∀ {l : List Int}, Bytes l → Bytes (ws l)
  | [], h => h
  | c :: t, h => by
    simp only [ws]
    split
    · exact ws_bytes (fun x hx => h x (List.mem_cons_of_mem _ hx))
    · exact h
theorem Bytes.tl {c : Int} {t : List Int} (h : Bytes (c :: t)) : Bytes t := fun x hx => h x (List.mem_cons_of_mem _ hx)
theorem Bytes.app1 {a b : List Int} (h : Bytes (a ++ b)) : Bytes a := fun x hx => h x (List.mem_append_left _ hx)
theorem Bytes.app2 {a b : List Int} (h : Bytes (a ++ b)) : Bytes b := fun x hx => h x (List.mem_append_right _ hx)
theorem bytes_all {l : List Int} (h : ∀ x ∈ l, x = 34 ∨ x = 44 ∨ x = 58 ∨ x = 93 ∨ x = 91 ∨ x = 123 ∨ x = 125 ∨ (97 ≤ x ∧ x ≤ 122)) : Bytes l := by
  intro x hx
  have := h x hx
  omega

/-- What is known of a tree that was read. -/
structure TOk (N : Nat) (t : JT) : Prop where
  ins : ∀ x ∈ strsT t, Ins x ∧ Bytes x ∧ x.length ≤ N
  bytes : Bytes (packL t)
structure TsOk (N : Nat) (vs : List JT) : Prop where
  ins : ∀ x ∈ strsL vs, Ins x ∧ Bytes x ∧ x.length ≤ N
  bytes : Bytes (packE vs)
structure MsOk (N : Nat) (ks : List (List Int)) (vs : List JT) : Prop where
  ins : ∀ x ∈ ks ++ strsL vs, Ins x ∧ Bytes x ∧ x.length ≤ N
  bytes : Bytes (packM ks vs)

theorem lit_ok {N : Nat} {t : Int} (h : t = 0 ∨ t = 5 ∨ t = 6) : TOk N (.lit t) := by
  refine ⟨fun x hx => by simp [strsT] at hx, ?_⟩
  rcases h with rfl | rfl | rfl <;> (simp [packL]; exact bytes_all (by simp))

/-- The strings of a tree that was read are insides; its size. -/
theorem read_all (N : Nat) : ∀ n, (∀ l t r, tval n l = some (t, r) → Bytes l → l.length ≤ N → szT t + r.length ≤ l.length ∧ TOk N t ∧ Bytes r) ∧
    (∀ l ks vs r, tmems n l = some (ks, vs, r) → Bytes l → l.length ≤ N → ks.length + szL vs + r.length + 1 ≤ l.length ∧ MsOk N ks vs ∧ Bytes r ∧ ks.length = vs.length) ∧
    (∀ l vs r, telems n l = some (vs, r) → Bytes l → l.length ≤ N → szL vs + r.length + 1 ≤ l.length ∧ TsOk N vs ∧ Bytes r) := by
  intro n
  induction n with
  | zero => exact ⟨fun l t r h => by simp [tval] at h, fun l ks vs r h => by simp [tmems] at h, fun l vs r h => by simp [telems] at h⟩
  | succ n ih =>
    obtain ⟨hV, hM, hE⟩ := ih
    refine ⟨?_, ?_, ?_⟩
    · intro l t r h hb hN
      cases l with
      | nil => simp [tval] at h
      | cons c u =>
        have hwl := ws_len u
        have hbu := Bytes.tl hb
        have hbw := ws_bytes hbu
        simp only [tval] at h
        split at h
        · cases hw : ws u with
          | nil => rw [hw] at h; cases h
          | cons d u' =>
            rw [hw] at h hwl hbw
            simp only [List.length_cons] at hwl ⊢
            simp only at h
            split at h
            · simp only [Option.some.injEq, Prod.mk.injEq] at h
              obtain ⟨rfl, rfl⟩ := h
              refine ⟨by simp [szT, szL]; omega, ⟨fun x hx => by simp [strsT, strsL] at hx, bytes_all (by simp [packL, packM])⟩, Bytes.tl hbw⟩
            · obtain ⟨⟨ks, vs, r2⟩, hq, he⟩ := Option.map_eq_some_iff.1 h
              simp only [Prod.mk.injEq] at he
              obtain ⟨rfl, rfl⟩ := he
              obtain ⟨h0, h1, h2, h3⟩ := hM _ _ _ _ hq hbw (by simp only [List.length_cons] at hN ⊢; omega)
              simp only [List.length_cons] at h0
              exact ⟨by simp only [szT]; omega, ⟨h1.ins, by simp only [packL]; exact bytes_cons (by omega) (by omega) h1.bytes⟩, h2⟩
        · split at h
          · cases hw : ws u with
            | nil => rw [hw] at h; cases h
            | cons d u' =>
              rw [hw] at h hwl hbw
              simp only [List.length_cons] at hwl ⊢
              simp only at h
              split at h
              · simp only [Option.some.injEq, Prod.mk.injEq] at h
                obtain ⟨rfl, rfl⟩ := h
                refine ⟨by simp [szT, szL]; omega, ⟨fun x hx => by simp [strsT, strsL] at hx, bytes_all (by simp [packL, packE])⟩, Bytes.tl hbw⟩
              · obtain ⟨⟨vs, r2⟩, hq, he⟩ := Option.map_eq_some_iff.1 h
                simp only [Prod.mk.injEq] at he
                obtain ⟨rfl, rfl⟩ := he
                obtain ⟨h0, h1, h2⟩ := hE _ _ _ hq hbw (by simp only [List.length_cons] at hN ⊢; omega)
                simp only [List.length_cons] at h0
                exact ⟨by simp only [szT]; omega, ⟨h1.ins, by simp only [packL]; exact bytes_cons (by omega) (by omega) h1.bytes⟩, h2⟩
          · split at h
            · obtain ⟨r2, hq, he⟩ := Option.map_eq_some_iff.1 h
              simp only [Prod.mk.injEq] at he
              obtain ⟨rfl, rfl⟩ := he
              obtain ⟨d, h1, h2, h3⟩ := str_split n hq
              rw [h1, upto_app1]
              rw [h1] at hbu
              refine ⟨by simp only [szT, List.length_cons, List.length_append]; omega, ⟨fun x hx => ?_, ?_⟩, Bytes.tl (Bytes.app2 hbu)⟩
              · simp only [strsT, List.mem_singleton] at hx
                subst hx
                exact ⟨h2, Bytes.app1 hbu, by rw [h1] at hN; simp only [List.length_cons, List.length_append] at hN; omega⟩
              · simp only [packL]
                exact bytes_cons (by omega) (by omega) (bytes_append (Bytes.app1 hbu) (bytes_all (by simp)))
            · split at h
              · obtain ⟨r2, hq, he⟩ := Option.map_eq_some_iff.1 h
                simp only [Prod.mk.injEq] at he
                obtain ⟨rfl, rfl⟩ := he
                obtain ⟨d, h1, h2, ⟨y, z, hy, _⟩, h3⟩ := num_split hq
                have hl := congrArg List.length h1
                rw [h1, upto_app]
                rw [h1] at hb
                refine ⟨by subst hy; simp only [szT, List.length_cons, List.length_append] at hl ⊢; omega, ⟨fun x hx => by simp [strsT] at hx, ?_⟩, Bytes.app2 hb⟩
                simp only [packL]
                exact Bytes.app1 hb
              · split at h
                · obtain ⟨r2, hq, he⟩ := Option.map_eq_some_iff.1 h
                  simp only [Prod.mk.injEq] at he
                  obtain ⟨rfl, rfl⟩ := he
                  obtain ⟨h1, h2⟩ := word_split hq
                  subst h1
                  exact ⟨by simp [szT]; omega, lit_ok (by omega), Bytes.app2 hbu⟩
                · split at h
                  · obtain ⟨r2, hq, he⟩ := Option.map_eq_some_iff.1 h
                    simp only [Prod.mk.injEq] at he
                    obtain ⟨rfl, rfl⟩ := he
                    obtain ⟨h1, h2⟩ := word_split hq
                    subst h1
                    exact ⟨by simp [szT]; omega, lit_ok (by omega), Bytes.app2 hbu⟩
                  · split at h
                    · obtain ⟨r2, hq, he⟩ := Option.map_eq_some_iff.1 h
                      simp only [Prod.mk.injEq] at he
                      obtain ⟨rfl, rfl⟩ := he
                      obtain ⟨h1, h2⟩ := word_split hq
                      subst h1
                      exact ⟨by simp [szT]; omega, lit_ok (by omega), Bytes.app2 hbu⟩
                    · cases h
    · intro l ks vs r h hb hN
      cases l with
      | nil => simp [tmems] at h
      | cons c u =>
        have hbu := Bytes.tl hb
        simp only [tmems] at h
        split at h
        · obtain ⟨l1, hs, h⟩ := Option.bind_eq_some_iff.1 h
          obtain ⟨d, a1, a2, a3⟩ := str_split n hs
          subst a1
          rw [upto_app1] at h
          have hbd := Bytes.app1 hbu
          have hb1 := ws_bytes (Bytes.tl (Bytes.app2 hbu))
          have w1 := ws_len l1
          simp only [List.length_cons, List.length_append]
          cases hw1 : ws l1 with
          | nil => rw [hw1] at h; cases h
          | cons x l2 =>
            rw [hw1] at h w1 hb1
            simp only [List.length_cons] at w1
            simp only at h
            split at h
            · have w2 := ws_len l2
              obtain ⟨⟨v, l3⟩, hv, h⟩ := Option.bind_eq_some_iff.1 h
              obtain ⟨v1, v2, v3⟩ := hV _ _ _ hv (ws_bytes (Bytes.tl hb1)) (by simp only [List.length_cons, List.length_append] at hN; omega)
              simp only at h
              have w3 := ws_len l3
              have hb3 := ws_bytes v3
              cases hw3 : ws l3 with
              | nil => rw [hw3] at h; cases h
              | cons e l4 =>
                rw [hw3] at h w3 hb3
                simp only [List.length_cons] at w3
                simp only at h
                split at h
                · simp only [Option.some.injEq, Prod.mk.injEq] at h
                  obtain ⟨rfl, rfl, rfl⟩ := h
                  refine ⟨by simp [szL]; omega, ⟨fun x hx => ?_, ?_⟩, Bytes.tl hb3, rfl⟩
                  · simp only [strsL, List.append_nil, List.mem_append, List.mem_singleton] at hx
                    rcases hx with rfl | hx
                    · exact ⟨a2, hbd, by simp only [List.length_cons, List.length_append] at hN; omega⟩
                    · exact v2.ins x hx
                  · simp only [packM, List.isEmpty_nil, if_true]
                    exact bytes_cons (by omega) (by omega) (bytes_append hbd (bytes_cons (by omega) (by omega) (bytes_cons (by omega) (by omega) (bytes_append v2.bytes (bytes_all (by simp))))))
                · split at h
                  · obtain ⟨⟨ks2, vs2, r2⟩, hq, hee⟩ := Option.map_eq_some_iff.1 h
                    simp only [Prod.mk.injEq] at hee
                    obtain ⟨rfl, rfl, rfl⟩ := hee
                    obtain ⟨m0, m1, m2, m3⟩ := hM _ _ _ _ hq (ws_bytes (Bytes.tl hb3)) (by have := ws_len l4; simp only [List.length_cons, List.length_append] at hN; omega)
                    have w4 := ws_len l4
                    refine ⟨by simp only [szL, List.length_cons]; omega, ⟨fun x hx => ?_, ?_⟩, m2, by simp [m3]⟩
                    · simp only [strsL, List.cons_append, List.mem_cons, List.mem_append] at hx
                      rcases hx with rfl | hx | hx | hx
                      · exact ⟨a2, hbd, by simp only [List.length_cons, List.length_append] at hN; omega⟩
                      · exact m1.ins x (List.mem_append_left _ hx)
                      · exact v2.ins x hx
                      · exact m1.ins x (List.mem_append_right _ hx)
                    · simp only [packM]
                      refine bytes_cons (by omega) (by omega) (bytes_append hbd (bytes_cons (by omega) (by omega) (bytes_cons (by omega) (by omega) (bytes_append v2.bytes ?_))))
                      split
                      · exact bytes_all (by simp)
                      · exact bytes_cons (by omega) (by omega) m1.bytes
                  · cases h
            · cases h
        · cases h
    · intro l vs r h hb hN
      simp only [telems] at h
      obtain ⟨⟨v, l3⟩, hv, h⟩ := Option.bind_eq_some_iff.1 h
      obtain ⟨v1, v2, v3⟩ := hV _ _ _ hv hb hN
      simp only at h
      have w3 := ws_len l3
      have hb3 := ws_bytes v3
      cases hw3 : ws l3 with
      | nil => rw [hw3] at h; cases h
      | cons e l4 =>
        rw [hw3] at h w3 hb3
        simp only [List.length_cons] at w3
        simp only at h
        split at h
        · simp only [Option.some.injEq, Prod.mk.injEq] at h
          obtain ⟨rfl, rfl⟩ := h
          refine ⟨by simp [szL]; omega, ⟨fun x hx => ?_, ?_⟩, Bytes.tl hb3⟩
          · simp only [strsL, List.append_nil] at hx
            exact v2.ins x hx
          · simp only [packE, List.isEmpty_nil, if_true]
            exact bytes_append v2.bytes (bytes_all (by simp))
        · split at h
          · obtain ⟨⟨vs2, r2⟩, hq, hee⟩ := Option.map_eq_some_iff.1 h
            simp only [Prod.mk.injEq] at hee
            obtain ⟨rfl, rfl⟩ := hee
            obtain ⟨m0, m1, m2⟩ := hE _ _ _ hq (ws_bytes (Bytes.tl hb3)) (by have := ws_len l4; omega)
            have w4 := ws_len l4
            refine ⟨by simp only [szL]; omega, ⟨fun x hx => ?_, ?_⟩, m2⟩
            · simp only [strsL, List.mem_append] at hx
              rcases hx with hx | hx
              · exact v2.ins x hx
              · exact m1.ins x hx
            · simp only [packE]
              refine bytes_append v2.bytes ?_
              split
              · exact bytes_all (by simp)
              · exact bytes_cons (by omega) (by omega) m1.bytes
          · cases h

theorem str_fuel : ∀ (n : Nat) {l r : List Int}, str n l = some r → ∀ m, l.length < m → str m l = some r := by
  intro n
  induction n with
  | zero => intro l r h; simp [str] at h
  | succ n ih =>
    intro l r h m hm
    cases m with
    | zero => omega
    | succ m =>
      cases l with
      | nil => simp [str] at h
      | cons c t =>
        simp only [List.length_cons] at hm
        simp only [str] at h ⊢
        split
        · rename_i hc; rw [if_pos hc] at h; exact h
        · rename_i hc
          rw [if_neg hc] at h
          split
          · rename_i hc; rw [if_pos hc] at h; cases h
          · rename_i hc
            rw [if_neg hc] at h
            split
            · rename_i hc
              rw [if_pos hc] at h
              cases t with
              | nil => cases h
              | cons d t' =>
                simp only [List.length_cons] at hm
                simp only at h ⊢
                split
                · rename_i hd; rw [if_pos hd] at h; exact ih h m (by omega)
                · rename_i hd
                  rw [if_neg hd] at h
                  split
                  · rename_i hd
                    rw [if_pos hd] at h
                    obtain ⟨x, hx, h⟩ := Option.bind_eq_some_iff.1 h
                    obtain ⟨y, hy, hl, _⟩ := hexs_split 4 hx
                    rw [hx, Option.bind_some]
                    have := congrArg List.length hy
                    rw [List.length_append] at this
                    exact ih h m (by omega)
                  · rename_i hd; rw [if_neg hd] at h; cases h
            · rename_i hc; rw [if_neg hc] at h; exact ih h m (by omega)

/-- Two rounds a byte are enough. -/
theorem read_fuel : ∀ n, (∀ l t r, tval n l = some (t, r) → Bytes l → ∀ m, 2 * l.length ≤ m → tval m l = some (t, r)) ∧
    (∀ l ks vs r, tmems n l = some (ks, vs, r) → Bytes l → ∀ m, 2 * l.length ≤ m → tmems m l = some (ks, vs, r)) ∧
    (∀ l vs r, telems n l = some (vs, r) → Bytes l → ∀ m, 2 * l.length + 1 ≤ m → telems m l = some (vs, r)) := by
  intro n
  induction n with
  | zero => exact ⟨fun l t r h => by simp [tval] at h, fun l ks vs r h => by simp [tmems] at h, fun l vs r h => by simp [telems] at h⟩
  | succ n ih =>
    obtain ⟨hV, hM, hE⟩ := ih
    refine ⟨?_, ?_, ?_⟩
    · intro l t r h hb m hm
      cases l with
      | nil => simp [tval] at h
      | cons c u =>
        have hwl := ws_len u
        have hbw := ws_bytes (Bytes.tl hb)
        simp only [List.length_cons] at hm
        cases m with
        | zero => omega
        | succ m =>
          simp only [tval] at h ⊢
          split
          · rename_i hc
            rw [if_pos hc] at h
            cases hw : ws u with
            | nil => rw [hw] at h; cases h
            | cons d u' =>
              rw [hw] at h hwl hbw
              simp only [List.length_cons] at hwl
              simp only at h ⊢
              split
              · rename_i hd; rw [if_pos hd] at h; exact h
              · rename_i hd
                rw [if_neg hd] at h
                obtain ⟨⟨ks, vs, r2⟩, hq, he⟩ := Option.map_eq_some_iff.1 h
                rw [hM _ _ _ _ hq hbw m (by simp only [List.length_cons]; omega)]
                exact congrArg some he
          · rename_i hc
            rw [if_neg hc] at h
            split
            · rename_i hc
              rw [if_pos hc] at h
              cases hw : ws u with
              | nil => rw [hw] at h; cases h
              | cons d u' =>
                rw [hw] at h hwl hbw
                simp only [List.length_cons] at hwl
                simp only at h ⊢
                split
                · rename_i hd; rw [if_pos hd] at h; exact h
                · rename_i hd
                  rw [if_neg hd] at h
                  obtain ⟨⟨vs, r2⟩, hq, he⟩ := Option.map_eq_some_iff.1 h
                  rw [hE _ _ _ hq hbw m (by simp only [List.length_cons]; omega)]
                  exact congrArg some he
            · rename_i hc
              rw [if_neg hc] at h
              split
              · rename_i hc
                rw [if_pos hc] at h
                obtain ⟨r2, hq, he⟩ := Option.map_eq_some_iff.1 h
                rw [str_fuel n hq m (by omega)]
                exact congrArg some he
              · rename_i hc
                rw [if_neg hc] at h
                exact h
    · intro l ks vs r h hb m hm
      cases l with
      | nil => simp [tmems] at h
      | cons c u =>
        have hbu := Bytes.tl hb
        simp only [List.length_cons] at hm
        cases m with
        | zero => omega
        | succ m =>
          simp only [tmems] at h ⊢
          split
          · rename_i hc
            rw [if_pos hc] at h
            obtain ⟨l1, hs, h⟩ := Option.bind_eq_some_iff.1 h
            rw [str_fuel n hs m (by omega), Option.bind_some]
            obtain ⟨d, a1, a2, a3⟩ := str_split n hs
            subst a1
            simp only [List.length_append, List.length_cons] at hm
            have hb1 := ws_bytes (Bytes.tl (Bytes.app2 hbu))
            have w1 := ws_len l1
            cases hw1 : ws l1 with
            | nil => rw [hw1] at h; cases h
            | cons x l2 =>
              rw [hw1] at h w1 hb1
              simp only [List.length_cons] at w1
              simp only at h ⊢
              split
              · rename_i hx
                rw [if_pos hx] at h
                have w2 := ws_len l2
                obtain ⟨⟨v, l3⟩, hv, h⟩ := Option.bind_eq_some_iff.1 h
                have hb2 := ws_bytes (Bytes.tl hb1)
                rw [hV _ _ _ hv hb2 m (by omega), Option.bind_some]
                obtain ⟨v1, v2, v3⟩ := (read_all _ n).1 _ _ _ hv hb2 (Nat.le_refl _)
                simp only at h ⊢
                have w3 := ws_len l3
                have hb3 := ws_bytes v3
                cases hw3 : ws l3 with
                | nil => rw [hw3] at h; cases h
                | cons e l4 =>
                  rw [hw3] at h w3 hb3
                  simp only [List.length_cons] at w3
                  simp only at h ⊢
                  split
                  · rename_i he; rw [if_pos he] at h; exact h
                  · rename_i he
                    rw [if_neg he] at h
                    split
                    · rename_i he
                      rw [if_pos he] at h
                      obtain ⟨⟨ks2, vs2, r2⟩, hq, hee⟩ := Option.map_eq_some_iff.1 h
                      have w4 := ws_len l4
                      rw [hM _ _ _ _ hq (ws_bytes (Bytes.tl hb3)) m (by omega)]
                      exact congrArg some hee
                    · rename_i he; rw [if_neg he] at h; cases h
              · rename_i hx; rw [if_neg hx] at h; cases h
          · rename_i hc; rw [if_neg hc] at h; cases h
    · intro l vs r h hb m hm
      cases m with
      | zero => omega
      | succ m =>
        simp only [telems] at h ⊢
        obtain ⟨⟨v, l3⟩, hv, h⟩ := Option.bind_eq_some_iff.1 h
        rw [hV _ _ _ hv hb m (by omega), Option.bind_some]
        obtain ⟨v1, v2, v3⟩ := (read_all _ n).1 _ _ _ hv hb (Nat.le_refl _)
        have := szT_pos v
        simp only at h ⊢
        have w3 := ws_len l3
        have hb3 := ws_bytes v3
        cases hw3 : ws l3 with
        | nil => rw [hw3] at h; cases h
        | cons e l4 =>
          rw [hw3] at h w3 hb3
          simp only [List.length_cons] at w3
          simp only at h ⊢
          split
          · rename_i he; rw [if_pos he] at h; exact h
          · rename_i he
            rw [if_neg he] at h
            split
            · rename_i he
              rw [if_pos he] at h
              obtain ⟨⟨vs2, r2⟩, hq, hee⟩ := Option.map_eq_some_iff.1 h
              have w4 := ws_len l4
              rw [hE _ _ _ hq (ws_bytes (Bytes.tl hb3)) m (by omega)]
              exact congrArg some hee
            · rename_i he; rw [if_neg he] at h; cases h

/-- Of a text that is read: its tree's size, its strings, its text. -/
theorem readL_ok {l : List Int} {t : JT} (h : readL l = some t) (hb : Bytes l) : szT t ≤ l.length ∧ TOk l.length t ∧ (packL t).length ≤ l.length ∧ readL (packL t) = some t := by
  unfold readL at h
  obtain ⟨⟨t', r⟩, hv, h⟩ := Option.bind_eq_some_iff.1 h
  simp only at h
  split at h
  · injection h with h
    subst h
    have hw := ws_len l
    obtain ⟨a1, a2, a3⟩ := (read_all l.length _).1 _ _ _ hv (ws_bytes hb) hw
    obtain ⟨p1, p2⟩ := (pack_all _).1 _ _ _ hv
    refine ⟨by omega, a2, by omega, ?_⟩
    have hp := p2 [] stop_nil
    rw [List.append_nil] at hp
    have hp2 := (read_fuel _).1 _ _ _ hp a2.bytes (2 * (packL t').length + 2) (by omega)
    unfold readL
    rw [tval_head hp, hp2, Option.bind_some]
    simp [ws]
  · cases h

end Go.Proofs.YtfoloneeibgoiaaDoor.Spr

/- fastjson's parser reads the tree that the plain reader reads, from some number of rounds on. -/
set_option linter.unusedVariables false
namespace Go.Proofs.YtfoloneeibgoiaaDoor.Fjh
open Go Go.RowKit Go.Proofs.YtfoloneeibgoiaaDoorW.PrintWords Go.Proofs.YtfoloneeibgoiaaDoor.Lex Go.Proofs.YtfoloneeibgoiaaDoor.JTr Go.Proofs.YtfoloneeibgoiaaDoor.StrL Go.Proofs.YtfoloneeibgoiaaDoor.EvL Go.Proofs.YtfoloneeibgoiaaDoor.Lx

theorem sk_ev {s : ByteArray} (hn : s.size ≤ 2147483647) : ∃ r, ints r = ws (ints s) ∧ r.size ≤ s.size ∧ ∃ K0, ∀ K, K0 ≤ K → sk K s = some r := by
  obtain ⟨r, ⟨K0, hr⟩, hp⟩ := skip_ev hn
  have hle : r.size ≤ s.size := by
    rw [← ints_length, ← ints_length, hp]; exact ws_len _
  refine ⟨r, hp, hle, K0, fun K hK => ?_⟩
  unfold sk
  rw [show fastjson_skipWS.f K s = some r from hr K hK, Option.bind_some, if_pos hle]

theorem one {s : ByteArray} {c : Int} {u : List Int} (h : ints s = c :: u) : bt s 0 = c ∧ s.size = u.length + 1 ∧ ints (s.extract 1 s.size) = u := by
  have h1 := size_app (a := []) h
  refine ⟨bt_app (a := []) h, by simpa using h1, back1_ints (a := []) h⟩

theorem isNum_ws {c : Int} (h : isWs c = true) : isNum c = false := by
  have hc : c = 32 ∨ c = 9 ∨ c = 10 ∨ c = 13 := by simpa [isWs] using h
  rcases hc with rfl | rfl | rfl | rfl <;> decide
theorem fol_ws {l t : List Int} {c : Int} (h : ws l = c :: t) (hc : isNum c = false) : Fol l := by
  intro x u e
  subst e
  simp only [ws] at h
  split at h
  · rename_i hw; exact isNum_ws hw
  · injection h with h1 h2; rw [h1]; exact hc
theorem fol_nil {l : List Int} (h : ws l = []) : Fol l := by
  intro x u e
  subst e
  simp only [ws] at h
  split at h
  · rename_i hw; exact isNum_ws hw
  · cases h

theorem lit_eq {s : ByteArray} {c : Int} {w u : List Int} (hs : ints s = c :: (w ++ u)) {L : ByteArray} (hL : ints L = c :: w) : w.length + 1 ≤ s.size ∧ s.extract 0 (w.length + 1) = L ∧ ints (s.extract (w.length + 1) s.size) = u := by
  have h1 := size_app (a := c :: w) (t := u) (by rw [hs]; rfl)
  rw [List.length_cons] at h1
  refine ⟨by omega, ints_inj ?_, back_ints (a := c :: w) (by rw [hs]; rfl)⟩
  rw [hL]
  exact front_ints (a := c :: w) (t := u) (by rw [hs]; rfl)

theorem num_not1 {x z : List Int} {y : Int} (hy : x = y :: z) (hy2 : y = 45 ∨ isDig y = true) (h3 : ∀ r', Stop r' → num (x ++ r') = some r') : ∀ w, x = [w] → w ≠ 45 ∧ w ≠ 43 := by
  intro w hw
  subst hw
  injection hy with h1 h2
  subst h1
  have h := h3 [] stop_nil
  refine ⟨fun e => ?_, fun e => ?_⟩
  · subst e; simp [num, whole] at h
  · subst e; simp [isDig] at hy2

theorem pv_all : ∀ n,
    (∀ l t r, tval n l = some (t, r) → Fol r → ∀ (s : ByteArray) (d : Nat), ints s = l → s.size ≤ 2147483647 → d + dep t + 1 ≤ 300 → ∃ v rs, toT v = t ∧ rawJ v = true ∧ ints rs = r ∧ ∃ K0, ∀ K, K0 ≤ K → ∀ k, n ≤ k → pV K k s d = some (some (v, rs))) ∧
    (∀ l ks vs r, tmems n l = some (ks, vs, r) → ∀ (s : ByteArray) (d : Nat), ws (ints s) = l → s.size ≤ 2147483647 → d + depL vs + 1 ≤ 300 → ∃ kb js rs, kb.map bytesOf = ks ∧ toTs js = vs ∧ rawJs js = true ∧ ints rs = r ∧ ∃ K0, ∀ K, K0 ≤ K → ∀ k, n ≤ k → ∀ j, n ≤ j → ∀ ka va, pObjL (pV K k) K d j s ka va = some (some (.obj false (ka ++ kb) (va ++ js), rs))) ∧
    (∀ l vs r, telems n l = some (vs, r) → ∀ (s : ByteArray) (d : Nat), ws (ints s) = l → s.size ≤ 2147483647 → d + depL vs + 1 ≤ 300 → ∃ js rs, toTs js = vs ∧ rawJs js = true ∧ ints rs = r ∧ ∃ K0, ∀ K, K0 ≤ K → ∀ k, n ≤ k → ∀ j, n ≤ j → ∀ va, pArrL (pV K k) K d j s va = some (some (.arr (va ++ js), rs))) := by
  intro n
  induction n with
  | zero => exact ⟨fun l t r h => by simp [tval] at h, fun l ks vs r h => by simp [tmems] at h, fun l vs r h => by simp [telems] at h⟩
  | succ n ih =>
    obtain ⟨hV, hM, hE⟩ := ih
    refine ⟨?_, ?_, ?_⟩
    · intro l t r h hf s d hs hn hd
      cases l with
      | nil => simp [tval] at h
      | cons c u =>
        obtain ⟨o1, o2, o3⟩ := one hs
        have hsz : ¬ s.size = 0 := by omega
        have hex := ext_size s 1
        simp only [tval] at h
        have hdd : ¬ 300 < d + 1 := by omega
        split at h
        · rename_i hc
          obtain ⟨s1, w1, w2, K1, w3⟩ := sk_ev (s := s.extract 1 s.size) (by omega)
          rw [o3] at w1
          cases hw : ws u with
          | nil => rw [hw] at h; cases h
          | cons x u' =>
            rw [hw] at h w1
            obtain ⟨p1, p2, p3⟩ := one w1
            simp only at h
            split at h
            · rename_i hx
              simp only [Option.some.injEq, Prod.mk.injEq] at h
              obtain ⟨rfl, rfl⟩ := h
              refine ⟨.obj false [] [], s1.extract 1 s1.size, by simp [toT, toTs], by simp [rawJ, rawJs], p3, K1, fun K hK k hk => ?_⟩
              cases k with
              | zero => omega
              | succ k =>
                simp only [pV, pVal, if_neg hsz, if_neg hdd, o1, if_pos hc, pObj, w3 K hK, Option.bind_some, if_neg (show ¬ s1.size = 0 by omega), p1, if_pos hx]
            · rename_i hx
              obtain ⟨⟨ks, vs, r2⟩, hq, he⟩ := Option.map_eq_some_iff.1 h
              simp only [Prod.mk.injEq] at he
              obtain ⟨rfl, rfl⟩ := he
              simp only [dep] at hd
              obtain ⟨kb, js, rs, q1, q2, q3, q4, K2, q5⟩ := hM _ _ _ _ hq s1 (d + 1) (by rw [w1, ws_cons_not (ws_head hw)]) (by omega) (by omega)
              refine ⟨.obj false kb js, rs, by simp only [toT, q1, q2], by simp [rawJ, q3], q4, K1 + K2 + n, fun K hK k hk => ?_⟩
              cases k with
              | zero => omega
              | succ k =>
                simp only [pV, pVal, if_neg hsz, if_neg hdd, o1, if_pos hc, pObj, w3 K (by omega), Option.bind_some, if_neg (show ¬ s1.size = 0 by omega), p1, if_neg hx]
                rw [q5 K (by omega) k (by omega) K (by omega), List.nil_append, List.nil_append]
        · rename_i hc1
          split at h
          · rename_i hc
            obtain ⟨s1, w1, w2, K1, w3⟩ := sk_ev (s := s.extract 1 s.size) (by omega)
            rw [o3] at w1
            cases hw : ws u with
            | nil => rw [hw] at h; cases h
            | cons x u' =>
              rw [hw] at h w1
              obtain ⟨p1, p2, p3⟩ := one w1
              simp only at h
              split at h
              · rename_i hx
                simp only [Option.some.injEq, Prod.mk.injEq] at h
                obtain ⟨rfl, rfl⟩ := h
                refine ⟨.arr [], s1.extract 1 s1.size, by simp [toT, toTs], by simp [rawJ, rawJs], p3, K1, fun K hK k hk => ?_⟩
                cases k with
                | zero => omega
                | succ k =>
                  simp only [pV, pVal, if_neg hsz, if_neg hdd, o1, if_neg hc1, if_pos hc, pArr, w3 K hK, Option.bind_some, if_neg (show ¬ s1.size = 0 by omega), p1, if_pos hx]
              · rename_i hx
                obtain ⟨⟨vs, r2⟩, hq, he⟩ := Option.map_eq_some_iff.1 h
                simp only [Prod.mk.injEq] at he
                obtain ⟨rfl, rfl⟩ := he
                simp only [dep] at hd
                obtain ⟨js, rs, q2, q3, q4, K2, q5⟩ := hE _ _ _ hq s1 (d + 1) (by rw [w1, ws_cons_not (ws_head hw)]) (by omega) (by omega)
                refine ⟨.arr js, rs, by simp only [toT, q2], by simp [rawJ, q3], q4, K1 + K2 + n, fun K hK k hk => ?_⟩
                cases k with
                | zero => omega
                | succ k =>
                  simp only [pV, pVal, if_neg hsz, if_neg hdd, o1, if_neg hc1, if_pos hc, pArr, w3 K (by omega), Option.bind_some, if_neg (show ¬ s1.size = 0 by omega), p1, if_neg hx]
                  rw [q5 K (by omega) k (by omega) K (by omega), List.nil_append]
          · rename_i hc2
            split at h
            · rename_i hc
              obtain ⟨r2, hq, he⟩ := Option.map_eq_some_iff.1 h
              simp only [Prod.mk.injEq] at he
              obtain ⟨rfl, rfl⟩ := he
              obtain ⟨x, h1, h2, h3⟩ := str_split n hq
              obtain ⟨⟨a1, a2, a3⟩, ⟨K1, hr⟩, b1, b2, b3⟩ := rawstr_ev (s := s.extract 1 s.size) (by omega) (by rw [o3]; exact h1) (raw_ins h2)
              simp only at b1 b2 b3
              subst b1
              have hl2 : a2.size + 1 ≤ s.size := by
                have e1 := congrArg List.length h1
                have e2 := congrArg List.length b3
                rw [ints_length] at e2
                rw [List.length_append, List.length_cons] at e1
                omega
              refine ⟨.raw a1, a2, by simp only [toT]; rw [bytesOf_ints, b2, h1, upto_app1], rfl, b3, K1, fun K hK k hk => ?_⟩
              cases k with
              | zero => omega
              | succ k =>
                simp only [pV, pVal, if_neg hsz, if_neg hdd, o1, if_neg hc1, if_neg hc2, if_pos hc, hr K hK, Option.bind_some, if_pos hl2]
            · rename_i hc3
              split at h
              · rename_i hc
                obtain ⟨r2, hq, he⟩ := Option.map_eq_some_iff.1 h
                simp only [Prod.mk.injEq] at he
                obtain ⟨rfl, rfl⟩ := he
                obtain ⟨x, h1, h2, ⟨y, z, hy, hy2⟩, h3⟩ := num_split hq
                obtain ⟨⟨a1, a2, a3⟩, ⟨K1, hr⟩, b1, b2, b3⟩ := rawnum_ev (s := s) (by omega) (by rw [hs]; exact h1) h2 (by rw [hy]; simp) (num_not1 hy hy2 h3) hf
                simp only at b1 b2 b3
                subst b1
                have hl2 : a2.size + 1 ≤ s.size := by
                  have e1 := congrArg List.length h1
                  have e2 := congrArg List.length b3
                  rw [ints_length] at e2
                  rw [hy, List.length_append, List.length_cons, List.length_cons] at e1
                  omega
                have hcd : c = 45 ∨ (48 ≤ c ∧ c ≤ 57) := by simpa [isDig] using hc
                refine ⟨.num a1, a2, by simp only [toT]; rw [bytesOf_ints, b2, h1, upto_app], rfl, b3, K1, fun K hK k hk => ?_⟩
                cases k with
                | zero => omega
                | succ k =>
                  simp only [pV, pVal, if_neg hsz, if_neg hdd, o1, if_neg hc1, if_neg hc2, if_neg hc3, if_neg (show ¬ c = 116 by omega), if_neg (show ¬ c = 102 by omega), if_neg (show ¬ c = 110 by omega), hr K hK, Option.bind_some, if_pos hl2]
              · rename_i hc4
                split at h
                · rename_i hc
                  obtain ⟨r2, hq, he⟩ := Option.map_eq_some_iff.1 h
                  simp only [Prod.mk.injEq] at he
                  obtain ⟨rfl, rfl⟩ := he
                  obtain ⟨h1, h2⟩ := word_split hq
                  subst h1; subst hc
                  obtain ⟨q1, q2, q3⟩ := lit_eq (L := litTrue) hs (by decide)
                  refine ⟨.lit 5, s.extract 4 s.size, by simp [toT], rfl, q3, 0, fun K hK k hk => ?_⟩
                  cases k with
                  | zero => omega
                  | succ k =>
                    simp only [pV, pVal, if_neg hsz, if_neg hdd, o1, if_neg hc1, if_neg hc2, if_neg hc3, if_true]
                    rw [if_pos ⟨q1, q2⟩]
                · rename_i hc5
                  split at h
                  · rename_i hc
                    obtain ⟨r2, hq, he⟩ := Option.map_eq_some_iff.1 h
                    simp only [Prod.mk.injEq] at he
                    obtain ⟨rfl, rfl⟩ := he
                    obtain ⟨h1, h2⟩ := word_split hq
                    subst h1; subst hc
                    obtain ⟨q1, q2, q3⟩ := lit_eq (L := litFalse) hs (by decide)
                    refine ⟨.lit 6, s.extract 5 s.size, by simp [toT], rfl, q3, 0, fun K hK k hk => ?_⟩
                    cases k with
                    | zero => omega
                    | succ k =>
                      simp only [pV, pVal, if_neg hsz, if_neg hdd, o1, if_neg hc1, if_neg hc2, if_neg hc3, if_neg hc5, if_true]
                      rw [if_pos ⟨q1, q2⟩]
                  · rename_i hc6
                    split at h
                    · rename_i hc
                      obtain ⟨r2, hq, he⟩ := Option.map_eq_some_iff.1 h
                      simp only [Prod.mk.injEq] at he
                      obtain ⟨rfl, rfl⟩ := he
                      obtain ⟨h1, h2⟩ := word_split hq
                      subst h1; subst hc
                      obtain ⟨q1, q2, q3⟩ := lit_eq (L := litNull) hs (by decide)
                      refine ⟨.lit 0, s.extract 4 s.size, by simp [toT], rfl, q3, 0, fun K hK k hk => ?_⟩
                      cases k with
                      | zero => omega
                      | succ k =>
                        simp only [pV, pVal, if_neg hsz, if_neg hdd, o1, if_neg hc1, if_neg hc2, if_neg hc3, if_neg hc5, if_neg hc6, if_true]
                        rw [if_pos ⟨q1, q2⟩]
                    · cases h
    · intro l ks vs r h s d hs hn hd
      cases l with
      | nil => simp [tmems] at h
      | cons c u =>
        obtain ⟨s1, w1, w2, K1, w3⟩ := sk_ev (s := s) (by omega)
        rw [hs] at w1
        obtain ⟨o1, o2, o3⟩ := one w1
        have hex := ext_size s1 1
        simp only [tmems] at h
        split at h
        · rename_i hc
          obtain ⟨l1, hq, h⟩ := Option.bind_eq_some_iff.1 h
          obtain ⟨x, a1, a2, a3⟩ := str_split n hq
          subst a1
          rw [upto_app1] at h
          obtain ⟨⟨e1, e2, e3⟩, ⟨K2, hr⟩, b1, b2, b3⟩ := rawkey_ev (s := s1.extract 1 s1.size) (by omega) o3 (raw_ins a2)
          simp only at b1 b2 b3
          subst b1
          have hl2 : e2.size + 1 ≤ s1.size := by
            have z2 := congrArg List.length b3
            rw [ints_length] at z2
            rw [List.length_append, List.length_cons] at o2
            omega
          obtain ⟨s3, y1, y2, K3, y3⟩ := sk_ev (s := e2) (by omega)
          rw [b3] at y1
          cases hw1 : ws l1 with
          | nil => rw [hw1] at h; cases h
          | cons f l2 =>
            rw [hw1] at h y1
            obtain ⟨p1, p2, p3⟩ := one y1
            have hex3 := ext_size s3 1
            simp only at h
            split at h
            · rename_i hf
              obtain ⟨s4, z1, z2, K4, z3⟩ := sk_ev (s := s3.extract 1 s3.size) (by omega)
              rw [p3] at z1
              obtain ⟨⟨v, l3⟩, hv, h⟩ := Option.bind_eq_some_iff.1 h
              simp only at h
              cases hw3 : ws l3 with
              | nil => rw [hw3] at h; cases h
              | cons e l4 =>
                rw [hw3] at h
                simp only at h
                have step : (e = 44 ∨ e = 125) → d + dep v + 1 ≤ 300 → ∃ (jv : JV) (t1 : ByteArray), toT jv = v ∧ rawJ jv = true ∧ ints t1 = e :: l4 ∧ t1.size ≤ s.size ∧ ∃ K0, ∀ K, K0 ≤ K → ∀ k, n ≤ k → ∀ j ka va, pObjL (pV K k) K d (j + 1) s ka va = if e = 44 then pObjL (pV K k) K d j (t1.extract 1 t1.size) (ka ++ [e1]) (va ++ [jv]) else some (some (.obj false (ka ++ [e1]) (va ++ [jv]), t1.extract 1 t1.size)) := by
                  intro he hdv
                  have hfol : Fol l3 := fol_ws hw3 (by rcases he with rfl | rfl <;> decide)
                  obtain ⟨jv, rs3, v1, v2, v3, K5, v4⟩ := hV _ _ _ hv hfol s4 d z1 (by omega) hdv
                  have hl3 : rs3.size ≤ s4.size := by
                    have q1 := ((pack_all n).1 _ _ _ hv).1
                    rw [← v3, ints_length, ← z1, ints_length] at q1
                    omega
                  obtain ⟨t1, t2, t3, K6, t4⟩ := sk_ev (s := rs3) (by omega)
                  rw [v3, hw3] at t2
                  obtain ⟨x1, x2, x3⟩ := one t2
                  refine ⟨jv, t1, v1, v2, t2, by omega, K1 + K2 + K3 + K4 + K5 + K6, fun K hK k hk j ka va => ?_⟩
                  simp only [pObjL, w3 K (by omega), Option.bind_some, if_neg (show ¬ s1.size = 0 by omega), o1, if_pos hc, hr K (by omega), if_pos hl2, y3 K (by omega), if_neg (show ¬ s3.size = 0 by omega), p1, if_pos hf, z3 K (by omega), v4 K (by omega) k hk, if_pos hl3, t4 K (by omega), if_neg (show ¬ t1.size = 0 by omega), x1]
                  rcases he with rfl | rfl
                  · simp
                  · simp
                split at h
                · rename_i he
                  simp only [Option.some.injEq, Prod.mk.injEq] at h
                  obtain ⟨rfl, rfl, rfl⟩ := h
                  simp only [depL] at hd
                  obtain ⟨jv, t1, g1, g2, g3, g4, K0, g5⟩ := step (.inr he) (by omega)
                  obtain ⟨x1, x2, x3⟩ := one g3
                  refine ⟨[e1], [jv], t1.extract 1 t1.size, by simp [bytesOf_ints, b2], by simp [toTs, g1], by simp [rawJs, g2], x3, K0, fun K hK k hk j hj ka va => ?_⟩
                  cases j with
                  | zero => omega
                  | succ j => rw [g5 K hK k (by omega) j ka va, if_neg (by omega)]
                · rename_i he
                  split at h
                  · rename_i he
                    obtain ⟨⟨ks2, vs2, r2⟩, hq2, hee⟩ := Option.map_eq_some_iff.1 h
                    simp only [Prod.mk.injEq] at hee
                    obtain ⟨rfl, rfl, rfl⟩ := hee
                    simp only [depL] at hd
                    obtain ⟨jv, t1, g1, g2, g3, g4, K0, g5⟩ := step (.inl he) (by omega)
                    obtain ⟨x1, x2, x3⟩ := one g3
                    have hext := ext_size t1 1
                    obtain ⟨kb, js, rs, q1, q2, q3, q4, K7, q5⟩ := hM _ _ _ _ hq2 (t1.extract 1 t1.size) d (by rw [x3]) (by omega) (by omega)
                    refine ⟨e1 :: kb, jv :: js, rs, by simp [bytesOf_ints, b2]; exact q1, by simp [toTs, g1, q2], by simp [rawJs, g2, q3], q4, K0 + K7, fun K hK k hk j hj ka va => ?_⟩
                    cases j with
                    | zero => omega
                    | succ j =>
                      rw [g5 K (by omega) k (by omega) j ka va, if_pos he, q5 K (by omega) k (by omega) j (by omega)]
                      simp
                  · cases h
            · cases h
        · cases h
    · intro l vs r h s d hs hn hd
      simp only [telems] at h
      obtain ⟨s1, w1, w2, K1, w3⟩ := sk_ev (s := s) (by omega)
      rw [hs] at w1
      obtain ⟨⟨v, l3⟩, hv, h⟩ := Option.bind_eq_some_iff.1 h
      simp only at h
      cases hw3 : ws l3 with
      | nil => rw [hw3] at h; cases h
      | cons e l4 =>
        rw [hw3] at h
        simp only at h
        have step : (e = 44 ∨ e = 93) → d + dep v + 1 ≤ 300 → ∃ (jv : JV) (t1 : ByteArray), toT jv = v ∧ rawJ jv = true ∧ ints t1 = e :: l4 ∧ t1.size ≤ s.size ∧ ∃ K0, ∀ K, K0 ≤ K → ∀ k, n ≤ k → ∀ j va, pArrL (pV K k) K d (j + 1) s va = if e = 44 then pArrL (pV K k) K d j (t1.extract 1 t1.size) (va ++ [jv]) else some (some (.arr (va ++ [jv]), t1.extract 1 t1.size)) := by
          intro he hdv
          have hfol : Fol l3 := fol_ws hw3 (by rcases he with rfl | rfl <;> decide)
          obtain ⟨jv, rs3, v1, v2, v3, K5, v4⟩ := hV _ _ _ hv hfol s1 d w1 (by omega) hdv
          have hl3 : rs3.size ≤ s1.size := by
            have q1 := ((pack_all n).1 _ _ _ hv).1
            rw [← v3, ints_length, ← w1, ints_length] at q1
            omega
          obtain ⟨t1, t2, t3, K6, t4⟩ := sk_ev (s := rs3) (by omega)
          rw [v3, hw3] at t2
          obtain ⟨x1, x2, x3⟩ := one t2
          refine ⟨jv, t1, v1, v2, t2, by omega, K1 + K5 + K6, fun K hK k hk j va => ?_⟩
          simp only [pArrL, w3 K (by omega), Option.bind_some, v4 K (by omega) k hk, if_pos hl3, t4 K (by omega), if_neg (show ¬ t1.size = 0 by omega), x1]
          rcases he with rfl | rfl
          · simp
          · simp
        split at h
        · rename_i he
          simp only [Option.some.injEq, Prod.mk.injEq] at h
          obtain ⟨rfl, rfl⟩ := h
          simp only [depL] at hd
          obtain ⟨jv, t1, g1, g2, g3, g4, K0, g5⟩ := step (.inr he) (by omega)
          obtain ⟨x1, x2, x3⟩ := one g3
          refine ⟨[jv], t1.extract 1 t1.size, by simp [toTs, g1], by simp [rawJs, g2], x3, K0, fun K hK k hk j hj va => ?_⟩
          cases j with
          | zero => omega
          | succ j => rw [g5 K hK k (by omega) j va, if_neg (by omega)]
        · rename_i he
          split at h
          · rename_i he
            obtain ⟨⟨vs2, r2⟩, hq2, hee⟩ := Option.map_eq_some_iff.1 h
            simp only [Prod.mk.injEq] at hee
            obtain ⟨rfl, rfl⟩ := hee
            simp only [depL] at hd
            obtain ⟨jv, t1, g1, g2, g3, g4, K0, g5⟩ := step (.inl he) (by omega)
            obtain ⟨x1, x2, x3⟩ := one g3
            have hext := ext_size t1 1
            obtain ⟨js, rs, q2, q3, q4, K7, q5⟩ := hE _ _ _ hq2 (t1.extract 1 t1.size) d (by rw [x3]) (by omega) (by omega)
            refine ⟨jv :: js, rs, by simp [toTs, g1, q2], by simp [rawJs, g2, q3], q4, K0 + K7, fun K hK k hk j hj va => ?_⟩
            cases j with
            | zero => omega
            | succ j =>
              rw [g5 K (by omega) k (by omega) j va, if_pos he, q5 K (by omega) k (by omega) j (by omega)]
              simp
          · cases h

/-- Of a text that the plain reader reads, Parse reads the same tree. -/
theorem parse_plain {s : ByteArray} {t : JT} (h : Spr.readL (bytesOf s) = some t) (hs : s.size ≤ 1000000) (hd : dep t + 1 ≤ 300) : ∃ K v, pParse K s = some (some v) ∧ toT v = t ∧ rawJ v = true := by
  unfold Spr.readL at h
  obtain ⟨⟨t', r⟩, hv, h⟩ := Option.bind_eq_some_iff.1 h
  simp only at h
  split at h
  · rename_i hr
    injection h with h
    subst h
    obtain ⟨s1, w1, w2, K1, w3⟩ := sk_ev (s := s) (by omega)
    obtain ⟨v, rs, v1, v2, v3, K2, v4⟩ := (pv_all _).1 _ _ _ hv (fol_nil hr) s1 0 w1 (by omega) (by omega)
    have hrs : rs.size ≤ s1.size := by
      have q1 := ((pack_all _).1 _ _ _ hv).1
      rw [← v3, ints_length] at q1
      rw [← ints_length s1, w1]
      have q2 : (ws (bytesOf s)).length = (ws (ints s)).length := rfl
      omega
    obtain ⟨t2, y1, y2, K3, y3⟩ := sk_ev (s := rs) (by omega)
    have hz : t2.size = 0 := by rw [← ints_length, y1, v3, hr]; rfl
    refine ⟨K1 + K2 + K3 + (2 * (bytesOf s).length + 2), v, ?_, v1, v2⟩
    unfold pParse
    rw [(sk_some (w3 _ (by omega))).1, Option.bind_some, if_pos (by omega), v4 _ (by omega) _ (by omega), Option.bind_some]
    simp only
    rw [(sk_some (y3 _ (by omega))).1, Option.bind_some, if_pos hz]
  · cases h

end Go.Proofs.YtfoloneeibgoiaaDoor.Fjh

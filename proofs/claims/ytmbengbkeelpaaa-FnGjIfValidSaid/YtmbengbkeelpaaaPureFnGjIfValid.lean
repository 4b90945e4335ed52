/- '@valid' leaves every JSON text as it is and makes of every other one an empty text: both readers do what one plain reader of lists does. No condition beyond the statement's own guards. -/
import Derived.Test.YtmbengbkeelpaaaPFnGjIfValidx12
import Derived.Test.YtmbengbkeelpaaaStr
namespace Go.Proofs.Ytmbengbkeelpaaa.Pure
open Go.RowKit Go.Proofs.Ytmbengbkeelpaaa.PFnGjIfValid Go.Proofs.YtmbengbkeelpaaaW.PrintWords Go.Proofs.YtmbengbkeelpaaaW.PrintLast Go.Proofs.YtmbengbkeelpaaaW.PrintMore Go.Proofs.Ytmbengbkeelpaaa.EvL Go.Proofs.Ytmbengbkeelpaaa.StrL

set_option linter.unusedSectionVars false
set_option linter.unusedVariables false
namespace IfV

/-! ### the plain reader -/
def isWs (c : Int) : Bool := decide (c = 32 ∨ c = 9 ∨ c = 10 ∨ c = 13)
def isDig (c : Int) : Bool := decide (48 ≤ c ∧ c ≤ 57)
def isHex (c : Int) : Bool := decide ((48 ≤ c ∧ c ≤ 57) ∨ (97 ≤ c ∧ c ≤ 102) ∨ (65 ≤ c ∧ c ≤ 70))
def isShort (c : Int) : Bool := decide (c = 34 ∨ c = 92 ∨ c = 47 ∨ c = 98 ∨ c = 102 ∨ c = 110 ∨ c = 114 ∨ c = 116)
def ws : List Int → List Int
  | [] => []
  | c :: t => if isWs c = true then ws t else c :: t
def hexs : Nat → List Int → Option (List Int)
  | 0, l => some l
  | _ + 1, [] => none
  | n + 1, c :: t => if isHex c = true then hexs n t else none
def str : Nat → List Int → Option (List Int)
  | 0, _ => none
  | _ + 1, [] => none
  | n + 1, c :: t => if c = 34 then some t else if c < 32 then none else if c = 92 then (match t with
      | [] => none
      | d :: t' => if isShort d = true then str n t' else if d = 117 then (hexs 4 t').bind (str n) else none) else str n t
def digs : List Int → List Int
  | [] => []
  | c :: t => if isDig c = true then digs t else c :: t
def digs1 : List Int → Option (List Int)
  | [] => none
  | c :: t => if isDig c = true then some (digs t) else none
def whole : List Int → Option (List Int)
  | [] => none
  | c :: t => if c = 48 then some t else if isDig c = true then some (digs t) else none
def frac : List Int → Option (List Int)
  | [] => some []
  | c :: t => if c = 46 then digs1 t else some (c :: t)
def expo : List Int → Option (List Int)
  | [] => some []
  | c :: t => if c = 101 ∨ c = 69 then (match t with
      | [] => none
      | d :: t' => if d = 43 ∨ d = 45 then digs1 t' else digs1 (d :: t')) else some (c :: t)
def num : List Int → Option (List Int)
  | [] => none
  | c :: t => (whole (if c = 45 then t else c :: t)).bind fun l => (frac l).bind expo
def word (w l : List Int) : Option (List Int) := if l.take w.length = w then some (l.drop w.length) else none

mutual
def val : Nat → List Int → Option (List Int)
  | 0, _ => none
  | _ + 1, [] => none
  | n + 1, c :: t =>
    if c = 123 then (match ws t with
      | [] => none
      | d :: t' => if d = 125 then some t' else mems n (d :: t'))
    else if c = 91 then (match ws t with
      | [] => none
      | d :: t' => if d = 93 then some t' else elems n (d :: t'))
    else if c = 34 then str n t
    else if c = 45 ∨ isDig c = true then num (c :: t)
    else if c = 116 then word [114, 117, 101] t
    else if c = 102 then word [97, 108, 115, 101] t
    else if c = 110 then word [117, 108, 108] t
    else none
def mems : Nat → List Int → Option (List Int)
  | 0, _ => none
  | _ + 1, [] => none
  | n + 1, c :: t => if c = 34 then (str n t).bind fun l1 => (match ws l1 with
      | [] => none
      | d :: l2 => if d = 58 then (val n (ws l2)).bind fun l3 => (match ws l3 with
          | [] => none
          | e :: l4 => if e = 125 then some l4 else if e = 44 then mems n (ws l4) else none)
        else none)
    else none
def elems : Nat → List Int → Option (List Int)
  | 0, _ => none
  | n + 1, l => (val n l).bind fun l3 => (match ws l3 with
      | [] => none
      | e :: l4 => if e = 93 then some l4 else if e = 44 then elems n (ws l4) else none)
end

/-! ### what is left is shorter -/
theorem ws_len : ∀ l, (ws l).length ≤ l.length
  | [] => Nat.le_refl _
  | c :: t => by
    have := ws_len t
    simp only [ws]
    split
    · simp only [List.length_cons]; omega
    · exact Nat.le_refl _
theorem digs_len : ∀ l, (digs l).length ≤ l.length
  | [] => Nat.le_refl _
  | c :: t => by
    have := digs_len t
    simp only [digs]
    split
    · simp only [List.length_cons]; omega
    · exact Nat.le_refl _
theorem hexs_len : ∀ n l r, hexs n l = some r → r.length ≤ l.length
  | 0, l, r, h => by simp only [hexs, Option.some.injEq] at h; subst h; exact Nat.le_refl _
  | n + 1, [], r, h => by simp [hexs] at h
  | n + 1, c :: t, r, h => by
    simp only [hexs] at h
    split at h
    · have := hexs_len n t r h
      simp only [List.length_cons]; omega
    · cases h
theorem str_len : ∀ n l r, str n l = some r → r.length < l.length
  | 0, l, r, h => by simp [str] at h
  | n + 1, [], r, h => by simp [str] at h
  | n + 1, c :: t, r, h => by
    simp only [str] at h
    split at h
    · injection h with h; subst h; simp
    · split at h
      · cases h
      · split at h
        · cases t with
          | nil => cases h
          | cons d t' =>
            simp only at h
            split at h
            · have := str_len n t' r h
              simp only [List.length_cons]; omega
            · split at h
              · obtain ⟨m, hm, hr⟩ := Option.bind_eq_some_iff.1 h
                have h1 := hexs_len 4 t' m hm
                have h2 := str_len n m r hr
                simp only [List.length_cons]; omega
              · cases h
        · have := str_len n t r h
          simp only [List.length_cons]; omega

/-! ### a place in a row -/
def At (X : List Int) (a : Int) (l : List Int) : Prop := 0 ≤ a ∧ a ≤ X.length ∧ X.drop a.toNat = l
theorem At.cons {X : List Int} {a c : Int} {t : List Int} (h : At X a (c :: t)) : a < X.length ∧ rd X a = c ∧ At X (a + 1) t := by
  obtain ⟨h0, h1, h2⟩ := h
  obtain ⟨e1, e2, e3⟩ := rd_of_drop h0 h2
  exact ⟨e2, e1, by omega, by omega, e3⟩
theorem At.nil {X : List Int} {a : Int} (h : At X a []) : a = X.length := by
  have := len_of_drop_nil h.1 h.2.2
  have := h.2.1
  omega
theorem At.len {X : List Int} {a : Int} {l : List Int} (h : At X a l) : a + l.length = X.length := by
  obtain ⟨h0, h1, h2⟩ := h
  rw [← h2, List.length_drop]; omega

/-- What gjson's readers answer. -/
def G (X : List Int) (o : Option (List Int)) (r : Int × Bool) : Prop :=
  match o with
  | some l => r.2 = true ∧ At X r.1 l
  | none => r.2 = false

section
variable {X : List Int} (hX : X.length ≤ 2147483647)
include hX

theorem hex_eq (c : Int) : gjson_ishex.f c = some (isHex c) := by
  unfold gjson_ishex.f isHex
  split <;> (try split) <;> (try split) <;> (try split) <;> (try split) <;> (try split) <;> congr 1 <;> first | (symm; apply decide_eq_true; omega) | (symm; apply decide_eq_false; omega) | (rw [decide_eq_decide]; omega)

theorem gstr : ∀ (n : Nat) (l : List Int) (a : Int), l.length < n → At X a l → EvP (fun k => gjson_validstring.l0 k X a) (G X (str n l)) := by
  intro n
  induction n with
  | zero => intro l a h; omega
  | succ n ih =>
    intro l a hl ha
    cases l with
    | nil =>
      have := ha.nil
      refine EvP.succ ?_
      simp only [gjson_validstring.l0]
      exact EvP.neg (by omega) (EvP.ret _ rfl)
    | cons c t =>
      obtain ⟨hlt, hc, ht⟩ := ha.cons
      have h0 := ha.1
      simp only [List.length_cons] at hl
      refine EvP.succ ?_
      simp only [gjson_validstring.l0, hc]
      rw [w64 (x := a + 1) (by omega) (by omega)]
      refine EvP.pos hlt (EvP.pos h0 (EvP.ite (fun h32 => EvP.ret _ ?_) (fun h32 => EvP.ite (fun h92 => ?_) (fun h92 => EvP.ite (fun h34 => EvP.ret _ ?_) (fun h34 => ?_)))))
      · simp only [str]
        rw [if_neg (by omega), if_pos h32]
        rfl
      · cases t with
        | nil =>
          have := ht.nil
          refine EvP.pos (by omega) (EvP.ret _ ?_)
          simp only [str]
          rw [if_neg (by omega), if_neg (by omega), if_pos h92]
          rfl
        | cons d t' =>
          obtain ⟨hlt2, hd, ht2⟩ := ht.cons
          simp only [List.length_cons] at hl
          have hspec : str (n + 1) (c :: d :: t') = (if isShort d = true then str n t' else if d = 117 then (hexs 4 t').bind (str n) else none) := by
            simp only [str]
            rw [if_neg (by omega), if_neg (by omega), if_pos h92]
          have hl1 : ∀ (m : Nat) (u : List Int) (b : Int) (x : Int), x = 4 - m → 0 ≤ x → u.length < n → At X (b + 1) u → 0 ≤ b → EvP (fun k => gjson_validstring.l1 k X b x) (G X ((hexs m u).bind (str n))) := by
            intro m
            induction m with
            | zero =>
              intro u b x hx hx0 hu hb hb0
              have hbl := hb.2.1
              refine EvP.succ ?_
              simp only [gjson_validstring.l1]
              rw [w64 (x := b + 1) (by omega) (by omega)]
              refine EvP.neg (by omega) ?_
              simp only [hexs, Option.bind_some]
              exact ih u (b + 1) hu hb
            | succ m ihm =>
              intro u b x hx hx0 hu hb hb0
              have hbl := hb.2.1
              refine EvP.succ ?_
              simp only [gjson_validstring.l1]
              rw [w64 (x := b + 1) (by omega) (by omega), w64 (x := x + 1) (by omega) (by omega)]
              refine EvP.pos (by omega) ?_
              cases u with
              | nil =>
                have := hb.nil
                exact EvP.pos (by omega) (EvP.ret _ rfl)
              | cons e u' =>
                obtain ⟨hlt3, he, hu3⟩ := hb.cons
                simp only [List.length_cons] at hu
                refine EvP.neg (by omega) (EvP.pos (by omega) (EvP.pos hlt3 ?_))
                rw [he, hex_eq hX]
                simp only [Option.bind_some]
                refine EvP.ite (fun hh => ?_) (fun hh => EvP.ret _ ?_)
                · simp only [hexs]
                  rw [if_pos hh]
                  exact ihm u' (b + 1) (x + 1) (by omega) (by omega) (by omega) hu3 (by omega)
                · simp only [hexs]
                  rw [if_neg hh]
                  rfl
          have hj : ∀ b : Bool, (b = true ↔ isShort d = true) → EvP (fun k => gjson_validstring.j1 k X (a + 1) d b) (G X (str (n + 1) (c :: d :: t'))) := by
            intro b hb
            rw [hspec]
            refine EvP.succ ?_
            simp only [gjson_validstring.j1]
            rw [w64 (x := a + 1 + 1) (by omega) (by omega)]
            refine EvP.ite (fun h => ?_) (fun h => ?_)
            · rw [if_pos (hb.1 h)]
              exact ih t' (a + 1 + 1) (by omega) ht2
            · rw [if_neg (fun h' => h (hb.2 h'))]
              refine EvP.ite (fun h117 => ?_) (fun h117 => EvP.ret _ ?_)
              · rw [if_pos h117]
                exact hl1 4 t' (a + 1) 0 (by omega) (by omega) (by omega) ht2 (by omega)
              · rw [if_neg h117]
                rfl
          rw [hd]
          refine EvP.neg (by omega) (EvP.pos (by omega) (EvP.pos hlt2 ?_))
          refine EvP.ite (fun h => hj _ (by simp [isShort, h])) (fun h1 => ?_)
          refine EvP.ite (fun h => hj _ (by simp [isShort, h])) (fun h2 => ?_)
          refine EvP.ite (fun h => hj _ (by simp [isShort, h])) (fun h3 => ?_)
          refine EvP.ite (fun h => hj _ (by simp [isShort, h])) (fun h4 => ?_)
          refine EvP.ite (fun h => hj _ (by simp [isShort, h])) (fun h5 => ?_)
          refine EvP.ite (fun h => hj _ (by simp [isShort, h])) (fun h6 => ?_)
          refine EvP.ite (fun h => hj _ (by simp [isShort, h])) (fun h7 => ?_)
          exact hj _ (by simp [isShort, h1, h2, h3, h4, h5, h6, h7])
      · simp only [str]
        rw [if_pos h34]
        exact ⟨rfl, ht⟩
      · have := ih t (a + 1) (by omega) ht
        simp only [str]
        rw [if_neg h34, if_neg h32, if_neg h92]
        exact this

theorem gcolon : ∀ (l : List Int) (a : Int), At X a l → EvP (fun k => gjson_validcolon.l0 k X a) (G X (match ws l with | [] => none | d :: t => if d = 58 then some t else none)) := by
  intro l
  induction l with
  | nil =>
    intro a ha
    have := ha.nil
    refine EvP.succ ?_
    simp only [gjson_validcolon.l0]
    exact EvP.neg (by omega) (EvP.ret _ rfl)
  | cons c t ih =>
    intro a ha
    obtain ⟨hlt, hc, ht⟩ := ha.cons
    have h0 := ha.1
    have hj : ∀ b : Bool, (b = true ↔ isWs c = true) → EvP (fun k => gjson_validcolon.j1 k X a c b) (G X (match ws (c :: t) with | [] => none | d :: t => if d = 58 then some t else none)) := by
      intro b hb
      refine EvP.succ ?_
      simp only [gjson_validcolon.j1]
      rw [w64 (x := a + 1) (by omega) (by omega)]
      refine EvP.ite (fun h => ?_) (fun h => ?_)
      · simp only [ws, if_pos (hb.1 h)]
        exact ih (a + 1) ht
      · simp only [ws, if_neg (fun h' => h (hb.2 h'))]
        refine EvP.ite (fun h58 => EvP.ret _ ?_) (fun h58 => EvP.ret _ ?_)
        · rw [if_pos h58]; exact ⟨rfl, ht⟩
        · rw [if_neg h58]; rfl
    refine EvP.succ ?_
    simp only [gjson_validcolon.l0, hc]
    refine EvP.pos hlt (EvP.pos h0 ?_)
    refine EvP.ite (fun h => hj _ (by simp [isWs, h])) (fun h1 => ?_)
    refine EvP.ite (fun h => hj _ (by simp [isWs, h])) (fun h2 => ?_)
    refine EvP.ite (fun h => hj _ (by simp [isWs, h])) (fun h3 => ?_)
    exact hj _ (by simp [isWs, h1, h2, h3])

/-- Behind a value: a comma or the end sign; the place is its own. -/
theorem gcomma (e : Int) : ∀ (l : List Int) (a : Int), At X a l → EvP (fun k => gjson_validcomma.l0 k X a e) (G X (match ws l with | [] => none | d :: t => if d = 44 ∨ d = e then some (d :: t) else none)) := by
  intro l
  induction l with
  | nil =>
    intro a ha
    have := ha.nil
    refine EvP.succ ?_
    simp only [gjson_validcomma.l0]
    exact EvP.neg (by omega) (EvP.ret _ rfl)
  | cons c t ih =>
    intro a ha
    obtain ⟨hlt, hc, ht⟩ := ha.cons
    have h0 := ha.1
    have hj : ∀ b : Bool, (b = true ↔ isWs c = true) → EvP (fun k => gjson_validcomma.j1 k X a e c b) (G X (match ws (c :: t) with | [] => none | d :: t => if d = 44 ∨ d = e then some (d :: t) else none)) := by
      intro b hb
      refine EvP.succ ?_
      simp only [gjson_validcomma.j1]
      rw [w64 (x := a + 1) (by omega) (by omega)]
      refine EvP.ite (fun h => ?_) (fun h => ?_)
      · simp only [ws, if_pos (hb.1 h)]
        exact ih (a + 1) ht
      · simp only [ws, if_neg (fun h' => h (hb.2 h'))]
        refine EvP.ite (fun h44 => EvP.ret _ ?_) (fun h44 => EvP.ite (fun he => EvP.ret _ ?_) (fun he => EvP.ret _ ?_))
        · rw [if_pos (.inl h44)]; exact ⟨rfl, ha⟩
        · rw [if_pos (.inr he)]; exact ⟨rfl, ha⟩
        · rw [if_neg (fun h => h.elim h44 he)]; rfl
    refine EvP.succ ?_
    simp only [gjson_validcomma.l0, hc]
    refine EvP.pos hlt (EvP.pos h0 ?_)
    refine EvP.ite (fun h => hj _ (by simp [isWs, h])) (fun h1 => ?_)
    refine EvP.ite (fun h => hj _ (by simp [isWs, h])) (fun h2 => ?_)
    refine EvP.ite (fun h => hj _ (by simp [isWs, h])) (fun h3 => ?_)
    exact hj _ (by simp [isWs, h1, h2, h3])

/-! numbers -/
theorem gl2 : ∀ (l : List Int) (a : Int), At X a l → EvP (fun k => gjson_validnumber.l2 k X a) (G X (some (digs l))) := by
  intro l
  induction l with
  | nil =>
    intro a ha
    have := ha.nil
    refine EvP.succ ?_
    simp only [gjson_validnumber.l2]
    exact EvP.neg (by omega) (EvP.ret _ ⟨rfl, ha⟩)
  | cons c t ih =>
    intro a ha
    obtain ⟨hlt, hc, ht⟩ := ha.cons
    have h0 := ha.1
    refine EvP.succ ?_
    simp only [gjson_validnumber.l2, hc]
    rw [w64 (x := a + 1) (by omega) (by omega)]
    refine EvP.pos hlt (EvP.pos h0 (EvP.ite (fun h1 => EvP.ite (fun h2 => ?_) (fun h2 => EvP.ret _ ?_)) (fun h1 => EvP.ret _ ?_)))
    · simp only [digs]
      rw [if_pos (by simp [isDig]; omega)]
      exact ih (a + 1) ht
    · simp only [digs]
      rw [if_neg (by simp [isDig]; omega)]
      exact ⟨rfl, ha⟩
    · simp only [digs]
      rw [if_neg (by simp [isDig]; omega)]
      exact ⟨rfl, ha⟩

theorem gj9 {c : Int} {t : List Int} {a : Int} (ha : At X a (c :: t)) (b : Bool) (hb : b = true ↔ ¬ isDig c = true) : EvP (fun k => gjson_validnumber.j9 k X a b) (G X (digs1 (c :: t))) := by
  obtain ⟨hlt, hc, ht⟩ := ha.cons
  have h0 := ha.1
  refine EvP.succ ?_
  simp only [gjson_validnumber.j9, digs1]
  rw [w64 (x := a + 1) (by omega) (by omega)]
  refine EvP.ite (fun h => EvP.ret _ ?_) (fun h => ?_)
  · rw [if_neg (hb.1 h)]; rfl
  · rw [if_pos (by cases hd : isDig c <;> simp_all)]
    exact gl2 hX t (a + 1) ht

theorem gj8 {l : List Int} {a : Int} (ha : At X a l) : EvP (fun k => gjson_validnumber.j8 k X a) (G X (digs1 l)) := by
  have h0 := ha.1
  refine EvP.succ ?_
  simp only [gjson_validnumber.j8]
  cases l with
  | nil =>
    have := ha.nil
    exact EvP.pos (by omega) (EvP.ret _ rfl)
  | cons c t =>
    obtain ⟨hlt, hc, ht⟩ := ha.cons
    rw [hc]
    refine EvP.neg (by omega) (EvP.pos h0 (EvP.pos hlt (EvP.ite (fun h => gj9 hX ha _ (by simp [isDig]; omega)) (fun h => gj9 hX ha _ ?_))))
    simp [isDig]; omega

theorem gj5 {l : List Int} {a : Int} (ha : At X a l) : EvP (fun k => gjson_validnumber.j5 k X a) (G X (expo l)) := by
  have h0 := ha.1
  cases l with
  | nil =>
    have := ha.nil
    refine EvP.succ ?_
    simp only [gjson_validnumber.j5]
    exact EvP.pos (by omega) (EvP.ret _ ⟨rfl, ha⟩)
  | cons c t =>
    obtain ⟨hlt, hc, ht⟩ := ha.cons
    have hj : ∀ b : Bool, (b = true ↔ (c = 101 ∨ c = 69)) → EvP (fun k => gjson_validnumber.j6 k X a b) (G X (expo (c :: t))) := by
      intro b hb
      refine EvP.succ ?_
      simp only [gjson_validnumber.j6, expo]
      rw [w64 (x := a + 1) (by omega) (by omega)]
      refine EvP.ite (fun h => ?_) (fun h => EvP.ret _ ?_)
      · rw [if_pos (hb.1 h)]
        cases t with
        | nil =>
          have := ht.nil
          exact EvP.pos (by omega) (EvP.ret _ rfl)
        | cons d t' =>
          obtain ⟨hlt2, hd, ht2⟩ := ht.cons
          rw [hd]
          have h7 : ∀ b : Bool, (b = true ↔ (d = 43 ∨ d = 45)) → EvP (fun k => gjson_validnumber.j7 k X (a + 1) b) (G X (if d = 43 ∨ d = 45 then digs1 t' else digs1 (d :: t'))) := by
            intro b hb
            refine EvP.succ ?_
            simp only [gjson_validnumber.j7]
            rw [w64 (x := a + 1 + 1) (by omega) (by omega)]
            refine EvP.ite (fun h => ?_) (fun h => ?_)
            · rw [if_pos (hb.1 h)]; exact gj8 hX ht2
            · rw [if_neg (fun h' => h (hb.2 h'))]; exact gj8 hX ht
          refine EvP.neg (by omega) (EvP.pos (by omega) (EvP.pos hlt2 (EvP.ite (fun h => h7 _ (by simp [h])) (fun h => h7 _ (by simp [h])))))
      · rw [if_neg (fun h' => h (hb.2 h'))]
        exact ⟨rfl, ha⟩
    refine EvP.succ ?_
    simp only [gjson_validnumber.j5, hc]
    exact EvP.neg (by omega) (EvP.pos h0 (EvP.pos hlt (EvP.ite (fun h => hj _ (by simp [h])) (fun h => hj _ (by simp [h])))))

theorem gl1 : ∀ (l : List Int) (a : Int), At X a l → EvP (fun k => gjson_validnumber.l1 k X a) (G X (expo (digs l))) := by
  intro l
  induction l with
  | nil =>
    intro a ha
    have := ha.nil
    refine EvP.succ ?_
    simp only [gjson_validnumber.l1]
    exact EvP.neg (by omega) (gj5 hX ha)
  | cons c t ih =>
    intro a ha
    obtain ⟨hlt, hc, ht⟩ := ha.cons
    have h0 := ha.1
    refine EvP.succ ?_
    simp only [gjson_validnumber.l1, hc]
    rw [w64 (x := a + 1) (by omega) (by omega)]
    refine EvP.pos hlt (EvP.pos h0 (EvP.ite (fun h1 => EvP.ite (fun h2 => ?_) (fun h2 => ?_)) (fun h1 => ?_)))
    · simp only [digs]
      rw [if_pos (by simp [isDig]; omega)]
      exact ih (a + 1) ht
    · simp only [digs]
      rw [if_neg (by simp [isDig]; omega)]
      exact gj5 hX ha
    · simp only [digs]
      rw [if_neg (by simp [isDig]; omega)]
      exact gj5 hX ha

theorem gj2 {l : List Int} {a : Int} (ha : At X a l) : EvP (fun k => gjson_validnumber.j2 k X a) (G X ((frac l).bind expo)) := by
  have h0 := ha.1
  refine EvP.succ ?_
  simp only [gjson_validnumber.j2]
  cases l with
  | nil =>
    have := ha.nil
    exact EvP.pos (by omega) (EvP.ret _ ⟨rfl, ha⟩)
  | cons c t =>
    obtain ⟨hlt, hc, ht⟩ := ha.cons
    rw [hc, w64 (x := a + 1) (by omega) (by omega)]
    refine EvP.neg (by omega) (EvP.pos h0 (EvP.pos hlt (EvP.ite (fun h46 => ?_) (fun h46 => ?_))))
    · simp only [frac]
      rw [if_pos h46]
      cases t with
      | nil =>
        have := ht.nil
        exact EvP.pos (by omega) (EvP.ret _ rfl)
      | cons d t' =>
        obtain ⟨hlt2, hd, ht2⟩ := ht.cons
        rw [hd]
        have h3 : ∀ b : Bool, (b = true ↔ ¬ isDig d = true) → EvP (fun k => gjson_validnumber.j3 k X (a + 1) b) (G X ((digs1 (d :: t')).bind expo)) := by
          intro b hb
          refine EvP.succ ?_
          simp only [gjson_validnumber.j3, digs1]
          rw [w64 (x := a + 1 + 1) (by omega) (by omega)]
          refine EvP.ite (fun h => EvP.ret _ ?_) (fun h => ?_)
          · rw [if_neg (hb.1 h)]; rfl
          · rw [if_pos (by cases hd : isDig d <;> simp_all)]
            exact gl1 hX t' (a + 1 + 1) ht2
        refine EvP.neg (by omega) (EvP.pos (by omega) (EvP.pos hlt2 (EvP.ite (fun h => h3 _ (by simp [isDig]; omega)) (fun h => h3 _ ?_))))
        simp [isDig]; omega
    · simp only [frac]
      rw [if_neg h46]
      exact gj5 hX ha

theorem gl0 : ∀ (l : List Int) (a : Int), At X a l → EvP (fun k => gjson_validnumber.l0 k X a) (G X ((frac (digs l)).bind expo)) := by
  intro l
  induction l with
  | nil =>
    intro a ha
    have := ha.nil
    refine EvP.succ ?_
    simp only [gjson_validnumber.l0]
    exact EvP.neg (by omega) (gj2 hX ha)
  | cons c t ih =>
    intro a ha
    obtain ⟨hlt, hc, ht⟩ := ha.cons
    have h0 := ha.1
    refine EvP.succ ?_
    simp only [gjson_validnumber.l0, hc]
    rw [w64 (x := a + 1) (by omega) (by omega)]
    refine EvP.pos hlt (EvP.pos h0 (EvP.ite (fun h1 => EvP.ite (fun h2 => ?_) (fun h2 => ?_)) (fun h1 => ?_)))
    · simp only [digs]
      rw [if_pos (by simp [isDig]; omega)]
      exact ih (a + 1) ht
    · simp only [digs]
      rw [if_neg (by simp [isDig]; omega)]
      exact gj2 hX ha
    · simp only [digs]
      rw [if_neg (by simp [isDig]; omega)]
      exact gj2 hX ha

theorem gj0 {l : List Int} {a : Int} (ha : At X a l) (hd : ∀ c t, l = c :: t → isDig c = true) : EvP (fun k => gjson_validnumber.j0 k X a) (G X ((whole l).bind fun l => (frac l).bind expo)) := by
  have h0 := ha.1
  refine EvP.succ ?_
  simp only [gjson_validnumber.j0]
  cases l with
  | nil =>
    have := ha.nil
    exact EvP.pos (by omega) (EvP.ret _ rfl)
  | cons c t =>
    obtain ⟨hlt, hc, ht⟩ := ha.cons
    have hdc := hd c t rfl
    rw [hc, w64 (x := a + 1) (by omega) (by omega)]
    refine EvP.neg (by omega) (EvP.pos h0 (EvP.pos hlt (EvP.ite (fun h48 => ?_) (fun h48 => ?_))))
    · simp only [whole]
      rw [if_pos h48]
      exact gj2 hX ht
    · simp only [whole]
      rw [if_neg h48, if_pos hdc]
      have := gl0 hX (c :: t) a ha
      simp only [digs, if_pos hdc] at this
      exact this

theorem gnum {c : Int} {t : List Int} {a : Int} (ha : At X a (c :: t)) (hd : c = 45 ∨ isDig c = true) : EvP (fun k => gjson_validnumber.f k X (a + 1)) (G X (num (c :: t))) := by
  obtain ⟨hlt, hc, ht⟩ := ha.cons
  have h0 := ha.1
  unfold gjson_validnumber.f
  rw [show a + 1 - 1 = a by omega, w64 (x := a) (by omega) (by omega), hc, w64 (x := a + 1) (by omega) (by omega)]
  refine EvP.pos h0 (EvP.pos hlt (EvP.ite (fun h45 => ?_) (fun h45 => ?_)))
  · simp only [num]
    rw [if_pos h45]
    cases t with
    | nil =>
      have := ht.nil
      exact EvP.pos (by omega) (EvP.ret _ rfl)
    | cons d t' =>
      obtain ⟨hlt2, hd2, ht2⟩ := ht.cons
      rw [hd2]
      refine EvP.neg (by omega) (EvP.pos (by omega) (EvP.pos hlt2 (EvP.ite (fun h => EvP.ret _ ?_) (fun h => EvP.ite (fun h' => EvP.ret _ ?_) (fun h' => ?_)))))
      · simp only [whole]
        rw [if_neg (by omega), if_neg (by simp [isDig]; omega)]
        rfl
      · simp only [whole]
        rw [if_neg (by omega), if_neg (by simp [isDig]; omega)]
        rfl
      · refine gj0 hX ht (fun c' u hu => ?_)
        injection hu with hu _
        subst hu
        simp [isDig]; omega
  · simp only [num]
    rw [if_neg h45]
    refine gj0 hX ha (fun c' u hu => ?_)
    injection hu with hu _
    subst hu
    rcases hd with hd | hd
    · exact absurd hd h45
    · exact hd

theorem gtrue {t : List Int} {b : Int} (hb : At X b t) : EvP (fun _ => gjson_validtrue.f X b) (G X (word [114, 117, 101] t)) := by
  have hlen := hb.len
  have h0 := hb.1
  unfold gjson_validtrue.f
  rw [w64 (x := b + 1) (by omega) (by omega), w64 (x := b + 2) (by omega) (by omega), w64 (x := b + 3) (by omega) (by omega)]
  rcases t with _ | ⟨x, _ | ⟨y, _ | ⟨z, u⟩⟩⟩
  · exact EvP.neg (by simp at hlen; omega) (EvP.ret _ (by simp [word, G]))
  · exact EvP.neg (by simp at hlen; omega) (EvP.ret _ (by simp [word, G]))
  · exact EvP.neg (by simp at hlen; omega) (EvP.ret _ (by simp [word, G]))
  · obtain ⟨l1, e1, p1⟩ := hb.cons
    obtain ⟨l2, e2, p2⟩ := p1.cons
    rw [show b + 1 + 1 = b + 2 by omega] at p2
    obtain ⟨l3, e3, p3⟩ := p2.cons
    rw [show b + 2 + 1 = b + 3 by omega] at p3
    rw [e1, e2, e3]
    refine EvP.pos (by simp at hlen; omega) (EvP.pos h0 (EvP.pos l1 (EvP.ite (fun h1 => EvP.pos (by omega) (EvP.pos l2 (EvP.ite (fun h2 => EvP.pos (by omega) (EvP.pos l3 (EvP.ite (fun h3 => EvP.ret _ ?_) (fun h => EvP.ret _ ?_)))) (fun h => EvP.ret _ ?_)))) (fun h => EvP.ret _ ?_))))
    · simp only [word, List.length_cons, List.length_nil, List.take_succ_cons, List.take_zero, h1, h2, h3, if_true]
      exact ⟨rfl, p3⟩
    · simp [word, G, h]
    · simp [word, G, h]
    · simp [word, G, h]

theorem gnull {t : List Int} {b : Int} (hb : At X b t) : EvP (fun _ => gjson_validnull.f X b) (G X (word [117, 108, 108] t)) := by
  have hlen := hb.len
  have h0 := hb.1
  unfold gjson_validnull.f
  rw [w64 (x := b + 1) (by omega) (by omega), w64 (x := b + 2) (by omega) (by omega), w64 (x := b + 3) (by omega) (by omega)]
  rcases t with _ | ⟨x, _ | ⟨y, _ | ⟨z, u⟩⟩⟩
  · exact EvP.neg (by simp at hlen; omega) (EvP.ret _ (by simp [word, G]))
  · exact EvP.neg (by simp at hlen; omega) (EvP.ret _ (by simp [word, G]))
  · exact EvP.neg (by simp at hlen; omega) (EvP.ret _ (by simp [word, G]))
  · obtain ⟨l1, e1, p1⟩ := hb.cons
    obtain ⟨l2, e2, p2⟩ := p1.cons
    rw [show b + 1 + 1 = b + 2 by omega] at p2
    obtain ⟨l3, e3, p3⟩ := p2.cons
    rw [show b + 2 + 1 = b + 3 by omega] at p3
    rw [e1, e2, e3]
    refine EvP.pos (by simp at hlen; omega) (EvP.pos h0 (EvP.pos l1 (EvP.ite (fun h1 => EvP.pos (by omega) (EvP.pos l2 (EvP.ite (fun h2 => EvP.pos (by omega) (EvP.pos l3 (EvP.ite (fun h3 => EvP.ret _ ?_) (fun h => EvP.ret _ ?_)))) (fun h => EvP.ret _ ?_)))) (fun h => EvP.ret _ ?_))))
    · simp only [word, List.length_cons, List.length_nil, List.take_succ_cons, List.take_zero, h1, h2, h3, if_true]
      exact ⟨rfl, p3⟩
    · simp [word, G, h]
    · simp [word, G, h]
    · simp [word, G, h]

theorem gfalse {t : List Int} {b : Int} (hb : At X b t) : EvP (fun _ => gjson_validfalse.f X b) (G X (word [97, 108, 115, 101] t)) := by
  have hlen := hb.len
  have h0 := hb.1
  unfold gjson_validfalse.f
  rw [w64 (x := b + 1) (by omega) (by omega), w64 (x := b + 2) (by omega) (by omega), w64 (x := b + 3) (by omega) (by omega), w64 (x := b + 4) (by omega) (by omega)]
  rcases t with _ | ⟨x, _ | ⟨y, _ | ⟨z, _ | ⟨v, u⟩⟩⟩⟩
  · exact EvP.neg (by simp at hlen; omega) (EvP.ret _ (by simp [word, G]))
  · exact EvP.neg (by simp at hlen; omega) (EvP.ret _ (by simp [word, G]))
  · exact EvP.neg (by simp at hlen; omega) (EvP.ret _ (by simp [word, G]))
  · exact EvP.neg (by simp at hlen; omega) (EvP.ret _ (by simp [word, G]))
  · obtain ⟨l1, e1, p1⟩ := hb.cons
    obtain ⟨l2, e2, p2⟩ := p1.cons
    rw [show b + 1 + 1 = b + 2 by omega] at p2
    obtain ⟨l3, e3, p3⟩ := p2.cons
    rw [show b + 2 + 1 = b + 3 by omega] at p3
    obtain ⟨l4, e4, p4⟩ := p3.cons
    rw [show b + 3 + 1 = b + 4 by omega] at p4
    rw [e1, e2, e3, e4]
    refine EvP.pos (by simp at hlen; omega) (EvP.pos h0 (EvP.pos l1 (EvP.ite (fun h1 => EvP.pos (by omega) (EvP.pos l2 (EvP.ite (fun h2 => EvP.pos (by omega) (EvP.pos l3 (EvP.ite (fun h3 => EvP.pos (by omega) (EvP.pos l4 (EvP.ite (fun h4 => EvP.ret _ ?_) (fun h => EvP.ret _ ?_)))) (fun h => EvP.ret _ ?_)))) (fun h => EvP.ret _ ?_)))) (fun h => EvP.ret _ ?_))))
    · simp only [word, List.length_cons, List.length_nil, List.take_succ_cons, List.take_zero, h1, h2, h3, h4, if_true]
      exact ⟨rfl, p4⟩
    · simp [word, G, h]
    · simp [word, G, h]
    · simp [word, G, h]
    · simp [word, G, h]

def objOf (n : Nat) (l : List Int) : Option (List Int) := match ws l with
  | [] => none
  | d :: t' => if d = 125 then some t' else mems n (d :: t')
def arrOf (n : Nat) (l : List Int) : Option (List Int) := match ws l with
  | [] => none
  | d :: t' => if d = 93 then some t' else elems n (d :: t')

omit hX in
theorem ws_not {c : Int} {t : List Int} (h : ¬ isWs c = true) : ws (c :: t) = c :: t := by simp only [ws]; rw [if_neg h]
omit hX in
theorem ws_yes {c : Int} {t : List Int} (h : isWs c = true) : ws (c :: t) = ws t := by simp only [ws]; rw [if_pos h]

theorem gobj0 (n : Nat) (hM : ∀ (t : List Int) (a : Int), 2 * t.length + 4 < n → At X a (34 :: t) → EvP (fun k => gjson_validobject.l1 k X a) (G X (mems n (34 :: t)))) : ∀ (l : List Int) (a : Int), 2 * l.length + 2 < n → At X a l → EvP (fun k => gjson_validobject.l0 k X a) (G X (objOf n l)) := by
  intro l
  induction l with
  | nil =>
    intro a hl ha
    have := ha.nil
    refine EvP.succ ?_
    simp only [gjson_validobject.l0]
    exact EvP.neg (by omega) (EvP.ret _ rfl)
  | cons c t ih =>
    intro a hl ha
    simp only [List.length_cons] at hl
    obtain ⟨hlt, hc, ht⟩ := ha.cons
    have h0 := ha.1
    obtain ⟨m, rfl⟩ : ∃ m, n = m + 1 := ⟨n - 1, by omega⟩
    have hj : ∀ b : Bool, (b = true ↔ isWs c = true) → EvP (fun k => gjson_validobject.j1 k X a c b) (G X (objOf (m + 1) (c :: t))) := by
      intro b hb
      refine EvP.succ ?_
      simp only [gjson_validobject.j1, objOf]
      rw [w64 (x := a + 1) (by omega) (by omega)]
      refine EvP.ite (fun h => ?_) (fun h => ?_)
      · rw [ws_yes (hb.1 h)]
        exact ih (a + 1) (by omega) ht
      · rw [ws_not (fun h' => h (hb.2 h'))]
        refine EvP.ite (fun h125 => EvP.ret _ ?_) (fun h125 => EvP.ite (fun h34 => ?_) (fun h34 => EvP.ret _ ?_))
        · simp only; rw [if_pos h125]; exact ⟨rfl, ht⟩
        · subst h34
          simp only; rw [if_neg h125]
          exact hM t a (by omega) ha
        · simp only; rw [if_neg h125]; simp only [mems]; rw [if_neg h34]; rfl
    refine EvP.succ ?_
    simp only [gjson_validobject.l0, hc]
    refine EvP.pos hlt (EvP.pos h0 ?_)
    refine EvP.ite (fun h => hj _ (by simp [isWs, h])) (fun h1 => ?_)
    refine EvP.ite (fun h => hj _ (by simp [isWs, h])) (fun h2 => ?_)
    refine EvP.ite (fun h => hj _ (by simp [isWs, h])) (fun h3 => ?_)
    exact hj _ (by simp [isWs, h1, h2, h3])

theorem gobj2 (n : Nat) (hM : ∀ (t : List Int) (a : Int), 2 * t.length + 4 < n → At X a (34 :: t) → EvP (fun k => gjson_validobject.l1 k X a) (G X (mems n (34 :: t)))) : ∀ (l : List Int) (a : Int), 2 * l.length + 2 < n → At X a l → EvP (fun k => gjson_validobject.l2 k X a) (G X (mems n (ws l))) := by
  intro l
  induction l with
  | nil =>
    intro a hl ha
    have := ha.nil
    obtain ⟨m, rfl⟩ : ∃ m, n = m + 1 := ⟨n - 1, by omega⟩
    refine EvP.succ ?_
    simp only [gjson_validobject.l2]
    exact EvP.neg (by omega) (EvP.ret _ rfl)
  | cons c t ih =>
    intro a hl ha
    simp only [List.length_cons] at hl
    obtain ⟨hlt, hc, ht⟩ := ha.cons
    have h0 := ha.1
    obtain ⟨m, rfl⟩ : ∃ m, n = m + 1 := ⟨n - 1, by omega⟩
    have hj : ∀ b : Bool, (b = true ↔ isWs c = true) → EvP (fun k => gjson_validobject.j4 k X a c b) (G X (mems (m + 1) (ws (c :: t)))) := by
      intro b hb
      refine EvP.succ ?_
      simp only [gjson_validobject.j4]
      rw [w64 (x := a + 1) (by omega) (by omega)]
      refine EvP.ite (fun h => ?_) (fun h => ?_)
      · rw [ws_yes (hb.1 h)]
        exact ih (a + 1) (by omega) ht
      · rw [ws_not (fun h' => h (hb.2 h'))]
        refine EvP.ite (fun h34 => ?_) (fun h34 => EvP.ret _ ?_)
        · subst h34
          exact hM t a (by omega) ha
        · simp only [mems]; rw [if_neg h34]; rfl
    refine EvP.succ ?_
    simp only [gjson_validobject.l2, hc]
    refine EvP.pos hlt (EvP.pos h0 ?_)
    refine EvP.ite (fun h => hj _ (by simp [isWs, h])) (fun h1 => ?_)
    refine EvP.ite (fun h => hj _ (by simp [isWs, h])) (fun h2 => ?_)
    refine EvP.ite (fun h => hj _ (by simp [isWs, h])) (fun h3 => ?_)
    exact hj _ (by simp [isWs, h1, h2, h3])

theorem garr0 (n : Nat) (hE : ∀ (l : List Int) (a : Int), 2 * l.length + 2 < n → At X a l → EvP (fun k => gjson_validarray.l1 k X a) (G X (elems n (ws l)))) : ∀ (l : List Int) (a : Int), 2 * l.length + 2 < n → At X a l → EvP (fun k => gjson_validarray.l0 k X a) (G X (arrOf n l)) := by
  intro l
  induction l with
  | nil =>
    intro a hl ha
    have := ha.nil
    refine EvP.succ ?_
    simp only [gjson_validarray.l0]
    exact EvP.neg (by omega) (EvP.ret _ rfl)
  | cons c t ih =>
    intro a hl ha
    have hl' := hl
    simp only [List.length_cons] at hl
    obtain ⟨hlt, hc, ht⟩ := ha.cons
    have h0 := ha.1
    have hj : ∀ b : Bool, (b = true ↔ isWs c = true) → EvP (fun k => gjson_validarray.j1 k X a c b) (G X (arrOf n (c :: t))) := by
      intro b hb
      refine EvP.succ ?_
      simp only [gjson_validarray.j1, arrOf]
      rw [w64 (x := a + 1) (by omega) (by omega)]
      refine EvP.ite (fun h => ?_) (fun h => ?_)
      · rw [ws_yes (hb.1 h)]
        exact ih (a + 1) (by omega) ht
      · have hE' := hE (c :: t) a hl' ha
        rw [ws_not (fun h' => h (hb.2 h'))] at hE' ⊢
        refine EvP.ite (fun h93 => EvP.ret _ ?_) (fun h93 => ?_)
        · simp only; rw [if_pos h93]; exact ⟨rfl, ht⟩
        · simp only; rw [if_neg h93]
          exact hE'
    refine EvP.succ ?_
    simp only [gjson_validarray.l0, hc]
    refine EvP.pos hlt (EvP.pos h0 ?_)
    refine EvP.ite (fun h => hj _ (by simp [isWs, h])) (fun h1 => ?_)
    refine EvP.ite (fun h => hj _ (by simp [isWs, h])) (fun h2 => ?_)
    refine EvP.ite (fun h => hj _ (by simp [isWs, h])) (fun h3 => ?_)
    exact hj _ (by simp [isWs, h1, h2, h3])

omit hX in
theorem digs1_len {l r : List Int} (h : digs1 l = some r) : r.length ≤ l.length := by
  cases l with
  | nil => cases h
  | cons c t =>
    simp only [digs1] at h
    split at h
    · injection h with h; subst h
      have := digs_len t
      simp only [List.length_cons]; omega
    · cases h
omit hX in
theorem whole_len {l r : List Int} (h : whole l = some r) : r.length ≤ l.length := by
  cases l with
  | nil => cases h
  | cons c t =>
    simp only [whole] at h
    split at h
    · injection h with h; subst h; simp
    · split at h
      · injection h with h; subst h
        have := digs_len t
        simp only [List.length_cons]; omega
      · cases h
omit hX in
theorem frac_len {l r : List Int} (h : frac l = some r) : r.length ≤ l.length := by
  cases l with
  | nil => injection h with h; subst h; simp
  | cons c t =>
    simp only [frac] at h
    split at h
    · have := digs1_len h
      simp only [List.length_cons]; omega
    · injection h with h; subst h; exact Nat.le_refl _
omit hX in
theorem expo_len {l r : List Int} (h : expo l = some r) : r.length ≤ l.length := by
  cases l with
  | nil => injection h with h; subst h; simp
  | cons c t =>
    simp only [expo] at h
    split at h
    · cases t with
      | nil => cases h
      | cons d t' =>
        simp only at h
        split at h
        · have := digs1_len h
          simp only [List.length_cons]; omega
        · have := digs1_len h
          simp only [List.length_cons] at this ⊢; omega
    · injection h with h; subst h; exact Nat.le_refl _
omit hX in
theorem num_len {l r : List Int} (h : num l = some r) : r.length ≤ l.length := by
  cases l with
  | nil => cases h
  | cons c t =>
    simp only [num] at h
    obtain ⟨m, h1, h⟩ := Option.bind_eq_some_iff.1 h
    obtain ⟨m2, h2, h3⟩ := Option.bind_eq_some_iff.1 h
    have e1 := whole_len h1
    have e2 := frac_len h2
    have e3 := expo_len h3
    split at e1
    · simp only [List.length_cons]; omega
    · omega
omit hX in
theorem word_len {w l r : List Int} (h : word w l = some r) : r.length ≤ l.length := by
  simp only [word] at h
  split at h
  · injection h with h; subst h; simp
  · cases h
omit hX in
theorem all_len : ∀ n, (∀ l r, val n l = some r → r.length ≤ l.length) ∧ (∀ l r, mems n l = some r → r.length ≤ l.length) ∧ (∀ l r, elems n l = some r → r.length ≤ l.length) := by
  intro n
  induction n with
  | zero => exact ⟨fun l r h => by simp [val] at h, fun l r h => by simp [mems] at h, fun l r h => by simp [elems] at h⟩
  | succ n ih =>
    obtain ⟨hv, hm, he⟩ := ih
    refine ⟨fun l r h => ?_, fun l r h => ?_, fun l r h => ?_⟩
    · cases l with
      | nil => simp [val] at h
      | cons c t =>
        have hw := ws_len t
        simp only [val] at h
        split at h
        · split at h
          · cases h
          · rename_i d t' hd
            rw [hd] at hw
            simp only [List.length_cons] at hw ⊢
            split at h
            · injection h with h; subst h; omega
            · have := hm _ _ h
              simp only [List.length_cons] at this; omega
        · split at h
          · split at h
            · cases h
            · rename_i d t' hd
              rw [hd] at hw
              simp only [List.length_cons] at hw ⊢
              split at h
              · injection h with h; subst h; omega
              · have := he _ _ h
                simp only [List.length_cons] at this; omega
          · split at h
            · have := str_len n t r h
              simp only [List.length_cons]; omega
            · split at h
              · exact num_len h
              · split at h
                · have := word_len h
                  simp only [List.length_cons]; omega
                · split at h
                  · have := word_len h
                    simp only [List.length_cons]; omega
                  · split at h
                    · have := word_len h
                      simp only [List.length_cons]; omega
                    · cases h
    · cases l with
      | nil => simp [mems] at h
      | cons c t =>
        simp only [mems] at h
        split at h
        · obtain ⟨l1, h1, h⟩ := Option.bind_eq_some_iff.1 h
          have e1 := str_len n t l1 h1
          have w1 := ws_len l1
          split at h
          · cases h
          · rename_i d l2 hd
            rw [hd] at w1
            simp only [List.length_cons] at w1 ⊢
            split at h
            · obtain ⟨l3, h3, h⟩ := Option.bind_eq_some_iff.1 h
              have e3 := hv _ _ h3
              have w2 := ws_len l2
              have w3 := ws_len l3
              split at h
              · cases h
              · rename_i e l4 hd4
                rw [hd4] at w3
                simp only [List.length_cons] at w3
                split at h
                · injection h with h; subst h; omega
                · split at h
                  · have := hm _ _ h
                    have w4 := ws_len l4
                    omega
                  · cases h
            · cases h
        · cases h
    · simp only [elems] at h
      obtain ⟨l3, h3, h⟩ := Option.bind_eq_some_iff.1 h
      have e3 := hv _ _ h3
      have w3 := ws_len l3
      split at h
      · cases h
      · rename_i e l4 hd4
        rw [hd4] at w3
        simp only [List.length_cons] at w3
        split at h
        · injection h with h; subst h; omega
        · split at h
          · have := he _ _ h
            have w4 := ws_len l4
            omega
          · cases h

theorem gall : ∀ n, (∀ (l : List Int) (a : Int), 2 * l.length + 1 < n → At X a l → EvP (fun k => gjson_validany.f k X a) (G X (val n (ws l)))) ∧
    (∀ (t : List Int) (a : Int), 2 * t.length + 4 < n → At X a (34 :: t) → EvP (fun k => gjson_validobject.l1 k X a) (G X (mems n (34 :: t)))) ∧
    (∀ (l : List Int) (a : Int), 2 * l.length + 2 < n → At X a l → EvP (fun k => gjson_validarray.l1 k X a) (G X (elems n (ws l)))) := by
  intro n
  induction n with
  | zero => exact ⟨fun l a h => by omega, fun l a h => by omega, fun l a h => by omega⟩
  | succ n ih =>
    obtain ⟨hP, hM, hE⟩ := ih
    refine ⟨?_, ?_, ?_⟩
    · intro l
      suffices h : ∀ a, 2 * l.length + 1 < n + 1 → At X a l → EvP (fun k => gjson_validany.l0 k X a) (G X (val (n + 1) (ws l))) by
        intro a hl ha
        refine EvP.succ ?_
        simp only [gjson_validany.f]
        exact h a hl ha
      induction l with
      | nil =>
        intro a hl ha
        have := ha.nil
        refine EvP.succ ?_
        simp only [gjson_validany.l0]
        exact EvP.neg (by omega) (EvP.ret _ rfl)
      | cons c t iht =>
        intro a hl ha
        simp only [List.length_cons] at hl
        obtain ⟨hlt, hc, ht⟩ := ha.cons
        have h0 := ha.1
        have pass : ∀ {g : Nat → Option (Int × Bool)} {o : Option (List Int)}, EvP g (G X o) → EvP (fun k => (g k).bind fun r => some (r.1, r.2)) (G X o) := by
          intro g o h
          exact EvP.bind h (fun r hr => EvP.ret _ hr)
        have hj : ∀ b : Bool, (b = true ↔ isWs c = true) → EvP (fun k => gjson_validany.j1 k X a c b) (G X (val (n + 1) (ws (c :: t)))) := by
          intro b hb
          refine EvP.succ ?_
          simp only [gjson_validany.j1]
          rw [w64 (x := a + 1) (by omega) (by omega)]
          refine EvP.ite (fun h => ?_) (fun h => ?_)
          · rw [ws_yes (hb.1 h)]
            exact iht (a + 1) (by omega) ht
          · rw [ws_not (fun h' => h (hb.2 h'))]
            have hn : ∀ b : Bool, (b = true ↔ (c = 45 ∨ isDig c = true)) → c ≠ 123 → c ≠ 91 → c ≠ 34 → EvP (fun k => gjson_validany.j2 k X a c b) (G X (val (n + 1) (c :: t))) := by
              intro b hb n1 n2 n3
              refine EvP.succ ?_
              simp only [gjson_validany.j2, val]
              rw [w64 (x := a + 1) (by omega) (by omega), if_neg n1, if_neg n2, if_neg n3]
              refine EvP.ite (fun h => ?_) (fun h => ?_)
              · rw [if_pos (hb.1 h)]
                exact pass (gnum hX ha (hb.1 h))
              · rw [if_neg (fun h' => h (hb.2 h'))]
                refine EvP.ite (fun h1 => ?_) (fun h1 => EvP.ite (fun h2 => ?_) (fun h2 => EvP.ite (fun h3 => ?_) (fun h3 => EvP.ret _ ?_)))
                · rw [if_pos h1]; exact pass (gtrue hX ht)
                · rw [if_neg h1, if_pos h2]; exact pass (gfalse hX ht)
                · rw [if_neg h1, if_neg h2, if_pos h3]; exact pass (gnull hX ht)
                · rw [if_neg h1, if_neg h2, if_neg h3]; rfl
            refine EvP.ite (fun h123 => ?_) (fun h123 => EvP.ite (fun h91 => ?_) (fun h91 => EvP.ite (fun h34 => ?_) (fun h34 => ?_)))
            · have hv : val (n + 1) (c :: t) = objOf n t := by simp only [val, objOf]; rw [if_pos h123]
              rw [hv]
              refine pass ?_
              refine EvP.succ ?_
              simp only [gjson_validobject.f]
              exact gobj0 hX n hM t (a + 1) (by omega) ht
            · have hv : val (n + 1) (c :: t) = arrOf n t := by simp only [val, arrOf]; rw [if_neg h123, if_pos h91]
              rw [hv]
              refine pass ?_
              refine EvP.succ ?_
              simp only [gjson_validarray.f]
              exact garr0 hX n hE t (a + 1) (by omega) ht
            · have hv : val (n + 1) (c :: t) = str n t := by simp only [val]; rw [if_neg h123, if_neg h91, if_pos h34]
              rw [hv]
              refine pass ?_
              unfold gjson_validstring.f
              exact gstr hX n t (a + 1) (by omega) ht
            · refine EvP.ite (fun h => hn _ (by simp [isDig, h]) h123 h91 h34) (fun q0 => ?_)
              refine EvP.ite (fun h => hn _ (by simp [isDig, h]) h123 h91 h34) (fun q1 => ?_)
              refine EvP.ite (fun h => hn _ (by simp [isDig, h]) h123 h91 h34) (fun q2 => ?_)
              refine EvP.ite (fun h => hn _ (by simp [isDig, h]) h123 h91 h34) (fun q3 => ?_)
              refine EvP.ite (fun h => hn _ (by simp [isDig, h]) h123 h91 h34) (fun q4 => ?_)
              refine EvP.ite (fun h => hn _ (by simp [isDig, h]) h123 h91 h34) (fun q5 => ?_)
              refine EvP.ite (fun h => hn _ (by simp [isDig, h]) h123 h91 h34) (fun q6 => ?_)
              refine EvP.ite (fun h => hn _ (by simp [isDig, h]) h123 h91 h34) (fun q7 => ?_)
              refine EvP.ite (fun h => hn _ (by simp [isDig, h]) h123 h91 h34) (fun q8 => ?_)
              refine EvP.ite (fun h => hn _ (by simp [isDig, h]) h123 h91 h34) (fun q9 => ?_)
              refine hn _ ?_ h123 h91 h34
              simp only [beq_iff_eq, isDig, decide_eq_true_eq]
              omega
        refine EvP.succ ?_
        simp only [gjson_validany.l0, hc]
        refine EvP.pos hlt (EvP.pos h0 ?_)
        refine EvP.ite (fun h => hj _ (by simp [isWs, h])) (fun h1 => ?_)
        refine EvP.ite (fun h => hj _ (by simp [isWs, h])) (fun h2 => ?_)
        refine EvP.ite (fun h => hj _ (by simp [isWs, h])) (fun h3 => ?_)
        exact hj _ (by simp [isWs, h1, h2, h3])
    · intro t a hl ha
      obtain ⟨hlt, hc, ht⟩ := ha.cons
      have h0 := ha.1
      refine EvP.succ ?_
      simp only [gjson_validobject.l1]
      rw [w64 (x := a + 1) (by omega) (by omega)]
      have hs : EvP (fun k => gjson_validstring.f k X (a + 1)) (G X (str n t)) := by
        unfold gjson_validstring.f
        exact gstr hX n t (a + 1) (by omega) ht
      simp only [mems, if_true]
      refine EvP.bind hs (fun r hr => ?_)
      cases hst : str n t with
      | none =>
        rw [hst] at hr
        exact EvP.neg (by rw [show r.2 = false from hr]; simp) (EvP.ret _ rfl)
      | some l1 =>
        rw [hst] at hr
        have e1 := str_len n t l1 hst
        refine EvP.pos hr.1 ?_
        simp only [Option.bind_some]
        have hcol : EvP (fun k => gjson_validcolon.f k X r.1) (G X (match ws l1 with | [] => none | d :: t => if d = 58 then some t else none)) := by
          unfold gjson_validcolon.f
          exact gcolon hX l1 r.1 hr.2
        refine EvP.bind hcol (fun r2 hr2 => ?_)
        have w1 := ws_len l1
        cases hw1 : ws l1 with
        | nil =>
          rw [hw1] at hr2
          exact EvP.neg (by rw [show r2.2 = false from hr2]; simp) (EvP.ret _ rfl)
        | cons d l2 =>
          rw [hw1] at hr2 w1
          simp only [List.length_cons] at w1
          by_cases h58 : d = 58
          · simp only [if_pos h58] at hr2
            refine EvP.pos hr2.1 ?_
            simp only [if_pos h58]
            refine EvP.bind (hP l2 r2.1 (by omega) hr2.2) (fun r3 hr3 => ?_)
            have w2 := ws_len l2
            cases hv : val n (ws l2) with
            | none =>
              rw [hv] at hr3
              exact EvP.neg (by rw [show r3.2 = false from hr3]; simp) (EvP.ret _ rfl)
            | some l3 =>
              rw [hv] at hr3
              have e3 := (all_len n).1 _ _ hv
              have w3 := ws_len l3
              refine EvP.pos hr3.1 ?_
              simp only [Option.bind_some]
              have hcom : EvP (fun k => gjson_validcomma.f k X r3.1 125) (G X (match ws l3 with | [] => none | d :: t => if d = 44 ∨ d = 125 then some (d :: t) else none)) := by
                unfold gjson_validcomma.f
                exact gcomma hX 125 l3 r3.1 hr3.2
              refine EvP.bind hcom (fun r4 hr4 => ?_)
              cases hw3 : ws l3 with
              | nil =>
                rw [hw3] at hr4
                exact EvP.neg (by rw [show r4.2 = false from hr4]; simp) (EvP.ret _ rfl)
              | cons e l4 =>
                rw [hw3] at hr4 w3
                simp only [List.length_cons] at w3
                by_cases he : e = 44 ∨ e = 125
                · simp only [if_pos he] at hr4
                  obtain ⟨g1, g2⟩ := hr4
                  obtain ⟨hlt4, hc4, ht4⟩ := g2.cons
                  have g0 := g2.1
                  refine EvP.pos g1 (EvP.pos g0 (EvP.pos hlt4 ?_))
                  rw [hc4, w64 (x := r4.1 + 1) (by omega) (by omega)]
                  refine EvP.ite (fun h125 => EvP.ret _ ?_) (fun h125 => ?_)
                  · simp only [if_pos h125]
                    exact ⟨rfl, ht4⟩
                  · simp only [if_neg h125, if_pos (he.resolve_right h125)]
                    exact gobj2 hX n hM l4 (r4.1 + 1) (by omega) ht4
                · simp only [if_neg he] at hr4
                  refine EvP.neg (by rw [show r4.2 = false from hr4]; simp) (EvP.ret _ ?_)
                  simp only [if_neg (fun h => he (.inr h)), if_neg (fun h => he (.inl h))]
                  rfl
          · simp only [if_neg h58] at hr2
            refine EvP.neg (by rw [show r2.2 = false from hr2]; simp) (EvP.ret _ ?_)
            simp only [if_neg h58]
            rfl
    · intro l a hl ha
      have h0 := ha.1
      have hlen := ha.len
      refine EvP.succ ?_
      simp only [gjson_validarray.l1]
      refine EvP.ite (fun hlt => ?_) (fun hlt => ?_)
      · simp only [elems]
        refine EvP.bind (hP l a (by omega) ha) (fun r3 hr3 => ?_)
        have w2 := ws_len l
        cases hv : val n (ws l) with
        | none =>
          rw [hv] at hr3
          exact EvP.neg (by rw [show r3.2 = false from hr3]; simp) (EvP.ret _ rfl)
        | some l3 =>
          rw [hv] at hr3
          have e3 := (all_len n).1 _ _ hv
          have w3 := ws_len l3
          refine EvP.pos hr3.1 ?_
          simp only [Option.bind_some]
          have hcom : EvP (fun k => gjson_validcomma.f k X r3.1 93) (G X (match ws l3 with | [] => none | d :: t => if d = 44 ∨ d = 93 then some (d :: t) else none)) := by
            unfold gjson_validcomma.f
            exact gcomma hX 93 l3 r3.1 hr3.2
          refine EvP.bind hcom (fun r4 hr4 => ?_)
          cases hw3 : ws l3 with
          | nil =>
            rw [hw3] at hr4
            exact EvP.neg (by rw [show r4.2 = false from hr4]; simp) (EvP.ret _ rfl)
          | cons e l4 =>
            rw [hw3] at hr4 w3
            simp only [List.length_cons] at w3
            by_cases he : e = 44 ∨ e = 93
            · simp only [if_pos he] at hr4
              obtain ⟨g1, g2⟩ := hr4
              obtain ⟨hlt4, hc4, ht4⟩ := g2.cons
              have g0 := g2.1
              refine EvP.pos g1 (EvP.pos g0 (EvP.pos hlt4 ?_))
              rw [hc4, w64 (x := r4.1 + 1) (by omega) (by omega)]
              refine EvP.ite (fun h93 => EvP.ret _ ?_) (fun h93 => ?_)
              · simp only [if_pos h93]
                exact ⟨rfl, ht4⟩
              · simp only [if_neg h93, if_pos (he.resolve_right h93)]
                exact hE l4 (r4.1 + 1) (by omega) ht4
            · simp only [if_neg he] at hr4
              refine EvP.neg (by rw [show r4.2 = false from hr4]; simp) (EvP.ret _ ?_)
              simp only [if_neg (fun h => he (.inr h)), if_neg (fun h => he (.inl h))]
              rfl
      · have hnil : l = [] := by
          apply List.eq_nil_of_length_eq_zero
          omega
        subst hnil
        rw [w64 (x := a + 1) (by omega) (by omega)]
        refine EvP.succ ?_
        simp only [gjson_validarray.l0]
        refine EvP.neg (by omega) (EvP.ret _ ?_)
        simp only [elems, ws]
        cases n with
        | zero => simp [val, G]
        | succ m => simp [val, G]

def full (n : Nat) (l : List Int) : Bool := match val n (ws l) with
  | none => false
  | some l3 => decide (ws l3 = [])

theorem gpay1 : ∀ (l : List Int) (a : Int), At X a l → EvP (fun k => gjson_validpayload.l1 k X a) (fun r => r.2 = decide (ws l = [])) := by
  intro l
  induction l with
  | nil =>
    intro a ha
    have := ha.nil
    refine EvP.succ ?_
    simp only [gjson_validpayload.l1]
    exact EvP.neg (by omega) (EvP.ret _ rfl)
  | cons c t ih =>
    intro a ha
    obtain ⟨hlt, hc, ht⟩ := ha.cons
    have h0 := ha.1
    have hy : isWs c = true → EvP (fun k => gjson_validpayload.l1 k X (a + 1)) (fun r => r.2 = decide (ws (c :: t) = [])) := by
      intro h
      rw [ws_yes h]
      exact ih (a + 1) ht
    refine EvP.succ ?_
    simp only [gjson_validpayload.l1, hc]
    rw [w64 (x := a + 1) (by omega) (by omega)]
    refine EvP.pos hlt (EvP.pos h0 ?_)
    refine EvP.ite (fun h => hy (by simp [isWs, h])) (fun h1 => ?_)
    refine EvP.ite (fun h => hy (by simp [isWs, h])) (fun h2 => ?_)
    refine EvP.ite (fun h => hy (by simp [isWs, h])) (fun h3 => ?_)
    refine EvP.ite (fun h => hy (by simp [isWs, h])) (fun h4 => EvP.ret _ ?_)
    rw [ws_not (by simp [isWs, h1, h2, h3, h4])]
    simp

theorem gpay0 (n : Nat) : ∀ (l : List Int) (a : Int), 2 * l.length + 1 < n → At X a l → EvP (fun k => gjson_validpayload.l0 k X a) (fun r => r.2 = full n l) := by
  intro l
  induction l with
  | nil =>
    intro a hl ha
    have := ha.nil
    obtain ⟨m, rfl⟩ : ∃ m, n = m + 1 := ⟨n - 1, by omega⟩
    refine EvP.succ ?_
    simp only [gjson_validpayload.l0]
    exact EvP.neg (by omega) (EvP.ret _ (by simp [full, ws, val]))
  | cons c t ih =>
    intro a hl ha
    have hl' := hl
    simp only [List.length_cons] at hl
    obtain ⟨hlt, hc, ht⟩ := ha.cons
    have h0 := ha.1
    have hj : ∀ b : Bool, (b = true ↔ isWs c = true) → EvP (fun k => gjson_validpayload.j1 k X a b) (fun r => r.2 = full n (c :: t)) := by
      intro b hb
      refine EvP.succ ?_
      simp only [gjson_validpayload.j1]
      rw [w64 (x := a + 1) (by omega) (by omega)]
      refine EvP.ite (fun h => ?_) (fun h => ?_)
      · have := ih (a + 1) (by omega) ht
        simp only [full] at this ⊢
        rw [ws_yes (hb.1 h)]
        exact this
      · refine EvP.bind ((gall hX n).1 (c :: t) a hl' ha) (fun r hr => ?_)
        simp only [full]
        cases hv : val n (ws (c :: t)) with
        | none =>
          rw [hv] at hr
          exact EvP.neg (by rw [show r.2 = false from hr]; simp) (EvP.ret _ rfl)
        | some l3 =>
          rw [hv] at hr
          exact EvP.pos hr.1 (gpay1 hX l3 r.1 hr.2)
    refine EvP.succ ?_
    simp only [gjson_validpayload.l0, hc]
    refine EvP.pos hlt (EvP.pos h0 ?_)
    refine EvP.ite (fun h => hj _ (by simp [isWs, h])) (fun h1 => ?_)
    refine EvP.ite (fun h => hj _ (by simp [isWs, h])) (fun h2 => ?_)
    refine EvP.ite (fun h => hj _ (by simp [isWs, h])) (fun h3 => ?_)
    exact hj _ (by simp [isWs, h1, h2, h3])

end

/-! ### the reference's reader does what the plain reader does -/
section
variable {s : ByteArray} (hs : s.size ≤ 2147483647)

theorem rd_bt (s : ByteArray) (i : Int) : rd (ints s) i = bt s i := (bt_getD s i).symm

theorem AtS.cons {a c : Int} {t : List Int} (h : At (ints s) a (c :: t)) : a < s.size ∧ bt s a = c ∧ At (ints s) (a + 1) t := by
  obtain ⟨h1, h2, h3⟩ := h.cons
  rw [ints_length] at h1
  rw [rd_bt] at h2
  exact ⟨h1, h2, h3⟩
theorem AtS.nil {a : Int} (h : At (ints s) a []) : a = s.size := by
  have := h.nil
  rw [ints_length] at this
  exact this
theorem AtS.le {a : Int} {l : List Int} (h : At (ints s) a l) : a ≤ s.size := by
  have := h.2.1
  rw [ints_length] at this
  exact this
theorem AtS.zero {a : Int} (h : At (ints s) a []) : bt s a = 0 := by
  have := AtS.nil h
  have h0 := h.1
  unfold bt; rw [dif_neg (by omega)]

theorem here_cons {a c : Int} {t : List Int} (h : At (ints s) a (c :: t)) : spec_reader_here.f s a = some (c, s, a) := by
  obtain ⟨h1, h2, _⟩ := AtS.cons h
  unfold spec_reader_here.f
  rw [if_pos h1, if_pos h.1, h2]
theorem here_nil {a : Int} (h : At (ints s) a []) : spec_reader_here.f s a = some (0, s, a) := by
  have := AtS.nil h
  unfold spec_reader_here.f
  rw [if_neg (by omega)]

theorem take_nil {a : Int} (c : Int) (h : At (ints s) a []) : spec_reader_take.f s a c = some (false, s, a) := by
  have := AtS.nil h
  unfold spec_reader_take.f
  rw [if_neg (by omega)]
include hs
theorem take_yes {a c d : Int} {t : List Int} (h : At (ints s) a (d :: t)) (hd : d = c) : spec_reader_take.f s a c = some (true, s, a + 1) := by
  obtain ⟨h1, h2, _⟩ := AtS.cons h
  have h0 := h.1
  unfold spec_reader_take.f
  rw [if_pos h1, if_pos h.1, if_pos (by rw [h2]; exact hd), w64 (by omega) (by omega)]
theorem take_no {a c d : Int} {t : List Int} (h : At (ints s) a (d :: t)) (hd : d ≠ c) : spec_reader_take.f s a c = some (false, s, a) := by
  obtain ⟨h1, h2, _⟩ := AtS.cons h
  have h0 := h.1
  unfold spec_reader_take.f
  rw [if_pos h1, if_pos h.1, if_neg (by rw [h2]; exact hd)]

theorem blank_eq (c : Int) : spec_Blank.f c = some (isWs c) := by
  unfold spec_Blank.f isWs
  split <;> (try split) <;> (try split) <;> congr 1 <;> first | (symm; apply decide_eq_true; omega) | (by_cases h : c = 13 <;> simp_all)

theorem rblanks : ∀ (l : List Int) (a : Int), At (ints s) a l → EvP (fun k => spec_reader_blanks.l0 k s a) (fun r => r.1 = s ∧ At (ints s) r.2 (ws l)) := by
  intro l
  induction l with
  | nil =>
    intro a ha
    have := AtS.nil ha
    refine EvP.succ ?_
    simp only [spec_reader_blanks.l0]
    exact EvP.neg (by omega) (EvP.ret _ ⟨rfl, ha⟩)
  | cons c t ih =>
    intro a ha
    obtain ⟨hlt, hc, ht⟩ := AtS.cons ha
    have h0 := ha.1
    refine EvP.succ ?_
    simp only [spec_reader_blanks.l0, hc, blank_eq hs, Option.bind_some]
    rw [w64 (x := a + 1) (by omega) (by omega)]
    refine EvP.pos hlt (EvP.pos h0 (EvP.ite (fun h => ?_) (fun h => EvP.ret _ ?_)))
    · rw [ws_yes h]; exact ih (a + 1) ht
    · rw [ws_not h]; exact ⟨rfl, ha⟩

/-- What the parts of the reference's reader answer. -/
def R3 (s : ByteArray) (o : Option (List Int)) (r : Bool × ByteArray × Int) : Prop :=
  match o with
  | some l => r.1 = true ∧ r.2.1 = s ∧ At (ints s) r.2.2 l
  | none => r.1 = false

theorem rhex (c : Int) : EvP (fun k => spec_hexDigit.f k c) (fun r => r.2 = isHex c) := by
  have hj1 : ∀ b : Bool, (b = decide (97 ≤ c ∧ c ≤ 102)) → ¬ (48 ≤ c ∧ c ≤ 57) → EvP (fun k => spec_hexDigit.j1 k c b) (fun r => r.2 = isHex c) := by
    intro b hb hn
    refine EvP.succ ?_
    simp only [spec_hexDigit.j1]
    refine EvP.ite (fun h => EvP.ret _ ?_) (fun h => EvP.ite (fun h2 => EvP.ite (fun h3 => EvP.ret _ ?_) (fun h3 => EvP.ret _ ?_)) (fun h2 => EvP.ret _ ?_))
    · rw [h] at hb; have := of_decide_eq_true hb.symm; exact (decide_eq_true (.inr (.inl this))).symm
    · exact (decide_eq_true (.inr (.inr ⟨h2, h3⟩))).symm
    · rw [Bool.not_eq_true] at h; rw [h] at hb; have := of_decide_eq_false hb.symm
      exact (decide_eq_false (by omega)).symm
    · rw [Bool.not_eq_true] at h; rw [h] at hb; have := of_decide_eq_false hb.symm
      exact (decide_eq_false (by omega)).symm
  have hj0 : ∀ b : Bool, (b = decide (48 ≤ c ∧ c ≤ 57)) → EvP (fun k => spec_hexDigit.j0 k c b) (fun r => r.2 = isHex c) := by
    intro b hb
    refine EvP.succ ?_
    simp only [spec_hexDigit.j0]
    refine EvP.ite (fun h => EvP.ret _ ?_) (fun h => ?_)
    · rw [h] at hb; have := of_decide_eq_true hb.symm; exact (decide_eq_true (.inl this)).symm
    · rw [Bool.not_eq_true] at h; rw [h] at hb; have hn := of_decide_eq_false hb.symm
      refine EvP.ite (fun h2 => hj1 _ ?_ hn) (fun h2 => hj1 _ ?_ hn)
      · rw [decide_eq_decide]; exact ⟨fun h => ⟨h2, h⟩, fun h => h.2⟩
      · exact (decide_eq_false (fun h => h2 h.1)).symm
  unfold spec_hexDigit.f
  refine EvP.ite (fun h2 => hj0 _ ?_) (fun h2 => hj0 _ ?_)
  · rw [decide_eq_decide]; exact ⟨fun h => ⟨h2, h⟩, fun h => h.2⟩
  · exact (decide_eq_false (fun h => h2 h.1)).symm

def esc (l : List Int) : Option (List Int) := match l with
  | [] => none
  | d :: t' => if isShort d = true then some t' else if d = 117 then hexs 4 t' else none

theorem rhexs : ∀ (m : Nat) (l : List Int) (a x : Int), x = 4 - m → 0 ≤ x → At (ints s) a l → EvP (fun k => spec_reader_escape.l0 k x s a) (R3 s (hexs m l)) := by
  intro m
  induction m with
  | zero =>
    intro l a x hx hx0 ha
    refine EvP.succ ?_
    simp only [spec_reader_escape.l0]
    exact EvP.neg (by omega) (EvP.ret _ ⟨rfl, rfl, ha⟩)
  | succ m ih =>
    intro l a x hx hx0 ha
    have h0 := ha.1
    have hle := AtS.le ha
    refine EvP.succ ?_
    simp only [spec_reader_escape.l0]
    refine EvP.pos (by omega) ?_
    cases l with
    | nil =>
      rw [here_nil ha]
      simp only [Option.bind_some]
      refine EvP.bind (rhex hs 0) (fun r hr => ?_)
      refine EvP.neg (by rw [hr]; decide) (EvP.ret _ rfl)
    | cons c t =>
      obtain ⟨hlt, hc, ht⟩ := AtS.cons ha
      rw [here_cons ha]
      simp only [Option.bind_some]
      refine EvP.bind (rhex hs c) (fun r hr => ?_)
      rw [w64 (x := x + 1) (by omega) (by omega), w64 (x := a + 1) (by omega) (by omega)]
      simp only [hexs]
      refine EvP.ite (fun h => ?_) (fun h => EvP.ret _ ?_)
      · rw [if_pos (hr ▸ h)]; exact ih t (a + 1) (x + 1) (by omega) (by omega) ht
      · rw [if_neg (hr ▸ h)]; rfl

theorem resc {l : List Int} {a : Int} (ha : At (ints s) a l) : EvP (fun k => spec_reader_escape.f k s a) (R3 s (esc l)) := by
  have h0 := ha.1
  have hle := AtS.le ha
  have hj : ∀ (c : Int), spec_reader_here.f s a = some (c, s, a) → (l = [] ∧ c = 0 ∨ ∃ t, l = c :: t) → ∀ b : Bool, (b = true ↔ isShort c = true) → EvP (fun k => spec_reader_escape.j0 k c b s a) (R3 s (esc l)) := by
    intro c _ hl b hb
    refine EvP.succ ?_
    simp only [spec_reader_escape.j0]
    rcases hl with ⟨rfl, rfl⟩ | ⟨t, rfl⟩
    · refine EvP.neg (fun h => by have := hb.1 h; revert this; decide) (EvP.neg (by omega) (EvP.ret _ rfl))
    · obtain ⟨hlt, hc, ht⟩ := AtS.cons ha
      rw [w64 (x := a + 1) (by omega) (by omega)]
      simp only [esc]
      refine EvP.ite (fun h => EvP.ret _ ?_) (fun h => EvP.ite (fun h2 => ?_) (fun h2 => EvP.ret _ ?_))
      · rw [if_pos (hb.1 h)]; exact ⟨rfl, rfl, ht⟩
      · rw [if_neg (fun h' => h (hb.2 h')), if_pos h2]
        exact rhexs hs 4 t (a + 1) 0 (by omega) (by omega) ht
      · rw [if_neg (fun h' => h (hb.2 h')), if_neg h2]; rfl
  obtain ⟨c, hh, hl⟩ : ∃ c, spec_reader_here.f s a = some (c, s, a) ∧ (l = [] ∧ c = 0 ∨ ∃ t, l = c :: t) := by
    cases l with
    | nil => exact ⟨0, here_nil ha, .inl ⟨rfl, rfl⟩⟩
    | cons c t => exact ⟨c, here_cons ha, .inr ⟨t, rfl⟩⟩
  have hj := hj c hh hl
  unfold spec_reader_escape.f
  rw [hh]
  simp only [Option.bind_some]
  refine EvP.ite (fun h => hj _ (by simp [isShort, h])) (fun n1 => EvP.ite (fun h => hj _ (by simp [isShort, h])) (fun n2 => EvP.ite (fun h => hj _ (by simp [isShort, h])) (fun n3 => EvP.ite (fun h => hj _ (by simp [isShort, h])) (fun n4 => EvP.ite (fun h => hj _ (by simp [isShort, h])) (fun n5 => EvP.ite (fun h => hj _ (by simp [isShort, h])) (fun n6 => EvP.ite (fun h => hj _ (by simp [isShort, h])) (fun n7 => hj _ (by simp [isShort, n1, n2, n3, n4, n5, n6, n7]))))))))

omit hs in
theorem str_cons (n : Nat) (c : Int) (t : List Int) : str (n + 1) (c :: t) = if c = 34 then some t else if c < 32 then none else if c = 92 then (esc t).bind (str n) else str n t := by
  cases t with
  | nil => rfl
  | cons d t' =>
    simp only [str, esc]
    congr 3
    split
    · rfl
    · split <;> rfl

theorem rstr : ∀ (n : Nat) (l : List Int) (a : Int), l.length < n → At (ints s) a l → EvP (fun k => spec_reader_quoted.l0 k s a) (R3 s (str n l)) := by
  intro n
  induction n with
  | zero => intro l a h; omega
  | succ n ih =>
    intro l a hl ha
    cases l with
    | nil =>
      have := AtS.nil ha
      refine EvP.succ ?_
      simp only [spec_reader_quoted.l0]
      exact EvP.neg (by omega) (EvP.ret _ rfl)
    | cons c t =>
      obtain ⟨hlt, hc, ht⟩ := AtS.cons ha
      have h0 := ha.1
      simp only [List.length_cons] at hl
      refine EvP.succ ?_
      simp only [spec_reader_quoted.l0, hc]
      rw [w64 (x := a + 1) (by omega) (by omega)]
      rw [str_cons]
      refine EvP.pos hlt (EvP.pos h0 (EvP.ite (fun h34 => EvP.ret _ ?_) (fun h34 => EvP.ite (fun h32 => EvP.ret _ ?_) (fun h32 => EvP.ite (fun h92 => ?_) (fun h92 => ?_)))))
      · rw [if_pos h34]; exact ⟨rfl, rfl, ht⟩
      · rw [if_neg h34, if_pos h32]; rfl
      · rw [if_neg h34, if_neg h32, if_pos h92]
        refine EvP.bind (resc hs ht) (fun r hr => ?_)
        cases he : esc t with
        | none =>
          rw [he] at hr
          exact EvP.neg (by rw [show r.1 = false from hr]; simp) (EvP.ret _ rfl)
        | some l' =>
          rw [he] at hr
          obtain ⟨g1, g2, g3⟩ := hr
          have hlen : l'.length ≤ t.length := by
            cases t with
            | nil => cases he
            | cons d t' =>
              simp only [esc] at he
              split at he
              · injection he with he; subst he; simp
              · split at he
                · have := hexs_len 4 t' l' he
                  simp only [List.length_cons]; omega
                · cases he
          refine EvP.pos g1 ?_
          rw [g2]
          exact ih l' r.2.2 (by omega) g3
      · rw [if_neg h34, if_neg h32, if_neg h92]
        exact ih t (a + 1) (by omega) ht

omit hs in
theorem dig_iff (c : Int) : isDig c = true ↔ 48 ≤ c ∧ c ≤ 57 := by simp [isDig]

theorem rdigs (b : Int) : ∀ (l : List Int) (a c : Int), b ≤ a → At (ints s) a l → (l = [] ∧ c = 0 ∨ ∃ t, l = c :: t) → EvP (fun k => spec_reader_digits.l0 k b c s a) (fun r => r.2.1 = s ∧ At (ints s) r.2.2 (digs l) ∧ (r.1 = true ↔ b < a ∨ ∃ c t, l = c :: t ∧ isDig c = true)) := by
  intro l
  induction l with
  | nil =>
    intro a c hba ha hc
    obtain rfl : c = 0 := by
      rcases hc with ⟨_, h⟩ | ⟨t, h⟩
      · exact h
      · cases h
    refine EvP.succ ?_
    simp only [spec_reader_digits.l0]
    refine EvP.neg (by omega) (EvP.ret _ ⟨rfl, ha, ?_⟩)
    simp
  | cons c t ih =>
    intro a c' hba ha hc'
    obtain rfl : c' = c := by
      rcases hc' with ⟨h, _⟩ | ⟨u, h⟩
      · cases h
      · injection h with h _; exact h.symm
    obtain ⟨hlt, hc, ht⟩ := AtS.cons ha
    have h0 := ha.1
    have hno : ¬ isDig c' = true → EvP (fun _ => some (decide (a > b), s, a)) (fun r => r.2.1 = s ∧ At (ints s) r.2.2 (digs (c' :: t)) ∧ (r.1 = true ↔ b < a ∨ ∃ c u, c' :: t = c :: u ∧ isDig c = true)) := by
      intro hn
      refine EvP.ret _ ⟨rfl, ?_, ?_⟩
      · simp only [digs]; rw [if_neg hn]; exact ha
      · simp only [decide_eq_true_eq]
        constructor
        · intro h; exact .inl h
        · rintro (h | ⟨c, u, h, hd⟩)
          · exact h
          · injection h with h _
            subst h
            exact absurd hd hn
    refine EvP.succ ?_
    simp only [spec_reader_digits.l0]
    rw [w64 (x := a + 1) (by omega) (by omega)]
    refine EvP.ite (fun h1 => EvP.ite (fun h2 => ?_) (fun h2 => hno (by rw [dig_iff]; omega))) (fun h1 => hno (by rw [dig_iff]; omega))
    have hd : isDig c' = true := (dig_iff c').2 ⟨h1, h2⟩
    simp only [digs, if_pos hd]
    have fin : ∀ r : Bool × ByteArray × Int, (r.2.1 = s ∧ At (ints s) r.2.2 (digs t) ∧ (r.1 = true ↔ b < a + 1 ∨ ∃ c u, t = c :: u ∧ isDig c = true)) → (r.2.1 = s ∧ At (ints s) r.2.2 (digs t) ∧ (r.1 = true ↔ b < a ∨ ∃ c u, c' :: t = c :: u ∧ isDig c = true)) := by
      rintro r ⟨g1, g2, g3⟩
      refine ⟨g1, g2, ?_⟩
      constructor
      · intro _; exact .inr ⟨c', t, rfl, hd⟩
      · intro _; exact g3.2 (.inl (by omega))
    cases t with
    | nil =>
      rw [here_nil ht]
      simp only [Option.bind_some]
      exact (ih (a + 1) 0 (by omega) ht (.inl ⟨rfl, rfl⟩)).mono fin
    | cons d u =>
      rw [here_cons ht]
      simp only [Option.bind_some]
      exact (ih (a + 1) d (by omega) ht (.inr ⟨u, rfl⟩)).mono fin

theorem rdigits {l : List Int} {a : Int} (ha : At (ints s) a l) : EvP (fun k => spec_reader_digits.f k s a) (fun r => r.2.1 = s ∧ At (ints s) r.2.2 (digs l) ∧ (r.1 = true ↔ ∃ c t, l = c :: t ∧ isDig c = true)) := by
  have fin : ∀ r : Bool × ByteArray × Int, (r.2.1 = s ∧ At (ints s) r.2.2 (digs l) ∧ (r.1 = true ↔ a < a ∨ ∃ c u, l = c :: u ∧ isDig c = true)) → (r.2.1 = s ∧ At (ints s) r.2.2 (digs l) ∧ (r.1 = true ↔ ∃ c u, l = c :: u ∧ isDig c = true)) := by
    rintro r ⟨g1, g2, g3⟩
    exact ⟨g1, g2, ⟨fun h => (g3.1 h).resolve_left (by omega), fun h => g3.2 (.inr h)⟩⟩
  unfold spec_reader_digits.f
  cases l with
  | nil =>
    rw [here_nil ha]
    simp only [Option.bind_some]
    exact (rdigs hs a [] a 0 (Int.le_refl _) ha (.inl ⟨rfl, rfl⟩)).mono fin
  | cons c t =>
    rw [here_cons ha]
    simp only [Option.bind_some]
    exact (rdigs hs a (c :: t) a c (Int.le_refl _) ha (.inr ⟨t, rfl⟩)).mono fin

omit hs in
theorem digs1_eq (l : List Int) (b : Bool) (hb : b = true ↔ ∃ c t, l = c :: t ∧ isDig c = true) : digs1 l = if b = true then some (digs l) else none := by
  cases l with
  | nil =>
    have : ¬ b = true := fun h => by obtain ⟨c, t, h, _⟩ := hb.1 h; cases h
    rw [if_neg this]; rfl
  | cons c t =>
    by_cases hd : isDig c = true
    · rw [if_pos (hb.2 ⟨c, t, rfl, hd⟩)]
      simp only [digs1, digs, if_pos hd]
    · have : ¬ b = true := fun h => by
        obtain ⟨c', t', h, h2⟩ := hb.1 h
        injection h with h _
        subst h
        exact hd h2
      rw [if_neg this]
      simp only [digs1, if_neg hd]

/-- The digits' end as an answer. -/
theorem rdig1 {l : List Int} {a : Int} (ha : At (ints s) a l) : EvP (fun k => (spec_reader_digits.f k s a).bind fun r => some (r.1, r.2.1, r.2.2)) (R3 s (digs1 l)) := by
  refine EvP.bind (rdigits hs ha) (fun r hr => EvP.ret _ ?_)
  obtain ⟨g1, g2, g3⟩ := hr
  rw [digs1_eq l r.1 g3]
  by_cases h : r.1 = true
  · rw [if_pos h]; exact ⟨h, g1, g2⟩
  · rw [if_neg h]; simpa [R3] using h

theorem rj2 {c : Int} {t : List Int} {a : Int} (hc : c = 101 ∨ c = 69) (ht : At (ints s) a t) : EvP (fun k => spec_reader_number.j2 k true s a) (R3 s (expo (c :: t))) := by
  refine EvP.succ ?_
  simp only [spec_reader_number.j2, expo, if_true, if_pos hc]
  cases t with
  | nil =>
    rw [take_nil 43 ht]
    simp only [Option.bind_some, Bool.false_eq_true, if_false]
    rw [take_nil 45 ht]
    simp only [Option.bind_some]
    exact (rdig1 hs ht)
  | cons d u =>
    obtain ⟨hlt, hd, hu⟩ := AtS.cons ht
    by_cases h43 : d = 43
    · rw [take_yes hs ht h43]
      simp only [Option.bind_some, if_true]
      rw [if_pos (.inl h43)]
      exact rdig1 hs hu
    · rw [take_no hs ht h43]
      simp only [Option.bind_some, Bool.false_eq_true, if_false]
      by_cases h45 : d = 45
      · rw [take_yes hs ht h45]
        simp only [Option.bind_some]
        rw [if_pos (.inr h45)]
        exact rdig1 hs hu
      · rw [take_no hs ht h45]
        simp only [Option.bind_some]
        rw [if_neg (fun h => h.elim h43 h45)]
        exact rdig1 hs ht

theorem rj1 {l : List Int} {a : Int} (ha : At (ints s) a l) : EvP (fun k => spec_reader_number.j1 k false s a) (R3 s (expo l)) := by
  refine EvP.succ ?_
  simp only [spec_reader_number.j1, Bool.false_eq_true, if_false]
  cases l with
  | nil =>
    rw [take_nil 101 ha]
    simp only [Option.bind_some, Bool.false_eq_true, if_false]
    rw [take_nil 69 ha]
    simp only [Option.bind_some]
    refine EvP.succ ?_
    simp only [spec_reader_number.j2, Bool.false_eq_true, if_false]
    exact EvP.ret _ ⟨rfl, rfl, ha⟩
  | cons c t =>
    obtain ⟨hlt, hc, ht⟩ := AtS.cons ha
    by_cases h1 : c = 101
    · rw [take_yes hs ha h1]
      simp only [Option.bind_some, if_true]
      exact rj2 hs (.inl h1) ht
    · rw [take_no hs ha h1]
      simp only [Option.bind_some, Bool.false_eq_true, if_false]
      by_cases h2 : c = 69
      · rw [take_yes hs ha h2]
        simp only [Option.bind_some]
        exact rj2 hs (.inr h2) ht
      · rw [take_no hs ha h2]
        simp only [Option.bind_some]
        refine EvP.succ ?_
        simp only [spec_reader_number.j2, Bool.false_eq_true, if_false, expo]
        rw [if_neg (fun h => h.elim h1 h2)]
        exact EvP.ret _ ⟨rfl, rfl, ha⟩

theorem rbad1 (a : Int) (s' : ByteArray) (o : Option (List Int)) (ho : o = none) : EvP (fun k => spec_reader_number.j1 k true s' a) (R3 s o) := by
  refine EvP.succ ?_
  simp only [spec_reader_number.j1, if_true]
  subst ho
  exact EvP.ret _ rfl

theorem rj0 {l : List Int} {a : Int} (ha : At (ints s) a l) : EvP (fun k => spec_reader_number.j0 k false s a) (R3 s ((frac l).bind expo)) := by
  refine EvP.succ ?_
  simp only [spec_reader_number.j0, Bool.false_eq_true, if_false]
  cases l with
  | nil =>
    rw [take_nil 46 ha]
    simp only [Option.bind_some, Bool.false_eq_true, if_false]
    exact rj1 hs ha
  | cons c t =>
    obtain ⟨hlt, hc, ht⟩ := AtS.cons ha
    by_cases h1 : c = 46
    · rw [take_yes hs ha h1]
      simp only [Option.bind_some, if_true, frac, if_pos h1]
      refine EvP.bind (rdigits hs ht) (fun r hr => ?_)
      obtain ⟨g1, g2, g3⟩ := hr
      rw [digs1_eq t r.1 g3]
      by_cases h : r.1 = true
      · rw [if_pos h, h, g1]
        simp only [Option.bind_some, Bool.not_true]
        exact rj1 hs g2
      · rw [if_neg h]
        have h' : r.1 = false := by simpa using h
        rw [h']
        exact rbad1 hs _ _ _ rfl
    · rw [take_no hs ha h1]
      simp only [Option.bind_some, Bool.false_eq_true, if_false, frac, if_neg h1]
      exact rj1 hs ha

theorem rwhole {l : List Int} {a : Int} (ha : At (ints s) a l) : EvP (fun k => (spec_reader_take.f s a 48).bind fun bt122 => (if bt122.1 = true then (spec_reader_number.j0 k false bt122.2.1 bt122.2.2) else ((spec_reader_digits.f k bt122.2.1 bt122.2.2).bind fun bt125 => (spec_reader_number.j0 k (!bt125.1) bt125.2.1 bt125.2.2)))) (R3 s ((whole l).bind fun l => (frac l).bind expo)) := by
  have hw : ¬ (∃ t, l = 48 :: t) → whole l = digs1 l := by
    intro hn
    cases l with
    | nil => rfl
    | cons c t =>
      simp only [whole, digs1]
      rw [if_neg (fun h => hn ⟨t, by rw [h]⟩)]
  have rest : ¬ (∃ t, l = 48 :: t) → EvP (fun k => (spec_reader_digits.f k s a).bind fun bt125 => (spec_reader_number.j0 k (!bt125.1) bt125.2.1 bt125.2.2)) (R3 s ((whole l).bind fun l => (frac l).bind expo)) := by
    intro hn
    rw [hw hn]
    refine EvP.bind (rdigits hs ha) (fun r hr => ?_)
    obtain ⟨g1, g2, g3⟩ := hr
    rw [digs1_eq l r.1 g3]
    by_cases h : r.1 = true
    · rw [if_pos h, h, g1]
      simp only [Option.bind_some, Bool.not_true]
      exact rj0 hs g2
    · rw [if_neg h]
      have h' : r.1 = false := by simpa using h
      rw [h']
      refine EvP.succ ?_
      simp only [spec_reader_number.j0, Bool.not_false, if_true]
      exact EvP.ret _ rfl
  cases l with
  | nil =>
    rw [take_nil 48 ha]
    simp only [Option.bind_some, Bool.false_eq_true, if_false]
    exact rest (by rintro ⟨t, h⟩; cases h)
  | cons c t =>
    obtain ⟨hlt, hc, ht⟩ := AtS.cons ha
    by_cases h1 : c = 48
    · rw [take_yes hs ha h1]
      simp only [Option.bind_some, if_true, whole, if_pos h1]
      exact rj0 hs ht
    · rw [take_no hs ha h1]
      simp only [Option.bind_some, Bool.false_eq_true, if_false]
      exact rest (by rintro ⟨t, h⟩; injection h with h _; exact h1 h)

theorem rnum {c : Int} {t : List Int} {a : Int} (ha : At (ints s) a (c :: t)) : EvP (fun k => spec_reader_number.f k s a) (R3 s (num (c :: t))) := by
  obtain ⟨hlt, hc, ht⟩ := AtS.cons ha
  unfold spec_reader_number.f
  by_cases h1 : c = 45
  · rw [take_yes hs ha h1]
    simp only [Option.bind_some, num, if_pos h1]
    exact rwhole hs ht
  · rw [take_no hs ha h1]
    simp only [Option.bind_some, num, if_neg h1]
    exact rwhole hs ha

theorem rword {l : List Int} {a : Int} (w : ByteArray) (hw : w.size ≤ 100) (ha : At (ints s) a l) : spec_reader_word.f s a w = some (decide (l.take w.size = ints w), s, if l.take w.size = ints w then a + w.size else a) ∧ (l.take w.size = ints w → At (ints s) (a + w.size) (l.drop w.size)) := by
  have h0 := ha.1
  have h1 := AtS.le ha
  have hlen := ha.len
  rw [ints_length] at hlen
  unfold spec_reader_word.f
  rw [w64 (by omega) (by omega), w64 (by omega) (by omega)]
  refine ⟨?_, fun h => ?_⟩
  · by_cases h2 : (s.size : Int) - a < w.size
    · have hne : ¬ l.take w.size = ints w := by
        intro h
        have := congrArg List.length h
        rw [List.length_take, ints_length] at this
        omega
      rw [if_pos h2, if_neg hne, decide_eq_false hne]
    · rw [if_neg h2, if_pos h0, if_pos (by omega), if_pos (by omega)]
      have he : ints (s.extract a.toNat (a + w.size).toNat) = l.take w.size := by
        rw [ints_extract, ha.2.2]; congr 1; omega
      by_cases h3 : l.take w.size = ints w
      · rw [if_pos (by rw [toList_eq_iff, he]; exact h3), if_pos h3, decide_eq_true h3]
      · rw [if_neg (by rw [toList_eq_iff, he]; exact h3), if_neg h3, decide_eq_false h3]
  · have hl := congrArg List.length h
    rw [List.length_take, ints_length] at hl
    refine ⟨by omega, by rw [ints_length]; omega, ?_⟩
    rw [show (a + w.size).toNat = a.toNat + w.size by omega, ← List.drop_drop, ha.2.2]

def RV (s : ByteArray) (o : Option (List Int)) (r : Int × Int × Int × List S43 × List S25 × Bool × ByteArray × Int) : Prop :=
  match o with
  | some l => r.2.2.2.2.2.1 = true ∧ r.2.2.2.2.2.2.1 = s ∧ At (ints s) r.2.2.2.2.2.2.2 l
  | none => r.2.2.2.2.2.1 = false
def RM (s : ByteArray) (o : Option (List Int)) (r : List S43 × List S25 × Bool × ByteArray × Int) : Prop :=
  match o with
  | some l => r.2.2.1 = true ∧ r.2.2.2.1 = s ∧ At (ints s) r.2.2.2.2 l
  | none => r.2.2.1 = false
def RE (s : ByteArray) (o : Option (List Int)) (r : List S25 × Bool × ByteArray × Int) : Prop :=
  match o with
  | some l => r.2.1 = true ∧ r.2.2.1 = s ∧ At (ints s) r.2.2.2 l
  | none => r.2.1 = false

def scal (l : List Int) : Option (List Int) := match l with
  | [] => none
  | c :: t => if c = 45 ∨ isDig c = true then num (c :: t)
    else if c = 116 then word [114, 117, 101] t
    else if c = 102 then word [97, 108, 115, 101] t
    else if c = 110 then word [117, 108, 108] t
    else none

omit hs in
theorem take_word {c w0 : Int} {t w : List Int} : ((c :: t).take (w.length + 1) = w0 :: w) ↔ (c = w0 ∧ t.take w.length = w) := by
  rw [List.take_succ_cons]
  constructor
  · intro h; injection h with h1 h2; exact ⟨h1, h2⟩
  · rintro ⟨rfl, h⟩; rw [h]

theorem rscal {l : List Int} {a : Int} (ha : At (ints s) a l) (b : Bool) (hb : b = true ↔ ∃ c t, l = c :: t ∧ (c = 45 ∨ isDig c = true)) : EvP (fun k => spec_reader_value.j0 k true b s a 0 a 0) (RV s (scal l)) := by
  refine EvP.succ ?_
  simp only [spec_reader_value.j0]
  refine EvP.ite (fun h => ?_) (fun h => ?_)
  · obtain ⟨c, t, rfl, hc⟩ := hb.1 h
    simp only [scal, if_pos hc]
    refine EvP.bind (rnum hs ha) (fun r hr => EvP.ret _ ?_)
    cases hn : num (c :: t) with
    | none => rw [hn] at hr; exact hr
    | some l' => rw [hn] at hr; exact hr
  · obtain ⟨wn, wn2⟩ := rword hs (⟨#[110, 117, 108, 108]⟩ : ByteArray) (by decide) ha
    obtain ⟨wf, wf2⟩ := rword hs (⟨#[102, 97, 108, 115, 101]⟩ : ByteArray) (by decide) ha
    obtain ⟨wt, wt2⟩ := rword hs (⟨#[116, 114, 117, 101]⟩ : ByteArray) (by decide) ha
    rw [show ints (⟨#[110, 117, 108, 108]⟩ : ByteArray) = [110, 117, 108, 108] from rfl, show (⟨#[110, 117, 108, 108]⟩ : ByteArray).size = 4 from rfl] at wn wn2
    rw [show ints (⟨#[102, 97, 108, 115, 101]⟩ : ByteArray) = [102, 97, 108, 115, 101] from rfl, show (⟨#[102, 97, 108, 115, 101]⟩ : ByteArray).size = 5 from rfl] at wf wf2
    rw [show ints (⟨#[116, 114, 117, 101]⟩ : ByteArray) = [116, 114, 117, 101] from rfl, show (⟨#[116, 114, 117, 101]⟩ : ByteArray).size = 4 from rfl] at wt wt2
    rw [wn]
    simp only [Option.bind_some]
    have hsc : ∀ c t, l = c :: t → scal l = if c = 116 then word [114, 117, 101] t else if c = 102 then word [97, 108, 115, 101] t else if c = 110 then word [117, 108, 108] t else none := by
      rintro c t rfl
      simp only [scal]
      rw [if_neg (fun h' => h (hb.2 ⟨c, t, rfl, h'⟩))]
    refine EvP.ite (fun h1 => EvP.ret _ ?_) (fun h1 => ?_)
    · have h1' := of_decide_eq_true h1
      cases l with
      | nil => simp at h1'
      | cons c t =>
        obtain ⟨rfl, h2⟩ := (take_word (w := [117, 108, 108])).1 h1'
        rw [hsc _ t rfl]
        rw [if_neg (by omega), if_neg (by omega), if_pos rfl, show word [117, 108, 108] t = some (t.drop 3) from by unfold word; rw [if_pos h2]; rfl]
        refine ⟨rfl, rfl, ?_⟩
        rw [if_pos h1']
        exact wn2 h1'
    · have h1' : ¬ l.take 4 = [110, 117, 108, 108] := fun e => h1 (decide_eq_true e)
      rw [if_neg h1', wf]
      simp only [Option.bind_some]
      refine EvP.ite (fun h2 => EvP.ret _ ?_) (fun h2 => ?_)
      · have h2' := of_decide_eq_true h2
        cases l with
        | nil => simp at h2'
        | cons c t =>
          obtain ⟨rfl, h3⟩ := (take_word (w := [97, 108, 115, 101])).1 h2'
          rw [hsc _ t rfl]
          rw [if_neg (by omega), if_pos rfl, show word [97, 108, 115, 101] t = some (t.drop 4) from by unfold word; rw [if_pos h3]; rfl]
          refine ⟨rfl, rfl, ?_⟩
          rw [if_pos h2']
          exact wf2 h2'
      · have h2' : ¬ l.take 5 = [102, 97, 108, 115, 101] := fun e => h2 (decide_eq_true e)
        rw [if_neg h2', wt]
        simp only [Option.bind_some]
        refine EvP.ite (fun h3 => EvP.ret _ ?_) (fun h3 => EvP.ret _ ?_)
        · have h3' := of_decide_eq_true h3
          cases l with
          | nil => simp at h3'
          | cons c t =>
            obtain ⟨rfl, h4⟩ := (take_word (w := [114, 117, 101])).1 h3'
            rw [hsc _ t rfl]
            rw [if_pos rfl, show word [114, 117, 101] t = some (t.drop 3) from by unfold word; rw [if_pos h4]; rfl]
            refine ⟨rfl, rfl, ?_⟩
            rw [if_pos h3']
            exact wt2 h3'
        · have h3' : ¬ l.take 4 = [116, 114, 117, 101] := fun e => h3 (decide_eq_true e)
          have hnone : scal l = none := by
            cases l with
            | nil => rfl
            | cons c t =>
              rw [hsc c t rfl]
              unfold word
              by_cases e1 : c = 116
              · rw [if_pos e1, if_neg (fun e => h3' ((take_word (w := [114, 117, 101])).2 ⟨e1, e⟩))]
              · rw [if_neg e1]
                by_cases e2 : c = 102
                · rw [if_pos e2, if_neg (fun e => h2' ((take_word (w := [97, 108, 115, 101])).2 ⟨e2, e⟩))]
                · rw [if_neg e2]
                  by_cases e3 : c = 110
                  · rw [if_pos e3, if_neg (fun e => h1' ((take_word (w := [117, 108, 108])).2 ⟨e3, e⟩))]
                  · rw [if_neg e3]
          rw [hnone]
          rfl

theorem rblanks_f {l : List Int} {a : Int} (ha : At (ints s) a l) : EvP (fun k => spec_reader_blanks.f k s a) (fun r => r.1 = s ∧ At (ints s) r.2 (ws l)) := rblanks hs l a ha

theorem rall : ∀ n, (∀ (l : List Int) (a : Int), 2 * l.length + 1 < n → At (ints s) a l → EvP (fun k => spec_reader_value.f k s a) (RV s (val n l))) ∧
    (∀ (l : List Int) (a : Int) (x5 : List S43) (x6 : List S25), 2 * l.length + 2 < n → At (ints s) a l → x5.length ≤ a → x6.length ≤ a → EvP (fun k => spec_reader_members.l0 k x5 x6 s a) (RM s (mems n l))) ∧
    (∀ (l : List Int) (a : Int) (x4 : List S25), 2 * l.length + 2 < n → At (ints s) a l → x4.length ≤ a → EvP (fun k => spec_reader_elements.l0 k x4 s a) (RE s (elems n l))) := by
  intro n
  induction n with
  | zero => exact ⟨fun l a h => by omega, fun l a x5 x6 h => by omega, fun l a x4 h => by omega⟩
  | succ n ih =>
    obtain ⟨hV, hM, hE⟩ := ih
    refine ⟨?_, ?_, ?_⟩
    · intro l a hl ha
      cases l with
      | nil =>
        refine EvP.succ ?_
        simp only [spec_reader_value.f]
        rw [here_nil ha]
        simp only [Option.bind_some]
        refine EvP.neg (by omega) (EvP.neg (by omega) (EvP.neg (by omega) (EvP.neg (by omega) (EvP.neg (by omega) ?_))))
        have := rscal hs ha false (by simp)
        simpa [scal, val] using this
      | cons c t =>
        obtain ⟨hlt, hc, ht⟩ := AtS.cons ha
        have h0 := ha.1
        have hlen := ht.len
        rw [ints_length] at hlen
        simp only [List.length_cons] at hl
        have hsc : c ≠ 123 → c ≠ 91 → c ≠ 34 → val (n + 1) (c :: t) = scal (c :: t) := by
          intro h1 h2 h3
          simp only [val, scal]
          rw [if_neg h1, if_neg h2, if_neg h3]
        refine EvP.succ ?_
        simp only [spec_reader_value.f]
        rw [here_cons ha]
        simp only [Option.bind_some]
        refine EvP.ite (fun h1 => ?_) (fun h1 => EvP.ite (fun h2 => ?_) (fun h2 => EvP.ite (fun h3 => ?_) (fun h3 => ?_)))
        · have hv : val (n + 1) (c :: t) = objOf n t := by simp only [val, objOf]; rw [if_pos h1]
          rw [hv]
          have hmem : EvP (fun k => spec_reader_members.f k s a) (RM s (objOf n t)) := by
            refine EvP.succ ?_
            simp only [spec_reader_members.f]
            rw [w64 (x := a + 1) (by omega) (by omega)]
            refine EvP.bind (rblanks_f hs ht) (fun r hr => ?_)
            obtain ⟨g1, g2⟩ := hr
            rw [g1]
            have wl := ws_len t
            have hlen2 := g2.len
            rw [ints_length] at hlen2
            simp only [objOf]
            cases hw : ws t with
            | nil =>
              rw [hw] at g2
              rw [take_nil 125 g2]
              simp only [Option.bind_some, Bool.false_eq_true, if_false]
              have := hM [] r.2 [] [] (by simp only [List.length_nil]; omega) g2 (by simpa using g2.1) (by simpa using g2.1)
              cases n with
              | zero => omega
              | succ m => simpa [mems] using this
            | cons d u =>
              rw [hw] at g2 wl
              simp only [List.length_cons] at wl
              obtain ⟨_, _, hu⟩ := AtS.cons g2
              by_cases hd : d = 125
              · rw [take_yes hs g2 hd]
                simp only [Option.bind_some, if_true, if_pos hd]
                exact EvP.ret _ ⟨rfl, rfl, hu⟩
              · rw [take_no hs g2 hd]
                simp only [Option.bind_some, Bool.false_eq_true, if_false, if_neg hd]
                exact hM (d :: u) r.2 [] [] (by simp only [List.length_cons]; omega) g2 (by simpa using g2.1) (by simpa using g2.1)
          refine EvP.bind hmem (fun r hr => EvP.ret _ ?_)
          cases ho : objOf n t with
          | none => rw [ho] at hr; exact hr
          | some l' => rw [ho] at hr; exact hr
        · have hv : val (n + 1) (c :: t) = arrOf n t := by simp only [val, arrOf]; rw [if_neg h1, if_pos h2]
          rw [hv]
          have hel : EvP (fun k => spec_reader_elements.f k s a) (RE s (arrOf n t)) := by
            refine EvP.succ ?_
            simp only [spec_reader_elements.f]
            rw [w64 (x := a + 1) (by omega) (by omega)]
            refine EvP.bind (rblanks_f hs ht) (fun r hr => ?_)
            obtain ⟨g1, g2⟩ := hr
            rw [g1]
            have wl := ws_len t
            simp only [arrOf]
            cases hw : ws t with
            | nil =>
              rw [hw] at g2
              rw [take_nil 93 g2]
              simp only [Option.bind_some, Bool.false_eq_true, if_false]
              have := hE [] r.2 [] (by simp only [List.length_nil]; omega) g2 (by simpa using g2.1)
              have hen : elems n [] = none := by
                cases n with
                | zero => rfl
                | succ m => cases m <;> simp [elems, val]
              rw [hen] at this
              exact this
            | cons d u =>
              rw [hw] at g2 wl
              simp only [List.length_cons] at wl
              obtain ⟨_, _, hu⟩ := AtS.cons g2
              by_cases hd : d = 93
              · rw [take_yes hs g2 hd]
                simp only [Option.bind_some, if_true, if_pos hd]
                exact EvP.ret _ ⟨rfl, rfl, hu⟩
              · rw [take_no hs g2 hd]
                simp only [Option.bind_some, Bool.false_eq_true, if_false, if_neg hd]
                exact hE (d :: u) r.2 [] (by simp only [List.length_cons]; omega) g2 (by simpa using g2.1)
          refine EvP.bind hel (fun r hr => EvP.ret _ ?_)
          cases ho : arrOf n t with
          | none => rw [ho] at hr; exact hr
          | some l' => rw [ho] at hr; exact hr
        · have hv : val (n + 1) (c :: t) = str n t := by simp only [val]; rw [if_neg h1, if_neg h2, if_pos h3]
          rw [hv]
          have hq : EvP (fun k => spec_reader_quoted.f k s a) (R3 s (str n t)) := by
            unfold spec_reader_quoted.f
            rw [w64 (x := a + 1) (by omega) (by omega)]
            exact rstr hs n t (a + 1) (by omega) ht
          refine EvP.bind hq (fun r hr => EvP.ret _ ?_)
          cases ho : str n t with
          | none => rw [ho] at hr; exact hr
          | some l' => rw [ho] at hr; exact hr
        · rw [hsc h1 h2 h3]
          refine EvP.ite (fun h4 => rscal hs ha true ?_) (fun h4 => EvP.ite (fun h5 => rscal hs ha _ ?_) (fun h5 => rscal hs ha false ?_))
          · simp only [true_iff]; exact ⟨c, t, rfl, .inl h4⟩
          · simp only [decide_eq_true_eq]
            constructor
            · intro h; exact ⟨c, t, rfl, .inr ((dig_iff c).2 ⟨h5, h⟩)⟩
            · rintro ⟨c', t', h, hh⟩
              injection h with h _
              subst h
              rcases hh with hh | hh
              · exact absurd hh h4
              · exact ((dig_iff c).1 hh).2
          · simp only [Bool.false_eq_true, false_iff]
            rintro ⟨c', t', h, hh⟩
            injection h with h _
            subst h
            rcases hh with hh | hh
            · exact h4 hh
            · exact h5 ((dig_iff c).1 hh).1
    · intro l a x5 x6 hl ha hx5 hx6
      have h0 := ha.1
      have hle := AtS.le ha
      have fail : ∀ (b : Int) (s' : ByteArray), EvP (fun k => spec_reader_members.j1 k x5 x6 a true s' b) (fun r => r.2.2.1 = false) := by
        intro b s'
        refine EvP.succ ?_
        simp only [spec_reader_members.j1, if_true]
        exact EvP.ret _ rfl
      refine EvP.succ ?_
      simp only [spec_reader_members.l0]
      cases l with
      | nil =>
        rw [here_nil ha]
        simp only [Option.bind_some]
        refine EvP.neg (by omega) ?_
        simp only [mems]
        exact fail a s
      | cons c t =>
        obtain ⟨hlt, hc, ht⟩ := AtS.cons ha
        have hlen := ht.len
        rw [ints_length] at hlen
        simp only [List.length_cons] at hl
        rw [here_cons ha]
        simp only [Option.bind_some, mems]
        refine EvP.ite (fun h34 => ?_) (fun h34 => ?_)
        · rw [if_pos h34]
          have hq : EvP (fun k => spec_reader_quoted.f k s a) (R3 s (str n t)) := by
            unfold spec_reader_quoted.f
            rw [w64 (x := a + 1) (by omega) (by omega)]
            exact rstr hs n t (a + 1) (by omega) ht
          refine EvP.bind hq (fun r hr => ?_)
          cases hst : str n t with
          | none =>
            rw [hst] at hr
            rw [show r.1 = false from hr]
            exact fail _ _
          | some l1 =>
            rw [hst] at hr
            obtain ⟨q1, q2, q3⟩ := hr
            have e1 := str_len n t l1 hst
            have hlen1 := q3.len
            rw [ints_length] at hlen1
            rw [q1, q2]
            simp only [Option.bind_some, Bool.not_true]
            refine EvP.succ ?_
            simp only [spec_reader_members.j1, Bool.false_eq_true, if_false]
            refine EvP.pos (by omega) ?_
            simp only [Option.bind_some]
            refine EvP.bind (rblanks_f hs q3) (fun r1 hr1 => ?_)
            obtain ⟨g1, g2⟩ := hr1
            rw [g1]
            have w1 := ws_len l1
            cases hw1 : ws l1 with
            | nil =>
              rw [hw1] at g2
              rw [take_nil 58 g2]
              simp only [Option.bind_some, Bool.false_eq_true, if_false]
              exact EvP.ret _ rfl
            | cons d l2 =>
              rw [hw1] at g2 w1
              simp only [List.length_cons] at w1
              obtain ⟨_, _, hl2⟩ := AtS.cons g2
              by_cases h58 : d = 58
              · rw [take_yes hs g2 h58]
                simp only [Option.bind_some, if_true, if_pos h58]
                refine EvP.bind (rblanks_f hs hl2) (fun r2 hr2 => ?_)
                obtain ⟨k1, k2⟩ := hr2
                rw [k1]
                have w2 := ws_len l2
                refine EvP.bind (hV (ws l2) r2.2 (by omega) k2) (fun r3 hr3 => ?_)
                cases hv : val n (ws l2) with
                | none =>
                  rw [hv] at hr3
                  exact EvP.neg (by rw [show r3.2.2.2.2.2.1 = false from hr3]; simp) (EvP.ret _ rfl)
                | some l3 =>
                  rw [hv] at hr3
                  obtain ⟨m1, m2, m3⟩ := hr3
                  have e3 := (all_len n).1 _ _ hv
                  have w3 := ws_len l3
                  refine EvP.pos m1 (EvP.pos (by omega) ?_)
                  simp only [Option.bind_some]
                  rw [m2]
                  refine EvP.bind (rblanks_f hs m3) (fun r4 hr4 => ?_)
                  obtain ⟨p1, p2⟩ := hr4
                  rw [p1]
                  cases hw3 : ws l3 with
                  | nil =>
                    rw [hw3] at p2
                    rw [take_nil 125 p2]
                    simp only [Option.bind_some, Bool.false_eq_true, if_false]
                    rw [take_nil 44 p2]
                    simp only [Option.bind_some, Bool.false_eq_true, if_false]
                    exact EvP.ret _ rfl
                  | cons e l4 =>
                    rw [hw3] at p2 w3
                    simp only [List.length_cons] at w3
                    obtain ⟨_, _, hl4⟩ := AtS.cons p2
                    by_cases h125 : e = 125
                    · rw [take_yes hs p2 h125]
                      simp only [Option.bind_some, if_true, if_pos h125]
                      exact EvP.ret _ ⟨rfl, rfl, hl4⟩
                    · rw [take_no hs p2 h125]
                      simp only [Option.bind_some, Bool.false_eq_true, if_false, if_neg h125]
                      by_cases h44 : e = 44
                      · rw [take_yes hs p2 h44]
                        simp only [Option.bind_some, if_true, if_pos h44]
                        refine EvP.bind (rblanks_f hs hl4) (fun r5 hr5 => ?_)
                        obtain ⟨z1, z2⟩ := hr5
                        rw [z1]
                        have w4 := ws_len l4
                        have hlen5 := z2.len
                        rw [ints_length] at hlen5
                        exact hM (ws l4) r5.2 _ _ (by omega) z2 (by simp only [List.length_append, List.length_cons, List.length_nil]; omega) (by simp only [List.length_append, List.length_cons, List.length_nil]; omega)
                      · rw [take_no hs p2 h44]
                        simp only [Option.bind_some, Bool.false_eq_true, if_false, if_neg h44]
                        exact EvP.ret _ rfl
              · rw [take_no hs g2 h58]
                simp only [Option.bind_some, Bool.false_eq_true, if_false, if_neg h58]
                exact EvP.ret _ rfl
        · rw [if_neg h34]
          exact fail a s
    · intro l a x4 hl ha hx4
      have h0 := ha.1
      have hle := AtS.le ha
      have hlen := ha.len
      rw [ints_length] at hlen
      refine EvP.succ ?_
      simp only [spec_reader_elements.l0, elems]
      refine EvP.bind (hV l a (by omega) ha) (fun r3 hr3 => ?_)
      cases hv : val n l with
      | none =>
        rw [hv] at hr3
        exact EvP.neg (by rw [show r3.2.2.2.2.2.1 = false from hr3]; simp) (EvP.ret _ rfl)
      | some l3 =>
        rw [hv] at hr3
        obtain ⟨m1, m2, m3⟩ := hr3
        have e3 := (all_len n).1 _ _ hv
        have w3 := ws_len l3
        refine EvP.pos m1 (EvP.pos (by omega) ?_)
        simp only [Option.bind_some]
        rw [m2]
        refine EvP.bind (rblanks_f hs m3) (fun r4 hr4 => ?_)
        obtain ⟨p1, p2⟩ := hr4
        rw [p1]
        cases hw3 : ws l3 with
        | nil =>
          rw [hw3] at p2
          rw [take_nil 93 p2]
          simp only [Option.bind_some, Bool.false_eq_true, if_false]
          rw [take_nil 44 p2]
          simp only [Option.bind_some, Bool.false_eq_true, if_false]
          exact EvP.ret _ rfl
        | cons e l4 =>
          rw [hw3] at p2 w3
          simp only [List.length_cons] at w3
          obtain ⟨_, _, hl4⟩ := AtS.cons p2
          by_cases h93 : e = 93
          · rw [take_yes hs p2 h93]
            simp only [Option.bind_some, if_true, if_pos h93]
            exact EvP.ret _ ⟨rfl, rfl, hl4⟩
          · rw [take_no hs p2 h93]
            simp only [Option.bind_some, Bool.false_eq_true, if_false, if_neg h93]
            by_cases h44 : e = 44
            · rw [take_yes hs p2 h44]
              simp only [Option.bind_some, if_true, if_pos h44]
              refine EvP.bind (rblanks_f hs hl4) (fun r5 hr5 => ?_)
              obtain ⟨z1, z2⟩ := hr5
              rw [z1]
              have w4 := ws_len l4
              have hlen5 := z2.len
              rw [ints_length] at hlen5
              exact hE (ws l4) r5.2 _ (by omega) z2 (by simp only [List.length_append, List.length_cons, List.length_nil]; omega)
            · rw [take_no hs p2 h44]
              simp only [Option.bind_some, Bool.false_eq_true, if_false, if_neg h44]
              exact EvP.ret _ rfl

theorem rplaces (n : Nat) (hn : 2 * s.size + 1 < n) : EvP (fun k => spec_Places.f k s) (fun r => r.2.2.2.2.2 = full n (ints s)) := by
  have ha : At (ints s) 0 (ints s) := ⟨by omega, by omega, by simp⟩
  unfold spec_Places.f
  refine EvP.bind (rblanks_f hs ha) (fun r1 hr1 => ?_)
  obtain ⟨g1, g2⟩ := hr1
  rw [g1]
  have w1 := ws_len (ints s)
  rw [ints_length] at w1
  refine EvP.bind ((rall hs n).1 (ws (ints s)) r1.2 (by omega) g2) (fun r2 hr2 => ?_)
  simp only [full]
  cases hv : val n (ws (ints s)) with
  | none =>
    rw [hv] at hr2
    exact EvP.neg (by rw [show r2.2.2.2.2.2.1 = false from hr2]; simp) (EvP.ret _ rfl)
  | some l3 =>
    rw [hv] at hr2
    obtain ⟨m1, m2, m3⟩ := hr2
    refine EvP.pos m1 ?_
    rw [m2]
    refine EvP.bind (rblanks_f hs m3) (fun r3 hr3 => ?_)
    obtain ⟨p1, p2⟩ := hr3
    have hlen := p2.len
    rw [ints_length] at hlen
    refine EvP.ite (fun h => EvP.ret _ ?_) (fun h => EvP.ret _ ?_)
    · have : ws l3 = [] := List.eq_nil_of_length_eq_zero (by omega)
      simp [this]
    · have : ws l3 ≠ [] := fun e => h (by rw [e] at hlen; simpa using hlen)
      simp [this]
end
end IfV
open IfV

theorem FnGjIfValid : laws_FnGjIfValid.Pure := by
  intro s _
  apply EvP.told
  unfold laws_FnGjIfValid.f
  refine EvP.ite (fun _ => EvP.ret _ rfl) (fun h1 => EvP.ite (fun _ => EvP.ret _ rfl) (fun h2 => ?_))
  have hs : s.size ≤ 2147483647 := by omega
  obtain ⟨n, hn⟩ : ∃ n, n = 2 * s.size + 2 := ⟨_, rfl⟩
  have himpl : EvP (fun k => impl_GjIfValid.f k s) (fun r => r = if full n (ints s) = true then s else (⟨#[]⟩ : ByteArray)) := by
    unfold impl_GjIfValid.f gjson_DoorIfValid.f gjson_modValid.f gjson_Valid.f gjson_stringBytes.f
    rw [if_pos (by omega)]
    simp only [Option.bind_some]
    have hX : (bytesOf s).length ≤ 2147483647 := by rw [bytesOf_ints, ints_length]; omega
    have hp : EvP (fun k => gjson_validpayload.f k (bytesOf s) 0) (fun r => r.2 = full n (ints s)) := by
      unfold gjson_validpayload.f
      exact gpay0 hX n (ints s) 0 (by rw [ints_length]; omega) ⟨by omega, by omega, by rw [bytesOf_ints]; rfl⟩
    refine EvP.bind (EvP.bind (EvP.bind (EvP.bind hp (fun r hr => EvP.ret (P := fun b => b = full n (ints s)) _ hr)) (fun b hb => ?_)) (fun r hr => EvP.ret (P := fun r => r = if full n (ints s) = true then s else (⟨#[]⟩ : ByteArray)) _ hr)) (fun r hr => EvP.ret _ hr)
    subst hb
    refine EvP.ite (fun h => EvP.ret _ ?_) (fun h => EvP.ret _ ?_)
    · rw [if_pos h]
    · rw [if_neg h]
  refine EvP.bind (rplaces hs n (by omega)) (fun r hr => ?_)
  refine EvP.ite (fun h => EvP.bind himpl (fun q hq => EvP.ret _ ?_)) (fun h => EvP.bind himpl (fun q hq => EvP.ret _ ?_))
  · rw [hq, if_pos (hr ▸ h)]
    exact beq_toList_self s
  · rw [hq, if_neg (hr ▸ h), beq_iff_eq]
    exact (toList_nil _).2 rfl
end Go.Proofs.Ytmbengbkeelpaaa.Pure

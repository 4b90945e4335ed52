/- A plain reader of JSON texts as lists of bytes, with the tree that it reads; a tree's text without blanks, read to the same tree. -/
namespace Go.Proofs.YtkhgbacbnkgafaaDoor.JTr
set_option linter.unusedVariables false

/-! ### the plain reader -/
def isWs (c : Int) : Bool := decide (c = 32 ∨ c = 9 ∨ c = 10 ∨ c = 13)
def isDig (c : Int) : Bool := decide (48 ≤ c ∧ c ≤ 57)
def isHex (c : Int) : Bool := decide ((48 ≤ c ∧ c ≤ 57) ∨ (97 ≤ c ∧ c ≤ 102) ∨ (65 ≤ c ∧ c ≤ 70))
def isShort (c : Int) : Bool := decide (c = 34 ∨ c = 92 ∨ c = 47 ∨ c = 98 ∨ c = 102 ∨ c = 110 ∨ c = 114 ∨ c = 116)
def ws : List Int → List Int
  | [] => []
  | c :: t => if isWs c = true then ws t else c :: t
def hexs : Nat → List Int → Option (List Int)
  | 0, l => some l
  | _ + 1, [] => none
  | n + 1, c :: t => if isHex c = true then hexs n t else none
def str : Nat → List Int → Option (List Int)
  | 0, _ => none
  | _ + 1, [] => none
  | n + 1, c :: t => if c = 34 then some t else if c < 32 then none else if c = 92 then (match t with
      | [] => none
      | d :: t' => if isShort d = true then str n t' else if d = 117 then (hexs 4 t').bind (str n) else none) else str n t
def digs : List Int → List Int
  | [] => []
  | c :: t => if isDig c = true then digs t else c :: t
def digs1 : List Int → Option (List Int)
  | [] => none
  | c :: t => if isDig c = true then some (digs t) else none
def whole : List Int → Option (List Int)
  | [] => none
  | c :: t => if c = 48 then some t else if isDig c = true then some (digs t) else none
def frac : List Int → Option (List Int)
  | [] => some []
  | c :: t => if c = 46 then digs1 t else some (c :: t)
def expo : List Int → Option (List Int)
  | [] => some []
  | c :: t => if c = 101 ∨ c = 69 then (match t with
      | [] => none
      | d :: t' => if d = 43 ∨ d = 45 then digs1 t' else digs1 (d :: t')) else some (c :: t)
def num : List Int → Option (List Int)
  | [] => none
  | c :: t => (whole (if c = 45 then t else c :: t)).bind fun l => (frac l).bind expo
def word (w l : List Int) : Option (List Int) := if l.take w.length = w then some (l.drop w.length) else none

/-- What is read of l where r is left (k bytes at the end not counted). -/
def upto (l r : List Int) (k : Nat) : List Int := l.take (l.length - r.length - k)

inductive JT where
  | obj (ks : List (List Int)) (vs : List JT)
  | arr (vs : List JT)
  | num (s : List Int)
  | str (s : List Int)
  | lit (t : Int)

mutual
def tval : Nat → List Int → Option (JT × List Int)
  | 0, _ => none
  | _ + 1, [] => none
  | n + 1, c :: t =>
    if c = 123 then (match ws t with
      | [] => none
      | d :: t' => if d = 125 then some (.obj [] [], t') else (tmems n (d :: t')).map fun r => (.obj r.1 r.2.1, r.2.2))
    else if c = 91 then (match ws t with
      | [] => none
      | d :: t' => if d = 93 then some (.arr [], t') else (telems n (d :: t')).map fun r => (.arr r.1, r.2))
    else if c = 34 then (str n t).map fun r => (.str (upto t r 1), r)
    else if c = 45 ∨ isDig c = true then (num (c :: t)).map fun r => (.num (upto (c :: t) r 0), r)
    else if c = 116 then (word [114, 117, 101] t).map fun r => (.lit 5, r)
    else if c = 102 then (word [97, 108, 115, 101] t).map fun r => (.lit 6, r)
    else if c = 110 then (word [117, 108, 108] t).map fun r => (.lit 0, r)
    else none
def tmems : Nat → List Int → Option (List (List Int) × List JT × List Int)
  | 0, _ => none
  | _ + 1, [] => none
  | n + 1, c :: t => if c = 34 then (str n t).bind fun l1 => (match ws l1 with
      | [] => none
      | d :: l2 => if d = 58 then (tval n (ws l2)).bind fun r3 => (match ws r3.2 with
          | [] => none
          | e :: l4 => if e = 125 then some ([upto t l1 1], [r3.1], l4) else if e = 44 then (tmems n (ws l4)).map fun q => (upto t l1 1 :: q.1, r3.1 :: q.2.1, q.2.2) else none)
        else none)
    else none
def telems : Nat → List Int → Option (List JT × List Int)
  | 0, _ => none
  | n + 1, l => (tval n l).bind fun r3 => (match ws r3.2 with
      | [] => none
      | e :: l4 => if e = 93 then some ([r3.1], l4) else if e = 44 then (telems n (ws l4)).map fun q => (r3.1 :: q.1, q.2) else none)
end

/-! ### a tree's text -/
mutual
def packL : JT → List Int
  | .obj ks vs => 123 :: packM ks vs
  | .arr vs => 91 :: packE vs
  | .num s => s
  | .str s => 34 :: (s ++ [34])
  | .lit t => if t = 5 then [116, 114, 117, 101] else if t = 6 then [102, 97, 108, 115, 101] else [110, 117, 108, 108]
def packE : List JT → List Int
  | [] => [93]
  | v :: vs => packL v ++ (if vs.isEmpty then [93] else 44 :: packE vs)
def packM : List (List Int) → List JT → List Int
  | [], _ => [125]
  | _ :: _, [] => [125]
  | k :: ks, v :: vs => 34 :: (k ++ 34 :: 58 :: (packL v ++ (if vs.isEmpty then [125] else 44 :: packM ks vs)))
end

mutual
def dep : JT → Nat
  | .obj _ vs => depL vs + 1
  | .arr vs => depL vs + 1
  | .num _ => 0
  | .str _ => 0
  | .lit _ => 0
def depL : List JT → Nat
  | [] => 0
  | v :: vs => max (dep v) (depL vs)
end

/-! ### what is left is shorter; what was read stands ahead of it -/
theorem ws_len : ∀ l, (ws l).length ≤ l.length
  | [] => Nat.le_refl _
  | c :: t => by
    have := ws_len t
    simp only [ws]
    split
    · simp only [List.length_cons]; omega
    · exact Nat.le_refl _
theorem ws_idem : ∀ l, ws (ws l) = ws l
  | [] => rfl
  | c :: t => by
    simp only [ws]
    split
    · exact ws_idem t
    · rename_i h
      simp only [ws, if_neg h]
theorem ws_cons_not {c : Int} {t : List Int} (h : ¬ isWs c = true) : ws (c :: t) = c :: t := by simp only [ws, if_neg h]
theorem ws_head {l t : List Int} {c : Int} (h : ws l = c :: t) : ¬ isWs c = true := by
  induction l with
  | nil => cases h
  | cons d u ih =>
    simp only [ws] at h
    split at h
    · exact ih h
    · rename_i hd
      injection h with h1 h2
      subst h1
      exact hd

/-- A byte that no number goes on with. -/
def Stop (l : List Int) : Prop := ∀ c t, l = c :: t → isDig c = false ∧ c ≠ 46 ∧ c ≠ 101 ∧ c ≠ 69
def NoDig (l : List Int) : Prop := ∀ c t, l = c :: t → isDig c = false

theorem digs_app : ∀ d : List Int, (∀ c ∈ d, isDig c = true) → ∀ r, NoDig r → digs (d ++ r) = r
  | [], _, [], _ => rfl
  | [], _, c :: t, h => by
    simp only [List.nil_append, digs]
    rw [if_neg (by rw [h c t rfl]; simp)]
  | c :: d, hd, r, h => by
    simp only [List.cons_append, digs]
    rw [if_pos (hd c List.mem_cons_self)]
    exact digs_app d (fun x hx => hd x (List.mem_cons_of_mem _ hx)) r h
theorem digs_split : ∀ l : List Int, ∃ d, l = d ++ digs l ∧ (∀ c ∈ d, isDig c = true) ∧ NoDig (digs l)
  | [] => ⟨[], rfl, fun c hc => absurd hc List.not_mem_nil, fun c t h => by cases h⟩
  | c :: t => by
    simp only [digs]
    split
    · rename_i h
      obtain ⟨d, h1, h2, h3⟩ := digs_split t
      refine ⟨c :: d, by rw [List.cons_append, ← h1], fun x hx => ?_, h3⟩
      rcases List.mem_cons.1 hx with rfl | hx
      · exact h
      · exact h2 x hx
    · rename_i h
      refine ⟨[], rfl, fun c hc => absurd hc List.not_mem_nil, fun x u e => ?_⟩
      injection e with e1 e2
      subst e1
      simpa using h

theorem digs1_split {l r : List Int} (h : digs1 l = some r) : ∃ d, l = d ++ r ∧ d ≠ [] ∧ (∀ c ∈ d, isDig c = true) ∧ ∀ r', NoDig r' → digs1 (d ++ r') = some r' := by
  cases l with
  | nil => cases h
  | cons c t =>
    simp only [digs1] at h
    split at h
    · rename_i hc
      injection h with h
      obtain ⟨d, h1, h2, h3⟩ := digs_split t
      rw [h] at h1
      refine ⟨c :: d, by rw [List.cons_append, ← h1], by simp, fun x hx => ?_, fun r' hr => ?_⟩
      · rcases List.mem_cons.1 hx with rfl | hx
        · exact hc
        · exact h2 x hx
      · simp only [List.cons_append, digs1]
        rw [if_pos hc, digs_app d h2 r' hr]
    · cases h

theorem whole_split {l r : List Int} (h : whole l = some r) : ∃ d, l = d ++ r ∧ d ≠ [] ∧ (∀ c ∈ d, isDig c = true) ∧ ∀ r', NoDig r' → whole (d ++ r') = some r' := by
  cases l with
  | nil => cases h
  | cons c t =>
    simp only [whole] at h
    split at h
    · rename_i hc
      injection h with h
      subst h
      refine ⟨[c], rfl, by simp, fun x hx => ?_, fun r' hr => ?_⟩
      · rcases List.mem_cons.1 hx with rfl | hx
        · simp [isDig, hc]
        · exact absurd hx List.not_mem_nil
      · simp only [List.cons_append, List.nil_append, whole, if_pos hc]
    · rename_i h48
      split at h
      · rename_i hc
        injection h with h
        obtain ⟨d, h1, h2, h3⟩ := digs_split t
        rw [h] at h1
        refine ⟨c :: d, by rw [List.cons_append, ← h1], by simp, fun x hx => ?_, fun r' hr => ?_⟩
        · rcases List.mem_cons.1 hx with rfl | hx
          · exact hc
          · exact h2 x hx
        · simp only [List.cons_append, whole, if_neg h48]
          rw [if_pos hc, digs_app d h2 r' hr]
      · cases h

/-- A byte of a number. -/
def isNum (c : Int) : Bool := isDig c || decide (c = 46 ∨ c = 45 ∨ c = 101 ∨ c = 69 ∨ c = 43)
theorem isNum_dig {c : Int} (h : isDig c = true) : isNum c = true := by simp [isNum, h]
def NoDot (l : List Int) : Prop := ∀ c t, l = c :: t → c ≠ 46
def NoExp (l : List Int) : Prop := ∀ c t, l = c :: t → c ≠ 101 ∧ c ≠ 69

theorem frac_split {l r : List Int} (h : frac l = some r) : ∃ d, l = d ++ r ∧ (∀ c ∈ d, isNum c = true) ∧ (∀ r', NoDig r' → NoDot r' → frac (d ++ r') = some r') ∧ (∀ r', NoDig r' → NoDig (d ++ r')) := by
  cases l with
  | nil =>
    simp only [frac, Option.some.injEq] at h
    subst h
    refine ⟨[], rfl, fun c hc => absurd hc List.not_mem_nil, fun r' h1 h2 => ?_, fun r' h => h⟩
    cases r' with
    | nil => rfl
    | cons c t => simp only [List.nil_append, frac, if_neg (h2 c t rfl)]
  | cons c t =>
    simp only [frac] at h
    split at h
    · rename_i hc
      obtain ⟨d, h1, h0, h2, h3⟩ := digs1_split h
      refine ⟨c :: d, by rw [List.cons_append, ← h1], fun x hx => ?_, fun r' hr _ => ?_, fun r' _ x u e => ?_⟩
      · rcases List.mem_cons.1 hx with rfl | hx
        · simp [isNum, hc]
        · exact isNum_dig (h2 x hx)
      · simp only [List.cons_append, frac, if_pos hc]
        exact h3 r' hr
      · simp only [List.cons_append] at e
        injection e with e1 e2
        subst e1
        simp [isDig, hc]
    · rename_i hc
      injection h with h
      subst h
      refine ⟨[], rfl, fun c hc => absurd hc List.not_mem_nil, fun r' h1 h2 => ?_, fun r' h => h⟩
      cases r' with
      | nil => rfl
      | cons c t => simp only [List.nil_append, frac, if_neg (h2 c t rfl)]

theorem expo_split {l r : List Int} (h : expo l = some r) : ∃ d, l = d ++ r ∧ (∀ c ∈ d, isNum c = true) ∧ (∀ r', NoDig r' → NoExp r' → expo (d ++ r') = some r') ∧ (∀ r', NoDig r' → NoDig (d ++ r')) ∧ (∀ r', NoDot r' → NoDot (d ++ r')) := by
  have nil : ∃ d, r = d ++ r ∧ (∀ c ∈ d, isNum c = true) ∧ (∀ r', NoDig r' → NoExp r' → expo (d ++ r') = some r') ∧ (∀ r', NoDig r' → NoDig (d ++ r')) ∧ (∀ r', NoDot r' → NoDot (d ++ r')) := by
    refine ⟨[], rfl, fun c hc => absurd hc List.not_mem_nil, fun r' h1 h2 => ?_, fun r' h => h, fun r' h => h⟩
    cases r' with
    | nil => rfl
    | cons c t =>
      have := h2 c t rfl
      simp only [List.nil_append, expo]
      rw [if_neg (by omega)]
  cases l with
  | nil =>
    simp only [expo, Option.some.injEq] at h
    subst h
    exact nil
  | cons c t =>
    simp only [expo] at h
    split at h
    · rename_i hc
      cases t with
      | nil => cases h
      | cons e u =>
        simp only at h
        split at h
        · rename_i he
          obtain ⟨d, h1, h0, h2, h3⟩ := digs1_split h
          refine ⟨c :: e :: d, by rw [List.cons_append, List.cons_append, ← h1], fun x hx => ?_, fun r' hr _ => ?_, fun r' _ x u e => ?_, fun r' _ x u e => ?_⟩
          · rcases List.mem_cons.1 hx with rfl | hx
            · simp [isNum]; omega
            · rcases List.mem_cons.1 hx with rfl | hx
              · simp [isNum]; omega
              · exact isNum_dig (h2 x hx)
          · simp only [List.cons_append, expo, if_pos hc, if_pos he]
            exact h3 r' hr
          · simp only [List.cons_append] at e
            injection e with e1 e2
            subst e1
            simp [isDig]; omega
          · simp only [List.cons_append] at e
            injection e with e1 e2
            omega
        · rename_i he
          obtain ⟨d, h1, h0, h2, h3⟩ := digs1_split h
          refine ⟨c :: d, by rw [List.cons_append, ← h1], fun x hx => ?_, fun r' hr _ => ?_, fun r' _ x u e => ?_, fun r' _ x u e => ?_⟩
          · rcases List.mem_cons.1 hx with rfl | hx
            · simp [isNum]; omega
            · exact isNum_dig (h2 x hx)
          · simp only [List.cons_append, expo, if_pos hc]
            cases d with
            | nil => exact absurd rfl h0
            | cons d1 d2 =>
              have e1 : d1 = e := by
                rw [List.cons_append] at h1
                injection h1 with h1 _
                exact h1.symm
              subst e1
              simp only [List.cons_append, if_neg he]
              exact h3 r' hr
          · simp only [List.cons_append] at e
            injection e with e1 e2
            subst e1
            simp [isDig]; omega
          · simp only [List.cons_append] at e
            injection e with e1 e2
            omega
    · injection h with h
      subst h
      exact nil

theorem Stop.parts {l : List Int} (h : Stop l) : NoDig l ∧ NoDot l ∧ NoExp l :=
  ⟨fun c t e => (h c t e).1, fun c t e => (h c t e).2.1, fun c t e => (h c t e).2.2⟩

theorem num_split {l r : List Int} (h : num l = some r) : ∃ d, l = d ++ r ∧ (∀ c ∈ d, isNum c = true) ∧ (∃ c u, d = c :: u ∧ (c = 45 ∨ isDig c = true)) ∧ ∀ r', Stop r' → num (d ++ r') = some r' := by
  cases l with
  | nil => cases h
  | cons c t =>
    simp only [num] at h
    obtain ⟨l1, hw, h⟩ := Option.bind_eq_some_iff.1 h
    obtain ⟨l2, hf, he⟩ := Option.bind_eq_some_iff.1 h
    obtain ⟨d1, a1, b1, c1, e1⟩ := whole_split hw
    obtain ⟨d2, a2, c2, e2, g2⟩ := frac_split hf
    obtain ⟨d3, a3, c3, e3, g3, k3⟩ := expo_split he
    have hall : ∀ x ∈ d1 ++ (d2 ++ d3), isNum x = true := by
      intro x hx
      rcases List.mem_append.1 hx with hx | hx
      · exact isNum_dig (c1 x hx)
      · rcases List.mem_append.1 hx with hx | hx
        · exact c2 x hx
        · exact c3 x hx
    have hrun : ∀ r', Stop r' → (whole (d1 ++ (d2 ++ d3) ++ r')).bind (fun l => (frac l).bind expo) = some r' := by
      intro r' hr
      obtain ⟨s1, s2, s3⟩ := hr.parts
      rw [List.append_assoc, List.append_assoc, e1 _ (g2 _ (g3 _ s1)), Option.bind_some, e2 _ (g3 _ s1) (k3 _ s2), Option.bind_some, e3 _ s1 s3]
    by_cases h45 : c = 45
    · rw [if_pos h45] at a1
      refine ⟨c :: (d1 ++ (d2 ++ d3)), by rw [List.cons_append, List.append_assoc, List.append_assoc, ← a3, ← a2, ← a1], fun x hx => ?_, ⟨c, _, rfl, .inl h45⟩, fun r' hr => ?_⟩
      · rcases List.mem_cons.1 hx with rfl | hx
        · simp [isNum, h45]
        · exact hall x hx
      · simp only [List.cons_append, num, if_pos h45]
        exact hrun r' hr
    · rw [if_neg h45] at a1
      cases d1 with
      | nil => exact absurd rfl b1
      | cons y d1 =>
        have hy : isDig y = true := c1 y List.mem_cons_self
        refine ⟨y :: d1 ++ (d2 ++ d3), by rw [List.append_assoc, List.append_assoc, ← a3, ← a2, ← a1], hall, ⟨y, _, rfl, .inr hy⟩, fun r' hr => ?_⟩
        have h45' : ¬ y = 45 := fun e => by subst e; simp [isDig] at hy
        have := hrun r' hr
        simp only [List.cons_append] at this ⊢
        simp only [num, if_neg h45']
        exact this

theorem hexs_split : ∀ (n : Nat) {l r : List Int}, hexs n l = some r → ∃ d, l = d ++ r ∧ d.length = n ∧ (∀ c ∈ d, isHex c = true) ∧ ∀ r', hexs n (d ++ r') = some r'
  | 0, l, r, h => by
    simp only [hexs, Option.some.injEq] at h
    subst h
    exact ⟨[], rfl, rfl, fun c hc => absurd hc List.not_mem_nil, fun r' => rfl⟩
  | n + 1, [], r, h => by cases h
  | n + 1, c :: t, r, h => by
    simp only [hexs] at h
    split at h
    · rename_i hc
      obtain ⟨d, h1, h2, h3, h4⟩ := hexs_split n h
      refine ⟨c :: d, by rw [List.cons_append, ← h1], by simp [h2], fun x hx => ?_, fun r' => ?_⟩
      · rcases List.mem_cons.1 hx with rfl | hx
        · exact hc
        · exact h3 x hx
      · simp only [List.cons_append, hexs, if_pos hc, h4]
    · cases h

/-- The inside of a string: escapes whole, no mark but behind a backslash. -/
inductive Ins : List Int → Prop
  | nil : Ins []
  | plain {c : Int} {t : List Int} (h1 : c ≠ 34) (h2 : c ≠ 92) (h3 : 32 ≤ c) (ht : Ins t) : Ins (c :: t)
  | short {c : Int} {t : List Int} (h : isShort c = true) (ht : Ins t) : Ins (92 :: c :: t)
  | uni {d t : List Int} (hl : d.length = 4) (hd : ∀ c ∈ d, isHex c = true) (ht : Ins t) : Ins (92 :: 117 :: (d ++ t))

theorem str_split : ∀ (n : Nat) {l r : List Int}, str n l = some r → ∃ d, l = d ++ 34 :: r ∧ Ins d ∧ ∀ r', str n (d ++ 34 :: r') = some r'
  | 0, l, r, h => by cases h
  | n + 1, [], r, h => by cases h
  | n + 1, c :: t, r, h => by
    simp only [str] at h
    split at h
    · rename_i hc
      injection h with h
      subst h
      subst hc
      exact ⟨[], rfl, .nil, fun r' => by simp [str]⟩
    · rename_i h34
      split at h
      · cases h
      · rename_i h32
        split at h
        · rename_i h92
          subst h92
          cases t with
          | nil => cases h
          | cons e u =>
            simp only at h
            split at h
            · rename_i he
              obtain ⟨d, h1, h2, h3⟩ := str_split n h
              refine ⟨92 :: e :: d, by rw [h1]; rfl, .short he h2, fun r' => ?_⟩
              simp only [List.cons_append, str, if_neg h34, if_neg h32, if_true, if_pos he]
              exact h3 r'
            · rename_i he
              split at h
              · rename_i h117
                obtain ⟨m, hm, hr⟩ := Option.bind_eq_some_iff.1 h
                obtain ⟨x, x1, x2, x3, x4⟩ := hexs_split 4 hm
                obtain ⟨d, h1, h2, h3⟩ := str_split n hr
                subst h117
                refine ⟨92 :: 117 :: (x ++ d), by rw [x1, h1]; simp, .uni x2 x3 h2, fun r' => ?_⟩
                simp only [List.cons_append, List.append_assoc, str, if_neg h34, if_neg h32, if_true, if_neg he, x4, Option.bind_some]
                exact h3 r'
              · cases h
        · rename_i h92
          obtain ⟨d, h1, h2, h3⟩ := str_split n h
          refine ⟨c :: d, by rw [List.cons_append, ← h1], .plain h34 h92 (by omega) h2, fun r' => ?_⟩
          simp only [List.cons_append, str, if_neg h34, if_neg h32, if_neg h92]
          exact h3 r'

theorem upto_app (d r : List Int) : upto (d ++ r) r 0 = d := by
  unfold upto
  rw [List.length_append, show d.length + r.length - r.length - 0 = d.length by omega, List.take_left]
theorem upto_app1 (d r : List Int) (x : Int) : upto (d ++ x :: r) r 1 = d := by
  unfold upto
  rw [List.length_append, List.length_cons, show d.length + (r.length + 1) - r.length - 1 = d.length by omega, List.take_left]

theorem word_split {w l r : List Int} (h : word w l = some r) : l = w ++ r ∧ ∀ r', word w (w ++ r') = some r' := by
  unfold word at h ⊢
  split at h
  · rename_i hw
    injection h with h
    refine ⟨?_, fun r' => ?_⟩
    · rw [← h]
      conv => lhs; rw [← List.take_append_drop w.length l, hw]
    · rw [List.take_left, List.drop_left, if_pos rfl]
  · cases h

/-- What begins a value is no blank. -/
theorem tval_head {n : Nat} {l : List Int} {x : JT × List Int} (h : tval n l = some x) : ws l = l := by
  cases n with
  | zero => simp [tval] at h
  | succ n =>
    cases l with
    | nil => rfl
    | cons c t =>
      refine ws_cons_not (fun hw => ?_)
      have hc : c = 32 ∨ c = 9 ∨ c = 10 ∨ c = 13 := by simpa [isWs] using hw
      have hd : ¬ (c = 45 ∨ isDig c = true) := by simp [isDig]; omega
      simp only [tval] at h
      rw [if_neg (by omega), if_neg (by omega), if_neg (by omega), if_neg hd, if_neg (by omega), if_neg (by omega), if_neg (by omega)] at h
      cases h

theorem stop_of {c : Int} {t : List Int} (h : c = 125 ∨ c = 93 ∨ c = 44) : Stop (c :: t) := by
  intro x u e
  injection e with e1 e2
  subst e1
  refine ⟨by simp [isDig]; omega, by omega, by omega, by omega⟩
theorem stop_nil : Stop [] := fun c t e => by cases e

/-- A tree that was read, packed, is read again; it's no longer than the text was. -/
theorem pack_all : ∀ n, (∀ l t r, tval n l = some (t, r) → (packL t).length + r.length ≤ l.length ∧ ∀ r', Stop r' → tval n (packL t ++ r') = some (t, r')) ∧
    (∀ l ks vs r, tmems n l = some (ks, vs, r) → vs.isEmpty = false ∧ (packM ks vs).length + r.length ≤ l.length ∧ ∀ r', tmems n (packM ks vs ++ r') = some (ks, vs, r')) ∧
    (∀ l vs r, telems n l = some (vs, r) → vs.isEmpty = false ∧ (packE vs).length + r.length ≤ l.length ∧ ∀ r', telems n (packE vs ++ r') = some (vs, r')) := by
  intro n
  induction n with
  | zero => exact ⟨fun l t r h => by simp [tval] at h, fun l ks vs r h => by simp [tmems] at h, fun l vs r h => by simp [telems] at h⟩
  | succ n ih =>
    obtain ⟨hV, hM, hE⟩ := ih
    refine ⟨?_, ?_, ?_⟩
    · intro l t r h
      cases l with
      | nil => simp [tval] at h
      | cons c u =>
        have hwl := ws_len u
        simp only [tval] at h
        split at h
        · rename_i hc
          subst hc
          cases hw : ws u with
          | nil => rw [hw] at h; cases h
          | cons d u' =>
            rw [hw] at h hwl
            simp only [List.length_cons] at hwl
            simp only at h
            split at h
            · rename_i hd
              subst hd
              simp only [Option.some.injEq, Prod.mk.injEq] at h
              obtain ⟨rfl, rfl⟩ := h
              refine ⟨by simp only [packL, packM, List.length_cons, List.length_nil]; omega, fun r' _ => ?_⟩
              simp [packL, packM, tval, ws, isWs]
            · rename_i hd
              obtain ⟨⟨ks, vs, r2⟩, hq, he⟩ := Option.map_eq_some_iff.1 h
              simp only [Prod.mk.injEq] at he
              obtain ⟨rfl, rfl⟩ := he
              obtain ⟨h0, h1, h2⟩ := hM _ _ _ _ hq
              refine ⟨by simp only [packL, List.length_cons] at h1 ⊢; omega, fun r' _ => ?_⟩
              have hm := h2 r'
              simp only [packL, List.cons_append, tval, if_true]
              have hk : ∃ t2, packM ks vs ++ r' = 34 :: t2 := by
                cases n with
                | zero => simp [tmems] at hm
                | succ n =>
                  cases hp : packM ks vs ++ r' with
                  | nil => rw [hp] at hm; simp [tmems] at hm
                  | cons x y =>
                    rw [hp] at hm
                    simp only [tmems] at hm
                    split at hm
                    · rename_i hx; exact ⟨y, by rw [hx]⟩
                    · cases hm
              obtain ⟨t2, ht2⟩ := hk
              rw [ht2] at hm ⊢
              rw [ws_cons_not (by simp [isWs])]
              simp only [show ¬ ((34 : Int) = 125) by omega, if_false, hm, Option.map_some]
        · rename_i h123
          split at h
          · rename_i hc
            subst hc
            cases hw : ws u with
            | nil => rw [hw] at h; cases h
            | cons d u' =>
              rw [hw] at h hwl
              simp only [List.length_cons] at hwl
              simp only at h
              split at h
              · rename_i hd
                subst hd
                simp only [Option.some.injEq, Prod.mk.injEq] at h
                obtain ⟨rfl, rfl⟩ := h
                refine ⟨by simp only [packL, packE, List.length_cons, List.length_nil]; omega, fun r' _ => ?_⟩
                simp [packL, packE, tval, ws, isWs]
              · rename_i hd
                obtain ⟨⟨vs, r2⟩, hq, he⟩ := Option.map_eq_some_iff.1 h
                simp only [Prod.mk.injEq] at he
                obtain ⟨rfl, rfl⟩ := he
                obtain ⟨h0, h1, h2⟩ := hE _ _ _ hq
                refine ⟨by simp only [packL, List.length_cons] at h1 ⊢; omega, fun r' _ => ?_⟩
                have hm := h2 r'
                simp only [packL, List.cons_append, tval, show ¬ ((91 : Int) = 123) by omega, if_false, if_true]
                have hk : ws (packE vs ++ r') = packE vs ++ r' ∧ ∃ x t2, packE vs ++ r' = x :: t2 ∧ x ≠ 93 := by
                  cases n with
                  | zero => simp [telems] at hm
                  | succ n =>
                    simp only [telems] at hm
                    obtain ⟨r3, hr3, _⟩ := Option.bind_eq_some_iff.1 hm
                    refine ⟨tval_head hr3, ?_⟩
                    cases n with
                    | zero => simp [tval] at hr3
                    | succ n =>
                      cases hp : packE vs ++ r' with
                      | nil => rw [hp] at hr3; simp [tval] at hr3
                      | cons x y =>
                        refine ⟨x, y, rfl, fun e => ?_⟩
                        rw [hp, e] at hr3
                        simp [tval, isDig] at hr3
                obtain ⟨k1, x, t2, k2, k3⟩ := hk
                rw [k1]
                rw [k2] at hm ⊢
                simp only [if_neg k3, hm, Option.map_some]
          · rename_i h91
            split at h
            · rename_i hc
              subst hc
              obtain ⟨r2, hq, he⟩ := Option.map_eq_some_iff.1 h
              simp only [Prod.mk.injEq] at he
              obtain ⟨rfl, rfl⟩ := he
              obtain ⟨d, h1, h2, h3⟩ := str_split n hq
              rw [h1, upto_app1]
              refine ⟨by simp only [packL, List.length_cons, List.length_append, List.length_nil]; omega, fun r' _ => ?_⟩
              simp only [packL, List.cons_append, List.append_assoc, List.nil_append, tval, if_neg h123, if_neg h91, if_true, h3 r', Option.map_some, upto_app1]
            · rename_i h34
              split at h
              · rename_i hc
                obtain ⟨r2, hq, he⟩ := Option.map_eq_some_iff.1 h
                simp only [Prod.mk.injEq] at he
                obtain ⟨rfl, rfl⟩ := he
                obtain ⟨d, h1, h2, ⟨y, z, hy, hyd⟩, h3⟩ := num_split hq
                rw [h1, upto_app]
                refine ⟨by simp only [packL, List.length_append]; omega, fun r' hr => ?_⟩
                have h3' := h3 r' hr
                simp only [packL]
                subst hy
                simp only [List.cons_append] at h3' ⊢
                have g : y ≠ 123 ∧ y ≠ 91 ∧ y ≠ 34 := by
                  simp [isDig] at hyd
                  omega
                have e4 : upto (y :: (z ++ r')) r' 0 = y :: z := upto_app (y :: z) r'
                simp only [tval, if_neg g.1, if_neg g.2.1, if_neg g.2.2, if_pos hyd, h3', Option.map_some, e4]
              · rename_i hnd
                split at h
                · rename_i hc
                  subst hc
                  obtain ⟨r2, hq, he⟩ := Option.map_eq_some_iff.1 h
                  simp only [Prod.mk.injEq] at he
                  obtain ⟨rfl, rfl⟩ := he
                  obtain ⟨h1, h2⟩ := word_split hq
                  subst h1
                  refine ⟨by simp [packL]; omega, fun r' _ => ?_⟩
                  have h2' := h2 r'
                  simp only [List.cons_append, List.nil_append] at h2'
                  simp [packL, tval, isDig, h2']
                · rename_i h116
                  split at h
                  · rename_i hc
                    subst hc
                    obtain ⟨r2, hq, he⟩ := Option.map_eq_some_iff.1 h
                    simp only [Prod.mk.injEq] at he
                    obtain ⟨rfl, rfl⟩ := he
                    obtain ⟨h1, h2⟩ := word_split hq
                    subst h1
                    refine ⟨by simp [packL]; omega, fun r' _ => ?_⟩
                    have h2' := h2 r'
                    simp only [List.cons_append, List.nil_append] at h2'
                    simp [packL, tval, isDig, h2']
                  · rename_i h102
                    split at h
                    · rename_i hc
                      subst hc
                      obtain ⟨r2, hq, he⟩ := Option.map_eq_some_iff.1 h
                      simp only [Prod.mk.injEq] at he
                      obtain ⟨rfl, rfl⟩ := he
                      obtain ⟨h1, h2⟩ := word_split hq
                      subst h1
                      refine ⟨by simp [packL]; omega, fun r' _ => ?_⟩
                      have h2' := h2 r'
                      simp only [List.cons_append, List.nil_append] at h2'
                      simp [packL, tval, isDig, h2']
                    · cases h
    · intro l ks vs r h
      cases l with
      | nil => simp [tmems] at h
      | cons c u =>
        simp only [tmems] at h
        split at h
        · rename_i hc
          subst hc
          obtain ⟨l1, hs, h⟩ := Option.bind_eq_some_iff.1 h
          obtain ⟨d, a1, a2, a3⟩ := str_split n hs
          subst a1
          rw [upto_app1] at h
          have w1 := ws_len l1
          cases hw1 : ws l1 with
          | nil => rw [hw1] at h; cases h
          | cons x l2 =>
            rw [hw1] at h w1
            simp only [List.length_cons] at w1
            simp only at h
            split at h
            · rename_i hx
              subst hx
              have w2 := ws_len l2
              obtain ⟨⟨v, l3⟩, hv, h⟩ := Option.bind_eq_some_iff.1 h
              obtain ⟨v1, v2⟩ := hV _ _ _ hv
              simp only at h
              have w3 := ws_len l3
              cases hw3 : ws l3 with
              | nil => rw [hw3] at h; cases h
              | cons e l4 =>
                rw [hw3] at h w3
                simp only [List.length_cons] at w3
                simp only at h
                have step : ∀ (e' : Int) (r' : List Int) , e' = 125 ∨ e' = 93 ∨ e' = 44 → tmems (n + 1) (34 :: (d ++ 34 :: 58 :: (packL v ++ e' :: r'))) = (if e' = 125 then some ([d], [v], r') else if e' = 44 then (tmems n (ws r')).map fun q => (d :: q.1, v :: q.2.1, q.2.2) else none) := by
                  intro e' r' he'
                  simp only [tmems, if_true, a3, Option.bind_some, upto_app1]
                  rw [ws_cons_not (by simp [isWs])]
                  have hst : Stop (e' :: r') := stop_of he'
                  have hv' := v2 _ hst
                  simp only [if_true]
                  rw [tval_head hv', hv', Option.bind_some]
                  simp only
                  rw [ws_cons_not (by rcases he' with rfl | rfl | rfl <;> simp [isWs])]
                split at h
                · rename_i he
                  subst he
                  simp only [Option.some.injEq, Prod.mk.injEq] at h
                  obtain ⟨rfl, rfl, rfl⟩ := h
                  refine ⟨rfl, by simp [packM]; omega, fun r' => ?_⟩
                  have := step 125 r' (.inl rfl)
                  simp only [packM, List.isEmpty_nil, if_true, List.cons_append, List.append_assoc, List.nil_append]
                  rw [this]; simp
                · rename_i h125
                  split at h
                  · rename_i he
                    subst he
                    obtain ⟨⟨ks2, vs2, r2⟩, hq, hee⟩ := Option.map_eq_some_iff.1 h
                    simp only [Prod.mk.injEq] at hee
                    obtain ⟨rfl, rfl, rfl⟩ := hee
                    obtain ⟨m0, m1, m2⟩ := hM _ _ _ _ hq
                    have w4 := ws_len l4
                    refine ⟨rfl, by simp only [packM, m0, List.length_cons, List.length_append, Bool.false_eq_true, if_false]; omega, fun r' => ?_⟩
                    have := step 44 (packM ks2 vs2 ++ r') (.inr (.inr rfl))
                    simp only [packM, m0, Bool.false_eq_true, if_false, List.cons_append, List.append_assoc]
                    rw [this, if_neg (by omega), if_pos rfl]
                    have hm := m2 r'
                    have hk : ws (packM ks2 vs2 ++ r') = packM ks2 vs2 ++ r' := by
                      cases n with
                      | zero => simp [tmems] at hm
                      | succ n =>
                        cases hp : packM ks2 vs2 ++ r' with
                        | nil => rfl
                        | cons x y =>
                          rw [hp] at hm
                          simp only [tmems] at hm
                          split at hm
                          · rename_i hx; subst hx; exact ws_cons_not (by simp [isWs])
                          · cases hm
                    rw [hk, hm]; rfl
                  · cases h
            · cases h
        · cases h
    · intro l vs r h
      simp only [telems] at h
      obtain ⟨⟨v, l3⟩, hv, h⟩ := Option.bind_eq_some_iff.1 h
      obtain ⟨v1, v2⟩ := hV _ _ _ hv
      simp only at h
      have w3 := ws_len l3
      cases hw3 : ws l3 with
      | nil => rw [hw3] at h; cases h
      | cons e l4 =>
        rw [hw3] at h w3
        simp only [List.length_cons] at w3
        simp only at h
        have step : ∀ (e' : Int) (r' : List Int) , e' = 125 ∨ e' = 93 ∨ e' = 44 → telems (n + 1) (packL v ++ e' :: r') = (if e' = 93 then some ([v], r') else if e' = 44 then (telems n (ws r')).map fun q => (v :: q.1, q.2) else none) := by
          intro e' r' he'
          have hst : Stop (e' :: r') := stop_of he'
          have hv' := v2 _ hst
          simp only [telems]
          rw [hv', Option.bind_some]
          simp only
          rw [ws_cons_not (by rcases he' with rfl | rfl | rfl <;> simp [isWs])]
        split at h
        · rename_i he
          subst he
          simp only [Option.some.injEq, Prod.mk.injEq] at h
          obtain ⟨rfl, rfl⟩ := h
          refine ⟨rfl, by simp [packE]; omega, fun r' => ?_⟩
          have := step 93 r' (.inr (.inl rfl))
          simp only [packE, List.isEmpty_nil, if_true, List.cons_append, List.append_assoc, List.nil_append]
          rw [this]; simp
        · rename_i h93
          split at h
          · rename_i he
            subst he
            obtain ⟨⟨vs2, r2⟩, hq, hee⟩ := Option.map_eq_some_iff.1 h
            simp only [Prod.mk.injEq] at hee
            obtain ⟨rfl, rfl⟩ := hee
            obtain ⟨m0, m1, m2⟩ := hE _ _ _ hq
            have w4 := ws_len l4
            refine ⟨rfl, by simp only [packE, m0, List.length_cons, List.length_append, Bool.false_eq_true, if_false]; omega, fun r' => ?_⟩
            have := step 44 (packE vs2 ++ r') (.inr (.inr rfl))
            simp only [packE, m0, Bool.false_eq_true, if_false, List.cons_append, List.append_assoc]
            rw [this, if_neg (by omega), if_pos rfl]
            have hm := m2 r'
            have hk : ws (packE vs2 ++ r') = packE vs2 ++ r' := by
              cases n with
              | zero => simp [telems] at hm
              | succ n =>
                simp only [telems] at hm
                obtain ⟨r3, hr3, _⟩ := Option.bind_eq_some_iff.1 hm
                exact tval_head hr3
            rw [hk, hm]; rfl
          · cases h

end Go.Proofs.YtkhgbacbnkgafaaDoor.JTr

/- Words on functions with a bound on rounds: 'from some number of rounds on the function answers, and the answer is such that ..'. -/
import Derived.Test.YtkhgbacbnkgafaaDoorWMore
namespace Go.Proofs.YtkhgbacbnkgafaaDoor.EvL
open Go.RowKit Go.Proofs.YtkhgbacbnkgafaaDoorW.PrintWords

def EvP {α : Type} (g : Nat → Option α) (P : α → Prop) : Prop := ∃ r, Ev g r ∧ P r

theorem EvP.ret {α : Type} {P : α → Prop} (r : α) (h : P r) : EvP (fun _ => some r) P := ⟨r, ⟨0, fun _ _ => rfl⟩, h⟩

theorem EvP.succ {α : Type} {g : Nat → Option α} {P : α → Prop} (h : EvP (fun k => g (k + 1)) P) : EvP g P := by
  obtain ⟨r, hr, hp⟩ := h
  exact ⟨r, Ev.step (fun _ => rfl) hr, hp⟩

theorem EvP.mono {α : Type} {g : Nat → Option α} {P Q : α → Prop} (h : EvP g P) (hp : ∀ r, P r → Q r) : EvP g Q := by
  obtain ⟨r, hr, h⟩ := h
  exact ⟨r, hr, hp r h⟩

theorem EvP.pos {α : Type} {c : Prop} [Decidable c] {g f : Nat → Option α} {P : α → Prop} (hc : c) (h : EvP g P) : EvP (fun k => if c then g k else f k) P := by
  simp only [if_pos hc]; exact h

theorem EvP.neg {α : Type} {c : Prop} [Decidable c] {g f : Nat → Option α} {P : α → Prop} (hc : ¬ c) (h : EvP f P) : EvP (fun k => if c then g k else f k) P := by
  simp only [if_neg hc]; exact h

theorem EvP.ite {α : Type} {c : Prop} [Decidable c] {g f : Nat → Option α} {P : α → Prop} (h1 : c → EvP g P) (h2 : ¬ c → EvP f P) : EvP (fun k => if c then g k else f k) P := by
  by_cases hc : c
  · exact EvP.pos hc (h1 hc)
  · exact EvP.neg hc (h2 hc)

theorem EvP.bind {α β : Type} {g : Nat → Option α} {f : Nat → α → Option β} {Q : α → Prop} {P : β → Prop} (h : EvP g Q) (k : ∀ a, Q a → EvP (fun n => f n a) P) : EvP (fun n => (g n).bind (f n)) P := by
  obtain ⟨a, ha, hq⟩ := h
  obtain ⟨r, hr, hp⟩ := k a hq
  exact ⟨r, Ev.bind ha hr, hp⟩

theorem EvP.rounds {α : Type} {g : Nat → Option α} {P : α → Prop} (h : EvP g P) : ∃ k r, g k = some r ∧ P r := by
  obtain ⟨r, hr, hp⟩ := h
  obtain ⟨k, hk⟩ := hr.rounds
  exact ⟨k, r, hk, hp⟩

theorem EvP.told {g : Nat → Option Bool} (h : EvP g (fun r => r = true)) : ∃ k, g k = some true := by
  obtain ⟨k, r, hk, rfl⟩ := h.rounds
  exact ⟨k, hk⟩

theorem EvP.ev {α : Type} {g : Nat → Option α} {r : α} (h : EvP g (fun x => x = r)) : Ev g r := by
  obtain ⟨_, h, rfl⟩ := h
  exact h

theorem EvP.of_ev {α : Type} {g : Nat → Option α} {r : α} {P : α → Prop} (h : Ev g r) (hp : P r) : EvP g P := ⟨r, h, hp⟩

theorem w64 {x : Int} (h1 : -9223372036854775808 ≤ x) (h2 : x ≤ 9223372036854775807) : wrap64 x = x := by
  unfold wrap64; omega

theorem toList_len (s : ByteArray) : s.toList.length = s.size := by rw [ByteArray.toList_eq]; exact Array.length_toList

theorem bytes_ext {a b : ByteArray} (h : a.data.toList = b.data.toList) : a = b := by
  cases a; cases b; simpa using h

end Go.Proofs.YtkhgbacbnkgafaaDoor.EvL

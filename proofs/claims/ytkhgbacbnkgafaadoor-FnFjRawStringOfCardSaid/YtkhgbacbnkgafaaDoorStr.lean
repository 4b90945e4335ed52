/- Plain lemmas on texts as lists of whole numbers (each byte from 0 to 255): reading at a place, cutting, joining. -/
import Derived.Test.YtkhgbacbnkgafaaDoorEv
namespace Go.Proofs.YtkhgbacbnkgafaaDoor.StrL
open Go.RowKit Go.Proofs.YtkhgbacbnkgafaaDoorW.PrintWords Go.Proofs.YtkhgbacbnkgafaaDoor.EvL

def ints (s : ByteArray) : List Int := s.data.toList.map fun b => (b.toNat : Int)

def Bytes (xs : List Int) : Prop := ∀ x ∈ xs, 0 ≤ x ∧ x ≤ 255

theorem ints_length (s : ByteArray) : (ints s).length = s.size := by simp [ints]

theorem ints_bytes (s : ByteArray) : Bytes (ints s) := by
  intro x hx
  simp only [ints, List.mem_map] at hx
  obtain ⟨b, _, rfl⟩ := hx
  have := b.toNat_lt
  omega

theorem ints_get (s : ByteArray) (i : Nat) (h : i < s.size) : (ints s)[i]'(by rw [ints_length]; exact h) = bt s (i : Int) := by
  simp only [ints, List.getElem_map, bt, Int.toNat_natCast, dif_pos h]
  rfl

theorem bt_getD (s : ByteArray) (i : Int) : bt s i = (ints s).getD i.toNat 0 := by
  by_cases h : i.toNat < s.size
  · have h' : i.toNat < (ints s).length := by rw [ints_length]; exact h
    rw [List.getD_eq_getElem?_getD, List.getElem?_eq_getElem h', Option.getD_some]
    simp only [ints, List.getElem_map, bt, dif_pos h]
    rfl
  · have h' : (ints s).length ≤ i.toNat := by rw [ints_length]; omega
    rw [List.getD_eq_getElem?_getD, List.getElem?_eq_none h', Option.getD_none]
    simp only [bt, dif_neg h]

theorem bt_of_drop {s : ByteArray} {i : Int} {c : Int} {t : List Int} (h0 : 0 ≤ i) (h : (ints s).drop i.toNat = c :: t) : bt s i = c ∧ i < (s.size : Int) ∧ (ints s).drop (i + 1).toNat = t := by
  have hl : i.toNat < (ints s).length := by
    have := congrArg List.length h
    simp only [List.length_drop, List.length_cons] at this
    omega
  have e := List.drop_eq_getElem_cons hl
  rw [h] at e
  injection e with e1 e2
  refine ⟨?_, ?_, ?_⟩
  · rw [bt_getD, List.getD_eq_getElem?_getD, List.getElem?_eq_getElem hl, Option.getD_some]; exact e1.symm
  · rw [ints_length] at hl; omega
  · rw [show (i + 1).toNat = i.toNat + 1 from by omega]; exact e2.symm

theorem drop_of_lt {s : ByteArray} {i : Int} (h0 : 0 ≤ i) (h : i < (s.size : Int)) : (ints s).drop i.toNat = bt s i :: (ints s).drop (i + 1).toNat := by
  have hl : i.toNat < (ints s).length := by rw [ints_length]; omega
  rw [List.drop_eq_getElem_cons hl, show (i + 1).toNat = i.toNat + 1 from by omega]
  congr 1
  rw [bt_getD, List.getD_eq_getElem?_getD, List.getElem?_eq_getElem hl, Option.getD_some]

theorem size_of_drop {s : ByteArray} {i : Int} {l : List Int} (h0 : 0 ≤ i) (hi : i ≤ s.size) (h : (ints s).drop i.toNat = l) : (s.size : Int) = i + l.length := by
  have := congrArg List.length h
  rw [List.length_drop, ints_length] at this
  omega

theorem strOfNums_data (xs : List Int) : (strOfNums xs).data.toList = xs.map fun n => UInt8.ofNat n.toNat := by simp [strOfNums]

theorem strOfNums_size (xs : List Int) : (strOfNums xs).size = xs.length := by
  show (strOfNums xs).data.size = _
  simp [strOfNums]

theorem ints_strOfNums {xs : List Int} (h : Bytes xs) : ints (strOfNums xs) = xs := by
  unfold ints
  rw [strOfNums_data, List.map_map]
  induction xs with
  | nil => rfl
  | cons x xs ih =>
    rw [List.map_cons, ih (fun y hy => h y (List.mem_cons_of_mem _ hy))]
    have := h x List.mem_cons_self
    congr 1
    simp only [Function.comp_apply, UInt8.toNat_ofNat']
    omega

theorem strOfNums_ints (s : ByteArray) : strOfNums (ints s) = s := by
  apply bytes_ext
  rw [strOfNums_data, ints, List.map_map]
  conv => rhs; rw [← List.map_id s.data.toList]
  apply List.map_congr_left
  intro b _
  simp

theorem ints_inj {a b : ByteArray} (h : ints a = ints b) : a = b := by
  rw [← strOfNums_ints a, h, strOfNums_ints]

theorem ints_extract (s : ByteArray) (a b : Nat) : ints (s.extract a b) = ((ints s).drop a).take (b - a) := by
  unfold ints
  rw [ByteArray.data_extract, Array.toList_extract, List.extract_eq_take_drop, List.map_take, List.map_drop]

theorem ints_append (a b : ByteArray) : ints (a ++ b) = ints a ++ ints b := by
  unfold ints
  rw [ByteArray.data_append, Array.toList_append, List.map_append]

theorem beq_toList (a b : ByteArray) : (a.toList == b.toList) = true ↔ ints a = ints b := by
  rw [beq_iff_eq, ByteArray.toList_eq, ByteArray.toList_eq]
  constructor
  · intro h; rw [ints, ints, h]
  · intro h; rw [ints_inj h]

theorem toList_eq_iff (a b : ByteArray) : a.toList = b.toList ↔ ints a = ints b := by
  rw [ByteArray.toList_eq, ByteArray.toList_eq]
  constructor
  · intro h; rw [ints, ints, h]
  · intro h; rw [ints_inj h]

theorem beq_toList_self (a : ByteArray) : (a.toList == a.toList) = true := beq_self_eq_true _

theorem toList_nil (a : ByteArray) : a.toList = [] ↔ a.size = 0 := by
  rw [← List.length_eq_zero_iff, toList_len]

theorem bytes_append {xs ys : List Int} (h : Bytes xs) (k : Bytes ys) : Bytes (xs ++ ys) := by
  intro x hx
  rcases List.mem_append.1 hx with hx | hx
  · exact h x hx
  · exact k x hx

theorem bytes_cons {x : Int} {xs : List Int} (h0 : 0 ≤ x) (h1 : x ≤ 255) (h : Bytes xs) : Bytes (x :: xs) := by
  intro y hy
  rcases List.mem_cons.1 hy with rfl | hy
  · exact ⟨h0, h1⟩
  · exact h y hy

theorem bytes_nil : Bytes [] := fun _ h => by cases h

theorem rd_of_drop {xs : List Int} {i : Int} {c : Int} {t : List Int} (h0 : 0 ≤ i) (h : xs.drop i.toNat = c :: t) : rd xs i = c ∧ i < (xs.length : Int) ∧ xs.drop (i + 1).toNat = t := by
  have hl : i.toNat < xs.length := by
    have := congrArg List.length h
    simp only [List.length_drop, List.length_cons] at this
    omega
  have e := List.drop_eq_getElem_cons hl
  rw [h] at e
  injection e with e1 e2
  refine ⟨?_, by omega, ?_⟩
  · unfold rd
    rw [List.getD_eq_getElem?_getD, List.getElem?_eq_getElem hl, Option.getD_some]; exact e1.symm
  · rw [show (i + 1).toNat = i.toNat + 1 from by omega]; exact e2.symm

theorem len_of_drop_nil {α : Type} {xs : List α} {i : Int} (h0 : 0 ≤ i) (h : xs.drop i.toNat = []) : (xs.length : Int) ≤ i := by
  have := congrArg List.length h
  simp only [List.length_drop, List.length_nil] at this
  omega

theorem bytesOf_ints (s : ByteArray) : bytesOf s = ints s := rfl

theorem u64w {x : Int} (h0 : 0 ≤ x) (h1 : x ≤ 18446744073709551615) : IntKind.u64.wrap x = x := by
  rw [IntKind.wrap_u64]; omega

end Go.Proofs.YtkhgbacbnkgafaaDoor.StrL

/- match.match walked: whether a text is made of what a pattern says, and how often it calls itself. -/
import Derived.Test.YtkhgbacbnkgafaaGreatDoorMlQ
import Derived.Test.YtkhgbacbnkgafaaGreatDoorShUtf8
import Derived.Lib.Hide
import Derived.Deep.LoopGhost
import Derived.Deep.QuietTactic
import Derived.BigQuiet
import Derived.Great.Walk
import Derived.Deep.DrawnRows
set_option linter.unusedVariables false
set_option linter.unusedSimpArgs false
namespace Go.Proofs.YtkhgbacbnkgafaaGreatDoor.Mlw
open Go Go.RowKit Go.Proofs.YtkhgbacbnkgafaaGreatDoor.PFnGjMatchesLike Go.Proofs.YtkhgbacbnkgafaaGreatDoor.PFnGjMatchesLike.Gb Go.Proofs.YtkhgbacbnkgafaaGreatDoor.PFnGjMatchesLike.Uc Go.Proofs.YtkhgbacbnkgafaaGreatDoorW.PrintWords Go.Proofs.YtkhgbacbnkgafaaGreatDoorW.PrintLast Go.Proofs.YtkhgbacbnkgafaaGreatDoor.EvL Go.Proofs.YtkhgbacbnkgafaaGreatDoor.StrL
attribute [local go_sem ↓] Go.wp_at_zero Go.wp_at_succ

theorem ints_drop {s : ByteArray} (n : Nat) : ints (s.extract n s.size) = (ints s).drop n := by
  rw [ints_extract, List.take_of_length_le (by rw [List.length_drop, ints_length]; omega)]
theorem size_drop {s : ByteArray} (n : Nat) : (s.extract n s.size).size = s.size - n := by rw [ByteArray.size_extract]; omega
theorem byte0 {s : ByteArray} {x t : List Int} (h : ints s = x ++ t) (hpos : 0 < s.size) (hx : 0 < x.length) : ((s[0]'hpos).toNat : Int) = x.getD 0 0 := by
  have h1 := get_front h 0 hx
  rw [← h1]
  have : s.get! 0 = s[0]'hpos := by
    simp only [ByteArray.get!]
    exact getElem!_pos s.data 0 (show 0 < s.size from hpos)
  rw [this]
/-- What a character at the head of a text is to the reader of bytes. -/
theorem dec_info {s : ByteArray} {c : Int} {n : Nat} (h : dec (ints s) = some (c, n)) (hpos : 0 < s.size) : 1 ≤ n ∧ n ≤ s.size ∧ 0 ≤ c ∧
    ((((s[0]'hpos).toNat : Int) = c ∧ c < 128 ∧ n = 1) ∨ ((127 : Int) < ((s[0]'hpos).toNat : Int) ∧ 128 ≤ c ∧ ((Lib.decodeGo s).1 : Int) = c ∧ ((Lib.decodeGo s).2 : Int) = (n : Int))) := by
  obtain ⟨x, t, e, hx, rfl⟩ := of_dec (fun b hb => (ints_bytes _ b hb).1) h
  have hl := congrArg List.length e
  rw [ints_length, List.length_append] at hl
  have hlen := Ch.len hx
  have hg := decfirst e hx
  simp only [Prod.mk.injEq] at hg
  have hb := byte0 e hpos (by omega)
  refine ⟨hlen.1, by omega, ?_, ?_⟩
  · cases hx <;> omega
  · cases hx with
    | one b h0 h1 => exact .inl ⟨hb, h1, rfl⟩
    | two b0 b1 c h0 h1 hc => exact .inr ⟨by rw [hb]; simp only [List.getD_cons_zero]; omega, by omega, hg.1, hg.2⟩
    | three b0 b1 b2 c h0 h1 h2 hc hls hs => exact .inr ⟨by rw [hb]; simp only [List.getD_cons_zero]; omega, by omega, hg.1, hg.2⟩
    | four b0 b1 b2 b3 c h0 h1 h2 h3 hc hls hm => exact .inr ⟨by rw [hb]; simp only [List.getD_cons_zero]; omega, by omega, hg.1, hg.2⟩
theorem dec_calls {s : ByteArray} {c : Int} {n : Nat} {w : World} (hT : Laid w) (h1 : ((Lib.decodeGo s).1 : Int) = c) (h2 : ((Lib.decodeGo s).2 : Int) = (n : Int)) :
    Calls Tryz.prog 45 #[.string s] w (fun e w' => e = .returned (.tuple #[.int .i32 c, .int .i64 n]) ∧ Below w.heap.size w w') := by
  subst h1
  rw [← h2]
  exact Tryz.utf8_DecodeRuneInString s w (Laid.tabs hT)
theorem end_cost {c c1 k s n x : Nat} (h : c1 + x * mcost n (k - 1) ≤ c + 1 + s * mcost n (k - 1) ∧ (k = 0 → c1 = c + 1)) (hx : x ≤ s) (hs : s ≤ n) : c1 ≤ c + mcost n k := by
  cases k with
  | zero => rw [h.2 rfl]; simp only [mcost]; omega
  | succ k =>
    have h1 := h.1
    simp only [Nat.add_sub_cancel] at h1
    have h2 : s * mcost n k ≤ (n + 1) * mcost n k := Nat.mul_le_mul_right _ (by omega)
    show c1 ≤ c + (1 + (n + 1) * mcost n k)
    generalize (n + 1) * mcost n k = a at h2 ⊢
    generalize s * mcost n k = b at h1 h2
    generalize x * mcost n k = d at h1
    omega
theorem cost_less {c1 k c s n x y : Nat} (h : c1 + x * mcost n (k - 1) ≤ c + 1 + s * mcost n (k - 1) ∧ (k = 0 → c1 = c + 1)) (hy : y ≤ x) : c1 + y * mcost n (k - 1) ≤ c + 1 + s * mcost n (k - 1) ∧ (k = 0 → c1 = c + 1) :=
  ⟨Nat.le_trans (Nat.add_le_add_left (Nat.mul_le_mul_right _ hy) _) h.1, h.2⟩
theorem stB_drop : ∀ (n : Nat) (l : List Int), stB (l.drop n) ≤ stB l
  | 0, l => by simp
  | n + 1, [] => by simp
  | n + 1, b :: l => by
    have h := stB_drop n l
    simp only [List.drop_succ_cons, stB]
    omega
theorem cost_in {c1 j c s n x : Nat} (h : c1 + x * mcost n (j + 1 - 1) ≤ c + 1 + s * mcost n (j + 1 - 1) ∧ (j + 1 = 0 → c1 = c + 1)) (hs : s ≤ n) : c1 + mcost n j ≤ c + mcost n (j + 1) := by
  have h1 := h.1
  simp only [Nat.add_sub_cancel] at h1
  have h2 : s * mcost n j + mcost n j ≤ (n + 1) * mcost n j := by rw [← Nat.succ_mul]; exact Nat.mul_le_mul_right _ (by omega)
  show c1 + mcost n j ≤ c + (1 + (n + 1) * mcost n j)
  generalize (n + 1) * mcost n j = a at h2 ⊢
  generalize s * mcost n j = b at h1 h2
  generalize x * mcost n j = d at h1
  omega
theorem cost_end {c1 c6 j c s n x : Nat} (h : c1 + x * mcost n (j + 1 - 1) ≤ c + 1 + s * mcost n (j + 1 - 1) ∧ (j + 1 = 0 → c1 = c + 1)) (hs : s ≤ n) (h6 : c6 ≤ c1 + mcost n j) : c6 ≤ c + mcost n (j + 1) := Nat.le_trans h6 (cost_in h hs)
theorem cost_call {c1 c6 j c s n x y : Nat} (h : c1 + x * mcost n (j + 1 - 1) ≤ c + 1 + s * mcost n (j + 1 - 1) ∧ (j + 1 = 0 → c1 = c + 1)) (h6 : c6 ≤ c1 + mcost n j) (hy : y + 1 ≤ x) : c6 + y * mcost n (j + 1 - 1) ≤ c + 1 + s * mcost n (j + 1 - 1) ∧ (j + 1 = 0 → c6 = c + 1) := by
  refine ⟨?_, fun h => by omega⟩
  have h1 := h.1
  simp only [Nat.add_sub_cancel] at h1 ⊢
  have h2 : y * mcost n j + mcost n j ≤ x * mcost n j := by rw [← Nat.succ_mul]; exact Nat.mul_le_mul_right _ hy
  generalize s * mcost n j = b at h1 ⊢
  generalize x * mcost n j = d at h1 h2
  generalize y * mcost n j = e at h2 ⊢
  omega
theorem byteAt {s : ByteArray} {i : Nat} (h : i < s.size) : ((s[i]'h).toNat : Int) = (ints s).getD i 0 := by
  unfold ints
  rw [List.getD_eq_getElem?_getD, List.getElem?_map, List.getElem?_eq_getElem (by rw [Array.length_toList]; exact h)]
  rfl
theorem keepW {g : Nat} {w w1 w2 : World} {o : Obj} (h : w1.heap[g]? = some o ∧ Below g w w1) (hb : Below w1.heap.size w1 w2) : w2.heap[g]? = some o ∧ Below g w w2 := by
  have hlt : g < w1.heap.size := by
    rcases Nat.lt_or_ge g w1.heap.size with h' | h'
    · exact h'
    · have h1 := h.1; rw [Array.getElem?_eq_none h'] at h1; cases h1
  exact ⟨(hb.block g hlt).trans h.1, h.2.trans (hb.mono (Nat.le_of_lt hlt))⟩

theorem dec_go {s : ByteArray} {c : Int} {n : Nat} (h : dec (ints s) = some (c, n)) : ((Lib.decodeGo s).1 : Int) = c ∧ ((Lib.decodeGo s).2 : Int) = (n : Int) ∧ 1 ≤ n ∧ n ≤ s.size := by
  obtain ⟨x, t, e, hx, rfl⟩ := of_dec (fun b hb => (ints_bytes _ b hb).1) h
  have hl := congrArg List.length e
  rw [ints_length, List.length_append] at hl
  have hg := decfirst e hx
  simp only [Prod.mk.injEq] at hg
  exact ⟨hg.1, hg.2, (Ch.len hx).1, by omega⟩
theorem dec_front {s r : ByteArray} {a : List Int} {c d : Int} {n m : Nat} (e : ints s = ints r ++ a) (h : dec (ints s) = some (c, n)) (k : dec (ints r) = some (d, m)) : c = d ∧ n = m := by
  obtain ⟨x, t, e2, hx, rfl⟩ := of_dec (fun b hb => (ints_bytes _ b hb).1) k
  rw [e, e2, List.append_assoc, dec_of hx] at h
  injection h with h
  injection h with h1 h2
  exact ⟨h1.symm, h2.symm⟩
theorem ints_ne {s : ByteArray} (h : 0 < s.size) : ints s ≠ [] := fun e => by have := congrArg List.length e; rw [ints_length, List.length_nil] at this; omega
theorem ints_nil {s : ByteArray} (h : s.size = 0) : ints s = [] := List.eq_nil_of_length_eq_zero (by rw [ints_length]; exact h)
theorem head_of {l cs : List Int} (h : Txt l cs) (hne : l ≠ []) : ∃ c n cs', dec l = some (c, n) ∧ cs = c :: cs' ∧ Txt (l.drop n) cs' := h.head hne
theorem fit_lit {c d : Int} : fit (⟨false, false, c⟩ : S56) d ↔ d = c := by
  unfold fit
  constructor
  · rintro (h | h)
    · cases h
    · exact h.symm
  · intro h; exact .inr h.symm
theorem fit_one {d : Int} : fit (⟨false, true, 0⟩ : S56) d := .inl rfl

/-- What match leaves: 1 where b holds, 0 where not; at most T calls more. -/
def MaP (g : Nat) (w : World) (T c : Nat) (b : Prop) (e : Ending) (w' : World) : Prop :=
  ∃ (r : Int) (c' : Nat), e = .returned (.int .i64 r) ∧ ((r = 1 ∧ b) ∨ (r = 0 ∧ ¬ b)) ∧ c' ≤ c + T ∧ w'.heap[g]? = some (.cells #[.int .i64 c'] 3 (0, 0)) ∧ Below g w w'

def MaOk (B g n k : Nat) : Prop := ∀ (s p : ByteArray) (cs : List Int) (ts : List S56) (w : World) (c : Nat), s.size ≤ n → p.size ≤ 4096 → Txt (ints s) cs → Gl (ints p) ts → stB (ints p) ≤ k → c + mcost n k ≤ n * 10000 →
  w.heap[g]? = some (.cells #[.int .i64 c] 3 (0, 0)) → (∀ w', Below B w w' → Laid w') →
  Calls Tryz.prog 39 #[.string s, .string p, .int .i64 n, .pointer (some ⟨g, 0, none⟩), .int .i64 10000, .bool false] w (MaP g w (mcost n k) c (M ts cs))

set_option maxRecDepth 100000 in
set_option maxHeartbeats 8000000 in
theorem ma_ok {B g n : Nat} (hBg : B ≤ g) (hn : 1 ≤ n ∧ n ≤ 4096) (k : Nat) (IH : ∀ j, j + 1 = k → MaOk B g n j) : MaOk B g n k := by
  intro s p cs ts w c hs hp ht hg hst hc hw hL
  have q0 : w.cell? ⟨g, 0, none⟩ = some (.int .i64 c) := by simp only [World.cell?, hw]; rfl
  have f0 : w.frozen? ⟨g, 0, none⟩ = false := by simp only [World.frozen?, hw]; rfl
  have hmp := mcost_pos n k
  have wm : wrap64 ((n : Int) * 10000) = (n : Int) * 10000 := by unfold wrap64; omega
  have wc : wrap64 ((c : Int) + 1) = (c : Int) + 1 := by unfold wrap64; omega
  have hcN : c ≤ n * 10000 := Nat.le_trans (Nat.le_add_right _ _) hc
  have hcI : (c : Int) ≤ (n : Int) * 10000 := by have := Int.ofNat_le.2 hcN; simpa using this
  have d0 : decide ((n : Int) * 10000 < (c : Int)) = false := decide_eq_false (Int.not_lt.mpr hcI)
  have HLD := Lib.hid hL
  have HIH := Lib.hid IH
  have HN := Lib.hid (And.intro hn (And.intro hs hp))
  have HCC := Lib.hid hc
  have HTS := Lib.hid (And.intro ht (And.intro hg hst))
  have HBG := Lib.hid hBg
  have HW0 := Lib.hid hw
  clear IH hs hp ht hg hst hL hcN hcI hmp hc hn hBg hw
  go_enter Tryz.func39, Tryz.ntmps39
  go_wp2
  go_loopg [0, 1] (s.size + p.size + 1) (fun kq v0 v1 w' => ∃ (s1 p1 : ByteArray) (cs1 : List Int) (ts1 : List S56) (c1 : Nat), kq = s1.size + p1.size + 1 ∧ v0 = .string s1 ∧ v1 = .string p1 ∧ Hid (Txt (ints s1) cs1 ∧ Gl (ints p1) ts1) ∧ Hid (stB (ints p1) ≤ k) ∧ Hid (M ts cs ↔ M ts1 cs1) ∧ Hid (s1.size ≤ s.size ∧ p1.size ≤ p.size) ∧ Hid (c1 + s1.size * mcost n (k - 1) ≤ c + 1 + s.size * mcost n (k - 1) ∧ (k = 0 → c1 = c + 1)) ∧ Hid (w'.heap[g]? = some (.cells #[.int .i64 c1] 3 (0, 0)) ∧ Below g w w'))
  case atStart =>
    refine ⟨s, p, cs, ts, c + 1, rfl, rfl, rfl, Lib.hid ⟨HTS.out.1, HTS.out.2.1⟩, Lib.hid HTS.out.2.2, Lib.hid Iff.rfl, Lib.hid ⟨Nat.le_refl _, Nat.le_refl _⟩, Lib.hid ⟨Nat.le_refl _, fun _ => rfl⟩, Lib.hid ⟨?_, (Below.refl g w).setCell (Nat.le_refl _) _⟩⟩
    have h1 := blk_put HW0.out 0 (.int .i64 ((c + 1 : Nat) : Int)) rfl
    first | exact h1 | (have h2 : ((c : Int) + 1) = ((c + 1 : Nat) : Int) := by simp
                        rw [h2]; exact h1)
  case round =>
    obtain ⟨s1, p1, cs1, ts1, c1, rfl, rfl, rfl, HT, HST, HM, HSZ, HC, HW⟩ := hrel
    have HCE := Lib.hid (end_cost HC.out HSZ.out.1 HN.out.2.1)
    clear q0 f0 wm wc d0
    by_cases hp0 : p1.size = 0
    · have hd1 : decide ((0 : Int) < (p1.size : Int)) = false := decide_eq_false (by omega)
      have hd2 : decide (0 < p1.size) = false := decide_eq_false (by omega)
      have hts : ts1 = [] := by have h := HT.out.2; rw [ints_nil hp0] at h; exact h.nil_inv
      by_cases hs0 : s1.size = 0
      · have he : ((s1.size : Int) == 0) = true := beq_iff_eq.mpr (by omega)
        have hcs : cs1 = [] := by have h := HT.out.1; rw [ints_nil hs0] at h; exact h.nil_inv
        go_wp2
        go_ret
        exact ⟨1, c1, rfl, .inl ⟨rfl, HM.out.2 (by rw [hts, hcs]; exact .nil)⟩, HCE.out, HW.out⟩
      · have he : ((s1.size : Int) == 0) = false := beq_eq_false_iff_ne.mpr (by omega)
        have hcs : cs1 ≠ [] := by
          obtain ⟨c2, n2, cs2, _, h, _⟩ := HT.out.1.head (ints_ne (by omega))
          rw [h]; simp
        go_wp2
        go_ret
        exact ⟨0, c1, rfl, .inr ⟨rfl, fun h => hcs (M_nil.1 (hts ▸ HM.out.1 h))⟩, HCE.out, HW.out⟩
    · have hpp : 0 < p1.size := by omega
      have hd1 : decide ((0 : Int) < (p1.size : Int)) = true := decide_eq_true (by omega)
      have hd2 : decide (0 < p1.size) = true := decide_eq_true hpp
      have hi1 : (0 : Int) < (p1.size : Int) := by omega
      obtain ⟨pc, np, hdp, hcase⟩ := HT.out.2.head (ints_ne hpp)
      obtain ⟨hn1, hn2, hpc0, hpd⟩ := dec_info hdp hpp
      have HPD := Lib.hid hpd
      have HCASE := Lib.hid hcase
      have HNP := Lib.hid (And.intro hn1 (And.intro hn2 hpc0))
      have HDP := Lib.hid hdp
      clear hcase hpd hn1 hn2 hpc0 hdp
      go_upto_if 41 with (fail)
      go_cut [14, 15] (fun v14 v15 wc => v14 = .int .i32 pc ∧ v15 = .int .i64 (np : Int) ∧ Hid (wc.heap[g]? = some (.cells #[.int .i64 c1] 3 (0, 0)) ∧ Below g w wc))
      case first =>
        rcases HPD.out with ⟨hv, hlt, rfl⟩ | ⟨hge, hge2, e1, e2⟩
        · have hd5 : decide ((127 : Int) < pc) = false := decide_eq_false (by omega)
          have hw32 : wrap32 pc = pc := by unfold wrap32; omega
          (first | rw [hd5] | (simp only [hv, hd5]) | skip)
          go_wp2
          (first | go_meet)
          case rel => exact ⟨by first | rfl | (rw [hw32]; done) | (rw [hv]; done) | (rw [hv, hw32]; done) | (simp only [hv, hw32]; done), rfl, HW⟩
        · have hd5 : decide ((127 : Int) < ((p1[0]'hpp).toNat : Int)) = true := decide_eq_true hge
          have hd6 : decide (127 < (p1[0]'hpp).toNat) = true := decide_eq_true (by omega)
          have hd7 : decide ((127 : Int) < wrap32 ((p1[0]'hpp).toNat : Int)) = true := by rw [show wrap32 ((p1[0]'hpp).toNat : Int) = ((p1[0]'hpp).toNat : Int) from by unfold wrap32; have := (p1[0]'hpp).toNat_lt; omega]; exact hd5
          (first | rw [hd7] | rw [hd5] | rw [hd6] | skip)
          go_wp2_with (first | (go_at_call 45; refine (dec_calls (HLD.out _ (HW.out.2.mono HBG.out)) e1 e2).mono ?_; rintro e w3 ⟨rfl, hb3⟩; have HW3 := Lib.hid (keepW HW.out hb3); clear hb3))
          (first | go_meet)
          case rel => exact ⟨rfl, rfl, HW3⟩
      case rest =>
        clear HW
        obtain ⟨rfl, rfl, HW⟩ := hcut
        go_upto_if 49 with (fail)
        go_cut [16, 17] (fun v16 v17 wc => ∃ (sc : Int) (ns : Nat), v16 = .int .i32 sc ∧ v17 = .int .i64 (ns : Int) ∧ Hid ((s1.size = 0 ∧ ns = 0 ∧ cs1 = []) ∨ (0 < s1.size ∧ 1 ≤ ns ∧ ns ≤ s1.size ∧ dec (ints s1) = some (sc, ns) ∧ ∃ cs2, cs1 = sc :: cs2 ∧ Txt ((ints s1).drop ns) cs2)) ∧ Hid (wc.heap[g]? = some (.cells #[.int .i64 c1] 3 (0, 0)) ∧ Below g w wc))
        case first =>
          by_cases hs0 : s1.size = 0
          · have hd3 : decide ((0 : Int) < (s1.size : Int)) = false := decide_eq_false (by omega)
            have hd4 : decide (0 < s1.size) = false := decide_eq_false (by omega)
            have hcs : cs1 = [] := by have h := HT.out.1; rw [ints_nil hs0] at h; exact h.nil_inv
            (first | rw [hd3] | rw [hd4] | skip)
            go_wp2
            (first | go_meet)
            case rel => exact ⟨0, 0, rfl, rfl, Lib.hid (.inl ⟨hs0, rfl, hcs⟩), HW⟩
          · have hsp : 0 < s1.size := by omega
            have hd3 : decide ((0 : Int) < (s1.size : Int)) = true := decide_eq_true (by omega)
            have hd4 : decide (0 < s1.size) = true := decide_eq_true hsp
            have hi2 : (0 : Int) < (s1.size : Int) := by omega
            obtain ⟨sc, ns, cs2, hds, hcs, hts⟩ := HT.out.1.head (ints_ne hsp)
            obtain ⟨hm1, hm2, hsc0, hsd⟩ := dec_info hds hsp
            have HS := Lib.hid (show (s1.size = 0 ∧ ns = 0 ∧ cs1 = []) ∨ (0 < s1.size ∧ 1 ≤ ns ∧ ns ≤ s1.size ∧ dec (ints s1) = some (sc, ns) ∧ ∃ cs2, cs1 = sc :: cs2 ∧ Txt ((ints s1).drop ns) cs2) from .inr ⟨hsp, hm1, hm2, hds, cs2, hcs, hts⟩)
            clear hds hcs hts
            (first | rw [hd3] | rw [hd4] | skip)
            rcases hsd with ⟨hvs, hlt, rfl⟩ | ⟨hge, hge2, e1, e2⟩
            · have hd5 : decide ((127 : Int) < sc) = false := decide_eq_false (by omega)
              have hw32 : wrap32 sc = sc := by unfold wrap32; omega
              go_wp2
              (first | go_meet)
              case rel => exact ⟨sc, 1, by first | rfl | (rw [hw32]; done) | (rw [hvs]; done) | (rw [hvs, hw32]; done), rfl, HS, HW⟩
            · have hd5 : decide ((127 : Int) < ((s1[0]'hsp).toNat : Int)) = true := decide_eq_true hge
              have hd6 : decide (127 < (s1[0]'hsp).toNat) = true := decide_eq_true (by omega)
              have hd7 : decide ((127 : Int) < wrap32 ((s1[0]'hsp).toNat : Int)) = true := by rw [show wrap32 ((s1[0]'hsp).toNat : Int) = ((s1[0]'hsp).toNat : Int) from by unfold wrap32; have := (s1[0]'hsp).toNat_lt; omega]; exact hd5
              go_wp2_with (first | (go_at_call 45; refine (dec_calls (HLD.out _ (HW.out.2.mono HBG.out)) e1 e2).mono ?_; rintro e w3 ⟨rfl, hb3⟩; have HW3 := Lib.hid (keepW HW.out hb3); clear hb3))
              (first | go_meet)
              case rel => exact ⟨sc, ns, rfl, rfl, HS, HW3⟩
        case rest =>
          clear HW
          obtain ⟨sc, ns, rfl, rfl, HS, HW⟩ := hcut
          rcases HCASE.out with ⟨rfl, ts2, rfl, hg2⟩ | ⟨rfl, ts2, rfl, hg2⟩ | ⟨rfl, c2, n2, ts2, hd2c, rfl, hg2⟩ | ⟨k1, k2, k3, ts2, rfl, hg2⟩
          · obtain rfl : np = 1 := by
              rcases HPD.out with ⟨_, _, h⟩ | ⟨_, h, _⟩
              · exact h
              · omega
            have hp42 : ints p1 = 42 :: (ints p1).drop 1 := by
              obtain ⟨x, t, e, hx, _⟩ := of_dec (fun b hb => (ints_bytes _ b hb).1) HDP.out
              have hx1 := ch_inv hx (by omega)
              rw [e, hx1]; rfl
            have HP42 := Lib.hid (And.intro hp42 hg2)
            clear hp42 hg2
            go_wp2
            go_loopg [1] (p1.size + 1) (fun kq v1 w' => ∃ (p2 : ByteArray) (pb : List Int) (ts3 : List S56), kq = p2.size + 1 ∧ v1 = .string p2 ∧ Hid (ints p2 = 42 :: pb ∧ Gl pb ts3) ∧ Hid (M ts cs ↔ M (⟨true, false, 0⟩ :: ts3) cs1) ∧ Hid (stB (ints p2) ≤ k ∧ p2.size ≤ p1.size) ∧ Hid (w'.heap[g]? = some (.cells #[.int .i64 c1] 3 (0, 0)) ∧ Below g w w'))
            case atStart => exact ⟨p1, _, ts2, rfl, rfl, HP42, HM, Lib.hid ⟨HST.out, Nat.le_refl _⟩, HW⟩
            case round =>
              obtain ⟨p2, pb, ts3, rfl, rfl, HG2, HM2, HB2, HW2⟩ := hrel
              have hz : p2.size = pb.length + 1 := by have h := congrArg List.length HG2.out.1; rw [ints_length, List.length_cons] at h; exact h
              by_cases hp1 : p2.size = 1
              · have hd8 : decide ((1 : Int) < (p2.size : Int)) = false := decide_eq_false (by omega)
                have hd9 : decide (1 < p2.size) = false := decide_eq_false (by omega)
                have he1 : ((p2.size : Int) == 1) = true := beq_iff_eq.mpr (by omega)
                have HNIL := Lib.hid (show ts3 = [] from by
                  have h0 : pb = [] := List.eq_nil_of_length_eq_zero (by omega)
                  have h := HG2.out.2; rw [h0] at h; exact h.nil_inv)
                clear hz hp1
                go_wp2
                go_ret
                exact ⟨1, c1, rfl, .inl ⟨rfl, HM2.out.2 (by rw [HNIL.out]; exact M_star_all _)⟩, HCE.out, HW2.out⟩
              · have hd8 : decide ((1 : Int) < (p2.size : Int)) = true := decide_eq_true (by omega)
                have hd9 : decide (1 < p2.size) = true := decide_eq_true (by omega)
                have hi3 : (1 : Int) < (p2.size : Int) := by omega
                have hi4 : (1 : Int) ≤ (p2.size : Int) := by omega
                have hi5 : 1 < p2.size := by omega
                obtain ⟨b, pb2, hpb⟩ : ∃ b pb2, pb = b :: pb2 := by
                  cases pb with
                  | nil => rw [List.length_nil] at hz; omega
                  | cons b pb2 => exact ⟨b, pb2, rfl⟩
                have hv : ((p2[1]'hi5).toNat : Int) = b := by
                  have h := byteAt (s := p2) (i := 1) hi5
                  rw [h, HG2.out.1, hpb]; rfl
                have HPB := Lib.hid (And.intro hpb hz)
                clear hpb hz hp1
                by_cases hb42 : b = 42
                · subst hb42
                  go_wp2
                  have h2 := HG2.out.2
                  rw [HPB.out.1] at h2
                  obtain ⟨ts4, hts, hg4⟩ := h2.star_inv
                  go_roundg (p2.size - 1 + 1)
                  case measure => omega
                  case rel => exact ⟨p2.extract 1 p2.size, pb2, ts4, by rw [size_drop], rfl, Lib.hid ⟨by rw [ints_drop, HG2.out.1, HPB.out.1]; rfl, hg4⟩, Lib.hid (HM2.out.trans (by rw [hts]; exact M_star_star)), Lib.hid ⟨by rw [ints_drop]; exact Nat.le_trans (stB_drop _ _) HB2.out.1, by rw [size_drop]; have := HB2.out.2; omega⟩, HW2⟩
                · have hb43 : (b == 42) = false := beq_eq_false_iff_ne.mpr hb42
                  have he1 : ((p2.size : Int) == 1) = false := beq_eq_false_iff_ne.mpr (by omega)
                  have hnn := HN.out
                  have hsz := HSZ.out
                  have hb2 := HB2.out
                  obtain ⟨kk, ⟨s3, p3, ok⟩, hr, ⟨a, ea⟩, ⟨bb, eb⟩, ⟨pb1, ep⟩, hh⟩ := (trim_f (s := s1) (p := p2) (by omega) (by omega) HT.out.1 HG2.out.1 HG2.out.2).rounds
                  replace ea : ints s1 = ints s3 ++ a := ea
                  replace eb : ints p2 = ints p3 ++ bb := eb
                  replace ep : ints p3 = 42 :: pb1 := ep
                  have l1 := congrArg List.length ea
                  have l2 := congrArg List.length eb
                  have l3 := congrArg List.length ep
                  rw [List.length_append, ints_length, ints_length] at l1 l2
                  rw [ints_length, List.length_cons] at l3
                  have hst3 : stB (ints p3) ≤ k := by
                    have h := hb2.1
                    rw [eb, stB_append] at h
                    exact Nat.le_trans (Nat.le_add_right _ _) h
                  have HTR := Lib.hid hr
                  have HEA := Lib.hid (And.intro ea ep)
                  have HLL := Lib.hid (And.intro l1 (And.intro l2 l3))
                  have HS3 := Lib.hid hst3
                  clear hr ea eb ep hnn hsz hb2 hst3
                  rcases hh with ⟨hok, cs3, pb3, ts5, q1, q2, q3, q4⟩ | ⟨hok, hno⟩
                  · obtain rfl : ok = true := hok
                    have q2' : ints p3 = 42 :: pb3 := q2
                    have HQ := Lib.hid (show Txt (ints s3) cs3 ∧ ints p3 = 42 :: pb3 ∧ Gl pb3 ts5 ∧ (M ts cs ↔ M (⟨true, false, 0⟩ :: ts5) cs3) from ⟨q1, q2, q3, HM2.out.trans q4⟩)
                    clear q1 q2 q3 q4
                    have l4 := congrArg List.length q2'
                    rw [ints_length, List.length_cons] at l4
                    clear q2'
                    by_cases hp3 : p3.size = 1
                    · have he3 : ((p3.size : Int) == 1) = true := beq_iff_eq.mpr (by omega)
                      have HNIL := Lib.hid (show ts5 = [] from by
                        have h0 : pb3 = [] := List.eq_nil_of_length_eq_zero (by omega)
                        have h := HQ.out.2.2.1; rw [h0] at h; exact h.nil_inv)
                      clear l1 l2 l3 l4 hp3
                      go_wp2_with (first | (go_at_call 46; refine (match_matchTrimSuffix.calls kk s1 p2 false s3 p3 true _ (HLD.out _ (HW2.out.2.mono HBG.out)) HTR.out).mono ?_; rintro e w5 ⟨rfl, hb5⟩; have HW5 := Lib.hid (keepW HW2.out hb5); clear hb5))
                      go_ret
                      exact ⟨1, c1, rfl, .inl ⟨rfl, HQ.out.2.2.2.2 (by rw [HNIL.out]; exact M_star_all _)⟩, HCE.out, HW5.out⟩
                    · have he3 : ((p3.size : Int) == 1) = false := beq_eq_false_iff_ne.mpr (by omega)
                      have hi6 : (1 : Int) ≤ (p3.size : Int) := by omega
                      obtain ⟨j, rfl⟩ : ∃ j, k = j + 1 := by
                        have h := HS3.out
                        rw [HQ.out.2.1] at h
                        simp only [stB, if_true] at h
                        exact ⟨k - 1, by omega⟩
                      have HREC := Lib.hid (fun (w5 : World) (h5 : w5.heap[g]? = some (.cells #[.int .i64 c1] 3 (0, 0)) ∧ Below g w w5) => HIH.out j rfl s3 (p3.extract 1 p3.size) cs3 ts5 w5 c1 (by have := HSZ.out; have := HN.out; omega) (by rw [size_drop]; have := HSZ.out; have := HB2.out; have := HN.out; omega) HQ.out.1 (by rw [ints_drop, HQ.out.2.1]; exact HQ.out.2.2.1) (by have h := HS3.out; rw [HQ.out.2.1] at h; rw [ints_drop, HQ.out.2.1]; simp only [stB, if_true] at h; simp only [List.drop_succ_cons, List.drop_zero]; omega) (Nat.le_trans (cost_in HC.out HN.out.2.1) HCC.out) h5.1 (fun w' hb => HLD.out w' ((h5.2.mono HBG.out).trans (hb.mono (Nat.le_refl _)))))
                      have LL := Lib.hid (And.intro l1 (And.intro l2 (And.intro l3 l4)))
                      clear l1 l2 l3 l4 hp3
                      by_cases hm : M ts5 cs3
                      · have HMM := Lib.hid hm
                        clear hm
                        go_wp2_with (first | (go_at_call 46; refine (match_matchTrimSuffix.calls kk s1 p2 false s3 p3 true _ (HLD.out _ (HW2.out.2.mono HBG.out)) HTR.out).mono ?_; rintro e w5 ⟨rfl, hb5⟩; have HW5 := Lib.hid (keepW HW2.out hb5); clear hb5) | (go_at_call 39; refine (HREC.out _ HW5.out).mono ?_; rintro e w6 ⟨r6, c6, rfl, hr6, hc6, hw6, hb6⟩; obtain rfl : r6 = 1 := hr6.elim (fun h => h.1) (fun h => absurd HMM.out h.2); have HW6 := Lib.hid (show w6.heap[g]? = some (.cells #[.int .i64 c6] 3 (0, 0)) ∧ Below g w w6 from ⟨hw6, HW5.out.2.trans hb6⟩); have HC6 := Lib.hid hc6; clear hr6 hc6 hw6 hb6))
                        go_ret
                        exact ⟨1, c6, rfl, .inl ⟨rfl, HQ.out.2.2.2.2 (M_star.2 ⟨[], _, rfl, HMM.out⟩)⟩, cost_end HC.out HN.out.2.1 HC6.out, HW6.out⟩
                      · have HMM := Lib.hid hm
                        clear hm
                        by_cases hs3 : s3.size = 0
                        · have he4 : ((s3.size : Int) == 0) = true := beq_iff_eq.mpr (by omega)
                          have HZ3 := Lib.hid hs3
                          clear hs3
                          go_wp2_with (first | (go_at_call 46; refine (match_matchTrimSuffix.calls kk s1 p2 false s3 p3 true _ (HLD.out _ (HW2.out.2.mono HBG.out)) HTR.out).mono ?_; rintro e w5 ⟨rfl, hb5⟩; have HW5 := Lib.hid (keepW HW2.out hb5); clear hb5) | (go_at_call 39; refine (HREC.out _ HW5.out).mono ?_; rintro e w6 ⟨r6, c6, rfl, hr6, hc6, hw6, hb6⟩; obtain rfl : r6 = 0 := hr6.elim (fun h => absurd h.2 HMM.out) (fun h => h.1); have HW6 := Lib.hid (show w6.heap[g]? = some (.cells #[.int .i64 c6] 3 (0, 0)) ∧ Below g w w6 from ⟨hw6, HW5.out.2.trans hb6⟩); have HC6 := Lib.hid hc6; clear hr6 hc6 hw6 hb6))
                          go_ret
                          refine ⟨0, c6, rfl, .inr ⟨rfl, fun h => HMM.out ?_⟩, cost_end HC.out HN.out.2.1 HC6.out, HW6.out⟩
                          have hq1 := HQ.out.1
                          rw [ints_nil HZ3.out] at hq1
                          have hcs3 := hq1.nil_inv
                          have h2 := HQ.out.2.2.2.1 h
                          rw [hcs3] at h2 ⊢
                          exact M_star_nil.1 h2
                        · have he4 : ((s3.size : Int) == 0) = false := beq_eq_false_iff_ne.mpr (by omega)
                          obtain ⟨d, m, cs4, hd3, hcs4, ht4⟩ := HQ.out.1.head (ints_ne (by omega))
                          obtain ⟨_, _, m1, m2⟩ := dec_go hd3
                          rcases HS.out with ⟨hs0, rfl, -⟩ | ⟨hsp, hm1, hm2, hds, -⟩
                          · have := LL.out; omega
                          · obtain ⟨rfl, rfl⟩ := dec_front HEA.out.1 hds hd3
                            have j0 : (0 : Int) ≤ (ns : Int) := by omega
                            have j1 : (ns : Int) ≤ (s3.size : Int) := by omega
                            have H4 := Lib.hid (And.intro hcs4 ht4)
                            have hmq := And.intro m1 m2
                            clear hds hd3 hcs4 ht4
                            go_wp2_with (first | (go_at_call 46; refine (match_matchTrimSuffix.calls kk s1 p2 false s3 p3 true _ (HLD.out _ (HW2.out.2.mono HBG.out)) HTR.out).mono ?_; rintro e w5 ⟨rfl, hb5⟩; have HW5 := Lib.hid (keepW HW2.out hb5); clear hb5) | (go_at_call 39; refine (HREC.out _ HW5.out).mono ?_; rintro e w6 ⟨r6, c6, rfl, hr6, hc6, hw6, hb6⟩; obtain rfl : r6 = 0 := hr6.elim (fun h => absurd h.2 HMM.out) (fun h => h.1); have HW6 := Lib.hid (show w6.heap[g]? = some (.cells #[.int .i64 c6] 3 (0, 0)) ∧ Below g w w6 from ⟨hw6, HW5.out.2.trans hb6⟩); have HC6 := Lib.hid hc6; clear hr6 hc6 hw6 hb6))
                            have ll := LL.out
                            go_roundg (s3.size - ns + p3.size + 1)
                            case measure => have := HB2.out; omega
                            case rel =>
                              refine ⟨s3.extract ns s3.size, p3, cs4, _, c6, by rw [size_drop], rfl, rfl, Lib.hid ⟨by rw [ints_drop]; exact H4.out.2, by rw [HQ.out.2.1]; exact .star HQ.out.2.2.1⟩, HS3, Lib.hid (HQ.out.2.2.2.trans ?_), Lib.hid ⟨by rw [size_drop]; have := HSZ.out; omega, by have := HSZ.out; have := HB2.out; omega⟩, Lib.hid (cost_call HC.out HC6.out (by rw [size_drop]; omega)), HW6⟩
                              have hmm := HMM.out
                              rw [H4.out.1] at hmm ⊢
                              exact M_star_cons.trans ⟨fun h => h.resolve_left hmm, .inr⟩
                  · obtain rfl : ok = false := hok
                    have HNO := Lib.hid hno
                    clear hno l1 l2 l3
                    go_wp2_with (first | (go_at_call 46; refine (match_matchTrimSuffix.calls kk s1 p2 false s3 p3 false _ (HLD.out _ (HW2.out.2.mono HBG.out)) HTR.out).mono ?_; rintro e w5 ⟨rfl, hb5⟩; have HW5 := Lib.hid (keepW HW2.out hb5); clear hb5))
                    go_ret
                    exact ⟨0, c1, rfl, .inr ⟨rfl, fun h => HNO.out (HM2.out.1 h)⟩, HCE.out, HW5.out⟩
          · obtain rfl : np = 1 := by
              rcases HPD.out with ⟨_, _, h⟩ | ⟨_, h, _⟩
              · exact h
              · omega
            rcases HS.out with ⟨hs0, rfl, rfl⟩ | ⟨hsp, hm1, hm2, hds, cs2, rfl, hts⟩
            · go_wp2
              go_ret
              exact ⟨0, c1, rfl, .inr ⟨rfl, fun h => M_step_nil rfl (HM.out.1 h)⟩, HCE.out, HW.out⟩
            · have he : ((ns : Int) == 0) = false := beq_eq_false_iff_ne.mpr (by omega)
              have j0 : (0 : Int) ≤ (ns : Int) := by omega
              have j1 : (ns : Int) ≤ (s1.size : Int) := by omega
              have j2 : (1 : Int) ≤ (p1.size : Int) := by omega
              go_wp2
              go_roundg (s1.size - ns + (p1.size - 1) + 1)
              case measure => omega
              case rel => exact ⟨s1.extract ns s1.size, p1.extract 1 p1.size, cs2, ts2, c1, by rw [size_drop, size_drop], rfl, rfl, Lib.hid ⟨by rw [ints_drop]; exact hts, by rw [ints_drop]; exact hg2⟩, Lib.hid (by rw [ints_drop]; exact Nat.le_trans (stB_drop _ _) HST.out), Lib.hid (HM.out.trans ((M_step rfl).trans ⟨fun h => h.2, fun h => ⟨fit_one, h⟩⟩)), Lib.hid ⟨by rw [size_drop]; have := HSZ.out; omega, by rw [size_drop]; have := HSZ.out; omega⟩, Lib.hid (cost_less HC.out (by rw [size_drop]; omega)), HW⟩
          · obtain rfl : np = 1 := by
              rcases HPD.out with ⟨_, _, h⟩ | ⟨_, h, _⟩
              · exact h
              · omega
            rcases HS.out with ⟨hs0, rfl, rfl⟩ | ⟨hsp, hm1, hm2, hds, cs2, rfl, hts⟩
            · go_wp2
              go_ret
              exact ⟨0, c1, rfl, .inr ⟨rfl, fun h => M_step_nil rfl (HM.out.1 h)⟩, HCE.out, HW.out⟩
            · have he : ((ns : Int) == 0) = false := beq_eq_false_iff_ne.mpr (by omega)
              have j0 : (0 : Int) ≤ (ns : Int) := by omega
              have j1 : (ns : Int) ≤ (s1.size : Int) := by omega
              have j2 : (1 : Int) ≤ (p1.size : Int) := by omega
              obtain ⟨p2, hp2⟩ : ∃ p2, p2 = p1.extract 1 p1.size := ⟨_, rfl⟩
              have z2 : p2.size = p1.size - 1 := by rw [hp2, size_drop]
              have i2 : ints p2 = (ints p1).drop 1 := by rw [hp2, ints_drop]
              rw [← i2] at hd2c hg2
              obtain ⟨e1, e2, m1, m2⟩ := dec_go hd2c
              have hen : ((n2 : Int) == 0) = false := beq_eq_false_iff_ne.mpr (by omega)
              have j3 : (0 : Int) ≤ (n2 : Int) := by omega
              have j4 : (n2 : Int) ≤ (p2.size : Int) := by omega
              have HP2 := Lib.hid (show stB (ints p2) ≤ k from by rw [i2]; exact Nat.le_trans (stB_drop _ _) HST.out)
              have HZ2 := Lib.hid z2
              have HE2 := Lib.hid hp2.symm
              clear hd2c i2 z2 hp2
              by_cases hq : sc = c2
              · have hq1 : (sc == c2) = true := beq_iff_eq.mpr hq
                have hq2 : (sc != c2) = false := by rw [hq]; simp
                have HQ := Lib.hid hq
                clear hq
                go_wp2_with (first | (go_at_call 45; (rw [HE2.out]); refine (dec_calls (HLD.out _ (HW.out.2.mono HBG.out)) e1 e2).mono ?_; rintro e w3 ⟨rfl, hb3⟩; have HW3 := Lib.hid (keepW HW.out hb3); clear hb3))
                have z2 := HZ2.out
                go_roundg (s1.size - ns + (p2.size - n2) + 1)
                case measure => omega
                case rel => exact ⟨s1.extract ns s1.size, p2.extract n2 p2.size, cs2, ts2, c1, by rw [size_drop, size_drop], rfl, rfl, Lib.hid ⟨by rw [ints_drop]; exact hts, by rw [ints_drop]; exact hg2⟩, Lib.hid (by rw [ints_drop]; exact Nat.le_trans (stB_drop _ _) HP2.out), Lib.hid (HM.out.trans ((M_step rfl).trans ⟨fun h => h.2, fun h => ⟨fit_lit.2 HQ.out, h⟩⟩)), Lib.hid ⟨by rw [size_drop]; have := HSZ.out; omega, by rw [size_drop]; have := HSZ.out; omega⟩, Lib.hid (cost_less HC.out (by rw [size_drop]; omega)), HW3⟩
              · have hq1 : (sc == c2) = false := beq_eq_false_iff_ne.mpr hq
                have hq2 : (sc != c2) = true := by simp [hq]
                have HQ := Lib.hid hq
                clear hq
                go_wp2_with (first | (go_at_call 45; (rw [HE2.out]); refine (dec_calls (HLD.out _ (HW.out.2.mono HBG.out)) e1 e2).mono ?_; rintro e w3 ⟨rfl, hb3⟩; have HW3 := Lib.hid (keepW HW.out hb3); clear hb3))
                go_ret
                exact ⟨0, c1, rfl, .inr ⟨rfl, fun h => HQ.out (fit_lit.1 ((M_step rfl).1 (HM.out.1 h)).1)⟩, HCE.out, HW3.out⟩
          · have e63 : (pc == 63) = false := beq_eq_false_iff_ne.mpr k2
            have e42 : (pc == 42) = false := beq_eq_false_iff_ne.mpr k1
            have e92 : (pc == 92) = false := beq_eq_false_iff_ne.mpr k3
            have KK := Lib.hid (And.intro k1 (And.intro k2 k3))
            clear k1 k2 k3
            rcases HS.out with ⟨hs0, rfl, rfl⟩ | ⟨hsp, hm1, hm2, hds, cs2, rfl, hts⟩
            · go_wp2
              go_ret
              exact ⟨0, c1, rfl, .inr ⟨rfl, fun h => M_step_nil rfl (HM.out.1 h)⟩, HCE.out, HW.out⟩
            · have he : ((ns : Int) == 0) = false := beq_eq_false_iff_ne.mpr (by omega)
              have hnp := HNP.out
              have j0 : (0 : Int) ≤ (ns : Int) := by omega
              have j1 : (ns : Int) ≤ (s1.size : Int) := by omega
              have j2 : (0 : Int) ≤ (np : Int) := by omega
              have j3 : (np : Int) ≤ (p1.size : Int) := by omega
              by_cases hq : sc = pc
              · have hq1 : (sc == pc) = true := beq_iff_eq.mpr hq
                have hq2 : (sc != pc) = false := by rw [hq]; simp
                have HQ := Lib.hid hq
                clear hq
                go_wp2
                go_roundg (s1.size - ns + (p1.size - np) + 1)
                case measure => omega
                case rel => exact ⟨s1.extract ns s1.size, p1.extract np p1.size, cs2, ts2, c1, by rw [size_drop, size_drop], rfl, rfl, Lib.hid ⟨by rw [ints_drop]; exact hts, by rw [ints_drop]; exact hg2⟩, Lib.hid (by rw [ints_drop]; exact Nat.le_trans (stB_drop _ _) HST.out), Lib.hid (HM.out.trans ((M_step rfl).trans ⟨fun h => h.2, fun h => ⟨fit_lit.2 HQ.out, h⟩⟩)), Lib.hid ⟨by rw [size_drop]; have := HSZ.out; omega, by rw [size_drop]; have := HSZ.out; omega⟩, Lib.hid (cost_less HC.out (by rw [size_drop]; omega)), HW⟩
              · have hq1 : (sc == pc) = false := beq_eq_false_iff_ne.mpr hq
                have hq2 : (sc != pc) = true := by simp [hq]
                have HQ := Lib.hid hq
                clear hq
                go_wp2
                go_ret
                exact ⟨0, c1, rfl, .inr ⟨rfl, fun h => HQ.out (fit_lit.1 ((M_step rfl).1 (HM.out.1 h)).1)⟩, HCE.out, HW.out⟩

end Go.Proofs.YtkhgbacbnkgafaaGreatDoor.Mlw

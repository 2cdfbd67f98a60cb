import PyProof.Rows.All
import Wide.All
import OpenK.AllK
import Wide.FinOn
import PySem.Challenge.RW_tp0010_01
set_option maxRecDepth 100000
section
open PySem PySem.W PyProof.Rows
namespace Mine
/-! texts as lists of codes -/
abbrev T (l : List Nat) : PySem.Str := ⟨l.toArray⟩
theorem T_len (l : List Nat) : (T l).length = l.length := by simp [T, PySem.Str.length]
theorem T_app (a b : List Nat) : T a ++ T b = T (a ++ b) := PySem.Str.ext' (by simp [T, PySem.Str.cps_append])
theorem T_inj {a b : List Nat} : (T a == T b) = decide (a = b) := by
  rw [Bool.eq_iff_iff]; simp [T]
theorem T_of (x : PySem.Str) : x = T x.cps.toList := PySem.Str.ext' (by simp [T])
theorem T_list (l : List Nat) : (T l).cps.toList = l := by simp [T]
theorem T_one {x : PySem.Str} {c : Nat} : (x == ⟨#[c]⟩) = decide (x.cps.toList = [c]) := by
  conv => lhs; rw [T_of x]
  exact T_inj
theorem item_T {x : PySem.Str} {i : Int} (h0 : 0 ≤ i) (h1 : i < x.length) : ∃ c, Txt.item x i = ⟨#[c]⟩ ∧ x.cps.toList.drop i.toNat = c :: x.cps.toList.drop (i.toNat + 1) := by
  have hn : i.toNat < x.cps.toList.length := by simp [PySem.Str.length] at h1 ⊢; omega
  refine ⟨x.cps.toList[i.toNat], ?_, List.drop_eq_getElem_cons hn⟩
  unfold Txt.item Txt.charAt
  rw [StrLaws.at_nonneg h0 (n := x.cps.toList[i.toNat]) (by simp at hn ⊢)]
  rfl
/-! parse257 behind its head -/
def dirL : List Nat → List Nat
  | [] => []
  | [c] => if c = 34 then [] else [c]
  | c :: d :: r => if c = 34 then (if d = 34 then 34 :: dirL r else []) else c :: dirL (d :: r)
theorem dirL_other {c : Nat} (hc : c ≠ 34) (r : List Nat) : dirL (c :: r) = c :: dirL r := by
  cases r with
  | nil => simp [dirL, hc]
  | cons d r => simp [dirL, hc]
theorem dirL_told (sg : Nat) (hs : sg ≠ 34) (r : List Nat) : ∀ n : Nat, dirL (List.replicate n 34 ++ sg :: 34 :: 32 :: r) = List.replicate (n / 2) 34 ++ (if n % 2 = 0 then [sg] else [])
  | 0 => by simp [dirL_other hs, dirL]
  | 1 => by simp [dirL, hs]
  | n + 2 => by
    have := dirL_told sg hs r n
    have h1 : (n + 2) / 2 = n / 2 + 1 := by omega
    have h2 : (n + 2) % 2 = n % 2 := by omega
    rw [h1, h2]
    simp only [List.replicate_succ, List.cons_append, dirL, if_true]
    rw [this]
structure PInv (x : PySem.Str) (i : Int) (d : PySem.Str) : Prop where
  lo : 5 ≤ i
  hi : i ≤ x.length
  ds : d.length + 5 ≤ i
  eq : d.cps.toList ++ dirL (x.cps.toList.drop i.toNat) = dirL (x.cps.toList.drop 5)
abbrev PAll (x : PySem.Str) (i : Int) (d : PySem.Str) : Prop := 5 ≤ i ∧ i ≤ x.length ∧ d.length + 5 ≤ i ∧ PInv x i d
theorem PInv.all {x : PySem.Str} {i : Int} {d : PySem.Str} (h : PInv x i d) : PAll x i d := ⟨h.lo, h.hi, h.ds, h⟩
theorem nilS : (PySem.Str.ofString "") = ⟨#[]⟩ := by decide +kernel
theorem quoS : (PySem.Str.ofString "\"") = ⟨#[34]⟩ := by decide +kernel
theorem pinv_start {x : PySem.Str} (h : x.length ≤ 100000 ∧ x.cps.toList.take 5 = [50, 53, 55, 32, 34]) : PAll x 5 (PySem.Str.ofString "") := by
  have hl := congrArg List.length h.2
  rw [nilS]
  simp only [List.length_take, Array.length_toList, List.length_cons, List.length_nil] at hl
  exact PInv.all ⟨by omega, by simp only [PySem.Str.length]; omega, by simp [PySem.Str.length], by simp⟩
theorem pinv_c {x : PySem.Str} {i : Int} {d : PySem.Str} (h : PInv x i d) (hi : i < x.length) (hc : (Txt.item x i == PySem.Str.ofString "\"") = false) : PAll x (i + 1) (d ++ Txt.item x i) := by
  obtain ⟨c, e, hd⟩ := item_T (by have := h.lo; omega) hi
  rw [e, quoS, T_one] at hc
  have hc' : c ≠ 34 := by simpa using hc
  have hn : (i + 1).toNat = i.toNat + 1 := by have := h.lo; omega
  refine PInv.all ⟨by have := h.lo; omega, by omega, ?_, ?_⟩
  · have := h.ds; rw [PySem.Str.length_append, e]; simp [PySem.Str.length] at this ⊢; omega
  · have := h.eq
    rw [hd, dirL_other hc'] at this
    rw [e, hn, ← this]; simp [PySem.Str.cps_append]
theorem pinv_q {x : PySem.Str} {i : Int} {d : PySem.Str} (h : PInv x i d) (hi : ¬ (x.length : Int) ≤ i + 1) (hc : (Txt.item x i == PySem.Str.ofString "\"") = true) (hq : (Txt.item x (i + 1) != PySem.Str.ofString "\"") = false) : PAll x (i + 1 + 1) (d ++ Txt.item x i) := by
  obtain ⟨c, e, hd⟩ := item_T (x := x) (i := i) (by have := h.lo; omega) (by omega)
  obtain ⟨c', e', hd'⟩ := item_T (x := x) (i := i + 1) (by have := h.lo; omega) (by omega)
  rw [e, quoS, T_one] at hc
  rw [bne, e', quoS, T_one] at hq
  have hc1 : c = 34 := by simpa using hc
  have hc2 : c' = 34 := by simpa using hq
  subst hc1; subst hc2
  have hn : (i + 1).toNat = i.toNat + 1 := by have := h.lo; omega
  have hn2 : (i + 1 + 1).toNat = i.toNat + 1 + 1 := by have := h.lo; omega
  rw [hn] at hd'
  refine PInv.all ⟨by have := h.lo; omega, by omega, ?_, ?_⟩
  · have := h.ds; rw [PySem.Str.length_append, e]; simp [PySem.Str.length] at this ⊢; omega
  · have := h.eq
    rw [hd, hd'] at this
    simp only [dirL, if_true] at this
    rw [e, hn2, ← this]; simp [PySem.Str.cps_append]
theorem pend {x d : PySem.Str} (h : d.cps.toList = dirL (x.cps.toList.drop 5)) : d = T (dirL (x.cps.toList.drop 5)) := by rw [← h, ← T_of]
theorem pend_0 {x : PySem.Str} {i : Int} {d : PySem.Str} (h : PInv x i d) (hi : ¬ i < x.length) : d = T (dirL (x.cps.toList.drop 5)) := by
  have := h.eq
  have h2 : x.cps.toList.length ≤ i.toNat := by simp [PySem.Str.length] at hi ⊢; omega
  rw [List.drop_eq_nil_of_le h2] at this
  exact pend (by simpa [dirL] using this)
theorem pend_1 {x : PySem.Str} {i : Int} {d : PySem.Str} (h : PInv x i d) (hi : i < x.length) (hj : (x.length : Int) ≤ i + 1) (hc : (Txt.item x i == PySem.Str.ofString "\"") = true) : d = T (dirL (x.cps.toList.drop 5)) := by
  obtain ⟨c, e, hd⟩ := item_T (x := x) (i := i) (by have := h.lo; omega) (by omega)
  rw [e, quoS, T_one] at hc
  have hc1 : c = 34 := by simpa using hc
  subst hc1
  have := h.eq
  have h2 : x.cps.toList.length ≤ i.toNat + 1 := by simp [PySem.Str.length] at hj ⊢; omega
  rw [hd, List.drop_eq_nil_of_le h2] at this
  exact pend (by simpa [dirL] using this)
theorem pend_2 {x : PySem.Str} {i : Int} {d : PySem.Str} (h : PInv x i d) (hi : ¬ (x.length : Int) ≤ i + 1) (hc : (Txt.item x i == PySem.Str.ofString "\"") = true) (hq : (Txt.item x (i + 1) != PySem.Str.ofString "\"") = true) : d = T (dirL (x.cps.toList.drop 5)) := by
  obtain ⟨c, e, hd⟩ := item_T (x := x) (i := i) (by have := h.lo; omega) (by omega)
  obtain ⟨c', e', hd'⟩ := item_T (x := x) (i := i + 1) (by have := h.lo; omega) (by omega)
  rw [e, quoS, T_one] at hc
  rw [bne, e', quoS, T_one] at hq
  have hc1 : c = 34 := by simpa using hc
  have hc2 : c' ≠ 34 := by simpa using hq
  subst hc1
  have hn : (i + 1).toNat = i.toNat + 1 := by have := h.lo; omega
  rw [hn] at hd'
  have := h.eq
  rw [hd, hd'] at this
  exact pend (by simpa [dirL, hc2] using this)
theorem slice_clip (a b n : Nat) : Builtin.Str.strSliceIndices (some (a : Int)) (some (b : Int)) 1 n = Builtin.Str.strSliceIndices (some ((min a n : Nat) : Int)) (some ((min b n : Nat) : Int)) 1 n := by
  have e1 : ¬ ((a : Int) < 0) := by omega
  have e2 : ¬ ((b : Int) < 0) := by omega
  have e3 : ¬ (((min a n : Nat) : Int) < 0) := by omega
  have e4 : ¬ (((min b n : Nat) : Int) < 0) := by omega
  simp only [Builtin.Str.strSliceIndices, e1, e2, e3, e4, if_false]
  have p1 : max 0 (min (a : Int) n) = max 0 (min ((min a n : Nat) : Int) n) := by omega
  have p2 : max 0 (min (b : Int) n) = max 0 (min ((min b n : Nat) : Int) n) := by omega
  simp only [p1, p2, show ((1 : Int) > 0) = True from by simp, if_true]
theorem slice_T (x : PySem.Str) {a b : Nat} (hab : a ≤ b) : Txt.slice x (some (a : Int)) (some (b : Int)) = T ((x.cps.toList.drop a).take (b - a)) := by
  have h : Txt.slice x (some (a : Int)) (some (b : Int)) = Txt.slice x (some ((min a x.length : Nat) : Int)) (some ((min b x.length : Nat) : Int)) := by
    unfold Txt.slice
    rw [slice_clip]
  rw [h]
  have h2 := StrLaws.sliceText_nat x (a := min a x.length) (b := min b x.length) (by omega) (by omega)
  refine Eq.trans (b := StrLaws.sliceText x (some ((min a x.length : Nat) : Int)) (some ((min b x.length : Nat) : Int))) rfl (h2.trans ?_)
  have hl : x.length = x.cps.toList.length := by simp [PySem.Str.length]
  congr 2
  rcases Nat.le_total a x.length with h3 | h3
  · rw [Nat.min_eq_left h3]
    rcases Nat.le_total b x.length with h4 | h4
    · rw [Nat.min_eq_left h4]
    · rw [Nat.min_eq_right h4, List.take_of_length_le (by rw [List.length_drop, ← hl]; omega), List.take_of_length_le (by rw [List.length_drop, ← hl]; omega)]
  · rw [Nat.min_eq_right h3, List.drop_eq_nil_of_le (by omega), List.drop_eq_nil_of_le (by omega)]; simp
theorem slice_to_T (x : PySem.Str) (b : Nat) : Txt.slice x none (some (b : Int)) = T (x.cps.toList.take b) := by
  have := slice_T x (a := 0) (b := b) (by omega)
  simp only [List.drop_zero, Nat.sub_zero] at this
  rw [← this]
  unfold Txt.slice
  rw [StrLaws.sliceIdx_none_lo]; rfl
theorem slice_from_T (x : PySem.Str) (a : Nat) : Txt.slice x (some (a : Int)) none = T (x.cps.toList.drop a) := by
  have hl : x.length = x.cps.toList.length := by simp [PySem.Str.length]
  have h : Txt.slice x (some (a : Int)) none = Txt.slice x (some (a : Int)) (some (x.length : Int)) := by
    unfold Txt.slice
    rw [StrLaws.sliceIdx_none_hi]
  rw [h]
  rcases Nat.le_total a x.length with h3 | h3
  · rw [slice_T x h3, List.take_of_length_le (by simp [PySem.Str.length])]
  · have h5 : Txt.slice x (some (a : Int)) (some (x.length : Int)) = Txt.slice x (some (x.length : Int)) (some (x.length : Int)) := by
      unfold Txt.slice
      rw [slice_clip, Nat.min_eq_right h3, Nat.min_self]
    have h6 : x.cps.toList.drop a = [] := List.drop_eq_nil_of_le (by rw [← hl]; exact h3)
    rw [h5, slice_T x (Nat.le_refl _), h6]; simp
theorem slice_lit (x : PySem.Str) {a b : Nat} {i j : Int} (hi : i = a) (hj : j = b) (hab : a ≤ b) : Txt.slice x (some i) (some j) = T ((x.cps.toList.drop a).take (b - a)) := by
  rw [hi, hj]; exact slice_T x hab
theorem slice_to_lit (x : PySem.Str) {b : Nat} {j : Int} (hj : j = b) : Txt.slice x none (some j) = T (x.cps.toList.take b) := by
  rw [hj]; exact slice_to_T x b
theorem slice_from_lit (x : PySem.Str) {a : Nat} {i : Int} (hi : i = a) : Txt.slice x (some i) none = T (x.cps.toList.drop a) := by
  rw [hi]; exact slice_from_T x a
abbrev Head257 (x : PySem.Str) : Prop := x.length ≤ 100000 ∧ x.cps.toList.take 5 = [50, 53, 55, 32, 34]
theorem head_1 {x : PySem.Str} (hx : Head257 x) : (Txt.slice x none (some 3) != PySem.Str.ofString "257") = false := by
  rw [slice_to_lit x (b := 3) (j := 3) rfl, show (PySem.Str.ofString "257") = T [50, 53, 55] from by decide +kernel, bne, T_inj]
  have := congrArg (List.take 3) hx.2
  simpa [List.take_take] using this
theorem head_2 {x : PySem.Str} (hx : Head257 x) : (Txt.slice x (some 3) (some 5) != PySem.Str.ofString " \"") = false := by
  rw [slice_lit x (a := 3) (b := 5) (i := 3) (j := 5) rfl rfl (by omega), show (PySem.Str.ofString " \"") = T [32, 34] from by decide +kernel, bne, T_inj]
  have := congrArg (List.drop 3) hx.2
  rw [List.drop_take] at this
  simpa using this
/-! the sign -/
def codeN (n : Int) : Nat := ((n.fdiv 3).fmod 55296).toNat
def signN (n : Int) : Nat := if codeN n ∈ [46, 34, 13, 10] then 97 else codeN n
theorem signN_ne (n : Int) : signN n ≠ 46 ∧ signN n ≠ 34 ∧ signN n ≠ 13 ∧ signN n ≠ 10 := by
  unfold signN
  split
  · decide
  · rename_i h
    simp only [List.mem_cons, List.not_mem_nil, or_false, not_or] at h
    exact h
theorem badS : (PySem.Str.ofString ".\"\r\n") = T [46, 34, 13, 10] := by decide +kernel
theorem sign_out {n : Int} (h : (Builtin.Str.occurrences (PySem.Str.ofString ".\"\r\n") { cps := #[((n.fdiv 3).fmod 55296).toNat] } 0 (PySem.Str.ofString ".\"\r\n").length 1).isEmpty = true) : ({ cps := #[((n.fdiv 3).fmod 55296).toNat] } : PySem.Str) = T [signN n] := by
  have h2 := StrLaws.found_one (PySem.Str.ofString ".\"\r\n") ((n.fdiv 3).fmod 55296).toNat
  rw [h, badS, T_list] at h2
  have h3 : ¬ codeN n ∈ [46, 34, 13, 10] := by simpa [codeN] using h2
  unfold signN
  rw [if_neg h3]; rfl
theorem sign_in {n : Int} (h : (Builtin.Str.occurrences (PySem.Str.ofString ".\"\r\n") { cps := #[((n.fdiv 3).fmod 55296).toNat] } 0 (PySem.Str.ofString ".\"\r\n").length 1).isEmpty = false) : PySem.Str.ofString "a" = T [signN n] := by
  have h2 := StrLaws.found_one (PySem.Str.ofString ".\"\r\n") ((n.fdiv 3).fmod 55296).toNat
  rw [h, badS, T_list] at h2
  have h3 : codeN n ∈ [46, 34, 13, 10] := by simpa [codeN] using h2
  unfold signN
  rw [if_pos h3]; decide +kernel
/-! dots -/
theorem mul_T (c n : Nat) : Txt.mul (T [c]) (n : Int) = T (List.replicate n c) := by
  have h : ∀ (k : Nat) (acc : Array Nat), ((List.replicate k #[c]).foldl (· ++ ·) acc) = (acc.toList ++ List.replicate k c).toArray := by
    intro k
    induction k with
    | zero => intro acc; simp
    | succ k ih => intro acc; rw [List.replicate_succ, List.foldl_cons, ih, List.replicate_succ]; simp
  unfold Txt.mul
  split
  · have : n = 0 := by omega
    subst this; rfl
  · split
    · rename_i h2
      simp only [Bool.or_eq_true, beq_iff_eq, T_len, List.length_cons, List.length_nil, Nat.zero_add, Nat.one_ne_zero, or_false] at h2
      have : n = 1 := by omega
      subst this; rfl
    · rw [show (T [c]).cps = #[c] from rfl, Int.toNat_natCast, h]; rfl
theorem dots_mul (n : Nat) : Txt.mul (PySem.Str.ofString ".") (n : Int) = T (List.replicate n 46) := by
  rw [show (PySem.Str.ofString ".") = T [46] from by decide +kernel]; exact mul_T 46 n
theorem sl_11 : Txt.slice (T (List.replicate (0 + 1) 46)) none (some 1) = T [46] := by decide +kernel
theorem sl_12 : Txt.slice (T (List.replicate (0 + 1) 46)) none (some 2) = T [46] := by decide +kernel
theorem sl_13 : Txt.slice (T (List.replicate (0 + 1) 46)) none (some 3) = T [46] := by decide +kernel
theorem sl_21 : Txt.slice (T (List.replicate (0 + 1 + 1) 46)) none (some 1) = T [46] := by decide +kernel
theorem sl_22 : Txt.slice (T (List.replicate (0 + 1 + 1) 46)) none (some 2) = T [46, 46] := by decide +kernel
theorem sl_23 : Txt.slice (T (List.replicate (0 + 1 + 1) 46)) none (some 3) = T [46, 46] := by decide +kernel
theorem sl_31 (k : Nat) : Txt.slice (T (List.replicate (k + 1 + 1 + 1) 46)) none (some 1) = T [46] := by
  rw [slice_to_lit _ (b := 1) (j := 1) rfl, T_list]; simp [List.replicate_succ]
theorem sl_32 (k : Nat) : Txt.slice (T (List.replicate (k + 1 + 1 + 1) 46)) none (some 2) = T [46, 46] := by
  rw [slice_to_lit _ (b := 2) (j := 2) rfl, T_list]; simp [List.replicate_succ]
theorem sl_33 (k : Nat) : Txt.slice (T (List.replicate (k + 1 + 1 + 1) 46)) none (some 3) = T [46, 46, 46] := by
  rw [slice_to_lit _ (b := 3) (j := 3) rfl, T_list]; simp [List.replicate_succ]
theorem sl_f1 : Txt.slice (T (List.replicate (0 + 1) 46)) (some 3) none = T (List.replicate 0 46) := by decide +kernel
theorem sl_f2 : Txt.slice (T (List.replicate (0 + 1 + 1) 46)) (some 1) none = T (List.replicate 1 46) := by decide +kernel
theorem sl_f3 (k : Nat) : Txt.slice (T (List.replicate (k + 1 + 1 + 1) 46)) (some 3) none = T (List.replicate k 46) := by
  rw [slice_from_lit _ (a := 3) (i := 3) rfl, T_list]; simp [List.replicate_succ]
theorem ne_dots (k : Nat) : (T (List.replicate (k + 1) 46) != PySem.Str.ofString "") = true := by
  rw [nilS, bne, show (⟨#[]⟩ : PySem.Str) = T [] from rfl, T_inj]; simp [List.replicate_succ]
/-! reading -/
theorem told_T (n c : Nat) : PySem.Str.ofString "257 \"" ++ Txt.mul (PySem.Str.ofString "\"") (n : Int) ++ T [c] ++ PySem.Str.ofString "\" is it" = T ([50, 53, 55, 32, 34] ++ (List.replicate n 34 ++ c :: [34, 32, 105, 115, 32, 105, 116])) := by
  rw [show (PySem.Str.ofString "257 \"") = T [50, 53, 55, 32, 34] from by decide +kernel, show (PySem.Str.ofString "\"") = T [34] from by decide +kernel, show (PySem.Str.ofString "\" is it") = T [34, 32, 105, 115, 32, 105, 116] from by decide +kernel, mul_T, T_app, T_app, T_app]
  simp
theorem head_told {n c : Nat} (hn : n ≤ 90000) : Head257 (PySem.Str.ofString "257 \"" ++ Txt.mul (PySem.Str.ofString "\"") (n : Int) ++ T [c] ++ PySem.Str.ofString "\" is it") := by
  rw [told_T]
  refine ⟨?_, by simp⟩
  rw [T_len]; simp; omega
theorem dir_told {n c : Nat} (hc : c ≠ 34) : dirL ((PySem.Str.ofString "257 \"" ++ Txt.mul (PySem.Str.ofString "\"") (n : Int) ++ T [c] ++ PySem.Str.ofString "\" is it").cps.toList.drop 5) = List.replicate (n / 2) 34 ++ (if n % 2 = 0 then [c] else []) := by
  rw [told_T, T_list, show (List.drop 5 ([50, 53, 55, 32, 34] ++ (List.replicate n 34 ++ c :: [34, 32, 105, 115, 32, 105, 116]))) = List.replicate n 34 ++ c :: 34 :: 32 :: [105, 115, 32, 105, 116] from by simp]
  exact dirL_told c hc _ n
theorem cnt_rep (n : Nat) : cnt 34 (List.replicate n 34) = (n : Nat) := by
  induction n with
  | zero => rfl
  | succ n ih => rw [List.replicate_succ, cnt_cons, ih, if_pos rfl]; omega
theorem count_told {n c : Nat} (hc : c ≠ 34) : Txt.count (T (List.replicate (n / 2) 34 ++ (if n % 2 = 0 then [c] else []))) (PySem.Str.ofString "\"") = ((n / 2 : Nat) : Int) := by
  rw [quoS, count_is, T_list]
  show cnt 34 _ = _
  rw [cnt_append, cnt_rep]
  split
  · rw [cnt_cons, if_neg hc, cnt_nil]; omega
  · rw [cnt_nil]; omega
theorem count_read {n c : Nat} (hc : c ≠ 34) : Txt.count (T (dirL ((PySem.Str.ofString "257 \"" ++ Txt.mul (PySem.Str.ofString "\"") (n : Int) ++ T [c] ++ PySem.Str.ofString "\" is it").cps.toList.drop 5))) (PySem.Str.ofString "\"") = ((n / 2 : Nat) : Int) := by
  rw [dir_told hc, count_told hc]
end Mine
end
section
open PySem PySem.W PyProof.Rows PySem.Calls
namespace Mine
abbrev Keeps (h h' : Heap) : Prop := ∀ b o, h.get? b = some o → h'.get? b = some o
theorem news_over {h₀ h h' : Heap} {L : Addr} {news : List (Addr × Obj)} (N : News h₀ L h news) (k : Keeps h h') : News h₀ L h' news :=
  fun p hp => ⟨k _ _ (N p hp).1, (N p hp).2⟩
theorem news_more {h₀ h h' : Heap} {L : Addr} {m : PySem.Str → Option Value} {news more : List (Addr × Obj)} (F : Fr h₀ L h m) (N : News h₀ L h news) (k : Keeps h h')
    (hm : ∀ p ∈ more, h'.get? p.1 = some p.2 ∧ h.get? p.1 = none) : News h₀ L h' (more ++ news) := by
  intro p hp
  rcases List.mem_append.mp hp with hp | hp
  · refine ⟨(hm p hp).1, fun q => ?_, ?_⟩
    · obtain ⟨oL, _, _, hL, _⟩ := F.ns
      have := (hm p hp).2
      rw [q, hL] at this; cases this
    · cases e : h₀.get? p.1 with
      | none => rfl
      | some o => have := F.keep _ _ e; rw [(hm p hp).2] at this; cases this
  · exact news_over N k p hp
theorem leave_of {h₀ g : Heap} {L : Addr} {m : PySem.Str → Option Value} {R : Result → Shared → Prop} {v : Value} {s' : Shared} (F : Fr h₀ L g m) (hl : LeaveK h₀ L m g R v s') : R (.ok (.ret v)) s' := by
  obtain ⟨L', m', news', F', N', k⟩ := hl
  refine k (F.after F'.keep) ?_
  have := news_more (news := []) (more := news') F News.nil F'.keep fun p hp => ⟨(N' p hp).1, (N' p hp).2.2⟩
  simpa using this
section
variable {prog : Program} {w : World} {A A₀ : Around} {s : Shared} {K : Frag} {L : Addr} {h₀ base : Heap} {m mg mb : PySem.Str → Option Value} {p : Program} {loose : List PySem.Str} {mean : ExcName → Option Value}
  {env : Env} {outer : List Env} {R : Result → Shared → Prop} {name qual : PySem.Str} {params : Arguments} {body : List Stmt} {scope : Scope} {dV kV doc pm cdv ct oc : Value} {an od : Option Addr} {osl : Array (Option Value)} {f : Addr} {args : Args} {binds : List (PySem.Str × Value)}
theorem enter_def
    (B : Below A₀ base outer h₀) (F : Fr h₀ L s.heap m) (X₀ : K.In h₀) (T : Top p loose mean mg mb h₀) (hA : A.frames = some (env :: outer)) (hf : env.frame = some L) (hke : env.scope.kind = .function)
    (ho : K.lookup f = some ⟨oc, od, .func (fnOf name qual params body scope dV kV doc pm an cdv ct), osl⟩) (hcd : codeIn K cdv qual = true) (hroom : A.depth < recursionLimit)
    (hbind : BindsTo s (fnOf name qual params body scope dV kV doc pm an cdv ct) args binds) (hloc : ∀ y ∈ binds, scope.names.lookup y.1 = some .local)
    (h : ∀ L' h₁, Fr s.heap L' h₁ (fun y => binds.reverse.lookup y) → News s.heap L' h₁ [] → Below A base (env :: outer) s.heap → K.In s.heap → Top p loose mean mg mb s.heap →
      wpAny (model prog w) (A.deeper (envOf qual scope L' f cdv)) (execs body (envOf qual scope L' f cdv))
        (fun fl s' => LeaveK h₀ L m s.heap R (match fl with | .ret v => v | _ => .none) s')
        (fun e s' => wpAny (model prog w) (A.deeper (envOf qual scope L' f cdv)) (leaving (envOf qual scope L' f cdv) e) (fun _ s'' => R (.error e) s'') (fun e' s'' => R (.error e') s'') s')
        { s with heap := h₁, toks := s.toks + binds.length })
    (hco : scope.isCoroutine = false) (hgen : scope.isGenerator = false) (hk : scope.kind = .function)
    (hcell : ∀ x ∈ scope.names, x.2 ≠ .cell) : codeAny (model prog w) A (.call (.ref f) args) R s := by
  have B₁ := pushX B F hf hke
  have X₁ := X₀.keeps F.keep
  refine codeAny_call_def (fd := fnOf name qual params body scope dV kV doc pm an cdv ct) (body := body) (binds := binds) hroom (X₁ _ _ ho) rfl (T.nolimit.keeps F.keep) (codeRec_of X₁ hcd) rfl hbind hcell hloc (fun h₁ hns hk₁ => ?_) hco hgen hk
  exact wpAny_mono (h s.heap.objs.size h₁ ⟨hns, hk₁, Nat.le_refl _⟩ News.nil ⟨hA, B₁.stays, B₁.frames⟩ X₁ (T.keeps F.keep)) (fun fl s' hl => leave_of F hl) fun _ _ y => y
theorem enter_defC
    (B : Below A₀ base outer h₀) (F : Fr h₀ L s.heap m) (X₀ : K.In h₀) (T : Top p loose mean mg mb h₀) (hA : A.frames = some (env :: outer)) (hf : env.frame = some L) (hke : env.scope.kind = .function)
    (ho : K.lookup f = some ⟨oc, od, .func (fnOf name qual params body scope dV kV doc pm an cdv ct), osl⟩) (hcd : codeIn K cdv qual = true) (hroom : A.depth < recursionLimit)
    (hbind : BindsTo s (fnOf name qual params body scope dV kV doc pm an cdv ct) args binds) (hkind : (binds.all fun y => scope.names.lookup y.1 == some .local || scope.names.lookup y.1 == some .cell) = true)
    (hnd : ((cellsFrom 0 scope.names []).map (·.1)).Nodup)
    (h : ∀ L' h₁ tk cells, Fr s.heap L' h₁ (bindL (envOfC qual scope L' f cdv).kindOf binds fun _ => none) → News s.heap L' h₁ cells →
      CellsAre (bindC (envOfC qual scope L' f cdv).kindOf binds fun _ => none) (cellsFrom (L' + 1) scope.names []) cells → Below A base (env :: outer) s.heap → K.In s.heap → Top p loose mean mg mb s.heap →
      wpAny (model prog w) (A.deeper (envOfC qual scope L' f cdv)) (execs body (envOfC qual scope L' f cdv))
        (fun fl s' => LeaveK h₀ L m s.heap R (match fl with | .ret v => v | _ => .none) s')
        (fun e s' => wpAny (model prog w) (A.deeper (envOfC qual scope L' f cdv)) (leaving (envOfC qual scope L' f cdv) e) (fun _ s'' => R (.error e) s'') (fun e' s'' => R (.error e') s'') s')
        { s with heap := h₁, toks := tk })
    (hco : scope.isCoroutine = false) (hgen : scope.isGenerator = false) (hk : scope.kind = .function) : codeAny (model prog w) A (.call (.ref f) args) R s := by
  have B₁ := pushX B F hf hke
  have X₁ := X₀.keeps F.keep
  refine codeAny_call_function hroom (X₁ _ _ ho) rfl hco hgen rfl (codeRec_of X₁ hcd) (hbind _ _ _ _ ?_)
  refine wpAny_newFunctionEnv_cells hk (kindsX hkind _) fun env' he s' x => ?_
  subst he
  refine ⟨(T.nolimit.keeps F.keep).keeps x.toInCall.keep, codeAny_func ?_⟩
  obtain ⟨h₁, tk, rfl, _⟩ := x.done
  have hk₁ := x.toInCall.keep
  obtain ⟨cells, NC, Y⟩ := Cl.news (h₀ := s.heap) (Nat.le_refl _) fun n c hm => ⟨x.cell n c (lookup_of_mem_nodup (cellsFrom_names scope.names 0 (s.heap.objs.size + 1) [] [] rfl ▸ hnd) hm), x.above n c hm⟩
  exact wpAny_mono (h s.heap.objs.size h₁ tk cells ⟨x.toInCall.ns, hk₁, Nat.le_refl _⟩ NC Y ⟨hA, B₁.stays, B₁.frames⟩ X₁ (T.keeps F.keep)) (fun fl s' hl => leave_of F hl) fun _ _ y => y
end
/-- a call of the def at f with vs, whatever stands around it; d: how deep it may go; Pre: what it asks of the heap; R: its value and what it has made -/
def Con (prog : Program) (w : World) (K : Frag) (p : Program) (loose : List PySem.Str) (mean : ExcName → Option Value) (mg mb : PySem.Str → Option Value) (d : Nat) (f : Addr) (vs : List Value) (Pre : Heap → Prop) (R : Value → List (Addr × Obj) → Prop) : Prop :=
  ∀ (dp un : Nat) (gd : Option (List Code)) (cn : PySem.Str) (cs : Scope) (a : Addr) (ccd : Value) (cl : List (PySem.Str × Addr)) (outer : List Env) (A₀ : Around) (base h₀ : Heap) (L : Addr) (m : PySem.Str → Option Value) (s : Shared) (Q E : Value → Shared → Prop),
    Below A₀ base outer h₀ → Fr h₀ L s.heap m → K.In h₀ → Top p loose mean mg mb h₀ → cs.kind = .function →
    dp + d < recursionLimit → un + 30 * d < cLine → Pre s.heap →
    (∀ (v : Value) (more : List (Addr × Obj)) (h' : Heap) (tk' : Nat), R v more → (∀ p ∈ more, h'.get? p.1 = some p.2 ∧ s.heap.get? p.1 = none) → Keeps s.heap h' → Fr h₀ L h' m → Q v { s with heap := h', toks := tk' }) →
    wpAny (model prog w) (ktrTop dp un gd cn cs L a ccd cl outer) (call (.ref f) vs) Q E s
/-- one plain value back, nothing made -/
abbrev ConV (prog : Program) (w : World) (K : Frag) (p : Program) (loose : List PySem.Str) (mean : ExcName → Option Value) (mg mb : PySem.Str → Option Value) (d : Nat) (f : Addr) (vs : List Value) (Pre : Heap → Prop) (R : Tok → Value) : Prop :=
  Con prog w K p loose mean mg mb d f vs Pre (fun v more => more = [] ∧ ∃ t, v = R t)
section
variable {h₀ g h' : Heap} {L L' : Addr} {m m' : PySem.Str → Option Value} {s : Shared} {Q : Value → Shared → Prop} {R : Value → List (Addr × Obj) → Prop} {news' : List (Addr × Obj)} {v : Value} {tk' : Nat}
/-- the end of a body, behind its leave -/
theorem ret_more (hret : ∀ (v : Value) (more : List (Addr × Obj)) (h' : Heap) (tk' : Nat), R v more → (∀ p ∈ more, h'.get? p.1 = some p.2 ∧ s.heap.get? p.1 = none) → Keeps s.heap h' → Fr h₀ L h' m → Q v { s with heap := h', toks := tk' })
    (FC : Fr s.heap L' h' m') (NC : News s.heap L' h' news') (more : List (Addr × Obj)) (hsub : ∀ p ∈ more, p ∈ news') (hR : R v more) (F : Fr h₀ L h' m) : Q v { s with heap := h', toks := tk' } :=
  hret v more h' tk' hR (fun p hp => ⟨(NC p (hsub p hp)).1, (NC p (hsub p hp)).2.2⟩) FC.keep F
theorem ret_val {R : Tok → Value} (hret : ∀ (v : Value) (more : List (Addr × Obj)) (h' : Heap) (tk' : Nat), (more = [] ∧ ∃ t, v = R t) → (∀ p ∈ more, h'.get? p.1 = some p.2 ∧ s.heap.get? p.1 = none) → Keeps s.heap h' → Fr h₀ L h' m → Q v { s with heap := h', toks := tk' })
    (FC : Fr s.heap L' h' m') (hv : ∃ t, v = R t) (F : Fr h₀ L h' m) : Q v { s with heap := h', toks := tk' } :=
  hret v [] h' tk' ⟨rfl, hv⟩ (fun _ hp => nomatch hp) FC.keep F
theorem ret_S {x y : PySem.Str} {t : Tok} (hret : ∀ (v : Value) (more : List (Addr × Obj)) (h' : Heap) (tk' : Nat), (more = [] ∧ ∃ t, v = (fun t => Value.str x t) t) → (∀ p ∈ more, h'.get? p.1 = some p.2 ∧ s.heap.get? p.1 = none) → Keeps s.heap h' → Fr h₀ L h' m → Q v { s with heap := h', toks := tk' })
    (FC : Fr s.heap L' h' m') (e : y = x) (F : Fr h₀ L h' m) : Q (.str y t) { s with heap := h', toks := tk' } := by
  subst e; exact ret_val hret FC ⟨t, rfl⟩ F
theorem ret_I {x y : Int} {t : Tok} (hret : ∀ (v : Value) (more : List (Addr × Obj)) (h' : Heap) (tk' : Nat), (more = [] ∧ ∃ t, v = (fun t => Value.int x t) t) → (∀ p ∈ more, h'.get? p.1 = some p.2 ∧ s.heap.get? p.1 = none) → Keeps s.heap h' → Fr h₀ L h' m → Q v { s with heap := h', toks := tk' })
    (FC : Fr s.heap L' h' m') (e : y = x) (F : Fr h₀ L h' m) : Q (.int y t) { s with heap := h', toks := tk' } := by
  subst e; exact ret_val hret FC ⟨t, rfl⟩ F
end
theorem st_known {M : Model} {A : Around} {Q : Unit → Shared → Prop} {E : Value → Shared → Prop} {s : Shared} {env : Env} {x : PySem.Str} {i j : Int} {t : Tok} (e : i = j) (h : wpAny M A (storeName env x (.int j t)) Q E s) : wpAny M A (storeName env x (.int i t)) Q E s := by
  subst e; exact h
/-- a contract used within a walk: one plain value back -/
theorem use_V {prog : Program} {w : World} {K : Frag} {p : Program} {loose : List PySem.Str} {mean : ExcName → Option Value} {mg mb : PySem.Str → Option Value} {d : Nat} {f : Addr} {vs : List Value} {Pre : Heap → Prop} {R : Tok → Value}
    (c : ConV prog w K p loose mean mg mb d f vs Pre R) {dp un : Nat} {gd : Option (List Code)} {cn : PySem.Str} {cs : Scope} {a : Addr} {ccd : Value} {cl : List (PySem.Str × Addr)} {outer : List Env} {A₀ : Around} {base h₀ : Heap} {L : Addr} {m : PySem.Str → Option Value} {s : Shared} {Q E : Value → Shared → Prop} {news : List (Addr × Obj)}
    (B : Below A₀ base outer h₀) (F : Fr h₀ L s.heap m) (X : K.In h₀) (T : Top p loose mean mg mb h₀) (hk : cs.kind = .function) (hd : dp + d < recursionLimit) (hu : un + 30 * d < cLine) (hp : Pre s.heap) (N : News h₀ L s.heap news)
    (h : ∀ t h' tk', Fr h₀ L h' m → News h₀ L h' news → Q (R t) { s with heap := h', toks := tk' }) :
    wpAny (model prog w) (ktrTop dp un gd cn cs L a ccd cl outer) (call (.ref f) vs) Q E s :=
  c dp un gd cn cs a ccd cl outer A₀ base h₀ L m s Q E B F X T hk hd hu hp fun v more h' tk' hR _ k F' => by
    obtain ⟨_, t, rfl⟩ := hR
    exact h t h' tk' F' (news_over N k)
/-- the same: an object made -/
theorem use_O {prog : Program} {w : World} {K : Frag} {p : Program} {loose : List PySem.Str} {mean : ExcName → Option Value} {mg mb : PySem.Str → Option Value} {d : Nat} {f : Addr} {vs : List Value} {Pre : Heap → Prop} {R : Value → List (Addr × Obj) → Prop}
    (c : Con prog w K p loose mean mg mb d f vs Pre R) {dp un : Nat} {gd : Option (List Code)} {cn : PySem.Str} {cs : Scope} {a : Addr} {ccd : Value} {cl : List (PySem.Str × Addr)} {outer : List Env} {A₀ : Around} {base h₀ : Heap} {L : Addr} {m : PySem.Str → Option Value} {s : Shared} {Q E : Value → Shared → Prop} {news : List (Addr × Obj)}
    (B : Below A₀ base outer h₀) (F : Fr h₀ L s.heap m) (X : K.In h₀) (T : Top p loose mean mg mb h₀) (hk : cs.kind = .function) (hd : dp + d < recursionLimit) (hu : un + 30 * d < cLine) (hp : Pre s.heap) (N : News h₀ L s.heap news)
    (h : ∀ v more h' tk', R v more → Fr h₀ L h' m → News h₀ L h' (more ++ news) → (∀ p ∈ more, ∀ q ∈ news, q.1 ≠ p.1) → Q v { s with heap := h', toks := tk' }) :
    wpAny (model prog w) (ktrTop dp un gd cn cs L a ccd cl outer) (call (.ref f) vs) Q E s :=
  c dp un gd cn cs a ccd cl outer A₀ base h₀ L m s Q E B F X T hk hd hu hp fun v more h' tk' hR hm k F' =>
    h v more h' tk' hR F' (news_more F N k hm) fun p hp q hq e => by
      have h1 := (hm p hp).2
      rw [← e, (N q hq).1] at h1; cases h1
/-- a new list, told by its items -/
abbrev ListR (P : List Value → Prop) : Value → List (Addr × Obj) → Prop := fun v more => ∃ (a : Addr) (xs : List Value) (c : Nat), v = .ref a ∧ P xs ∧ more = [(a, { cls := .type "list", data := .seq xs.toArray c })]
theorem ret_L {h₀ h' : Heap} {L L' : Addr} {m m' : PySem.Str → Option Value} {s : Shared} {Q : Value → Shared → Prop} {P : List Value → Prop} {news' : List (Addr × Obj)} {a : Addr} {xs : List Value} {c : Nat} {tk' : Nat}
    (hret : ∀ (v : Value) (more : List (Addr × Obj)) (h' : Heap) (tk' : Nat), (∃ (a : Addr) (xs : List Value) (c : Nat), v = .ref a ∧ P xs ∧ more = [(a, { cls := .type "list", data := .seq xs.toArray c })]) → (∀ p ∈ more, h'.get? p.1 = some p.2 ∧ s.heap.get? p.1 = none) → Keeps s.heap h' → Fr h₀ L h' m → Q v { s with heap := h', toks := tk' })
    (FC : Fr s.heap L' h' m') (NC : News s.heap L' h' news') (hm : (a, ({ cls := .type "list", data := .seq xs.toArray c } : Obj)) ∈ news') (hP : P xs) (F : Fr h₀ L h' m) : Q (.ref a) { s with heap := h', toks := tk' } :=
  hret _ [(a, _)] h' tk' ⟨a, xs, c, rfl, hP, rfl⟩ (fun p hp => by rw [List.mem_singleton.mp hp]; exact ⟨(NC _ hm).1, (NC _ hm).2.2⟩) FC.keep F
end Mine
end
section
open PySem PySem.W PyProof.Rows PySem.Calls PyProof.Rows.LCg PyProof.Rows.LCt
namespace Mine
section
variable {prog : Program} {w : World} {A : Around} {E : Value → Shared → Prop} {s : Shared} {h₀ : Heap} {L : Addr} {m : PySem.Str → Option Value} {env : Env}
/-- a tuple that the call has made -/
def TupAt (ax : Addr) (its : Array Value) (news : List (Addr × Obj)) : Prop := ∃ o, (ax, o) ∈ news ∧ o.cls = .type "tuple" ∧ ∃ n, o.data = .seq its n
theorem TupAt.tup {h₀ h : Heap} {L ax : Addr} {its : Array Value} {news : List (Addr × Obj)} (x : TupAt ax its news) (N : News h₀ L h news) : h.IsTuple ax its := by
  obtain ⟨o, hm, hc, n, hd⟩ := x
  exact ⟨o, (N _ hm).1, hc, n, hd⟩
def SrcTT (prog : Program) (w : World) (A : Around) (h₀ : Heap) (L : Addr) (m : PySem.Str → Option Value) (env : Env) (ct elt : Expr) (x : PySem.Str) (scope : Scope) (cl : List (PySem.Str × Addr)) (Fin : Shared → List Value → List (Addr × Obj) → Prop) (xv : Value) (s₁ : Shared) : Prop :=
  ∃ ax its news, xv = .ref ax ∧ A.handled = none ∧ Fr h₀ L s₁.heap m ∧ News h₀ L s₁.heap news ∧ TupAt ax its news ∧ its.size ≤ sizeLine ∧
    ∀ s₂ : Shared, (∃ h, s₂ = { s₁ with heap := h }) → CompRestT prog w A h₀ L m env ct elt x scope cl s₂ (TupAt ax its) (fun i v => its[i]? = some v) (Fin s₂) its.size 0 [] news
theorem SrcTT.of {ct elt : Expr} {x : PySem.Str} {scope : Scope} {cl : List (PySem.Str × Addr)} {Fin : Shared → List Value → List (Addr × Obj) → Prop} {ax : Addr} {its : Array Value} {k : Nat} {news : List (Addr × Obj)} {s₁ : Shared}
    (hh : A.handled = none) (F : Fr h₀ L s₁.heap m) (N : News h₀ L s₁.heap news) (hm : (ax, ({ cls := .type "tuple", data := .seq its k } : Obj)) ∈ news) (hsz : its.size ≤ sizeLine)
    (h : ∀ g, CompRestT prog w A h₀ L m env ct elt x scope cl { s₁ with heap := g } (TupAt ax its) (fun i v => its[i]? = some v) (Fin { s₁ with heap := g }) its.size 0 [] news) :
    SrcTT prog w A h₀ L m env ct elt x scope cl Fin (.ref ax) s₁ := ⟨ax, its, news, rfl, hh, F, N, ⟨_, hm, rfl, _, rfl⟩, hsz, fun _ ⟨g, e⟩ => e ▸ h g⟩
theorem tup_st {ax I : Addr} {its : Array Value} : ∀ i (h h' : Heap) (o : Obj) (nw : List (Addr × Obj)), (h.IsTupleIter I ax i ∧ h.IsTuple ax its) → h.get? I = some o → h'.get? I = some o → (∀ b o, h₀.get? b = some o → h'.get? b = some o) → News h₀ L h' nw → TupAt ax its nw → (h'.IsTupleIter I ax i ∧ h'.IsTuple ax its) :=
  fun i h h' o nw st e e' _ N S => ⟨by obtain ⟨o', q, r⟩ := st.1; rw [e] at q; cases q; exact ⟨o, e', r⟩, S.tup N⟩
theorem ListComp_TT {ct elt iter : Expr} {x : PySem.Str} {px : Pos} {scope : Scope} {cl : List (PySem.Str × Addr)} {pos : Pos} {Q : Value → Shared → Prop} (F₀ : Fr h₀ L s.heap m)
    (hclos : closureFor scope env = pure cl) (hcell : ∀ y ∈ scope.names, y.2 ≠ .cell) (hkind : scope.kind = .function)
    (hnames : ∀ y ∈ scope.names, y.2 = .local → scope.names.lookup y.1 = some .local) (hx : scope.names.lookup x = some .local)
    (h : wpAny (model prog w) A (eval iter env) (SrcTT prog w A h₀ L m env ct elt x scope cl (fun s₂ => FinE h₀ L m s₂ Q)) E s)
    (hs : ∀ x, foldedSetIterable iter env x = pure x := by intro _; rfl) :
    wpAny (model prog w) A (eval (.ListComp elt [⟨.Name x px, iter, [ct], 0⟩] scope pos) env) Q E s := by
  rw [eval_ListComp]
  refine wpAny_comprehension_free (use := none) rfl hs hclos hkind hnames (wpAny_mono h (fun xv s₁ h₁ => ?_) fun _ _ e => e)
  obtain ⟨ax, its, news, rfl, hh, F, N, S, hsz, R⟩ := h₁
  have hl := S.tup N
  have hlt : ax < s₁.heap.objs.size := by obtain ⟨_, e, _⟩ := hl; exact Heap.lt_size e
  refine wpAny_pyIter_tuple hl ?_
  have up : ∀ b o, s₁.heap.get? b = some o → (s₁.heap.push { cls := .type "tuple_iterator", data := .fields #[.ref ax, .int 0 0] }).get? b = some o := fun b o e => Heap.get?_push_of_some _ e
  refine block_T (Walks.tuple hh s₁.heap.objs.size ax (Nat.ne_of_lt hlt) its) hsz (fun i h st => by obtain ⟨o, e, _⟩ := st.1; exact ⟨o, e⟩) tup_st hcell hkind hx ⟨⟨_, Heap.get?_push_size _ rfl, rfl, rfl⟩, hl.at fun o e => up _ o e⟩ (fun b hb => ?_)
    (F.keeps up) (N.grown up) (Nat.ne_of_lt F.ns.lt) (next_is_new F) (fun p hp => Nat.ne_of_lt (Heap.lt_size (N p hp).1)) S (R _ ⟨_, rfl⟩) ?_
  · show b < (s₁.heap.push _).objs.size
    rw [Heap.size_push]
    rcases List.mem_cons.mp hb with rfl | hb
    · exact Nat.lt_succ_self _
    · rw [List.mem_singleton.mp hb]; exact Nat.lt_succ_of_lt hlt
  · intro D C h tk m' ys news' F' N' o1 hn hC₀ hD₀ hCL hDL hCD offC fin
    refine ⟨m', hn, fun h'' hs'' => fin D h'' tk (F'.change hs'' hCL hC₀) (fun p hp => ?_) o1⟩
    refine ⟨hs''.extBut _ _ ?_ (N' p hp).1, (N' p hp).2⟩
    rcases List.mem_cons.mp hp with rfl | hp
    · exact Ne.symm hCD
    · exact offC p hp
/-- a turn's end: what stood stands, and one item more -/
def ElEnd (h₀ : Heap) (L : Addr) (m : PySem.Str → Option Value) (s₁ : Shared) (all : List (Addr × Obj)) (J : List Value → Prop) (ys : List Value) (y : Value) (s₂ : Shared) : Prop :=
  ∃ h' tk, s₂ = { s₁ with heap := h', toks := tk } ∧ Fr h₀ L h' m ∧ News h₀ L h' all ∧ J (ys ++ [y])
theorem ElEnd.intro {h₀ h' : Heap} {L : Addr} {m : PySem.Str → Option Value} {s₁ : Shared} {all nn : List (Addr × Obj)} {J : List Value → Prop} {ys : List Value} {y : Value} {tk : Nat} (F : Fr h₀ L h' m) (N : News h₀ L h' nn) (sub : ∀ p ∈ all, p ∈ nn) (hJ : J (ys ++ [y])) :
    ElEnd h₀ L m s₁ all J ys y { s₁ with heap := h', toks := tk } := ⟨h', tk, rfl, F, fun p hp => N p (sub p hp), hJ⟩
theorem rest_U {elt : Expr} {x : PySem.Str} {scope : Scope} {cl : List (PySem.Str × Addr)} {S : List (Addr × Obj) → Prop} {P : Nat → Value → Prop} {Fin : List Value → List (Addr × Obj) → Prop} {n : Nat} {news : List (Addr × Obj)} (J : Nat → List Value → Prop) (hS : S news)
    (step : ∀ i ys v I oI C oC D m₂ h tk (E' : Value → Shared → Prop), i < n → J i ys → P i v → NsObj oC m₂ → m₂ x = some v → Fr h₀ L h m → News h₀ L h ((I, oI) :: (C, oC) :: (D, lst ys) :: news) → Off3 I C D news → ((@Ne Nat I C) ∧ (@Ne Nat I D) ∧ (@Ne Nat C D)) →
      wpAny (model prog w) A (eval elt (compEnvC scope cl C env)) (ElEnd h₀ L m { s with heap := h, toks := tk } ((I, oI) :: (C, oC) :: (D, lst ys) :: news) (J (i + 1)) ys) E' { s with heap := h, toks := tk })
    (fin : ∀ ys, J n ys → Fin ys news) :
    ∀ (k i : Nat) (ys : List Value), i + k = n → J i ys → CompRest prog w A h₀ L m env elt x scope cl s S P Fin k i ys news
  | 0, i, ys, e, hJ => by
    have : i = n := by omega
    exact CompRest.zero (fin ys (this ▸ hJ))
  | k + 1, i, ys, e, hJ => by
    refine CompRest.succ fun v I oI C oC D m₂ h tk E' hv hC hx F N off ne => ?_
    refine wpAny_mono (step i ys v I oI C oC D m₂ h tk E' (by omega) hJ hv hC hx F N off ne) (fun y s₂ q => ?_) fun _ _ z => z
    obtain ⟨h', tk', rfl, F', N', hJ'⟩ := q
    exact CompEnd.intro F' N' news (fun p hp => hp) off hS (rest_U J hS step fin k (i + 1) (ys ++ [y]) (by omega) hJ')
theorem rangeSize_to (n : Nat) : Builtin.Range.rangeSize 0 ((n : Nat) : Int) 1 = ((n : Nat) : Int) := by rw [rangeSize_nat]; simp
theorem small_to {n : Nat} (h : n ≤ 1000000) : Builtin.Range.small 0 ((n : Nat) : Int) 1 = true := small_one (by omega) (by omega) (by omega) (by omega)
theorem src_range {elt : Expr} {x : PySem.Str} {scope : Scope} {cl : List (PySem.Str × Addr)} {Fin : Shared → List Value → List (Addr × Obj) → Prop} {r : Addr} {b : Int} {t u v : Tok} {n : Nat} {news : List (Addr × Obj)} (J : Nat → List Value → Prop)
    (hh : A.handled = none) (F : Fr h₀ L s.heap m) (N : News h₀ L s.heap news) (hr : IsRange s.heap r 0 b 1 t u v) (hb : b = ((n : Nat) : Int)) (hn : n ≤ 1000000) (h0 : J 0 [])
    (step : ∀ i ys (t : Tok) I oI C oC D m₂ h tk (E' : Value → Shared → Prop), i < n → J i ys → NsObj oC m₂ → m₂ x = some (.int ((i : Nat) : Int) t) → Fr h₀ L h m → News h₀ L h ((I, oI) :: (C, oC) :: (D, lst ys) :: news) → Off3 I C D news → ((@Ne Nat I C) ∧ (@Ne Nat I D) ∧ (@Ne Nat C D)) →
      wpAny (model prog w) A (eval elt (compEnvC scope cl C env)) (ElEnd h₀ L m { s with heap := h, toks := tk } ((I, oI) :: (C, oC) :: (D, lst ys) :: news) (J (i + 1)) ys) E' { s with heap := h, toks := tk })
    (fin : ∀ g ys, J n ys → Fin { s with heap := g } ys news) :
    CompSrc prog w A h₀ L m env elt x scope cl Fin (.ref r) s := by
  subst hb
  refine CompSrc.range hh F N hr (small_to hn) (rangeSize_to n) (by rw [sizeLine_eq]; omega) fun g => ?_
  refine rest_U (s := { s with heap := g }) J trivial (fun i ys v I oI C oC D m₂ h tk E' hi hJ hv hC hx F N off ne => ?_) (fin g) n 0 [] (by omega) h0
  obtain ⟨t, rfl⟩ := hv
  rw [Int.zero_add] at hx
  exact step i ys t I oI C oC D m₂ h tk E' hi hJ hC hx F N off ne
theorem strsAre_snoc' {vs : List Value} {ys : List PySem.Str} (h : StrsAre vs ys) (y : PySem.Str) (t : Tok) : StrsAre (vs ++ [.str y t]) (ys ++ [y]) := by
  induction h with
  | nil => exact .cons y t .nil
  | cons z u _ ih => exact .cons z u ih
theorem strsAre_len {vs : List Value} {ys : List PySem.Str} (h : StrsAre vs ys) : vs.length = ys.length := by
  induction h with
  | nil => rfl
  | cons z u _ ih => simp [ih]
theorem strsAre_get {vs : List Value} {ys : List PySem.Str} (h : StrsAre vs ys) : ∀ {k : Nat}, k < ys.length → ∃ t, vs[k]? = some (.str (ys.getD k ⟨#[]⟩) t) := by
  induction h with
  | nil => intro k hk; simp at hk
  | cons z u _ ih =>
    intro k hk
    cases k with
    | zero => exact ⟨u, rfl⟩
    | succ k =>
      obtain ⟨t, e⟩ := ih (by simpa using hk)
      exact ⟨t, by simpa using e⟩
/-- an item of a list of texts that the call has made -/
theorem item_strs {value slice : Expr} {a : Addr} {vs : List Value} {ys : List PySem.Str} {c : Nat} {k : Int} {u : Tok} {news : List (Addr × Obj)} {Q : Value → Shared → Prop} (N : News h₀ L s.heap news) (hm : (a, ({ cls := .type "list", data := .seq vs.toArray c } : Obj)) ∈ news)
    (hS : StrsAre vs ys) (h0 : 0 ≤ k) (h1 : k < ys.length) (hz : ys.length ≤ 1000000) (h : ∀ t, Q (.str (ys.getD k.toNat ⟨#[]⟩) t) s)
    (hs : subscripted slice false (.ref a) (.int k u) = operate [.ref a, .int k u] (getItem (.ref a) (.int k u)) := by with_unfolding_all rfl) :
    wpAny (model prog w) A (subscriptTail value slice (.ref a) (.int k u)) Q E s := by
  have hl : s.heap.IsList a vs.toArray := ⟨_, (N _ hm).1, rfl, _, rfl⟩
  obtain ⟨t, e⟩ := strsAre_get hS (k := k.toNat) (by omega)
  exact tail_any hl.typeIs slot_list_getitem.lookup (wpAny_getItem_list hl h0 (by omega) (by simpa using e) (h t)) hs
/-- an item of a tuple of texts that the call has made -/
theorem item_tstrs {value slice : Expr} {a : Addr} {vs : List Value} {ys : List PySem.Str} {c : Nat} {k : Int} {u : Tok} {news : List (Addr × Obj)} {Q : Value → Shared → Prop} (N : News h₀ L s.heap news) (hm : (a, ({ cls := .type "tuple", data := .seq vs.toArray c } : Obj)) ∈ news)
    (hS : StrsAre vs ys) (h0 : 0 ≤ k) (h1 : k < ys.length) (hz : ys.length ≤ 1000000) (h : ∀ t, Q (.str (ys.getD k.toNat ⟨#[]⟩) t) s)
    (hs : subscripted slice false (.ref a) (.int k u) = operate [.ref a, .int k u] (getItem (.ref a) (.int k u)) := by with_unfolding_all rfl) :
    wpAny (model prog w) A (subscriptTail value slice (.ref a) (.int k u)) Q E s := by
  obtain ⟨t, e⟩ := strsAre_get hS (k := k.toNat) (by omega)
  have hl := strsAre_len hS
  refine item_tupleT (l := vs) (j := k.toNat) ⟨_, (N _ hm).1, rfl, _, rfl⟩ (by omega) (by omega) ?_ e (h t) hs
  exact StrLaws.seqIndex_nonneg h0 (by omega)
end
end Mine
end
section
open PySem PySem.Sre
namespace Mine
theorem op_0 : ops[0]? = some Op.FAILURE := rfl
theorem op_1 : ops[1]? = some Op.SUCCESS := rfl
theorem op_5 : ops[5]? = some Op.ASSERT_NOT := rfl
theorem op_6 : ops[6]? = some Op.AT := rfl
theorem op_7 : ops[7]? = some Op.BRANCH := rfl
theorem op_14 : ops[14]? = some Op.INFO := rfl
theorem op_15 : ops[15]? = some Op.JUMP := rfl
theorem op_16 : ops[16]? = some Op.LITERAL := rfl
theorem exec_lit {m : M} (hw : m.code.getD m.pc 0 = 16) : m.exec =
    if m.pos ≥ m.lim then { m with seen := m.seen.add 16 }.say false else
    if m.text.getD m.pos 0 = m.code.getD (m.pc + 1) 0 then { m with seen := m.seen.add 16, pc := m.pc + 2, pos := m.pos + 1 } else { m with seen := m.seen.add 16 }.say false := by
  have h0 : m.word 0 = 16 := hw
  unfold M.exec
  rw [h0, op_16]
  dsimp only
  split
  · rfl
  · unfold accepts
    rw [hw, op_16]
    dsimp only
    by_cases hc : m.text.getD m.pos 0 = m.code.getD (m.pc + 1) 0
    · rw [if_pos hc]
      simp only [hc, beq_self_eq_true, itemWidth, hw, op_16]
    · rw [if_neg hc]
      have : (m.text.getD m.pos 0 == m.code.getD (m.pc + 1) 0) = false := by simpa using hc
      simp only [this]
theorem exec_at1 {m : M} (hw : m.code.getD m.pc 0 = 6) (hw1 : m.code.getD (m.pc + 1) 0 = 1) : m.exec =
    if m.pos = 0 ∨ m.text.getD (m.pos - 1) 0 = 10 then { m with seen := (m.seen.add 6).add 44, pc := m.pc + 2 } else { m with seen := (m.seen.add 6).add 44 }.say false := by
  have h0 : m.word 0 = 6 := hw
  have h1 : m.word 1 = 1 := hw1
  unfold M.exec
  rw [h0, op_6]
  have h2 : ({ m with seen := m.seen.add 6 } : M).isAt (({ m with seen := m.seen.add 6 } : M).word 1) = .ok (m.pos == 0 || m.text.getD (m.pos - 1) 0 == 10) := by
    rw [show ({ m with seen := m.seen.add 6 } : M).word 1 = 1 from h1]; rfl
  dsimp only
  rw [h2]
  dsimp only
  rw [show ({ m with seen := m.seen.add 6 } : M).word 1 = 1 from h1]
  by_cases hc : m.pos = 0 ∨ m.text.getD (m.pos - 1) 0 = 10
  · rw [if_pos hc]
    have : (m.pos == 0 || m.text.getD (m.pos - 1) 0 == 10) = true := by simpa using hc
    rw [this, if_pos rfl]
  · rw [if_neg hc]
    have : (m.pos == 0 || m.text.getD (m.pos - 1) 0 == 10) = false := by simpa using hc
    rw [this]; rfl
theorem exec_success {m : M} (hw : m.code.getD m.pc 0 = 1) (h : m.outermost = false ∨ (m.wholeText = false ∧ m.pos ≠ m.start)) : m.exec = { m with seen := m.seen.add 1, handed := m.pos }.say true := by
  have h0 : m.word 0 = 1 := hw
  unfold M.exec
  rw [h0, op_1]
  dsimp only
  have : (m.outermost && ((m.wholeText && m.pos != m.lim) || (m.mustAdvance && m.pos == m.start))) = false := by
    rcases h with h | ⟨h1, h2⟩
    · rw [h]; rfl
    · have : (m.pos == m.start) = false := by simpa using h2
      rw [h1, this]; simp
  rw [if_neg (by rw [this]; simp)]
theorem exec_jump {m : M} (hw : m.code.getD m.pc 0 = 15) : m.exec = { m with seen := m.seen.add 15, pc := m.pc + 1 + m.code.getD (m.pc + 1) 0 } := by
  have h0 : m.word 0 = 15 := hw
  unfold M.exec
  rw [h0, op_15]
  rfl
theorem exec_branch {m : M} (hw : m.code.getD m.pc 0 = 7) : m.exec = ({ m with seen := m.seen.add 7 } : M).alternative (m.pc + 1) (({ m with seen := m.seen.add 7 } : M).keep m.inner.isSome) := by
  have h0 : m.word 0 = 7 := hw
  unfold M.exec
  rw [h0, op_7]
theorem exec_assertNot {m : M} (hw : m.code.getD m.pc 0 = 5) (h2 : m.code.getD (m.pc + 2) 0 = 0) : m.exec =
    ({ m with seen := m.seen.add 5 } : M).attempt { ({ m with seen := m.seen.add 5 } : M).frame .lookNot with kept := ({ m with seen := m.seen.add 5 } : M).keep m.inner.isSome } (m.pc + 3) m.pos false := by
  have h0 : m.word 0 = 5 := hw
  unfold M.exec
  rw [h0, op_5]
  dsimp only
  rw [show ({ m with seen := m.seen.add 5 } : M).word 2 = 0 from h2]
  simp

theorem exec_lit_ok {m : M} (hw : m.code.getD m.pc 0 = 16) (hp : m.pos < m.lim) (hc : m.text.getD m.pos 0 = m.code.getD (m.pc + 1) 0) : m.exec = { m with seen := m.seen.add 16, pc := m.pc + 2, pos := m.pos + 1 } := by
  rw [exec_lit hw, if_neg (Nat.not_le.mpr hp), if_pos hc]
theorem exec_lit_no {m : M} (hw : m.code.getD m.pc 0 = 16) (h : m.lim ≤ m.pos ∨ m.text.getD m.pos 0 ≠ m.code.getD (m.pc + 1) 0) : m.exec = { m with seen := m.seen.add 16 }.say false := by
  rw [exec_lit hw]
  by_cases hp : m.pos ≥ m.lim
  · rw [if_pos hp]
  · rw [if_neg hp, if_neg (h.resolve_left hp)]
theorem exec_at1_ok {m : M} (hw : m.code.getD m.pc 0 = 6) (hw1 : m.code.getD (m.pc + 1) 0 = 1) (h : m.pos = 0 ∨ m.text.getD (m.pos - 1) 0 = 10) : m.exec = { m with seen := (m.seen.add 6).add 44, pc := m.pc + 2 } := by
  rw [exec_at1 hw hw1, if_pos h]
theorem exec_at1_no {m : M} (hw : m.code.getD m.pc 0 = 6) (hw1 : m.code.getD (m.pc + 1) 0 = 1) (h : ¬ (m.pos = 0 ∨ m.text.getD (m.pos - 1) 0 = 10)) : m.exec = { m with seen := (m.seen.add 6).add 44 }.say false := by
  rw [exec_at1 hw hw1, if_neg h]

/-! runs -/
def To (k : Nat) (m m' : M) : Prop := M.runFor k m = m'
theorem step_done {m : M} (h : m.outcome.isSome = true) : m.step = m := by unfold M.step; rw [if_pos h]
theorem runFor_done {m : M} (h : m.outcome.isSome = true) : ∀ k, M.runFor k m = m
  | 0 => rfl
  | k + 1 => by unfold M.runFor; rw [if_pos h]
theorem runFor_succ (k : Nat) (m : M) : M.runFor (k + 1) m = M.runFor k m.step := by
  show (if m.outcome.isSome then m else M.runFor k m.step) = _
  split
  · rename_i h; rw [step_done h, runFor_done h]
  · rfl
theorem runFor_add (b : Nat) : ∀ (a : Nat) (m : M), M.runFor (a + b) m = M.runFor b (M.runFor a m)
  | 0, m => by rw [Nat.zero_add]; rfl
  | a + 1, m => by rw [Nat.succ_add, runFor_succ, runFor_succ, runFor_add b a]
theorem To.refl (m : M) : To 0 m m := rfl
theorem To.trans {a b : Nat} {m m' m'' : M} (h : To a m m') (h' : To b m' m'') : To (a + b) m m'' := by
  unfold To at *; rw [runFor_add, h, h']
theorem To.one {m m' : M} (h : m.step = m') : To 1 m m' := by unfold To; rw [runFor_succ, h]; rfl
theorem step_exec {m : M} (ho : m.outcome = none) (ha : m.answer = none) (hp : m.pc < m.code.size) : m.step = m.exec := by
  unfold M.step
  rw [if_neg (by rw [ho]; simp), ha]
  cases m.frames <;> simp only [if_pos hp]
theorem step_nil {m : M} {yes : Bool} (ho : m.outcome = none) (ha : m.answer = some yes) (hf : m.frames = []) : m.step = { m with outcome := some (if yes then .matched else .failed) } := by
  unfold M.step
  rw [if_neg (by rw [ho]; simp), ha, hf]
theorem step_cons {m : M} {yes : Bool} {f : PySem.Sre.Frame} {rest : List PySem.Sre.Frame} (ho : m.outcome = none) (ha : m.answer = some yes) (hf : m.frames = f :: rest) :
    m.step = M.resume { m with answer := none, frames := rest, weight := m.weight - (1 + f.kept.marks.size), pc := f.pc, pos := f.pos, outermost := f.outermost } f yes := by
  unfold M.step
  rw [if_neg (by rw [ho]; simp), ha, hf]
def code1 : Array Nat := #[14, 4, 0, 1, 1, 6, 1, 16, 46, 1]
def code2 : Array Nat := #[14, 9, 4, 1, 2, 16, 10, 16, 13, 0, 7, 7, 16, 13, 16, 10, 15, 18, 5, 16, 10, 15, 13, 11, 16, 13, 5, 5, 0, 16, 10, 1, 15, 2, 0, 1]
/-- an attempt at s -/
def att (code : Array Nat) (body : Nat) (t : Array Nat) (n s : Nat) (ob md : Bool) (sn : Seen) : M :=
  { code, text := t, lim := n, start := s, lastStart := n, wholeText := false, mustAdvance := md, pc := body, pos := s, handed := s, outermost := ob, marks := #[], lastmark := -1, lastindex := -1, loops := #[], inner := none,
    frames := [{ wait := .nextStart, pc := body, pos := s, outermost := ob }], weight := 1, answer := none, seen := sn, outcome := none }
def Hit1 (t : Array Nat) (n q : Nat) : Prop := q < n ∧ (q = 0 ∨ t.getD (q - 1) 0 = 10) ∧ t.getD q 0 = 46
def ans (m : M) (b : Bool) (sn : Seen) : M := { m with answer := some b, seen := sn }
/-- an answer goes to the one frame: yes -/
theorem yes_up {m : M} {code : Array Nat} {body : Nat} {s : Nat} {ob : Bool} (ho : m.outcome = none) (ha : m.answer = some true) (hf : m.frames = [{ wait := .nextStart, pc := body, pos := s, outermost := ob }]) (_hc : m.code = code) :
    ∃ m', To 2 m m' ∧ m'.outcome = some .matched ∧ m'.start = m.start ∧ m'.handed = m.handed := by
  have e1 := step_cons ho ha hf
  refine ⟨_, (To.one e1).trans (To.one (step_nil (yes := true) ?_ ?_ ?_)), ?_, ?_, ?_⟩
  · exact ho
  · rfl
  · rfl
  · rfl
  · rfl
  · rfl
theorem att1_hit {t : Array Nat} {n s : Nat} {ob md : Bool} {sn : Seen} (h : Hit1 t n s) : ∃ m', To 5 (att code1 5 t n s ob md sn) m' ∧ m'.outcome = some .matched ∧ m'.start = s ∧ m'.handed = s + 1 := by
  obtain ⟨h1, h2, h3⟩ := h
  have e1 : (att code1 5 t n s ob md sn).step = { att code1 5 t n s ob md sn with seen := (sn.add 6).add 44, pc := 7 } := by
    rw [step_exec rfl rfl (show 5 < 10 by omega), exec_at1_ok rfl rfl h2]; rfl
  have e2 : ({ att code1 5 t n s ob md sn with seen := (sn.add 6).add 44, pc := 7 } : M).step = { att code1 5 t n s ob md sn with seen := ((sn.add 6).add 44).add 16, pc := 9, pos := s + 1 } := by
    rw [step_exec rfl rfl (show 7 < 10 by omega), exec_lit_ok rfl h1 h3]; rfl
  have e3 : ({ att code1 5 t n s ob md sn with seen := ((sn.add 6).add 44).add 16, pc := 9, pos := s + 1 } : M).step = { att code1 5 t n s ob md sn with seen := (((sn.add 6).add 44).add 16).add 1, pc := 9, pos := s + 1, handed := s + 1, answer := some true } := by
    rw [step_exec rfl rfl (show 9 < 10 by omega), exec_success rfl (.inr ⟨rfl, Nat.succ_ne_self s⟩)]; rfl
  obtain ⟨m', r, a, b, c⟩ := yes_up (m := { att code1 5 t n s ob md sn with seen := (((sn.add 6).add 44).add 16).add 1, pc := 9, pos := s + 1, handed := s + 1, answer := some true }) rfl rfl rfl rfl
  exact ⟨m', (((To.one e1).trans (To.one e2)).trans (To.one e3)).trans r, a, b, c⟩
theorem resume_next_on {m : M} {pc pos : Nat} {ob : Bool} (h : pos < m.lastStart) : M.resume m { wait := .nextStart, pc := pc, pos := pos, outermost := ob } false = ({ m with mustAdvance := false } : M).attemptFrom (pos + 1) false :=
  (show M.resume m { wait := .nextStart, pc := pc, pos := pos, outermost := ob } false = if pos < m.lastStart then ({ m with mustAdvance := false } : M).attemptFrom (pos + 1) false else m.say false from rfl).trans (if_pos h)
theorem resume_next_end {m : M} {pc pos : Nat} {ob : Bool} (h : ¬ pos < m.lastStart) : M.resume m { wait := .nextStart, pc := pc, pos := pos, outermost := ob } false = m.say false :=
  (show M.resume m { wait := .nextStart, pc := pc, pos := pos, outermost := ob } false = if pos < m.lastStart then ({ m with mustAdvance := false } : M).attemptFrom (pos + 1) false else m.say false from rfl).trans (if_neg h)
/-- an answer no at the one frame, code 1 -/
theorem no_up1 {t : Array Nat} {n s pos pc : Nat} {ob md : Bool} {sn : Seen} (h : s < n) : ∃ m', To 1 ({ att code1 5 t n s ob md sn with pc := pc, pos := pos, answer := some false } : M) m' ∧ m' = att code1 5 t n (s + 1) false false sn :=
  ⟨_, To.one (step_cons (yes := false) rfl rfl rfl), (resume_next_on h).trans rfl⟩
theorem no_last1 {t : Array Nat} {n pos pc : Nat} {ob md : Bool} {sn : Seen} : ∃ m', To 2 ({ att code1 5 t n n ob md sn with pc := pc, pos := pos, answer := some false } : M) m' ∧ m'.outcome = some .failed := by
  have e1 := (step_cons (m := ({ att code1 5 t n n ob md sn with pc := pc, pos := pos, answer := some false } : M)) (yes := false) rfl rfl rfl).trans (resume_next_end (Nat.lt_irrefl n))
  exact ⟨_, (To.one e1).trans (To.one (step_nil (yes := false) rfl rfl rfl)), rfl⟩
/-- no hit at s: the answer no, one or two steps on -/
theorem att1_no {t : Array Nat} {n s : Nat} {ob md : Bool} {sn : Seen} (h : ¬ Hit1 t n s) : ∃ k pc pos sn', k ≤ 2 ∧ To k (att code1 5 t n s ob md sn) { att code1 5 t n s ob md sn' with pc := pc, pos := pos, answer := some false } := by
  by_cases h2 : s = 0 ∨ t.getD (s - 1) 0 = 10
  · have e1 : (att code1 5 t n s ob md sn).step = { att code1 5 t n s ob md sn with seen := (sn.add 6).add 44, pc := 7 } := by
      rw [step_exec rfl rfl (show 5 < 10 by omega), exec_at1_ok rfl rfl h2]; rfl
    refine ⟨2, 7, s, ((sn.add 6).add 44).add 16, Nat.le_refl _, (To.one e1).trans (To.one ?_)⟩
    rw [step_exec rfl rfl (show 7 < 10 by omega), exec_lit_no rfl (show n ≤ s ∨ t.getD s 0 ≠ 46 from (Nat.lt_or_ge s n).elim (fun h1 => .inr fun h3 => h ⟨h1, h2, h3⟩) .inl)]; rfl
  · refine ⟨1, 5, s, (sn.add 6).add 44, by omega, To.one ?_⟩
    rw [step_exec rfl rfl (show 5 < 10 by omega), exec_at1_no rfl rfl h2]; rfl
/-- from an attempt at s on: the first hit, or none -/
theorem from1_hit {t : Array Nat} {n p : Nat} (hp : Hit1 t n p) : ∀ (d s : Nat) (ob md : Bool) (sn : Seen), s + d = p → (∀ q, s ≤ q → q < p → ¬ Hit1 t n q) →
    ∃ k m', k ≤ 3 * d + 5 ∧ To k (att code1 5 t n s ob md sn) m' ∧ m'.outcome = some .matched ∧ m'.start = p ∧ m'.handed = p + 1
  | 0, s, ob, md, sn, e, _ => by
    obtain rfl : s = p := by omega
    obtain ⟨m', r⟩ := att1_hit (ob := ob) (md := md) (sn := sn) hp
    exact ⟨5, m', by omega, r⟩
  | d + 1, s, ob, md, sn, e, hn => by
    obtain ⟨k, pc, pos, sn', hk, r⟩ := att1_no (ob := ob) (md := md) (sn := sn) (hn s (Nat.le_refl _) (by omega))
    obtain ⟨m₁, r₁, rfl⟩ := no_up1 (t := t) (n := n) (s := s) (pos := pos) (pc := pc) (ob := ob) (md := md) (sn := sn') (by have := hp.1; omega)
    obtain ⟨k', m', hk', r', o⟩ := from1_hit hp d (s + 1) false false sn' (by omega) (fun q a b => hn q (by omega) b)
    exact ⟨k + 1 + k', m', by omega, (r.trans r₁).trans r', o⟩
theorem from1_none {t : Array Nat} {n : Nat} : ∀ (d s : Nat) (ob md : Bool) (sn : Seen), s + d = n → (∀ q, s ≤ q → ¬ Hit1 t n q) →
    ∃ k m', k ≤ 3 * d + 5 ∧ To k (att code1 5 t n s ob md sn) m' ∧ m'.outcome = some .failed
  | 0, s, ob, md, sn, e, hn => by
    obtain rfl : s = n := by omega
    obtain ⟨k, pc, pos, sn', hk, r⟩ := att1_no (ob := ob) (md := md) (sn := sn) (hn s (Nat.le_refl _))
    obtain ⟨m', r', o⟩ := no_last1 (t := t) (n := s) (pos := pos) (pc := pc) (ob := ob) (md := md) (sn := sn')
    exact ⟨k + 2, m', by omega, r.trans r', o⟩
  | d + 1, s, ob, md, sn, e, hn => by
    obtain ⟨k, pc, pos, sn', hk, r⟩ := att1_no (ob := ob) (md := md) (sn := sn) (hn s (Nat.le_refl _))
    obtain ⟨m₁, r₁, rfl⟩ := no_up1 (t := t) (n := n) (s := s) (pos := pos) (pc := pc) (ob := ob) (md := md) (sn := sn') (by omega)
    obtain ⟨k', m', hk', r', o⟩ := from1_none d (s + 1) false false sn' (by omega) (fun q a => hn q (by omega))
    exact ⟨k + 1 + k', m', by omega, (r.trans r₁).trans r', o⟩
theorem search1_start {t : Array Nat} {n s : Nat} {must : Bool} (h : s < n) : ∃ sn, forSearch code1 t 0 s n must = att code1 5 t n s true must sn := by
  refine ⟨({} : Seen).add 14, ?_⟩
  unfold forSearch
  have e : header code1 = (1, 5) := rfl
  rw [e]
  dsimp only
  rw [if_neg (by simp; omega)]
  rfl
theorem search1_over {t : Array Nat} {n s : Nat} {must : Bool} (h : n ≤ s) : ∃ m', To 1 (forSearch code1 t 0 s n must) m' ∧ m'.outcome = some .failed := by
  unfold forSearch
  have e : header code1 = (1, 5) := rfl
  rw [e]
  dsimp only
  rw [if_pos (by simp; omega)]
  exact ⟨_, To.one rfl, rfl⟩

/-! the second pattern -/
def nbF (pc p : Nat) (ob : Bool) : PySem.Sre.Frame := { wait := .nextBranch, pc := pc, pos := p, outermost := ob }
def lnF (p : Nat) (ob : Bool) : PySem.Sre.Frame := { wait := .lookNot, pc := 26, pos := p, outermost := ob }
def nsF (p : Nat) (ob : Bool) : PySem.Sre.Frame := { wait := .nextStart, pc := 10, pos := p, outermost := ob }
/-- within an attempt at p -/
def inB (t : Array Nat) (n p : Nat) (ob : Bool) (sn : Seen) (pc pos hd : Nat) (oo : Bool) (fs : List PySem.Sre.Frame) (wt : Nat) (an : Option Bool) : M :=
  { att code2 10 t n p ob false sn with pc := pc, pos := pos, handed := hd, outermost := oo, frames := fs, weight := wt, answer := an }
section
variable {t : Array Nat} {n p : Nat} {ob : Bool} {sn : Seen}
theorem b_branch : ∃ sn', To 1 (att code2 10 t n p ob false sn) (inB t n p ob sn' 12 p p ob [nbF 11 p ob, nsF p ob] 2 none) :=
  ⟨sn.add 7, To.one (by rw [step_exec rfl rfl (show 10 < 36 by omega), exec_branch rfl]; rfl)⟩
theorem b_lit_ok {pc pos hd wt : Nat} {oo : Bool} {fs : List PySem.Sre.Frame} (hpc : pc < 36) (hw : code2.getD pc 0 = 16) (hp : pos < n) (hc : t.getD pos 0 = code2.getD (pc + 1) 0) :
    ∃ sn', To 1 (inB t n p ob sn pc pos hd oo fs wt none) (inB t n p ob sn' (pc + 2) (pos + 1) hd oo fs wt none) :=
  ⟨sn.add 16, To.one (by rw [step_exec rfl rfl hpc, exec_lit_ok hw hp hc]; rfl)⟩
theorem b_lit_no {pc pos hd wt : Nat} {oo : Bool} {fs : List PySem.Sre.Frame} (hpc : pc < 36) (hw : code2.getD pc 0 = 16) (h : n ≤ pos ∨ t.getD pos 0 ≠ code2.getD (pc + 1) 0) :
    ∃ sn', To 1 (inB t n p ob sn pc pos hd oo fs wt none) (inB t n p ob sn' pc pos hd oo fs wt (some false)) :=
  ⟨sn.add 16, To.one (by rw [step_exec rfl rfl hpc, exec_lit_no hw h]; rfl)⟩
theorem b_jump {pc pos hd wt : Nat} {oo : Bool} {fs : List PySem.Sre.Frame} (hpc : pc < 36) (hw : code2.getD pc 0 = 15) :
    ∃ sn', To 1 (inB t n p ob sn pc pos hd oo fs wt none) (inB t n p ob sn' (pc + 1 + code2.getD (pc + 1) 0) pos hd oo fs wt none) :=
  ⟨sn.add 15, To.one (by rw [step_exec rfl rfl hpc, exec_jump hw]; rfl)⟩
theorem b_success {pos hd wt : Nat} {oo : Bool} {fs : List PySem.Sre.Frame} (h : pos ≠ p) :
    ∃ sn', To 1 (inB t n p ob sn 35 pos hd oo fs wt none) (inB t n p ob sn' 35 pos pos oo fs wt (some true)) :=
  ⟨sn.add 1, To.one (by rw [step_exec rfl rfl (show 35 < 36 by omega), exec_success rfl (.inr ⟨rfl, h⟩)]; rfl)⟩
/-- the branch's next way -/
theorem b_next {pc pos hd : Nat} {oo : Bool} {k : Nat} (hk : k = 11 ∨ k = 18) :
    To 1 (inB t n p ob sn pc pos hd oo [nbF k p ob, nsF p ob] 2 (some false)) (inB t n p ob sn (k + code2.getD k 0 + 1) p p ob [nbF (k + code2.getD k 0) p ob, nsF p ob] 2 none) := by
  refine To.one ((step_cons (yes := false) rfl rfl rfl).trans ?_)
  rcases hk with rfl | rfl <;> rfl
theorem b_look {pos hd : Nat} {k : Nat} : ∃ sn', To 1 (inB t n p ob sn 26 pos hd ob [nbF k p ob, nsF p ob] 2 none) (inB t n p ob sn' 29 pos pos false [lnF pos ob, nbF k p ob, nsF p ob] 3 none) :=
  ⟨sn.add 5, To.one (by rw [step_exec rfl rfl (show 26 < 36 by omega), exec_assertNot rfl rfl]; rfl)⟩
theorem b_unlook {pc pos pos' hd : Nat} {k : Nat} : To 1 (inB t n p ob sn pc pos hd false [lnF pos' ob, nbF k p ob, nsF p ob] 3 (some false)) (inB t n p ob sn 32 pos' hd ob [nbF k p ob, nsF p ob] 2 none) :=
  To.one ((step_cons (yes := false) rfl rfl rfl).trans rfl)
theorem b_yes {pos hd k : Nat} {oo : Bool} : ∃ m', To 3 (inB t n p ob sn 35 pos hd oo [nbF k p ob, nsF p ob] 2 (some true)) m' ∧ m'.outcome = some .matched ∧ m'.start = p ∧ m'.handed = hd := by
  have e1 : (inB t n p ob sn 35 pos hd oo [nbF k p ob, nsF p ob] 2 (some true)).step = inB t n p ob sn k p hd ob [nsF p ob] 1 (some true) := (step_cons (yes := true) rfl rfl rfl).trans rfl
  have e2 : (inB t n p ob sn k p hd ob [nsF p ob] 1 (some true)).step = inB t n p ob sn 10 p hd ob [] 0 (some true) := (step_cons (yes := true) rfl rfl rfl).trans rfl
  exact ⟨_, ((To.one e1).trans (To.one e2)).trans (To.one (step_nil (yes := true) rfl rfl rfl)), rfl, rfl, rfl⟩
end
/-- the width of the line end at p: 0 if there is none -/
def wid (t : Array Nat) (n p : Nat) : Nat := if t.getD p 0 = 13 then (if p + 1 < n ∧ t.getD (p + 1) 0 = 10 then 2 else 1) else 1
def Hit2 (t : Array Nat) (n q : Nat) : Prop := q < n ∧ (t.getD q 0 = 10 ∨ t.getD q 0 = 13)
theorem att2_hit {t : Array Nat} {n p : Nat} {ob : Bool} {sn : Seen} (h : Hit2 t n p) : ∃ k m', k ≤ 20 ∧ To k (att code2 10 t n p ob false sn) m' ∧ m'.outcome = some .matched ∧ m'.start = p ∧ m'.handed = p + wid t n p := by
  obtain ⟨hp, hc⟩ := h
  obtain ⟨s1, r1⟩ := b_branch (t := t) (n := n) (p := p) (ob := ob) (sn := sn)
  by_cases h13 : t.getD p 0 = 13
  · obtain ⟨s2, r2⟩ := b_lit_ok (p := p) (ob := ob) (sn := s1) (hd := p) (wt := 2) (oo := ob) (fs := [nbF 11 p ob, nsF p ob]) (pc := 12) (by omega) rfl hp (show t.getD p 0 = 13 from h13)
    by_cases h10 : p + 1 < n ∧ t.getD (p + 1) 0 = 10
    · obtain ⟨s3, r3⟩ := b_lit_ok (p := p) (ob := ob) (sn := s2) (hd := p) (wt := 2) (oo := ob) (fs := [nbF 11 p ob, nsF p ob]) (pc := 14) (by omega) rfl h10.1 (show t.getD (p + 1) 0 = 10 from h10.2)
      obtain ⟨s4, r4⟩ := b_jump (t := t) (n := n) (p := p) (ob := ob) (sn := s3) (pos := p + 1 + 1) (hd := p) (wt := 2) (oo := ob) (fs := [nbF 11 p ob, nsF p ob]) (pc := 16) (by omega) rfl
      obtain ⟨s5, r5⟩ := b_success (t := t) (n := n) (p := p) (ob := ob) (sn := s4) (pos := p + 1 + 1) (hd := p) (wt := 2) (oo := ob) (fs := [nbF 11 p ob, nsF p ob]) (by omega)
      obtain ⟨m', r6, a, b, c⟩ := b_yes (t := t) (n := n) (p := p) (ob := ob) (sn := s5) (pos := p + 1 + 1) (hd := p + 1 + 1) (k := 11) (oo := ob)
      refine ⟨_, m', ?_, ((((r1.trans r2).trans r3).trans r4).trans r5).trans r6, a, b, ?_⟩
      · omega
      · rw [c]; unfold wid; rw [if_pos h13, if_pos h10]
    · obtain ⟨s3, r3⟩ := b_lit_no (t := t) (n := n) (p := p) (ob := ob) (sn := s2) (pos := p + 1) (hd := p) (wt := 2) (oo := ob) (fs := [nbF 11 p ob, nsF p ob]) (pc := 14) (by omega) rfl
        (show n ≤ p + 1 ∨ t.getD (p + 1) 0 ≠ 10 from (Nat.lt_or_ge (p + 1) n).elim (fun a => .inr fun b => h10 ⟨a, b⟩) .inl)
      have r4 := b_next (t := t) (n := n) (p := p) (ob := ob) (sn := s3) (pc := 14) (pos := p + 1) (hd := p) (oo := ob) (k := 11) (.inl rfl)
      obtain ⟨s5, r5⟩ := b_lit_no (t := t) (n := n) (p := p) (ob := ob) (sn := s3) (pos := p) (hd := p) (wt := 2) (oo := ob) (fs := [nbF 18 p ob, nsF p ob]) (pc := 19) (by omega) rfl
        (show n ≤ p ∨ t.getD p 0 ≠ 10 from .inr (by rw [h13]; decide))
      have r6 := b_next (t := t) (n := n) (p := p) (ob := ob) (sn := s5) (pc := 19) (pos := p) (hd := p) (oo := ob) (k := 18) (.inr rfl)
      obtain ⟨s7, r7⟩ := b_lit_ok (p := p) (ob := ob) (sn := s5) (hd := p) (wt := 2) (oo := ob) (fs := [nbF 23 p ob, nsF p ob]) (pc := 24) (by omega) rfl hp (show t.getD p 0 = 13 from h13)
      obtain ⟨s8, r8⟩ := b_look (t := t) (n := n) (p := p) (ob := ob) (sn := s7) (pos := p + 1) (hd := p) (k := 23)
      obtain ⟨s9, r9⟩ := b_lit_no (t := t) (n := n) (p := p) (ob := ob) (sn := s8) (pos := p + 1) (hd := p + 1) (wt := 3) (oo := false) (fs := [lnF (p + 1) ob, nbF 23 p ob, nsF p ob]) (pc := 29) (by omega) rfl
        (show n ≤ p + 1 ∨ t.getD (p + 1) 0 ≠ 10 from (Nat.lt_or_ge (p + 1) n).elim (fun a => .inr fun b => h10 ⟨a, b⟩) .inl)
      have r10 := b_unlook (t := t) (n := n) (p := p) (ob := ob) (sn := s9) (pc := 29) (pos := p + 1) (pos' := p + 1) (hd := p + 1) (k := 23)
      obtain ⟨s11, r11⟩ := b_jump (t := t) (n := n) (p := p) (ob := ob) (sn := s9) (pos := p + 1) (hd := p + 1) (wt := 2) (oo := ob) (fs := [nbF 23 p ob, nsF p ob]) (pc := 32) (by omega) rfl
      obtain ⟨s12, r12⟩ := b_success (t := t) (n := n) (p := p) (ob := ob) (sn := s11) (pos := p + 1) (hd := p + 1) (wt := 2) (oo := ob) (fs := [nbF 23 p ob, nsF p ob]) (by omega)
      obtain ⟨m', r13, a, b, c⟩ := b_yes (t := t) (n := n) (p := p) (ob := ob) (sn := s12) (pos := p + 1) (hd := p + 1) (k := 23) (oo := ob)
      refine ⟨_, m', ?_, (((((((((((r1.trans r2).trans r3).trans r4).trans r5).trans r6).trans r7).trans r8).trans r9).trans r10).trans r11).trans r12).trans r13, a, b, ?_⟩
      · omega
      · rw [c]; unfold wid; rw [if_pos h13, if_neg h10]
  · have hc10 : t.getD p 0 = 10 := hc.resolve_right h13
    obtain ⟨s2, r2⟩ := b_lit_no (t := t) (n := n) (p := p) (ob := ob) (sn := s1) (pos := p) (hd := p) (wt := 2) (oo := ob) (fs := [nbF 11 p ob, nsF p ob]) (pc := 12) (by omega) rfl (show n ≤ p ∨ t.getD p 0 ≠ 13 from .inr h13)
    have r3 := b_next (t := t) (n := n) (p := p) (ob := ob) (sn := s2) (pc := 12) (pos := p) (hd := p) (oo := ob) (k := 11) (.inl rfl)
    obtain ⟨s4, r4⟩ := b_lit_ok (p := p) (ob := ob) (sn := s2) (hd := p) (wt := 2) (oo := ob) (fs := [nbF 18 p ob, nsF p ob]) (pc := 19) (by omega) rfl hp (show t.getD p 0 = 10 from hc10)
    obtain ⟨s5, r5⟩ := b_jump (t := t) (n := n) (p := p) (ob := ob) (sn := s4) (pos := p + 1) (hd := p) (wt := 2) (oo := ob) (fs := [nbF 18 p ob, nsF p ob]) (pc := 21) (by omega) rfl
    obtain ⟨s6, r6⟩ := b_success (t := t) (n := n) (p := p) (ob := ob) (sn := s5) (pos := p + 1) (hd := p) (wt := 2) (oo := ob) (fs := [nbF 18 p ob, nsF p ob]) (by omega)
    obtain ⟨m', r7, a, b, c⟩ := b_yes (t := t) (n := n) (p := p) (ob := ob) (sn := s6) (pos := p + 1) (hd := p + 1) (k := 18) (oo := ob)
    refine ⟨_, m', ?_, (((((r1.trans r2).trans r3).trans r4).trans r5).trans r6).trans r7, a, b, ?_⟩
    · omega
    · rw [c]; unfold wid; rw [if_neg h13]
/-! the first set -/
theorem inSet2 (c : Nat) (sn : Seen) : ∃ sn', inSet code2 c code2.size 5 true sn = .ok (decide (c = 10 ∨ c = 13), sn') := by
  have e : inSet code2 c code2.size 5 true sn = if (c == 10) = true then .ok (true, sn.add 16) else if (c == 13) = true then .ok (true, (sn.add 16).add 16) else .ok (false, ((sn.add 16).add 16).add 0) := rfl
  by_cases h1 : c = 10
  · exact ⟨sn.add 16, by rw [e, if_pos (by simp [h1])]; simp [h1]⟩
  · by_cases h2 : c = 13
    · exact ⟨(sn.add 16).add 16, by rw [e, if_neg (by simpa using h1), if_pos (by simp [h2])]; simp [h2]⟩
    · exact ⟨((sn.add 16).add 16).add 0, by rw [e, if_neg (by simpa using h1), if_neg (by simpa using h2)]; simp [h1, h2]⟩
theorem admitted_hit {m : M} {t : Array Nat} {n p : Nat} (hc : m.code = code2) (ht : m.text = t) (hn : m.lim = n) (hp : Hit2 t n p) : ∀ (d s fuel : Nat) (sn : Seen), s + d = p → d < fuel → (∀ q, s ≤ q → q < p → ¬ Hit2 t n q) →
    ∃ sn', M.admitted m fuel s sn = .ok (some p, sn')
  | d, s, 0, sn, _, hf, _ => by omega
  | 0, s, fuel + 1, sn, e, _, _ => by
    obtain rfl : s = p := by omega
    obtain ⟨sn', e'⟩ := inSet2 (t.getD s 0) sn
    refine ⟨sn', ?_⟩
    unfold M.admitted
    rw [if_neg (by rw [hn]; exact Nat.not_le.mpr hp.1), hc, ht, e', decide_eq_true hp.2]
  | d + 1, s, fuel + 1, sn, e, hf, hno => by
    obtain ⟨sn₁, e₁⟩ := inSet2 (t.getD s 0) sn
    obtain ⟨sn', e'⟩ := admitted_hit hc ht hn hp d (s + 1) fuel sn₁ (by omega) (by omega) (fun q a b => hno q (by omega) b)
    refine ⟨sn', ?_⟩
    unfold M.admitted
    have hlt : s < n := by have := hp.1; omega
    rw [if_neg (by rw [hn]; exact Nat.not_le.mpr hlt), hc, ht, e₁, decide_eq_false (fun h => hno s (Nat.le_refl _) (by omega) ⟨hlt, h⟩)]
    exact e'
theorem admitted_none {m : M} {t : Array Nat} {n : Nat} (hc : m.code = code2) (ht : m.text = t) (hn : m.lim = n) : ∀ (fuel s : Nat) (sn : Seen), (∀ q, s ≤ q → ¬ Hit2 t n q) →
    ∃ sn', M.admitted m fuel s sn = .ok (none, sn')
  | 0, s, sn, _ => ⟨sn, rfl⟩
  | fuel + 1, s, sn, hno => by
    unfold M.admitted
    by_cases h : s ≥ m.lim
    · exact ⟨sn, by rw [if_pos h]⟩
    · obtain ⟨sn₁, e₁⟩ := inSet2 (t.getD s 0) sn
      obtain ⟨sn', e'⟩ := admitted_none hc ht hn fuel (s + 1) sn₁ (fun q a => hno q (by omega))
      refine ⟨sn', ?_⟩
      rw [if_neg h, hc, ht, e₁, decide_eq_false (fun h' => hno s (Nat.le_refl _) ⟨by omega, h'⟩)]
      exact e'
def m02 (t : Array Nat) (n s : Nat) (must : Bool) : M := { code := code2, text := t, lim := n, start := s, lastStart := n, pc := 10, pos := s, handed := s, marks := #[], mustAdvance := must, seen := ({} : Seen).add 14 }
theorem fs2 {t : Array Nat} {n s : Nat} {must : Bool} (h : s < n) : forSearch code2 t 0 s n must = M.attemptFrom (m02 t n s must) s true := by
  unfold forSearch
  rw [show header code2 = (1, 10) from rfl]
  dsimp only
  rw [if_neg (by simp; omega)]
  rfl
theorem af2 {t : Array Nat} {n s : Nat} {must : Bool} : M.attemptFrom (m02 t n s must) s true = (match M.admitted (m02 t n s must) (n + 1 - s) s (({} : Seen).add 14) with
    | .ok (some s', seen) => ({ m02 t n s must with mustAdvance := false, seen } : M).attemptAt s' true
    | .ok (none, seen) => ({ m02 t n s must with seen } : M).say false
    | .error why => (m02 t n s must).stick why) := by
  unfold M.attemptFrom
  rw [if_neg (by rw [show (m02 t n s must).hasFirstSet = true from rfl]; simp)]
  rfl
theorem search2_hit {t : Array Nat} {n s p : Nat} {must : Bool} (hp : Hit2 t n p) (hs : s ≤ p) (hno : ∀ q, s ≤ q → q < p → ¬ Hit2 t n q) :
    ∃ k m', k ≤ 20 ∧ To k (forSearch code2 t 0 s n must) m' ∧ m'.outcome = some .matched ∧ m'.start = p ∧ m'.handed = p + wid t n p := by
  have hlt := hp.1
  obtain ⟨sn', e'⟩ := admitted_hit (m := m02 t n s must) (t := t) (n := n) rfl rfl rfl hp (p - s) s (n + 1 - s) (({} : Seen).add 14) (by omega) (by omega) hno
  rw [fs2 (by omega), af2, e']
  exact att2_hit (ob := true) (sn := sn') hp
theorem search2_none {t : Array Nat} {n s : Nat} {must : Bool} (hno : ∀ q, s ≤ q → ¬ Hit2 t n q) :
    ∃ k m', k ≤ 20 ∧ To k (forSearch code2 t 0 s n must) m' ∧ m'.outcome = some .failed := by
  by_cases h : s < n
  · obtain ⟨sn', e'⟩ := admitted_none (m := m02 t n s must) (t := t) (n := n) rfl rfl rfl (n + 1 - s) s (({} : Seen).add 14) hno
    rw [fs2 h, af2, e']
    exact ⟨1, _, by omega, To.one (step_nil (yes := false) rfl rfl rfl), rfl⟩
  · unfold forSearch
    rw [show header code2 = (1, 10) from rfl]
    dsimp only
    rw [if_pos (by simp; omega)]
    exact ⟨1, _, by omega, To.one rfl, rfl⟩
theorem search1_hit {t : Array Nat} {n s p : Nat} {must : Bool} (hp : Hit1 t n p) (hs : s ≤ p) (hno : ∀ q, s ≤ q → q < p → ¬ Hit1 t n q) :
    ∃ k m', k ≤ 3 * n + 20 ∧ To k (forSearch code1 t 0 s n must) m' ∧ m'.outcome = some .matched ∧ m'.start = p ∧ m'.handed = p + 1 := by
  have hlt := hp.1
  obtain ⟨sn, e⟩ := search1_start (t := t) (n := n) (s := s) (must := must) (by omega)
  rw [e]
  obtain ⟨k, m', hk, r⟩ := from1_hit hp (p - s) s true must sn (by omega) hno
  exact ⟨k, m', by omega, r⟩
theorem search1_none {t : Array Nat} {n s : Nat} {must : Bool} (hno : ∀ q, s ≤ q → ¬ Hit1 t n q) :
    ∃ k m', k ≤ 3 * n + 20 ∧ To k (forSearch code1 t 0 s n must) m' ∧ m'.outcome = some .failed := by
  by_cases h : s < n
  · obtain ⟨sn, e⟩ := search1_start (t := t) (n := n) (s := s) (must := must) h
    rw [e]
    obtain ⟨k, m', hk, r⟩ := from1_none (n - s) s true must sn (by omega) hno
    exact ⟨k, m', by omega, r⟩
  · obtain ⟨m', r⟩ := search1_over (t := t) (n := n) (s := s) (must := must) (Nat.not_lt.mp h)
    exact ⟨1, m', by omega, r⟩
end Mine
end
section
open PySem PySem.W PyProof.Rows PySem.Calls PySem.Builtin PySem.Builtin.Re
namespace Mine
section
variable {M : Model} {A : Around} {E : Value → Shared → Prop} {s : Shared}
theorem wp_drive {m' : Sre.M} (ho : m'.outcome.isSome = true) {Q : Sre.M → Shared → Prop} (hQ : Q m' s) : ∀ (turns k : Nat) (m : Sre.M), To k m m' → k ≤ 4 * turns → 0 < turns → wpAny M A (reDrive turns m) Q E s
  | 0, _, _, _, _, h0 => by omega
  | turns + 1, k, m, r, hk, _ => by
    unfold reDrive
    have e4 : ∀ j, Sre.M.runFor (k + j) m = m' := fun j => by rw [runFor_add, r, runFor_done ho]
    by_cases h1 : (m.runFor reTurnSteps).outcome.isSome = true
    · have : m.runFor reTurnSteps = m' := by
        have a := runFor_done h1 k
        rw [← runFor_add, Nat.add_comm, e4] at a
        exact a.symm
      dsimp only
      rw [if_pos h1, this]
      exact wpAny_pure hQ
    · dsimp only
      rw [if_neg h1]
      refine wpAny_bind (wpAny_rule ?_)
      have hlt : 4 < k := by
        rcases Nat.lt_or_ge 4 k with h | h
        · exact h
        · exfalso
          apply h1
          have : m.runFor reTurnSteps = m' := by
            have a := e4 (4 - k)
            rwa [Nat.add_sub_cancel' h] at a
          rw [this]; exact ho
      refine wp_drive ho hQ turns (k - 4) _ ?_ (by omega) (by omega)
      unfold To
      rw [← runFor_add, show reTurnSteps + (k - 4) = k from by unfold reTurnSteps; omega]
      exact r
theorem wp_forNil {f : Nat → PUnit → Sem (ForInStep PUnit)} (hf : ∀ (i : Nat) (Q : ForInStep PUnit → Shared → Prop), Q (.yield PUnit.unit) s → wpAny M A (f i PUnit.unit) Q E s) {Q : PUnit → Shared → Prop} (hQ : Q PUnit.unit s) :
    ∀ l : List Nat, wpAny M A (forIn l PUnit.unit f) Q E s
  | [] => by rw [List.forIn_nil]; exact wpAny_pure hQ
  | i :: l => by
    rw [List.forIn_cons]
    refine wpAny_bind (hf i _ ?_)
    exact wp_forNil hf hQ l
theorem wp_runToEnd {m m' : Sre.M} {k : Nat} (r : To k m m') (hk : k ≤ 4 * 2 ^ 64) {Q : Option Sre.M → Shared → Prop} (ho : (m'.outcome = some .matched ∧ Q (some m') s) ∨ (m'.outcome = some .failed ∧ Q none s)) : wpAny M A (reRunToEnd m) Q E s := by
  unfold reRunToEnd
  refine wpAny_bind (wp_drive (m' := m') (by rcases ho with h | h <;> rw [h.1] <;> rfl) ?_ _ k m r hk (by omega))
  refine wpAny_bind (wp_forNil ?_ ?_ _)
  · intro i Q hQ
    split
    · exact wpAny_bind (wpAny_rule (wpAny_pure hQ))
    · exact wpAny_pure hQ
  · rcases ho with h | h
    · rw [h.1]; exact wpAny_pure h.2
    · rw [h.1]; exact wpAny_pure h.2
end
end Mine
end
section
open PySem PySem.W PyProof.Rows PySem.Calls PySem.Builtin PySem.Builtin.Re
namespace Mine
theorem entry_subloop : entryFor table "re.Pattern.sub.loop" = some Builtin.«re.Pattern.sub.loop» := entryFor_of_fast (by kernel_rfl)
theorem entry_sub : entryFor table "re.Pattern.sub" = some Builtin.«re.Pattern.sub» := entryFor_of_fast (by kernel_rfl)
theorem plain_subloop : plainId "re.Pattern.sub.loop" = true := by decide +kernel
theorem plain_sub : plainId "re.Pattern.sub" = true := by decide +kernel
theorem slot_sub : Slot "re.Pattern" "sub" "re.Pattern.sub" :=
  .of (owner := "re.Pattern") (n := "sub") (by rw [typeLookup_type, builtinLookup_eq_fast]; kernel_rfl) (by decide +kernel) (by decide +kernel) (by decide +kernel)
    (by first | exact .inl (by decide +kernel) | exact .inr (by decide +kernel)) (by rw [isSubtype_type]; kernel_rfl)
theorem type_sub : typeOf (.builtin "re.Pattern.sub") = pure (.type "method_descriptor") := by show builtinType _ = _; rw [builtinType_eq_fast]; kernel_rfl
/-- a compiled pattern of texts, its code written -/
structure PatAt (h : Heap) (pa ct : Addr) (code : Array Nat) : Prop where
  pat : ∃ o fs, h.get? pa = some o ∧ o.cls = .type "re.Pattern" ∧ o.dict = none ∧ o.data = .fields fs ∧ fs.getD 5 .none = .ref ct ∧ fs.getD 6 .none = .int 0 0 ∧ fs.getD 2 .none = .int 0 0
  code : ∃ o its n, h.get? ct = some o ∧ o.data = .seq its n ∧ (its.map reRawOf).map (·.toNat) = code
theorem PatAt.but {h h' : Heap} {pa ct l : Addr} {code : Array Nat} (P : PatAt h pa ct code) (hp : pa ≠ l) (hc : ct ≠ l) (k : ∀ b o, b ≠ l → h.get? b = some o → h'.get? b = some o) : PatAt h' pa ct code :=
  ⟨let ⟨o, fs, e, r⟩ := P.pat; ⟨o, fs, k _ _ hp e, r⟩, let ⟨o, its, n, e, r⟩ := P.code; ⟨o, its, n, k _ _ hc e, r⟩⟩
theorem PatAt.keeps {h h' : Heap} {pa ct : Addr} {code : Array Nat} (P : PatAt h pa ct code) (k : Keeps h h') : PatAt h' pa ct code :=
  ⟨let ⟨o, fs, e, r⟩ := P.pat; ⟨o, fs, k _ _ e, r⟩, let ⟨o, its, n, e, r⟩ := P.code; ⟨o, its, n, k _ _ e, r⟩⟩
section
variable {prog : Program} {w : World} {A : Around} {E : Value → Shared → Prop} {s : Shared}
theorem wp_wholeTarget {pa ct : Addr} {code : Array Nat} {x : PySem.Str} {t : Tok} (P : PatAt s.heap pa ct code) {Q : ReTarget → Shared → Prop}
    (hQ : Q { pattern := .ref pa, string := .str x t, code, text := x.cps, kind := 0, groups := 0, pos := 0, lim := x.cps.size } s) : wpAny (model prog w) A (reWholeTarget (.ref pa) (.str x t)) Q E s := by
  obtain ⟨o, fs, ho, _, _, hd, h5, h6, h2⟩ := P.pat
  obtain ⟨oc, its, n, hoc, hdc, hcode⟩ := P.code
  unfold reWholeTarget
  refine wpAny_bind (wpAny_fieldsOf ho hd ?_)
  refine wpAny_bind (show wpAny _ _ (reTextOf (.str x t)) _ _ _ from wpAny_pure ?_)
  dsimp only
  rw [h6, h2, h5]
  refine wpAny_bind (show wpAny _ _ (reNoCollectionInside _ 0) _ _ _ from wpAny_pure ?_)
  refine wpAny_bind (wpAny_bind (wpAny_seqItems hoc hdc (wpAny_pure ?_)))
  rw [show ((some its).getD #[]).map reRawOf = its.map reRawOf from rfl, hcode]
  exact wpAny_pure hQ
/-- the places that a pattern finds from start on -/
inductive Scan (code txt : Array Nat) : Nat → List (Nat × Nat) → Prop
  | nil {start : Nat} : (∀ must, ∃ k m', k ≤ 4 * 2 ^ 64 ∧ To k (Sre.forSearch code txt 0 start txt.size must) m' ∧ m'.outcome = some .failed) → Scan code txt start []
  | cons {start p e : Nat} {r : List (Nat × Nat)} : (∀ must, ∃ k m', k ≤ 4 * 2 ^ 64 ∧ To k (Sre.forSearch code txt 0 start txt.size must) m' ∧ m'.outcome = some .matched ∧ m'.start = p ∧ m'.handed = e) →
      start ≤ p → p ≤ e → e ≤ txt.size → Scan code txt e r → Scan code txt start ((p, e) :: r)
theorem wp_nextFound_none {T : ReTarget} {code txt : Array Nat} {start : Nat} {must : Bool} (h1 : T.code = code) (h2 : T.text = txt) (h3 : T.groups = 0) (h4 : T.lim = txt.size) (h : Scan code txt start []) {Q : Option Sre.M → Shared → Prop} (hQ : Q none s) :
    wpAny (model prog w) A (reNextFound T start must) Q E s := by
  cases h with
  | nil h =>
    obtain ⟨k, m', hk, r, o⟩ := h must
    unfold reNextFound
    rw [h1, h2, h3, h4]
    exact wp_runToEnd r hk (.inr ⟨o, hQ⟩)
theorem wp_nextFound_some {T : ReTarget} {code txt : Array Nat} {start p e : Nat} {r : List (Nat × Nat)} {must : Bool} (h1 : T.code = code) (h2 : T.text = txt) (h3 : T.groups = 0) (h4 : T.lim = txt.size) (h : Scan code txt start ((p, e) :: r)) {Q : Option Sre.M → Shared → Prop}
    (hQ : ∀ m' : Sre.M, m'.start = p → m'.handed = e → Q (some m') s) : wpAny (model prog w) A (reNextFound T start must) Q E s := by
  cases h with
  | cons h _ _ _ _ =>
    obtain ⟨k, m', hk, rr, o, a, b⟩ := h must
    unfold reNextFound
    rw [h1, h2, h3, h4]
    exact wp_runToEnd rr hk (.inl ⟨o, hQ m' a b⟩)
/-- what the substitution makes of the rest of the text -/
def subst (txt : List Nat) (rp : List Nat) : Nat → List (Nat × Nat) → List Nat
  | start, [] => txt.drop start
  | start, (p, e) :: r => (txt.drop start).take (p - start) ++ (rp ++ subst txt rp e r)
def glue (ys : List PySem.Str) : List Nat := (ys.map fun y => y.cps.toList).flatten
theorem glue_snoc (ys : List PySem.Str) (y : PySem.Str) : glue (ys ++ [y]) = glue ys ++ y.cps.toList := by simp [glue]
theorem join_nil (ys : List PySem.Str) : Txt.join ⟨#[]⟩ ys = T (glue ys) := by
  have h : ∀ (l : List PySem.Str) (acc : Array Nat), l.foldl (fun acc p => acc ++ (⟨#[]⟩ : PySem.Str).cps ++ p.cps) acc = (acc.toList ++ glue l).toArray := by
    intro l
    induction l with
    | nil => intro acc; simp [glue]
    | cons y l ih => intro acc; rw [List.foldl_cons, ih]; simp [glue]
  unfold Txt.join Builtin.Str.glued
  rw [h]
  cases ys with
  | nil => rfl
  | cons y l => simp [glue, T]
theorem glue_len (ys : List PySem.Str) : (ys.map (·.length)).sum = (glue ys).length := by
  induction ys with
  | nil => rfl
  | cons y l ih => simp only [List.map_cons, List.sum_cons, ih, glue, List.flatten_cons, List.length_append]; simp [PySem.Str.length]
abbrev lstObj (vs : List Value) (c : Nat) : Obj := { cls := .type "list", dict := none, data := .seq vs.toArray c, slots := #[] }
theorem push_obj (vs : List Value) (c : Nat) (v : Value) : Obj.mapSeq (·.push v) (lstObj vs c) = lstObj (vs ++ [v]) (c + 1) := by
  simp [Obj.mapSeq, lstObj]
theorem strsAre_snoc {vs : List Value} {ys : List PySem.Str} (h : StrsAre vs ys) (y : PySem.Str) (t : Tok) : StrsAre (vs ++ [.str y t]) (ys ++ [y]) := by
  induction h with
  | nil => exact .cons y t .nil
  | cons z u _ ih => exact .cons z u ih
theorem extract_T (txt : Array Nat) (a b : Nat) : (⟨txt.extract a b⟩ : PySem.Str) = T ((txt.toList.drop a).take (b - a)) := by
  refine PySem.Str.ext' ?_
  apply Array.toList_inj.mp
  simp [T]
theorem wp_slice {txt : Array Nat} {b e : Nat} (hz : txt.size ≤ 16777216) {Q : Value → Shared → Prop} (h : Q (.str (T ((txt.toList.drop b).take (e - b))) s.toks) { s with toks := s.toks + 1 }) : wpAny (model prog w) A (reSlice txt 0 b e) Q E s := by
  show wpAny _ _ (mkStr ⟨txt.extract b e⟩) _ _ _
  refine wpAny_mkStr (by rw [extract_T]; exact h) ?_
  rw [sizeLine_eq]
  simp only [PySem.Str.length, Array.size_extract]; omega
theorem sub_loop {R : Result → Shared → Prop} {pa ct l : Addr} {code : Array Nat} {x rp : PySem.Str} {tx tr : Tok} (hpl : pa ≠ l) (hcl : ct ≠ l) (hx : x.cps.size ≤ 1000000) :
    ∀ (ms : List (Nat × Nat)) (s : Shared) (cnt : Int) (start : Nat) (must : Bool) (vs : List Value) (ys : List PySem.Str) (c : Nat),
      PatAt s.heap pa ct code → s.heap.get? l = some (lstObj vs c) → StrsAre vs ys → Scan code x.cps start ms → vs.length + 2 * ms.length + 1 ≤ 10000000 → (glue ys).length + (subst x.cps.toList rp.cps.toList start ms).length ≤ 10000000 →
      (∀ h' tk t', (∀ b o, b ≠ l → s.heap.get? b = some o → h'.get? b = some o) → R (.ok (.ret (.str (T (glue ys ++ subst x.cps.toList rp.cps.toList start ms)) t'))) { s with heap := h', toks := tk }) →
      codeAny (model prog w) A (.builtin "re.Pattern.sub.loop" ⟨[.ref pa, .str x tx, .str rp tr, rawInt 0, rawInt 0, rawInt cnt, rawInt (start : Nat), rawInt (start : Nat), .bool must, .ref l, .bool false], []⟩) R s
  | [], s, cnt, start, must, vs, ys, c, P, hl, hy, hS, hn, hg, hR => by
    refine codeAny_builtin entry_subloop ?_
    rw [Around.under_plainId plain_subloop _]
    unfold «re.Pattern.sub.loop»
    dsimp only [rawInt]
    refine wpAny_bind (wp_wholeTarget P ?_)
    rw [if_pos (show ((0 : Int) == 0) = true from rfl)]
    refine wpAny_bind (show wpAny _ _ (reLiteralCannotBeTurned _) _ _ _ from wpAny_pure ?_)
    rw [if_neg (show ¬ ((0 : Int) != 0 && decide (cnt ≥ 0)) = true from by simp)]
    refine wpAny_bind (wp_nextFound_none rfl rfl rfl rfl (by simpa using hS) ?_)
    dsimp only
    have fin : ∀ (s₁ : Shared) (vs₁ : List Value) (ys₁ : List PySem.Str) (c₁ : Nat), (∃ h tk, s₁ = { s with heap := h, toks := tk }) → (∀ b o, b ≠ l → s.heap.get? b = some o → s₁.heap.get? b = some o) → s₁.heap.get? l = some (lstObj vs₁ c₁) → StrsAre vs₁ ys₁ → glue ys₁ = glue ys ++ subst x.cps.toList rp.cps.toList start [] →
        wpAny (model prog w) A.in1 (do
          let joiner ← reSlice x.cps 0 0 0
          let y ← seqItems? (Value.ref l)
          if (y.getD #[]).isEmpty = true then do
              let text ← pure joiner
              if false = true then do
                  let z ← holding [text] (do newTuple [text, ← mkInt cnt])
                  ret z
                else ret text
            else do
              let text ← call (Value.builtin (if (0 == 0) = true then "str.join" else "bytes.join")) [joiner, Value.ref l]
              if false = true then do
                  let z ← holding [text] (do newTuple [text, ← mkInt cnt])
                  ret z
                else ret text)
          (fun fin s' => match fin with | .done f => R (.ok f) s' | .again c' => c'.quiet = true ∧ codeAny (model prog w) A c' R s') (fun e s' => R (.error e) s') s₁ := by
      rintro s₁ vs₁ ys₁ c₁ ⟨h₁, tk₁, rfl⟩ hk hl₁ hy₁ hg₁
      refine wpAny_bind (wp_slice (by omega) ?_)
      refine wpAny_bind (wpAny_seqItems (o := lstObj vs₁ c₁) hl₁ rfl ?_)
      have e0 : ({ cps := x.cps.extract 0 0 } : PySem.Str) = ⟨#[]⟩ := by rw [extract_T]; simp [T]
      by_cases hv : vs₁ = []
      · subst hv
        cases hy₁
        rw [if_pos (show ((some (#[] : Array Value)).getD #[]).isEmpty = true from rfl)]
        refine wpAny_bind (wpAny_pure ?_)
        rw [if_neg (by simp)]
        have : T (List.take (0 - 0) (List.drop 0 x.cps.toList)) = T (glue ys ++ subst x.cps.toList rp.cps.toList start []) := by rw [← hg₁]; simp [glue]
        rw [this]
        exact wpAny_pure (hR _ _ _ hk)
      · rw [if_neg (by simpa using hv)]
        have hok : (ys₁.map (·.length)).sum + ys₁.length * (T (List.take (0 - 0) (List.drop 0 x.cps.toList))).length ≤ 16777216 := by
          rw [glue_len, hg₁, T_len]; simp at hg ⊢; omega
        refine wpAny_bind (join_list (x := T (List.take (0 - 0) (List.drop 0 x.cps.toList))) ⟨_, hl₁, rfl, _, rfl⟩ hy₁ hok fun t' k => ?_)
        rw [if_neg (by simp)]
        have : Txt.join (T (List.take (0 - 0) (List.drop 0 x.cps.toList))) ys₁ = T (glue ys ++ subst x.cps.toList rp.cps.toList start []) := by
          rw [show T (List.take (0 - 0) (List.drop 0 x.cps.toList)) = ⟨#[]⟩ from by simp [T], join_nil, hg₁]
        rw [this]
        exact wpAny_pure (hR _ _ _ hk)
    simp only [Int.toNat_natCast]
    by_cases hd : start < x.cps.size
    · rw [if_pos hd]
      refine wpAny_bind (wp_slice (by omega) ?_)
      refine wpAny_bind (wpAny_updateSeq hl rfl ?_ (by rw [sizeLine_eq]; simp; omega) (by rw [sizeLine_eq]; simp; omega))
      refine fin _ (vs ++ [.str (T ((x.cps.toList.drop start).take (x.cps.size - start))) s.toks]) (ys ++ [T ((x.cps.toList.drop start).take (x.cps.size - start))]) (c + 1) ⟨_, _, rfl⟩ (fun b o hb e => ?_) ?_ (strsAre_snoc hy _ _) ?_
      · exact (Heap.get?_update_other _ _ (Ne.symm hb)).trans e
      · rw [← push_obj]; exact Heap.get?_update_self _ hl rfl
      · rw [glue_snoc, T_list]
        congr 1
        simp only [subst]
        rw [List.take_of_length_le (by simp)]
    · rw [if_neg hd]
      refine fin _ vs ys c ⟨_, _, rfl⟩ (fun b o hb e => e) hl hy ?_
      simp only [subst]
      rw [List.drop_eq_nil_of_le (by simpa using Nat.not_lt.mp hd)]; simp
  | (p, e) :: r, s, cnt, start, must, vs, ys, c, P, hl, hy, hS, hn, hg, hR => by
    refine codeAny_builtin entry_subloop ?_
    rw [Around.under_plainId plain_subloop _]
    unfold «re.Pattern.sub.loop»
    dsimp only [rawInt]
    refine wpAny_bind (wp_wholeTarget P ?_)
    rw [if_pos (show ((0 : Int) == 0) = true from rfl)]
    refine wpAny_bind (show wpAny _ _ (reLiteralCannotBeTurned _) _ _ _ from wpAny_pure ?_)
    rw [if_neg (show ¬ ((0 : Int) != 0 && decide (cnt ≥ 0)) = true from by simp)]
    refine wpAny_bind (wp_nextFound_some rfl rfl rfl rfl (by simpa using hS) ?_)
    intro m' hm1 hm2
    dsimp only
    obtain ⟨h1, h2, h3, hS'⟩ : start ≤ p ∧ p ≤ e ∧ e ≤ x.cps.size ∧ Scan code x.cps e r := by cases hS; exact ⟨by assumption, by assumption, by assumption, by assumption⟩
    rw [hm1, hm2]
    have fin : ∀ (s₁ : Shared) (vs₁ : List Value) (ys₁ : List PySem.Str) (c₁ : Nat), (∃ h tk, s₁ = { s with heap := h, toks := tk }) → (∀ b o, b ≠ l → s.heap.get? b = some o → s₁.heap.get? b = some o) → s₁.heap.get? l = some (lstObj vs₁ c₁) → StrsAre vs₁ ys₁ → vs₁.length ≤ vs.length + 1 → glue ys₁ = glue ys ++ (x.cps.toList.drop start).take (p - start) →
        wpAny (model prog w) A.in1 (if ((0 : Int) == 0) = true then do
                    let item ← pure (Value.str rp tr)
                    if (item != Value.none) = true then do
                        updateSeq l fun x => x.push item
                        again
                            (Code.builtin "re.Pattern.sub.loop"
                              ⟨[Value.ref pa, Value.str x tx, Value.str rp tr, Value.int 0 0, Value.int 0 0,
                                    Value.int (cnt + 1) 0, Value.int (e : Nat) 0, Value.int (e : Nat) 0,
                                    Value.bool (e == p), Value.ref l, Value.bool false], []⟩)
                      else
                        again
                          (Code.builtin "re.Pattern.sub.loop"
                            ⟨[Value.ref pa, Value.str x tx, Value.str rp tr, Value.int 0 0, Value.int 0 0,
                                  Value.int (cnt + 1) 0, Value.int (e : Nat) 0, Value.int (e : Nat) 0,
                                  Value.bool (e == p), Value.ref l, Value.bool false], []⟩)
                  else do
                    let found ← reNewMatch (Value.ref pa) (Value.str x tx) 0 0 x.cps.size m'
                    let item ←
                      holding [found]
                          (if ((0 : Int) == 1) = true then call (Value.str rp tr) [found]
                          else do
                            let z ← reFound found
                            reExpand (Value.str rp tr) z)
                    if (item != Value.none) = true then do
                        updateSeq l fun x => x.push item
                        again
                            (Code.builtin "re.Pattern.sub.loop"
                              ⟨[Value.ref pa, Value.str x tx, Value.str rp tr, Value.int 0 0, Value.int 0 0,
                                    Value.int (cnt + 1) 0, Value.int (e : Nat) 0, Value.int (e : Nat) 0,
                                    Value.bool (e == p), Value.ref l, Value.bool false], []⟩)
                      else
                        again
                          (Code.builtin "re.Pattern.sub.loop"
                            ⟨[Value.ref pa, Value.str x tx, Value.str rp tr, Value.int 0 0, Value.int 0 0,
                                  Value.int (cnt + 1) 0, Value.int (e : Nat) 0, Value.int (e : Nat) 0,
                                  Value.bool (e == p), Value.ref l, Value.bool false], []⟩))
          (fun fin s' => match fin with | .done f => R (.ok f) s' | .again c' => c'.quiet = true ∧ codeAny (model prog w) A c' R s') (fun e s' => R (.error e) s') s₁ := by
      rintro s₁ vs₁ ys₁ c₁ ⟨h₁, tk₁, rfl⟩ hk hl₁ hy₁ hlen hg₁
      rw [if_pos (show ((0 : Int) == 0) = true from rfl)]
      refine wpAny_bind (wpAny_pure ?_)
      rw [if_pos (show (Value.str rp tr != Value.none) = true from by simp)]
      simp only [List.length_cons] at hn
      refine wpAny_bind (wpAny_updateSeq hl₁ rfl ?_ (by rw [sizeLine_eq]; simp; omega) (by rw [sizeLine_eq]; simp; omega))
      refine wpAny_pure ⟨plainId_quiet plain_subloop _, ?_⟩
      have hk' : ∀ b o, b ≠ l → s.heap.get? b = some o → (h₁.update l (Obj.mapSeq (·.push (.str rp tr)))).get? b = some o := fun b o hb e => (Heap.get?_update_other _ _ (Ne.symm hb)).trans (hk b o hb e)
      have hg₂ : glue (ys₁ ++ [rp]) ++ subst x.cps.toList rp.cps.toList e r = glue ys ++ subst x.cps.toList rp.cps.toList start ((p, e) :: r) := by
        rw [glue_snoc, hg₁]; simp [subst]
      refine sub_loop hpl hcl hx r _ (cnt + 1) e (e == p) (vs₁ ++ [.str rp tr]) (ys₁ ++ [rp]) (c₁ + 1) (P.but hpl hcl hk') ?_ (strsAre_snoc hy₁ _ _) hS' (by simp; omega) ?_ fun h' tk t' hk'' => ?_
      · show (h₁.update l _).get? l = _
        rw [Heap.get?_update_self _ hl₁ rfl, push_obj]
      · have := congrArg List.length hg₂
        simp only [List.length_append] at this
        omega
      · rw [hg₂]
        exact hR h' tk t' fun b o hb e => hk'' b o hb (hk' b o hb e)
    simp only [Int.toNat_natCast]
    by_cases hd : start < p
    · rw [if_pos hd]
      refine wpAny_bind (wp_slice (by omega) ?_)
      refine wpAny_bind (wpAny_updateSeq hl rfl ?_ (by rw [sizeLine_eq]; simp; omega) (by rw [sizeLine_eq]; simp; omega))
      refine fin _ (vs ++ [.str (T ((x.cps.toList.drop start).take (p - start))) s.toks]) (ys ++ [T ((x.cps.toList.drop start).take (p - start))]) (c + 1) ⟨_, _, rfl⟩ (fun b o hb e => ?_) ?_ (strsAre_snoc hy _ _) (by simp) ?_
      · exact (Heap.get?_update_other _ _ (Ne.symm hb)).trans e
      · rw [← push_obj]; exact Heap.get?_update_self _ hl rfl
      · rw [glue_snoc, T_list]
    · rw [if_neg hd]
      refine fin _ vs ys c ⟨_, _, rfl⟩ (fun b o hb e => e) hl hy (by omega) ?_
      have : p - start = 0 := by omega
      rw [this]; simp
end
end Mine
end
section
open PySem PySem.W PyProof.Rows PySem.Calls PySem.Builtin PySem.Builtin.Re
namespace Mine
theorem args_sub (a b c : Value) : argsOk "re.Pattern.sub" ⟨[a, b, c], []⟩ := by
  unfold argsOk; kernel_rfl
theorem named_sub (a b : Value) : reNamed "re.Pattern.sub" "sub" ["repl", "string", "count"] 2 [a, b] [] = pure [some a, some b, none] := by rfl
theorem str_nocall : typeLookup (.type "str") "__call__" = pure none := by rw [typeLookup_type, builtinLookup_eq_fast]; kernel_rfl
theorem pa_pattern : PlainAttrs "re.Pattern" where
  ga := ⟨"object.__getattribute__", by rw [typeLookup_type, builtinLookup_eq_fast]; kernel_rfl, by decide +kernel⟩
  noGetattr := by rw [typeLookup_type, builtinLookup_eq_fast]; kernel_rfl
section
variable {prog : Program} {w : World} {A : Around} {E : Value → Shared → Prop} {s : Shared}
theorem call_sub {pa ct : Addr} {code : Array Nat} {x rp : PySem.Str} {tx tr : Tok} {ms : List (Nat × Nat)} {Q : Value → Shared → Prop} (P : PatAt s.heap pa ct code) (hrp : rp.cps.contains 92 = false) (hx : x.cps.size ≤ 1000000) (hS : Scan code x.cps 0 ms)
    (hn : ms.length ≤ 1000000) (hg : (subst x.cps.toList rp.cps.toList 0 ms).length ≤ 10000000)
    (hQ : ∀ h' tk t', Keeps s.heap h' → Q (.str (T (subst x.cps.toList rp.cps.toList 0 ms)) t') { s with heap := h', toks := tk }) :
    wpAny (model prog w) A (call (.builtin "re.Pattern.sub") [.ref pa, .str rp tr, .str x tx]) Q E s := by
  obtain ⟨o, fs, ho, hc, _⟩ := P.pat
  have hT : s.TypeIs (.ref pa) "re.Pattern" := ⟨o, ho, hc⟩
  refine wpAny_call (codeAny_call_builtin plain_sub entry_sub (slot_sub.check _ _ _ _ _ _ _ _ hT (args_sub _ _ _) ?_))
  unfold «re.Pattern.sub» reSubstitute
  dsimp only
  rw [named_sub]
  refine wpAny_bind (wpAny_pure ?_)
  refine wpAny_bind (wpAny_pure ?_)
  refine wpAny_bind (wpAny_specialOf (T := "str") (typeIs_str _ _ _) str_nocall ?_)
  rw [show (none : Option Value).isSome = false from rfl]
  rw [if_neg (show ¬ (false = true) from by simp)]
  refine wpAny_bind (show wpAny _ _ (asStr? (.str rp tr)) _ _ _ from wpAny_pure ?_)
  dsimp only
  refine wpAny_bind (wpAny_pure ?_)
  rw [if_neg (show ¬ (false = true) from by simp), if_pos (show (!rp.cps.contains 92) = true from by rw [hrp]; rfl)]
  refine wpAny_bind (wpAny_pure ?_)
  dsimp only
  refine wpAny_bind (wpAny_holding (wp_wholeTarget P ?_))
  rw [if_neg (show ¬ ((0 : Int) == 1) = true from by simp)]
  refine wpAny_bind (wpAny_newObj_type ?_ (by size_fits))
  refine wpAny_pure ⟨plainId_quiet plain_subloop _, ?_⟩
  have hplt : pa < s.heap.objs.size := Heap.lt_size ho
  obtain ⟨oc, its, nc, hoc, _⟩ := id P.code
  have hclt : ct < s.heap.objs.size := Heap.lt_size hoc
  have hkp : Keeps s.heap (s.heap.push { cls := .type "list", dict := none, data := .seq ([] : List Value).toArray }) := fun b o e => Heap.get?_push_of_some _ e
  refine sub_loop (Nat.ne_of_lt hplt) (Nat.ne_of_lt hclt) hx ms { s with heap := s.heap.push { cls := .type "list", dict := none, data := .seq ([] : List Value).toArray } } 0 0 false [] [] 0 (P.keeps hkp) (Heap.get?_push_size _ rfl) .nil hS (by simp; omega) (by simpa [glue] using hg) fun h' tk t' hk => ?_
  rw [show glue [] ++ subst x.cps.toList rp.cps.toList 0 ms = subst x.cps.toList rp.cps.toList 0 ms from by simp [glue]]
  exact hQ h' tk t' fun b o e => hk b o (Nat.ne_of_lt (Heap.lt_size e)) (hkp b o e)
end
/-! the places, and what comes of them -/
inductive HS (hit : Nat → Prop) (wd : Nat → Nat) : Nat → List (Nat × Nat) → Prop
  | nil {start : Nat} : (∀ q, start ≤ q → ¬ hit q) → HS hit wd start []
  | cons {start p : Nat} {r : List (Nat × Nat)} : hit p → start ≤ p → (∀ q, start ≤ q → q < p → ¬ hit q) → HS hit wd (p + wd p) r → HS hit wd start ((p, p + wd p) :: r)
theorem HS.back {hit : Nat → Prop} {wd : Nat → Nat} {start : Nat} {ms : List (Nat × Nat)} (h : HS hit wd (start + 1) ms) (hn : ¬ hit start) : HS hit wd start ms := by
  have all : ∀ q, start ≤ q → ¬ (start + 1 ≤ q) → ¬ hit q := fun q a b => by
    have : q = start := by omega
    rw [this]; exact hn
  cases h with
  | nil h => exact .nil fun q a => if b : start + 1 ≤ q then h q b else all q a b
  | cons h1 h2 h3 h4 => exact .cons h1 (by omega) (fun q a c => if b : start + 1 ≤ q then h3 q b c else all q a b) h4
theorem subst_back {hit : Nat → Prop} {wd : Nat → Nat} {txt rp : List Nat} {start c : Nat} {ms : List (Nat × Nat)} (h : HS hit wd (start + 1) ms) (hc : txt.drop start = c :: txt.drop (start + 1)) : subst txt rp start ms = c :: subst txt rp (start + 1) ms := by
  cases h with
  | nil h => simp only [subst]; exact hc
  | cons h1 h2 h3 h4 =>
    rename_i p r
    simp only [subst]
    rw [hc, show p - start = (p - (start + 1)) + 1 by omega, List.take_succ_cons]; simp
theorem subst_here {txt rp : List Nat} {p e : Nat} {r : List (Nat × Nat)} : subst txt rp p ((p, e) :: r) = rp ++ subst txt rp e r := by
  simp [subst]
def crlf : List Nat → List Nat
  | [] => []
  | [c] => if c = 13 ∨ c = 10 then [13, 10] else [c]
  | c :: d :: r => if c = 13 ∧ d = 10 then 13 :: 10 :: crlf r else if c = 13 ∨ c = 10 then 13 :: 10 :: crlf (d :: r) else c :: crlf (d :: r)
theorem crlf_other {c : Nat} (h : ¬ (c = 13 ∨ c = 10)) (r : List Nat) : crlf (c :: r) = c :: crlf r := by
  cases r with
  | nil => simp [crlf, h]
  | cons d r => simp only [crlf]; rw [if_neg (by omega), if_neg h]
theorem crlf_two (r : List Nat) : crlf (13 :: 10 :: r) = 13 :: 10 :: crlf r := by simp [crlf]
theorem crlf_ten (r : List Nat) : crlf (10 :: r) = 13 :: 10 :: crlf r := by
  cases r with
  | nil => simp [crlf]
  | cons d r => simp [crlf]
theorem crlf_one {r : List Nat} (h : ∀ d t, r = d :: t → d ≠ 10) : crlf (13 :: r) = 13 :: 10 :: crlf r := by
  cases r with
  | nil => simp [crlf]
  | cons d r => simp only [crlf]; rw [if_neg (by have := h d r rfl; omega)]; simp
/-- dots at a line's start, doubled -/
def dd : Bool → List Nat → List Nat
  | _, [] => []
  | b, c :: r => if b = true ∧ c = 46 then 46 :: 46 :: dd false r else c :: dd (decide (c = 10)) r
theorem drop_at {txt : Array Nat} {start : Nat} (h : start < txt.size) : txt.toList.drop start = txt.getD start 0 :: txt.toList.drop (start + 1) := by
  rw [List.drop_eq_getElem_cons (by simpa using h)]
  congr 1
  simp [Array.getD, h]
theorem wid_pos (t : Array Nat) (n p : Nat) : 1 ≤ wid t n p := by
  unfold wid
  by_cases h : t.getD p 0 = 13
  · rw [if_pos h]
    by_cases h2 : p + 1 < n ∧ t.getD (p + 1) 0 = 10
    · rw [if_pos h2]; omega
    · rw [if_neg h2]; omega
  · rw [if_neg h]; omega
theorem wid_le {t : Array Nat} {n p : Nat} (hp : p < n) : p + wid t n p ≤ n := by
  unfold wid
  by_cases h : t.getD p 0 = 13
  · rw [if_pos h]
    by_cases h2 : p + 1 < n ∧ t.getD (p + 1) 0 = 10
    · rw [if_pos h2]; omega
    · rw [if_neg h2]; omega
  · rw [if_neg h]; omega
theorem ex2 (txt : Array Nat) : ∀ (n start : Nat), txt.size - start = n → ∃ ms, HS (Hit2 txt txt.size) (wid txt txt.size) start ms ∧ subst txt.toList [13, 10] start ms = crlf (txt.toList.drop start) ∧ ms.length ≤ n := by
  intro n
  induction n using Nat.strongRecOn with
  | ind n ih =>
    intro start hn
    by_cases hlt : start < txt.size
    · have hd := drop_at hlt
      by_cases hit : Hit2 txt txt.size start
      · have hw := wid_pos txt txt.size start
        obtain ⟨ms, h1, h2, h3⟩ := ih (txt.size - (start + wid txt txt.size start)) (by omega) _ rfl
        refine ⟨(start, start + wid txt txt.size start) :: ms, .cons hit (Nat.le_refl _) (fun q a b => by omega) h1, ?_, by simp; omega⟩
        rw [subst_here, h2, hd]
        unfold wid
        by_cases h13 : txt.getD start 0 = 13
        · rw [if_pos h13, h13]
          by_cases h10 : start + 1 < txt.size ∧ txt.getD (start + 1) 0 = 10
          · rw [if_pos h10, drop_at h10.1, h10.2, crlf_two]; rfl
          · rw [if_neg h10, crlf_one]
            · rfl
            · intro d t e
              by_cases hl : start + 1 < txt.size
              · rw [drop_at hl] at e
                injection e with e1 e2
                intro hd10
                exact h10 ⟨hl, by rw [e1, hd10]⟩
              · rw [List.drop_eq_nil_of_le (by simpa using hl)] at e; cases e
        · rw [if_neg h13, hit.2.resolve_right h13, crlf_ten]; rfl
      · obtain ⟨ms, h1, h2, h3⟩ := ih (txt.size - (start + 1)) (by omega) _ rfl
        refine ⟨ms, h1.back hit, ?_, by omega⟩
        rw [subst_back h1 hd, h2, hd, crlf_other]
        intro h
        exact hit ⟨hlt, h.symm⟩
    · refine ⟨[], .nil fun q a h => by have := h.1; omega, ?_, by simp⟩
      have : txt.toList.drop start = [] := List.drop_eq_nil_of_le (by simpa using hlt)
      simp only [subst, this, crlf]
theorem ex1 (txt : Array Nat) : ∀ (n start : Nat), txt.size - start = n → ∃ ms, HS (Hit1 txt txt.size) (fun _ => 1) start ms ∧ subst txt.toList [46, 46] start ms = dd (decide (start = 0 ∨ txt.getD (start - 1) 0 = 10)) (txt.toList.drop start) ∧ ms.length ≤ n := by
  intro n
  induction n with
  | zero =>
    intro start hn
    refine ⟨[], .nil fun q a h => by have := h.1; omega, ?_, by simp⟩
    have : txt.toList.drop start = [] := List.drop_eq_nil_of_le (by simp; omega)
    simp only [subst, this, dd]
  | succ n ih =>
    intro start hn
    have hlt : start < txt.size := by omega
    have hd := drop_at hlt
    obtain ⟨ms, h1, h2, h3⟩ := ih (start + 1) (by omega)
    have hb : decide (start + 1 = 0 ∨ txt.getD (start + 1 - 1) 0 = 10) = decide (txt.getD start 0 = 10) := by simp
    rw [hb] at h2
    by_cases hit : Hit1 txt txt.size start
    · refine ⟨(start, start + 1) :: ms, .cons hit (Nat.le_refl _) (fun q a b => by omega) h1, ?_, by simp; omega⟩
      have h46 := hit.2.2
      rw [subst_here, h2, hd, h46, decide_eq_true hit.2.1]
      simp [dd]
    · refine ⟨ms, h1.back hit, ?_, by omega⟩
      rw [subst_back h1 hd, h2, hd]
      by_cases hbol : start = 0 ∨ txt.getD (start - 1) 0 = 10
      · have h46 : txt.getD start 0 ≠ 46 := fun h => hit ⟨hlt, hbol, h⟩
        simp only [dd]
        rw [if_neg (fun h => h46 h.2)]
      · rw [decide_eq_false hbol]
        simp only [dd]
        rw [if_neg (by simp)]
theorem scan2 {txt : Array Nat} {start : Nat} {ms : List (Nat × Nat)} (h : HS (Hit2 txt txt.size) (wid txt txt.size) start ms) : Scan code2 txt start ms := by
  induction h with
  | nil h => exact .nil fun must => by obtain ⟨k, m', hk, r⟩ := search2_none (must := must) h; exact ⟨k, m', by omega, r⟩
  | cons h1 h2 h3 _ ih =>
    refine .cons (fun must => ?_) h2 (Nat.le_add_right _ _) ?_ ih
    · obtain ⟨k, m', hk, r⟩ := search2_hit (must := must) h1 h2 h3; exact ⟨k, m', by omega, r⟩
    · exact wid_le h1.1
theorem scan1 {txt : Array Nat} {start : Nat} {ms : List (Nat × Nat)} (hz : txt.size ≤ 16777216) (h : HS (Hit1 txt txt.size) (fun _ => 1) start ms) : Scan code1 txt start ms := by
  induction h with
  | nil h => exact .nil fun must => by obtain ⟨k, m', hk, r⟩ := search1_none (must := must) h; exact ⟨k, m', by omega, r⟩
  | cons h1 h2 h3 _ ih =>
    refine .cons (fun must => ?_) h2 (by omega) ?_ ih
    · obtain ⟨k, m', hk, r⟩ := search1_hit (must := must) h1 h2 h3; exact ⟨k, m', by omega, r⟩
    · have := h1.1; omega
theorem crlf_len : ∀ l : List Nat, (crlf l).length ≤ 2 * l.length
  | [] => by simp [crlf]
  | [c] => by simp only [crlf]; split <;> simp
  | c :: d :: r => by
    have h1 := crlf_len r
    have h2 := crlf_len (d :: r)
    simp only [crlf]
    split
    · simp; omega
    · split <;> (simp only [List.length_cons] at h2 ⊢; omega)
theorem dd_len : ∀ (l : List Nat) (b : Bool), (dd b l).length ≤ 2 * l.length
  | [], _ => by simp [dd]
  | c :: r, b => by
    have h1 := dd_len r false
    have h2 := dd_len r (decide (c = 10))
    simp only [dd]
    split <;> (simp only [List.length_cons]; omega)
def quote (l : List Nat) : List Nat := dd true (crlf l)
theorem quote_len (l : List Nat) : (quote l).length ≤ 4 * l.length := by
  have := crlf_len l
  have := dd_len (crlf l) true
  unfold quote; omega
section
variable {prog : Program} {w : World} {A : Around} {E : Value → Shared → Prop} {s : Shared}
theorem call_crlf {pa ct : Addr} {l : List Nat} {tx tr : Tok} {Q : Value → Shared → Prop} (P : PatAt s.heap pa ct code2) (hx : l.length ≤ 1000000)
    (hQ : ∀ h' tk t', Keeps s.heap h' → Q (.str (T (crlf l)) t') { s with heap := h', toks := tk }) :
    wpAny (model prog w) A (call (.builtin "re.Pattern.sub") [.ref pa, .str (PySem.Str.ofString "\r\n") tr, .str (T l) tx]) Q E s := by
  obtain ⟨ms, h1, h2, h3⟩ := ex2 l.toArray l.toArray.size 0 rfl
  have hr : (PySem.Str.ofString "\r\n").cps.toList = [13, 10] := by decide +kernel
  rw [List.drop_zero] at h2
  have hl := crlf_len l
  refine call_sub P (by decide +kernel) (by simpa using hx) (scan2 h1) (by simp at h3; omega) ?_ fun h' tk t' k => ?_
  · rw [hr, show (T l).cps.toList = l from by simp]
    have : subst l [13, 10] 0 ms = crlf l := by simpa using h2
    rw [this]; omega
  · rw [hr]
    have : subst (T l).cps.toList [13, 10] 0 ms = crlf l := by simpa using h2
    rw [this]; exact hQ h' tk t' k
theorem call_dots {pa ct : Addr} {l : List Nat} {tx tr : Tok} {Q : Value → Shared → Prop} (P : PatAt s.heap pa ct code1) (hx : l.length ≤ 1000000)
    (hQ : ∀ h' tk t', Keeps s.heap h' → Q (.str (T (dd true l)) t') { s with heap := h', toks := tk }) :
    wpAny (model prog w) A (call (.builtin "re.Pattern.sub") [.ref pa, .str (PySem.Str.ofString "..") tr, .str (T l) tx]) Q E s := by
  obtain ⟨ms, h1, h2, h3⟩ := ex1 l.toArray l.toArray.size 0 rfl
  have hr : (PySem.Str.ofString "..").cps.toList = [46, 46] := by decide +kernel
  rw [List.drop_zero] at h2
  have hl := dd_len l true
  have h2' : subst l [46, 46] 0 ms = dd true l := by simpa using h2
  refine call_sub P (by decide +kernel) (by simpa using hx) (scan1 (by simp; omega) h1) (by simp at h3; omega) ?_ fun h' tk t' k => ?_
  · rw [hr, show (T l).cps.toList = l from by simp, h2']; omega
  · rw [hr, show (T l).cps.toList = l from by simp, h2']; exact hQ h' tk t' k
end
end Mine
end
section
open PySem PySem.W PyProof.Rows PySem.Calls PySem.Builtin PySem.Builtin.Re
namespace Mine
section
variable {prog : Program} {w : World} {A : Around} {E : Value → Shared → Prop} {s : Shared} {K : Frag} {h₀ : Heap} {L : Addr} {m : PySem.Str → Option Value} {news : List (Addr × Obj)} {pa ct : Addr} {fs : Array Value} {its : Array Value} {n : Nat} {sl sl' : Array (Option Value)} {c' : Value} {d' : Option Addr}
theorem patAt_K {h : Heap} {code : Array Nat} (X : K.In h) (hp : K.lookup pa = some ⟨.type "re.Pattern", none, .fields fs, sl⟩) (h5 : fs.getD 5 .none = .ref ct) (h6 : fs.getD 6 .none = .int 0 0) (h2 : fs.getD 2 .none = .int 0 0)
    (hc : K.lookup ct = some ⟨c', d', .seq its n, sl'⟩) (he : (its.map reRawOf).map (·.toNat) = code) : PatAt h pa ct code :=
  ⟨⟨_, fs, X _ _ hp, rfl, rfl, rfl, h5, h6, h2⟩, ⟨_, its, n, X _ _ hc, rfl, he⟩⟩
theorem getM_sub {pl : Sem Bool} {Q : Value × List Value → Shared → Prop} (F : Fr h₀ L s.heap m) (X : K.In h₀) (hp : K.lookup pa = some ⟨.type "re.Pattern", none, .fields fs, sl⟩)
    (h : Q (.builtin "re.Pattern.sub", [.ref pa]) s) : wpAny (model prog w) A (getMethod (.ref pa) "sub" pl) Q E s :=
  have ho := (X.keeps F.keep) _ _ hp
  getMethod_builtin (T := "re.Pattern") ⟨_, ho, rfl⟩ pa_pattern slot_sub type_sub (fun a e => by cases e; exact ⟨_, ho, rfl⟩) h
theorem sub_crlf_K {l : List Nat} {tx tr : Tok} {Q : Value → Shared → Prop} (F : Fr h₀ L s.heap m) (N : News h₀ L s.heap news) (X : K.In h₀) (hp : K.lookup pa = some ⟨.type "re.Pattern", none, .fields fs, sl⟩) (h5 : fs.getD 5 .none = .ref ct) (h6 : fs.getD 6 .none = .int 0 0) (h2 : fs.getD 2 .none = .int 0 0)
    (hc : K.lookup ct = some ⟨c', d', .seq its n, sl'⟩) (he : (its.map reRawOf).map (·.toNat) = code2) (hx : l.length ≤ 1000000)
    (h : ∀ h' tk t', Fr h₀ L h' m → News h₀ L h' news → Q (.str (T (crlf l)) t') { s with heap := h', toks := tk }) :
    wpAny (model prog w) A (call (.builtin "re.Pattern.sub") [.ref pa, .str (PySem.Str.ofString "\r\n") tr, .str (T l) tx]) Q E s :=
  call_crlf (patAt_K (X.keeps F.keep) hp h5 h6 h2 hc he) hx fun h' tk t' k => h h' tk t' (F.after k) (news_over N k)
theorem sub_dots_K {l : List Nat} {tx tr : Tok} {Q : Value → Shared → Prop} (F : Fr h₀ L s.heap m) (N : News h₀ L s.heap news) (X : K.In h₀) (hp : K.lookup pa = some ⟨.type "re.Pattern", none, .fields fs, sl⟩) (h5 : fs.getD 5 .none = .ref ct) (h6 : fs.getD 6 .none = .int 0 0) (h2 : fs.getD 2 .none = .int 0 0)
    (hc : K.lookup ct = some ⟨c', d', .seq its n, sl'⟩) (he : (its.map reRawOf).map (·.toNat) = code1) (hx : l.length ≤ 1000000)
    (h : ∀ h' tk t', Fr h₀ L h' m → News h₀ L h' news → Q (.str (T (dd true l)) t') { s with heap := h', toks := tk }) :
    wpAny (model prog w) A (call (.builtin "re.Pattern.sub") [.ref pa, .str (PySem.Str.ofString "..") tr, .str (T l) tx]) Q E s :=
  call_dots (patAt_K (X.keeps F.keep) hp h5 h6 h2 hc he) hx fun h' tk t' k => h h' tk t' (F.after k) (news_over N k)
end
end Mine
end
section
open PySem PySem.W PyProof.Rows PySem.Calls
namespace Mine
/-! law 1: the page -/
def sgn (ns : List Int) (j : Nat) : Nat := signN (ns.getD (3 + j % 9) 0)
def endN (ns : List Int) (j : Nat) : Nat := ((ns.getD (3 + j % 9) 0).fmod 3).toNat
def endL (k : Nat) : List Nat := if k = 0 then [10] else if k = 1 then [13] else [13, 10]
theorem endL_len (k : Nat) : (T (endL k)).length ≤ 2 := by
  rw [T_len]; unfold endL; split
  · simp
  · split <;> simp
section
variable {prog : Program} {w : World} {A : Around} {E : Value → Shared → Prop} {s : Shared} {h₀ : Heap} {L : Addr} {news : List (Addr × Obj)}
theorem item_sign {value slice : Expr} {a : Addr} {vs : List Value} {ns : List Int} {n c : Nat} {k : Int} {u : Tok} {Q : Value → Shared → Prop} (N : News h₀ L s.heap news) (hm : (a, ({ cls := .type "list", data := .seq vs.toArray c } : Obj)) ∈ news)
    (hS : StrsAre vs ((List.range n).map fun j => T [sgn ns j])) (h0 : 0 ≤ k) (h1 : k < n) (hz : n ≤ 1000) (h : ∀ t, (T [sgn ns k.toNat]).length = 1 → Q (.str (T [sgn ns k.toNat]) t) s)
    (hs : subscripted slice false (.ref a) (.int k u) = operate [.ref a, .int k u] (getItem (.ref a) (.int k u)) := by with_unfolding_all rfl) :
    wpAny (model prog w) A (subscriptTail value slice (.ref a) (.int k u)) Q E s := by
  refine item_strs N hm hS h0 (by simpa using h1) (by simp; omega) (fun t => ?_) hs
  have e : ((List.range n).map fun j => T [sgn ns j]).getD k.toNat ⟨#[]⟩ = T [sgn ns k.toNat] := by
    have hk : k.toNat < n := by omega
    simp [List.getD, hk]
  rw [e]; exact h t rfl
theorem item_end {value slice : Expr} {a : Addr} {t0 t1 t2 : Tok} {c : Nat} {n : Int} {u : Tok} {Q : Value → Shared → Prop} (N : News h₀ L s.heap news)
    (hm : (a, ({ cls := .type "tuple", data := .seq #[.str (PySem.Str.ofString "\n") t0, .str (PySem.Str.ofString "\r") t1, .str (PySem.Str.ofString "\r\n") t2] c } : Obj)) ∈ news)
    (h : ∀ t, (T (endL (n.fmod 3).toNat)).length ≤ 2 → Q (.str (T (endL (n.fmod 3).toNat)) t) s)
    (hs : subscripted slice false (.ref a) (.int (n.fmod 3) u) = operate [.ref a, .int (n.fmod 3) u] (getItem (.ref a) (.int (n.fmod 3) u)) := by with_unfolding_all rfl) :
    wpAny (model prog w) A (subscriptTail value slice (.ref a) (.int (n.fmod 3) u)) Q E s := by
  have h0 : 0 ≤ n.fmod 3 := Int.fmod_nonneg_of_pos _ (by decide)
  have h1 : n.fmod 3 < 3 := Int.fmod_lt_of_pos _ (by decide)
  refine item_tstrs N hm (.cons _ _ (.cons _ _ (.cons _ _ .nil))) h0 (by simpa using h1) (by simp) (fun t => ?_) hs
  have e : [PySem.Str.ofString "\n", PySem.Str.ofString "\r", PySem.Str.ofString "\r\n"].getD (n.fmod 3).toNat ⟨#[]⟩ = T (endL (n.fmod 3).toNat) := by
    have : (n.fmod 3).toNat = 0 ∨ (n.fmod 3).toNat = 1 ∨ (n.fmod 3).toNat = 2 := by omega
    rcases this with e | e | e <;> rw [e] <;> decide +kernel
  rw [e]; exact h t (endL_len _)
end
def rowL (cs : List Nat) (ns : List Int) (j : Nat) : List Nat := List.replicate (cs.getD j 0) 46 ++ (sgn ns j :: endL (endN ns j))
def pageL (cs : List Nat) (ns : List Int) (i : Nat) : List Nat := ((List.range i).map (rowL cs ns)).flatten
theorem pageL_succ (cs : List Nat) (ns : List Int) (i : Nat) : pageL cs ns (i + 1) = pageL cs ns i ++ rowL cs ns i := by
  simp [pageL, List.range_succ]
theorem getD_cast (cs : List Nat) (k : Nat) : (cs.map fun (c : Nat) => (c : Int)).getD k 0 = ((cs.getD k 0 : Nat) : Int) := by
  simp only [List.getD, List.getElem?_map]
  cases cs[k]? <;> simp
theorem cnt_bd {cs : List Nat} {B : Nat} (h : ∀ c ∈ cs, c ≤ B) (k : Nat) : 0 ≤ (cs.map fun (c : Nat) => (c : Int)).getD k 0 ∧ (cs.map fun (c : Nat) => (c : Int)).getD k 0 ≤ B := by
  rw [getD_cast]
  have : cs.getD k 0 ≤ B := by
    simp only [List.getD]
    cases e : cs[k]? with
    | none => simp
    | some c => exact h c (List.mem_of_getElem? e)
  omega
theorem row_len (cs : List Nat) (ns : List Int) (j : Nat) {B : Nat} (h : ∀ c ∈ cs, c ≤ B) : (rowL cs ns j).length ≤ B + 3 := by
  have := cnt_bd h j
  rw [getD_cast] at this
  have h2 := endL_len (endN ns j)
  rw [T_len] at h2
  simp only [rowL, List.length_append, List.length_replicate, List.length_cons]
  omega
theorem page_len {cs : List Nat} {ns : List Int} {B : Nat} (h : ∀ c ∈ cs, c ≤ B) : ∀ i, (pageL cs ns i).length ≤ (B + 3) * i
  | 0 => by simp [pageL]
  | i + 1 => by
    rw [pageL_succ, List.length_append, Nat.mul_succ]
    exact Nat.add_le_add (page_len h i) (row_len cs ns i h)
theorem page_start {cs : List Nat} {ns : List Int} : PySem.Str.ofString "" = T (pageL cs ns (List.length ([] : List Int))) ∧ (PySem.Str.ofString "").length ≤ 120 * (List.length ([] : List Int)) := by
  rw [nilS]; exact ⟨rfl, Nat.le_refl _⟩
theorem end_walk {ns : List Int} {k : Int} (h : 0 ≤ k) : ((ns.getD (3 + k.fmod 9).toNat 0).fmod 3).toNat = endN ns k.toNat := by
  unfold endN
  have e : (3 + k.fmod 9).toNat = 3 + k.toNat % 9 := by
    rw [Int.fmod_eq_emod_of_nonneg _ (by decide)]; omega
  rw [e]
theorem page_turn {cs : List Nat} {ns pre : List Int} {p : PySem.Str} {k : Int} (hcs : ∀ c ∈ cs, c ≤ 100) (h : p = T (pageL cs ns pre.length)) (hk : k = 0 + (pre.length : Int)) :
    p ++ Txt.mul (PySem.Str.ofString ".") ((cs.map fun (c : Nat) => (c : Int)).getD k.toNat 0) ++ T [sgn ns k.toNat] ++ T (endL ((ns.getD (3 + k.fmod 9).toNat 0).fmod 3).toNat) = T (pageL cs ns (pre ++ [k]).length) ∧
    (p ++ Txt.mul (PySem.Str.ofString ".") ((cs.map fun (c : Nat) => (c : Int)).getD k.toNat 0) ++ T [sgn ns k.toNat] ++ T (endL ((ns.getD (3 + k.fmod 9).toNat 0).fmod 3).toNat)).length ≤ 120 * (pre ++ [k]).length := by
  rw [end_walk (by omega)]
  have hkn : k.toNat = pre.length := by omega
  have e : p ++ Txt.mul (PySem.Str.ofString ".") ((cs.map fun (c : Nat) => (c : Int)).getD k.toNat 0) ++ T [sgn ns k.toNat] ++ T (endL (endN ns k.toNat)) = T (pageL cs ns (pre ++ [k]).length) := by
    rw [h, getD_cast, dots_mul, hkn, T_app, T_app, T_app, List.length_append, List.length_singleton, pageL_succ, rowL]
    simp
  refine ⟨e, ?_⟩
  rw [e, T_len]
  have := page_len (ns := ns) hcs (pre ++ [k]).length
  omega
theorem kn_lt {cs : List Nat} {k : Int} {pre : List Int} (e : k = 0 + (pre.length : Int)) (h : pre.length < (((cs.map fun (c : Nat) => (c : Int)).length : Int) - 0).toNat) : 0 ≤ k ∧ k < (cs.length : Int) := by
  rw [List.length_map] at h; omega
theorem kn_lt' {n : Nat} {k : Int} {pre : List Int} (e : k = 0 + (pre.length : Int)) (h : pre.length < ((n : Int) - 0).toNat) : 0 ≤ k ∧ k < (n : Int) := by omega
theorem sgn_step {ns : List Int} {ys : List Value} {i : Nat} {t : Tok} (h : StrsAre ys ((List.range i).map fun j => T [sgn ns j])) :
    StrsAre (ys ++ [.str (T [signN (ns.getD (3 + ((i : Nat) : Int).fmod 9).toNat 0)]) t]) ((List.range (i + 1)).map fun j => T [sgn ns j]) := by
  rw [List.range_succ, List.map_append]
  have e : (3 + ((i : Nat) : Int).fmod 9).toNat = 3 + i % 9 := by
    rw [Int.fmod_eq_emod_of_nonneg _ (by decide)]; omega
  rw [e]
  exact strsAre_snoc' h _ _
end Mine
end
section
open PySem PySem.W PyProof.Rows PySem.Calls
namespace Mine
/-! law 1: quoting the page -/
def qN : Nat → List Nat → List Nat
  | 0, l => l
  | k + 1, l => quote (qN k l)
theorem qN_len (l : List Nat) : ∀ k, (qN k l).length ≤ 4 ^ k * l.length
  | 0 => by simp [qN]
  | k + 1 => by
    have h1 := qN_len l k
    have h2 := quote_len (qN k l)
    rw [qN, Nat.pow_succ]
    calc (quote (qN k l)).length ≤ 4 * (qN k l).length := h2
      _ ≤ 4 * (4 ^ k * l.length) := Nat.mul_le_mul_left 4 h1
      _ = 4 ^ k * 4 * l.length := by rw [Nat.mul_comm (4 ^ k) 4, Nat.mul_assoc]
theorem qN_ok {l : List Nat} {k : Nat} (h : l.length ≤ 1080) (hk : k ≤ 4) : (qN k l).length ≤ 400000 := by
  have h1 := qN_len l k
  have h2 : 4 ^ k ≤ 4 ^ 4 := Nat.pow_le_pow_right (by decide) hk
  have h3 : 4 ^ k * l.length ≤ 4 ^ 4 * 1080 := Nat.mul_le_mul h2 h
  omega
def rowQ (cs : List Nat) (ns : List Int) (t j : Nat) : List Nat := List.replicate (cs.getD j 0 + if cs.getD j 0 = 0 then 0 else t) 46 ++ [sgn ns j, 13, 10]
def pageQ (cs : List Nat) (ns : List Int) (t i : Nat) : List Nat := ((List.range i).map (rowQ cs ns t)).flatten
theorem sgn_no (ns : List Int) (j : Nat) : sgn ns j ≠ 13 ∧ sgn ns j ≠ 10 ∧ sgn ns j ≠ 46 ∧ sgn ns j ≠ 34 := by
  have h := signN_ne (ns.getD (3 + j % 9) 0)
  exact ⟨h.2.2.1, h.2.2.2, h.1, h.2.1⟩
theorem crlf_dots (c : Nat) (r : List Nat) : crlf (List.replicate c 46 ++ r) = List.replicate c 46 ++ crlf r := by
  induction c with
  | zero => rfl
  | succ c ih => rw [List.replicate_succ, List.cons_append, crlf_other (by decide), ih]; rfl
theorem crlf_end {k : Nat} {r : List Nat} (h : ∀ x, r.head? = some x → x ≠ 10) : crlf (endL k ++ r) = 13 :: 10 :: crlf r := by
  unfold endL
  split
  · cases r with
    | nil => simp [crlf]
    | cons d r => simp [crlf]
  · split
    · cases r with
      | nil => simp [crlf]
      | cons d r =>
        have : d ≠ 10 := h d rfl
        simp [crlf, this]
    · exact crlf_two r
theorem rows_head {cs : List Nat} {ns : List Int} {f : Nat → List Nat} (hf : ∀ j, ∃ c r, f j = List.replicate c 46 ++ sgn ns j :: r) (l : List Nat) : ∀ x, ((l.map f).flatten).head? = some x → x ≠ 10 := by
  intro x hx
  cases l with
  | nil => simp at hx
  | cons j l =>
    obtain ⟨c, r, e⟩ := hf j
    rw [List.map_cons, List.flatten_cons, e] at hx
    cases c with
    | zero =>
      simp at hx
      rw [← hx]; exact (sgn_no _ _).2.1
    | succ c =>
      simp [List.replicate_succ] at hx
      omega
theorem crlf_rows (cs : List Nat) (ns : List Int) (g : Nat → List Nat) (hg : ∀ j, ∃ c k, g j = List.replicate c 46 ++ (sgn ns j :: endL k)) : ∀ l : List Nat,
    crlf ((l.map g).flatten) = (l.map fun j => List.replicate ((g j).takeWhile (· == 46)).length 46 ++ [sgn ns j, 13, 10]).flatten
  | [] => rfl
  | j :: l => by
    obtain ⟨c, k, e⟩ := hg j
    have hh := rows_head (cs := cs) (ns := ns) (f := g) (fun j => by obtain ⟨c, k, e⟩ := hg j; exact ⟨c, endL k, e⟩) l
    have hs := sgn_no ns j
    have e2 : ((g j).takeWhile (· == 46)).length = c := by
      rw [e, List.takeWhile_append_of_pos (by intro a ha; simp [List.eq_of_mem_replicate ha])]
      simp [hs.2.2.1]
    rw [List.map_cons, List.flatten_cons, List.map_cons, List.flatten_cons, e2, e, List.append_assoc, crlf_dots, List.cons_append]
    rw [crlf_other (by omega), crlf_end hh, crlf_rows cs ns g hg l]
    simp
theorem dd_dots (c : Nat) (r : List Nat) : dd false (List.replicate c 46 ++ r) = List.replicate c 46 ++ dd false r := by
  induction c with
  | zero => rfl
  | succ c ih =>
    rw [List.replicate_succ, List.cons_append, dd]
    simp [ih]
theorem dd_row {c s : Nat} {r : List Nat} (h1 : s ≠ 46) (h2 : s ≠ 10) : dd true (List.replicate c 46 ++ ([s, 13, 10] ++ r)) = List.replicate (c + if c = 0 then 0 else 1) 46 ++ ([s, 13, 10] ++ dd true r) := by
  cases c with
  | zero => simp [dd, h1, h2]
  | succ c =>
    rw [List.replicate_succ, List.cons_append, dd, if_pos ⟨rfl, rfl⟩, dd_dots]
    simp [dd, h1, h2, List.replicate_succ]
theorem dd_rows (ns : List Int) (h : Nat → Nat) : ∀ l : List Nat,
    dd true ((l.map fun j => List.replicate (h j) 46 ++ [sgn ns j, 13, 10]).flatten) = (l.map fun j => List.replicate (h j + if h j = 0 then 0 else 1) 46 ++ [sgn ns j, 13, 10]).flatten
  | [] => rfl
  | j :: l => by
    have hs := sgn_no ns j
    rw [List.map_cons, List.flatten_cons, List.map_cons, List.flatten_cons, List.append_assoc, dd_row hs.2.2.1 hs.2.1, dd_rows ns h l, List.append_assoc]
theorem quote_rows (cs : List Nat) (ns : List Int) (g : Nat → List Nat) (h : Nat → Nat) (hg : ∀ j, ∃ k, g j = List.replicate (h j) 46 ++ (sgn ns j :: endL k)) (l : List Nat) :
    quote ((l.map g).flatten) = (l.map fun j => List.replicate (h j + if h j = 0 then 0 else 1) 46 ++ [sgn ns j, 13, 10]).flatten := by
  unfold quote
  rw [crlf_rows cs ns g (fun j => by obtain ⟨k, e⟩ := hg j; exact ⟨h j, k, e⟩)]
  have e : (fun j => List.replicate ((g j).takeWhile (· == 46)).length 46 ++ [sgn ns j, 13, 10]) = fun j => List.replicate (h j) 46 ++ [sgn ns j, 13, 10] := by
    funext j
    obtain ⟨k, e⟩ := hg j
    have hs := sgn_no ns j
    have e2 : ((g j).takeWhile (· == 46)).length = h j := by
      rw [e, List.takeWhile_append_of_pos (by intro a ha; simp [List.eq_of_mem_replicate ha])]
      simp [hs.2.2.1]
    rw [e2]
  rw [e, dd_rows]
theorem qN_page (cs : List Nat) (ns : List Int) (i : Nat) : ∀ t, qN (t + 1) (pageL cs ns i) = pageQ cs ns (t + 1) i
  | 0 => by
    rw [qN, qN, pageL, quote_rows cs ns (rowL cs ns) (fun j => cs.getD j 0) (fun j => ⟨endN ns j, rfl⟩)]
    rfl
  | t + 1 => by
    rw [qN, qN_page cs ns i t, pageQ, quote_rows cs ns (rowQ cs ns (t + 1)) (fun j => cs.getD j 0 + if cs.getD j 0 = 0 then 0 else t + 1) (fun j => ⟨2, rfl⟩), pageQ]
    congr 2
    funext j
    simp only [rowQ]
    generalize cs.getD j 0 = c
    congr 2
    by_cases h : c = 0
    · subst h; rfl
    · simp only [h, if_false]
      rw [if_neg (by omega)]; omega
theorem page_1080 {cs : List Nat} {ns : List Int} (h : ∀ c ∈ cs, c ≤ 100) (hc : cs.length ≤ 9) : (pageL cs ns cs.length).length ≤ 1080 := by
  have := page_len (ns := ns) h cs.length
  omega
theorem rks_len (n : Nat) (a : Int) : (rangeKs a n).length = n := by simp [rangeKs]
theorem page_done {cs : List Nat} {ns : List Int} {p : PySem.Str} (h : p = T (pageL cs ns (rangeKs 0 (((cs.map fun (c : Nat) => (c : Int)).length : Int) - 0).toNat).length)) :
    p = T (qN ([] : List Int).length (pageL cs ns cs.length)) := by
  rw [h, rks_len, List.length_map, List.length_nil, qN, show ((cs.length : Int) - 0).toNat = cs.length by omega]
theorem q_turn {pre : List Int} {k : Int} {l : List Nat} : T (quote (qN pre.length l)) = T (qN (pre ++ [k]).length l) := by
  rw [List.length_append, List.length_singleton, qN]
theorem qN_ok' {l : List Nat} {pre : List Int} {x : Nat} (h : l.length ≤ 1080) (hx : x ≤ 4) (hk : pre.length < ((x : Int) - 0).toNat) : (qN pre.length l).length ≤ 400000 :=
  qN_ok h (by omega)
theorem page_times {cs : List Nat} {ns : List Int} {p : PySem.Str} {x : Nat} (h : p = T (qN (rangeKs 0 ((x : Int) - 0).toNat).length (pageL cs ns cs.length))) (hx : 1 ≤ x) :
    p = T (pageQ cs ns x cs.length) := by
  rw [rks_len, show ((x : Int) - 0).toNat = (x - 1) + 1 by omega, qN_page, show x - 1 + 1 = x by omega] at h
  exact h
end Mine
end
section
open PySem PySem.W PyProof.Rows PySem.Calls
namespace Mine
open PySem.StrLaws PySem.Builtin PySem.Builtin.Str
/-! splitting at the line ends -/
theorem at_T (l : List Nat) (i : Nat) : At (T l) (T [13, 10]) (T l).length i ↔ (l.drop i).take 2 = [13, 10] := by
  unfold At
  rw [subAt_eq, T_len, T_len, T_list, T_list, beq_iff_eq]
  show i + 2 ≤ l.length ∧ (l.drop i).take 2 = [13, 10] ↔ (l.drop i).take 2 = [13, 10]
  constructor
  · exact fun h => h.2
  · intro h
    refine ⟨?_, h⟩
    have := congrArg List.length h
    simp at this
    omega
def rowsJ (rows : List (List Nat)) : List Nat := (rows.map (· ++ [13, 10])).flatten
theorem rows_parts : ∀ (rows : List (List Nat)), (∀ r ∈ rows, 13 ∉ r) → ∀ (x pre : List Nat) (cuts : List Nat) (f : Nat), x = pre ++ rowsJ rows →
    ChainG (T x) (T [13, 10]) (T x).length pre.length cuts f → (∀ k, f ≤ k → ¬ At (T x) (T [13, 10]) (T x).length k) → partsFrom (T x) (T [13, 10]).length pre.length cuts = rows.map T ++ [T []]
  | [], _, x, pre, cuts, f, hx, hC, hn => by
    have hx' : x = pre := by simpa [rowsJ] using hx
    subst hx'
    cases cuts with
    | nil =>
      show [strSub (T x) x.length (T x).length] = [T []]
      congr 1
      apply Str.ext'
      apply Array.toList_inj.mp
      rw [strSub_toList, T_list]; simp
    | cons c r =>
      have h1 := hC.1
      have h2 := (at_T x c).mp hC.2.1
      rw [List.drop_of_length_le h1] at h2
      simp at h2
  | row :: rows, hr, x, pre, cuts, f, hx, hC, hn => by
    have hx1 : x = (pre ++ row) ++ (13 :: 10 :: rowsJ rows) := by rw [hx]; simp [rowsJ]
    have hp : At (T x) (T [13, 10]) (T x).length (pre.length + row.length) := by
      rw [at_T, hx1, ← List.length_append, List.drop_left]; rfl
    have hno : ∀ c, pre.length ≤ c → c < pre.length + row.length → ¬ At (T x) (T [13, 10]) (T x).length c := by
      intro c h1 h2 h3
      rw [at_T] at h3
      have h4 : x[c]? = some 13 := by
        have := congrArg (fun l : List Nat => l[0]?) h3
        simpa using this
      rw [hx1, List.append_assoc, List.getElem?_append_right h1, List.getElem?_append_left (by omega)] at h4
      exact hr row (.head _) (List.mem_of_getElem? h4)
    cases cuts with
    | nil =>
      have e : f = pre.length := hC
      exact absurd hp (hn _ (by rw [e]; exact Nat.le_add_right _ _))
    | cons c r =>
      have hc : c = pre.length + row.length := by
        rcases Nat.lt_trichotomy c (pre.length + row.length) with h | h | h
        · exact absurd hC.2.1 (hno c hC.1 h)
        · exact h
        · exact absurd hp (hC.2.2.1 (pre.length + row.length) (Nat.le_add_right _ _) h)
      subst hc
      show strSub (T x) pre.length (pre.length + row.length) :: partsFrom (T x) (T [13, 10]).length (pre.length + row.length + 2) r = T row :: (rows.map T ++ [T []])
      have hl : pre.length + row.length + 2 = (pre ++ row ++ [13, 10]).length := by simp [Nat.add_assoc]
      have hC' := hC.2.2.2
      rw [show (T [13, 10]).length = 2 from rfl, hl] at hC'
      rw [hl, rows_parts rows (fun r h => hr r (List.mem_cons_of_mem _ h)) x (pre ++ row ++ [13, 10]) r f (by rw [hx1]; simp) hC' hn]
      congr 1
      apply Str.ext'
      apply Array.toList_inj.mp
      rw [strSub_toList, T_list, T_list, hx1, List.append_assoc, List.drop_left, Nat.add_sub_cancel_left, List.take_left]
theorem kind_lo (x : PySem.Str) : ¬ PySem.Builtin.Str.strKind x < PySem.Builtin.Str.strKind (T [13, 10]) := by
  have : PySem.Builtin.Str.strKind (T [13, 10]) = 1 := by decide +kernel
  rw [this]
  unfold PySem.Builtin.Str.strKind
  split
  · omega
  · split <;> omega
theorem split_rows {rows : List (List Nat)} (hr : ∀ r ∈ rows, 13 ∉ r) : Txt.split (T (rowsJ rows)) (T [13, 10]) = rows.map T ++ [T []] := by
  have hk := kind_lo (T (rowsJ rows))
  obtain ⟨f, hG, hn⟩ := occ_tight (T (rowsJ rows)) (T [13, 10]) (by rw [T_len]; decide)
  have key := rows_parts rows hr (rowsJ rows) [] _ f rfl hG hn
  unfold Txt.split
  split
  · rename_i h
    simp only [hk, decide_false, Bool.or_false, decide_eq_true_eq] at h
    cases rows with
    | nil => rfl
    | cons a l =>
      rw [T_len, T_len] at h
      simp [rowsJ] at h
      omega
  · split
    · rename_i h
      have e : occurrences (T (rowsJ rows)) (T [13, 10]) 0 (T (rowsJ rows)).length ((T (rowsJ rows)).length + 1) = [] := List.isEmpty_iff.mp h
      rw [e] at key
      rw [← key]
      show _ = [strSub (T (rowsJ rows)) 0 (T (rowsJ rows)).length]
      rw [sub_whole]
    · rw [partsBetween_eq]; exact key
def rowD (cs : List Nat) (ns : List Int) (t j : Nat) : List Nat := List.replicate (cs.getD j 0 + if cs.getD j 0 = 0 then 0 else t) 46 ++ [sgn ns j]
theorem pageQ_rows (cs : List Nat) (ns : List Int) (t i : Nat) : pageQ cs ns t i = rowsJ ((List.range i).map (rowD cs ns t)) := by
  unfold pageQ rowsJ
  rw [List.map_map]
  congr 2
  funext j
  simp [rowQ, rowD]
theorem split_page (cs : List Nat) (ns : List Int) (t i : Nat) : Txt.split (T (pageQ cs ns t i)) (PySem.Str.ofString "\r\n") = ((List.range i).map fun j => T (rowD cs ns t j)) ++ [T []] := by
  have e : PySem.Str.ofString "\r\n" = T [13, 10] := by decide +kernel
  rw [e, pageQ_rows, split_rows, List.map_map]
  · rfl
  · intro r hr
    obtain ⟨j, _, rfl⟩ := List.mem_map.mp hr
    have h := sgn_no ns j
    simp [rowD, List.mem_replicate, Ne.symm h.1]
theorem rowQ_len (cs : List Nat) (ns : List Int) (t j : Nat) {B : Nat} (h : ∀ c ∈ cs, c ≤ B) : (rowQ cs ns t j).length ≤ B + t + 3 := by
  have := cnt_bd h j
  rw [getD_cast] at this
  simp only [rowQ, List.length_append, List.length_replicate, List.length_cons, List.length_nil]
  split <;> omega
theorem pageQ_len {cs : List Nat} {ns : List Int} {t B : Nat} (h : ∀ c ∈ cs, c ≤ B) : ∀ i, (pageQ cs ns t i).length ≤ (B + t + 3) * i
  | 0 => by simp [pageQ]
  | i + 1 => by
    have e : pageQ cs ns t (i + 1) = pageQ cs ns t i ++ rowQ cs ns t i := by simp [pageQ, List.range_succ]
    rw [e, List.length_append, Nat.mul_succ]
    exact Nat.add_le_add (pageQ_len h i) (rowQ_len cs ns t i h)
theorem pageQ_size {cs : List Nat} {ns : List Int} {x : Nat} (hx : x ≤ 4) (h : ∀ c ∈ cs, c ≤ 100) (hc : cs.length ≤ 9) : (pageQ cs ns x cs.length).length + 2 ≤ sizeLine := by
  have h1 := pageQ_len (ns := ns) (t := x) h cs.length
  have h2 : (100 + x + 3) * cs.length ≤ (100 + 4 + 3) * 9 := Nat.mul_le_mul (by omega) hc
  rw [sizeLine_eq]; omega
end Mine
end
section
open PySem PySem.W PyProof.Rows PySem.Calls
namespace Mine
theorem pick_last (vs : List Value) : (slicePick vs.toArray none (some (-1)) none).toList = vs.dropLast := by
  have e : sliceBounds none (some (-1)) none vs.toArray.size = (((0 : Nat) : Int), ((vs.toArray.size - 1 : Nat) : Int), 1) := by
    simp only [sliceBounds, Option.getD_none, show (1 : Int) > 0 by decide, if_true, if_pos (show (-1 : Int) < 0 by decide)]
    congr 1
    congr 1
    omega
  rw [kmk_pick_nat _ e]
  show (vs.drop 0).take (vs.toArray.size - 1 - 0) = _
  rw [List.drop_zero, Nat.sub_zero, List.size_toArray, List.dropLast_eq_take]
theorem strsAre_drop {vs : List Value} {ys : List PySem.Str} {y : PySem.Str} (h : StrsAre vs (ys ++ [y])) : StrsAre vs.dropLast ys := by
  induction ys generalizing vs with
  | nil =>
    cases h with
    | cons z u r => cases r; exact .nil
  | cons a l ih =>
    cases h with
    | cons z u r =>
      have := ih r
      have hr := strsAre_len r
      rename_i tl
      cases tl with
      | nil => simp at hr
      | cons b tl => exact .cons _ _ this
section
variable {prog : Program} {w : World} {A : Around} {E : Value → Shared → Prop} {s : Shared} {h₀ : Heap} {L : Addr} {m : PySem.Str → Option Value} {news : List (Addr × Obj)} {Q : Value → Shared → Prop}
theorem split_K {cs : List Nat} {ns : List Int} {x n : Nat} {t u : Tok} (F : Fr h₀ L s.heap m) (N : News h₀ L s.heap news) (hz : (pageQ cs ns x n).length + 2 ≤ sizeLine)
    (h : ∀ D vs h' k, StrsAre vs (((List.range n).map fun j => T (rowD cs ns x j)) ++ [T []]) → Fr h₀ L h' m → News h₀ L h' ((D, listOf vs.toArray 0) :: news) → (∀ p ∈ news, p.1 < D) → Q (.ref D) { s with heap := h', toks := k }) :
    wpAny (model prog w) A (call (.builtin "str.split") [.str (T (pageQ cs ns x n)) t, .str (PySem.Str.ofString "\r\n") u]) Q E s :=
  splitN1A F N rfl (fun l h' k e S _ _ F' N' => h _ _ h' k (by rw [e, split_page] at S; exact S) F' N' fun p hp => Heap.lt_size (N p hp).1) (by rw [T_len]; exact hz)
theorem last_K {ys : List PySem.Str} {y : PySem.Str} {value slice : Expr} {l : Addr} {vs : List Value} {c : Nat} {vl : Value} {t : Tok} (F : Fr h₀ L s.heap m) (N : News h₀ L s.heap news) (hm : (l, listOf vs.toArray c) ∈ news) (hS : StrsAre vs (ys ++ [y])) (hz : ys.length ≤ 1000) (pl : IsPart vl none)
    (h : ∀ D zs h', StrsAre zs ys → zs.length = ys.length → Fr h₀ L h' m → News h₀ L h' ((D, listOf zs.toArray 0) :: news) → (∀ p ∈ news, p.1 < D) → Q (.ref D) { s with heap := h' })
    (hs : subscripted slice false (.ref l) (.ref s.heap.objs.size) = operate [.ref s.heap.objs.size, .ref l] (getItem (.ref l) (.ref s.heap.objs.size)) := by with_unfolding_all rfl) (ht : ∀ r, letTemporaryGo value (.ref l) r = pure () := by intro _; with_unfolding_all rfl) :
    wpAny (model prog w) A (subscriptTail value slice (.ref l) (.ref s.heap.objs.size)) Q E { s with heap := s.heap.push { cls := .type "slice", data := .fields #[vl, .int (-1) t, .none] } } := by
  have hl : s.heap.IsList l vs.toArray := ⟨_, (N _ hm).1, rfl, _, rfl⟩
  have e := strsAre_len hS
  refine kmk_slice_lit F N hl pl (IsPart.int _ _) (pick_last vs) (fun D h' F' N' l1 => h D _ h' (strsAre_drop hS) ?_ F' N' l1) hs ht ?_
  · exact strsAre_len (strsAre_drop hS)
  · rw [List.length_append, List.length_singleton] at e
    rw [List.size_toArray, sizeLine_eq]; omega
theorem len_K {a : Addr} {vs : List Value} {c n : Nat} {f : Nat → PySem.Str} (N : News h₀ L s.heap news) (hm : (a, listOf vs.toArray c) ∈ news) (hS : StrsAre vs ((List.range n).map f)) (hn : n ≤ 1000)
    (h : Q (.int ((n : Nat) : Int) (s.toks + 1)) { s with toks := s.toks + 1 + 1 }) : wpAny (model prog w) A (call (.builtin "len") [.ref a]) Q E s := by
  have hl : s.heap.IsList a vs.toArray := ⟨_, (N _ hm).1, rfl, _, rfl⟩
  have e : vs.toArray.size = n := by
    have := strsAre_len hS
    rw [List.length_map, List.length_range] at this
    rw [List.size_toArray, this]
  refine len_list hl (by rw [e]; omega) ?_
  rw [e]; exact h
theorem item_rows {value slice : Expr} {a : Addr} {vs : List Value} {cs : List Nat} {ns : List Int} {x n c : Nat} {k : Int} {u : Tok} (N : News h₀ L s.heap news) (hm : (a, ({ cls := .type "list", data := .seq vs.toArray c } : Obj)) ∈ news)
    (hS : StrsAre vs ((List.range n).map fun j => T (rowD cs ns x j))) (h0 : 0 ≤ k) (h1 : k < n) (hz : n ≤ 1000) (h : ∀ t, Q (.str (T (rowD cs ns x k.toNat)) t) s)
    (hs : subscripted slice false (.ref a) (.int k u) = operate [.ref a, .int k u] (getItem (.ref a) (.int k u)) := by with_unfolding_all rfl) :
    wpAny (model prog w) A (subscriptTail value slice (.ref a) (.int k u)) Q E s := by
  refine item_strs N hm hS h0 (by simpa using h1) (by simp; omega) (fun t => ?_) hs
  have e : ((List.range n).map fun j => T (rowD cs ns x j)).getD k.toNat ⟨#[]⟩ = T (rowD cs ns x k.toNat) := by
    have hk : k.toNat < n := by omega
    simp [List.getD, hk]
  rw [e]; exact h t
end
end Mine
end
section
open PySem PySem.W PyProof.Rows PySem.Calls
namespace Mine
def deedsI (c0 : Nat) (W : List Int) : Nat := W.foldl (fun a c => if c = 114 then a / 2 else a / 3) c0
def deedsW (c0 : Nat) (W : List Nat) : Nat := W.foldl (fun a c => if c = 114 then a / 2 else a / 3) c0
theorem deedsI_of (W : List Nat) : ∀ c0, deedsI c0 (W.map fun (c : Nat) => (c : Int)) = deedsW c0 W := by
  unfold deedsI deedsW
  induction W with
  | nil => intro a; rfl
  | cons c l ih =>
    intro a
    rw [List.map_cons, List.foldl_cons, List.foldl_cons, ih]
    congr 1
    by_cases h : c = 114
    · subst h; rfl
    · rw [if_neg h, if_neg (by omega)]
theorem deedsI_le : ∀ (l : List Int) (a : Nat), deedsI a l ≤ a := by
  unfold deedsI
  intro l
  induction l with
  | nil => intro a; simp
  | cons c l ih =>
    intro a
    rw [List.foldl_cons]
    refine Nat.le_trans (ih _) ?_
    split <;> omega
def cnt (cs : List Nat) (x j : Nat) : Nat := if cs.getD j 0 = 0 then 0 else cs.getD j 0 + x - 1
theorem cnt_le {cs : List Nat} {x : Nat} (h : ∀ c ∈ cs, c ≤ 100) (hx : x ≤ 4) (j : Nat) : cnt cs x j ≤ 103 := by
  have := cnt_bd h j
  rw [getD_cast] at this
  unfold cnt
  split <;> omega
theorem deeds_lt {cs : List Nat} {x : Nat} (h : ∀ c ∈ cs, c ≤ 100) (hx : x ≤ 4) (j : Nat) (pre : List Int) : deedsI (cnt cs x j) pre < 1000 := by
  have h1 := cnt_le h hx j
  have h2 := deedsI_le pre (cnt cs x j)
  omega
theorem deed_r {c0 c : Nat} {pre : List Int} (hc : (({ cps := #[c] } : PySem.Str) == PySem.Str.ofString "r") = true) :
    ((deedsI c0 pre / 2 : Nat) : Int) = ((deedsI c0 (pre ++ [(c : Int)]) : Nat) : Int) := by
  rw [show PySem.Str.ofString "r" = ⟨#[114]⟩ by decide +kernel, T_one] at hc
  have h : c = 114 := by simpa using hc
  subst h
  congr 1
  unfold deedsI
  rw [List.foldl_append, List.foldl_cons, List.foldl_nil]; rfl
theorem deed_o {c0 c : Nat} {pre : List Int} (hc : (({ cps := #[c] } : PySem.Str) == PySem.Str.ofString "r") = false) :
    ((deedsI c0 pre / 3 : Nat) : Int) = ((deedsI c0 (pre ++ [(c : Int)]) : Nat) : Int) := by
  rw [show PySem.Str.ofString "r" = ⟨#[114]⟩ by decide +kernel, T_one] at hc
  have h : c ≠ 114 := by simpa using hc
  congr 1
  unfold deedsI
  rw [List.foldl_append, List.foldl_cons, List.foldl_nil, if_neg (by omega)]
/-! a row's first letter -/
theorem rowD_zero {cs : List Nat} {ns : List Int} {x j : Nat} (h : cs.getD j 0 = 0) : rowD cs ns x j = [sgn ns j] := by
  unfold rowD; rw [h]; rfl
theorem rowD_pos {cs : List Nat} {ns : List Int} {x j : Nat} (h : 0 < cs.getD j 0) (hx : 1 ≤ x) : rowD cs ns x j = 46 :: (List.replicate (cs.getD j 0 + x - 1) 46 ++ [sgn ns j]) := by
  unfold rowD
  rw [if_neg (by omega), show cs.getD j 0 + x = (cs.getD j 0 + x - 1) + 1 by omega, List.replicate_succ, Nat.add_sub_cancel]; rfl
theorem rowD_len (cs : List Nat) (ns : List Int) (x j : Nat) (h : ∀ c ∈ cs, c ≤ 100) (hx : x ≤ 4) : (T (rowD cs ns x j)).length ≤ 1000 := by
  have := cnt_bd h j
  rw [getD_cast] at this
  rw [T_len]
  simp only [rowD, List.length_append, List.length_replicate, List.length_cons, List.length_nil]
  split <;> omega
theorem dotS : PySem.Str.ofString "." = T [46] := by decide +kernel
theorem row_z {cs : List Nat} {ns : List Int} {x j : Nat} (h : cs.getD j 0 = 0) : (Txt.slice (T (rowD cs ns x j)) none (some 1) == PySem.Str.ofString ".") = false := by
  rw [rowD_zero h, slice_to_lit _ (b := 1) (j := 1) rfl, T_list, dotS]
  have hn := (sgn_no ns j).2.2.1
  rw [T_inj]
  simpa using hn
theorem row_p {cs : List Nat} {ns : List Int} {x j : Nat} (h : 0 < cs.getD j 0) (hx : 1 ≤ x) : (Txt.slice (T (rowD cs ns x j)) none (some 1) == PySem.Str.ofString ".") = true := by
  rw [rowD_pos h hx, slice_to_lit _ (b := 1) (j := 1) rfl, T_list, dotS]; simp
theorem row_lz {cs : List Nat} {ns : List Int} {x j : Nat} (h : cs.getD j 0 = 0) : ((T (rowD cs ns x j)).length : Int) - 1 = ((deedsI (cnt cs x j) [] : Nat) : Int) := by
  rw [rowD_zero h, T_len]
  have : cnt cs x j = 0 := by unfold cnt; rw [if_pos h]
  rw [this]; rfl
theorem row_lp {cs : List Nat} {ns : List Int} {x j : Nat} (h : 0 < cs.getD j 0) (hx : 1 ≤ x) : ((Txt.slice (T (rowD cs ns x j)) (some 1) none).length : Int) - 1 = ((deedsI (cnt cs x j) [] : Nat) : Int) := by
  rw [rowD_pos h hx, slice_from_lit _ (a := 1) (i := 1) rfl, T_list, T_len]
  have : cnt cs x j = cs.getD j 0 + x - 1 := by unfold cnt; rw [if_neg (by omega)]
  rw [this]
  show ((List.length (List.replicate (cs.getD j 0 + x - 1) 46 ++ [sgn ns j]) : Nat) : Int) - 1 = ((cs.getD j 0 + x - 1 : Nat) : Int)
  rw [List.length_append, List.length_replicate, List.length_singleton]
  omega
theorem row_lpN {cs : List Nat} {ns : List Int} {x j : Nat} (h : ∀ c ∈ cs, c ≤ 100) (hx4 : x ≤ 4) (hz : 0 < cs.getD j 0) (hx : 1 ≤ x) : (Txt.slice (T (rowD cs ns x j)) (some 1) none).length ≤ 1000 := by
  have h1 := row_lp (ns := ns) hz hx
  have h2 := cnt_le h hx4 j
  have h3 : deedsI (cnt cs x j) [] = cnt cs x j := rfl
  omega
def metI (cs : List Nat) (x : Nat) (W : List Int) (i : Nat) : List Int := (List.range i).map fun (j : Nat) => (j : Int) + 1 + ((deedsI (cnt cs x j) W : Nat) : Int)
theorem met_start {cs : List Nat} {x : Nat} {W : List Int} : ([] : List Int) = metI cs x W ([] : List Int).length := rfl
theorem met_turn {cs : List Nat} {x : Nat} {W pre met : List Int} {k : Int} (h : met = metI cs x W pre.length) (hk : k = 0 + (pre.length : Int)) :
    met ++ [k + 1 + ((deedsI (cnt cs x k.toNat) W : Nat) : Int)] = metI cs x W (pre ++ [k]).length := by
  have hkn : k.toNat = pre.length := by omega
  rw [h, List.length_append, List.length_singleton]
  unfold metI
  rw [List.range_succ, List.map_append, hkn, hk]; simp
theorem met_len {cs : List Nat} {x n : Nat} {W pre met : List Int} (h : met = metI cs x W pre.length) (hk : pre.length < ((n : Int) - 0).toNat) (hn : n ≤ 1000) : met.length ≤ 1000 := by
  rw [h]; unfold metI; rw [List.length_map, List.length_range]; omega
theorem fit_vals {vs : List Value} {ms : List Int} (hv : vs.length = ms.length) (hm : ms.length ≤ 1000) : vs.toArray.size ≤ sizeLine := by
  rw [List.size_toArray, hv, sizeLine_eq]; omega
theorem met_turn2 {cs : List Nat} {x : Nat} {W pre met : List Int} {k c : Int} (h : met = metI cs x W pre.length) (hk : k = 0 + (pre.length : Int)) (hc : c = ((deedsI (cnt cs x k.toNat) W : Nat) : Int)) :
    met ++ [k + 1 + c] = metI cs x W (pre ++ [k]).length := by
  rw [hc]; exact met_turn h hk
theorem met_end {cs : List Nat} {x : Nat} {W met : List Int} {n : Nat} (h : met = metI cs x W (rangeKs 0 ((n : Int) - 0).toNat).length) : met = metI cs x W n := by
  rw [h, rks_len, show ((n : Int) - 0).toNat = n by omega]
end Mine
end
section
open PySem PySem.W PyProof.Rows
namespace Mine
def CutNext (h₀ : Heap) (L : Addr) (s : Shared) (m₀ : PySem.Str → Option Value) (ca : Addr) (rest : List (Addr × Obj)) (n : Nat) (k : Nat) (s₂ : Shared) : Prop :=
  ∃ (k' : Nat) (t : Tok) (o : Obj) (f : Int) (tf : Tok) (h' : Heap) (tk : Nat) (m' : PySem.Str → Option Value), s₂ = { s with heap := h', toks := tk } ∧ Fr h₀ L h' m' ∧ News h₀ L h' ((ca, o) :: rest) ∧
      o.data = .cell (some (.str (T (List.replicate k' 46)) t)) ∧ f + (k' / 3 : Nat) = (n / 3 : Nat) ∧ k' < k ∧ m' "found" = some (.int f tf) ∧ (∀ z : PySem.Str, z ≠ "found" → z ≠ "width" → m' z = m₀ z)
def CutPost (h₀ : Heap) (L : Addr) (s : Shared) (m₀ : PySem.Str → Option Value) (ca : Addr) (rest : List (Addr × Obj)) (n : Nat) (Q : Flow → Shared → Prop) (k : Nat) (fl : Flow) (s₂ : Shared) : Prop :=
  match fl with
  | .ret v => Q (.ret v) s₂
  | .brk => Q .next s₂
  | _ => CutNext h₀ L s m₀ ca rest n k s₂
theorem cut_while {prog : Program} {w : World} {A : Around} {E : Value → Shared → Prop} {Q : Flow → Shared → Prop} {s : Shared} {env : Env} {h₀ : Heap} {L : Addr}
    {test : Expr} {body : List Stmt} {pos : Pos} {m₀ : PySem.Str → Option Value} {ca : Addr} {o : Obj} {rest : List (Addr × Obj)} {n : Nat} {t tf : Tok}
    (F : Fr h₀ L s.heap m₀) (N : News h₀ L s.heap ((ca, o) :: rest)) (hd : o.data = .cell (some (.str (T (List.replicate n 46)) t))) (hk : m₀ "found" = some (.int 0 tf))
    (turn : ∀ (k : Nat) (t : Tok) (o : Obj) (f : Int) (tf : Tok) (u : Option Value) h tk, o.data = .cell (some (.str (T (List.replicate k 46)) t)) → f + (k / 3 : Nat) = (n / 3 : Nat) → k ≤ n →
      Fr h₀ L h (fun (z : PySem.Str) => if z = "found" then some (.int f tf) else if z = "width" then u else m₀ z) → News h₀ L h ((ca, o) :: rest) →
      wpAny (model prog w) A (isTrue test env (eval test env)) (fun b s₂ =>
        if b = true then wpAny (model prog w) A (execs body env) (CutPost h₀ L s m₀ ca rest n Q k) E s₂ else Q .next s₂) E { s with heap := h, toks := tk })
    (hE : PassesOwn (model prog w) A env E := by passes_own) :
    wpAny (model prog w) A (exec (.While test body [] pos) env) Q E s := by
  refine While_inv2 (fun k m nx => ∃ (t : Tok) (o : Obj) (f : Int) (tf : Tok), nx = (ca, o) :: rest ∧ o.data = .cell (some (.str (T (List.replicate k 46)) t)) ∧ f + (k / 3 : Nat) = (n / 3 : Nat) ∧ k ≤ n ∧ m "found" = some (.int f tf) ∧ (∀ z : PySem.Str, z ≠ "found" → z ≠ "width" → m z = m₀ z)) (n₀ := n) F N ⟨t, o, 0, tf, rfl, hd, by omega, Nat.le_refl _, hk, fun _ _ _ => rfl⟩ ?_ hE
  rintro k m₁ nx h tk F₁ N₁ ⟨t, o, f, tf, rfl, hd, hf, hkn, h1, h2⟩
  have em : (fun (z : PySem.Str) => if z = "found" then some (.int f tf) else if z = "width" then m₁ "width" else m₀ z) = m₁ := by
    funext z
    by_cases e1 : z = "found"
    · subst e1; simp [h1]
    · by_cases e2 : z = "width"
      · subst e2; simp [e1]
      · simp only [if_neg e1, if_neg e2]; exact (h2 z e1 e2).symm
  refine wpAny_mono (turn k t o f tf (m₁ "width") h tk hd hf hkn (by rw [em]; exact F₁) N₁) (fun b s₂ p => ?_) fun _ _ x => x
  cases b with
  | false => simpa using p
  | true =>
    simp only [if_true] at p ⊢
    refine wpAny_mono p (fun fl s₃ q => ?_) fun _ _ x => x
    cases fl with
    | ret v => exact q
    | brk => exact q
    | next =>
      obtain ⟨k', t', o', f', tf', h', tk', m', e, F', N', d', e', lt, g1, g2⟩ := q
      exact ⟨h', tk', m', (ca, o') :: rest, k', e, F', N', lt, t', o', f', tf', rfl, d', e', by omega, g1, g2⟩
    | cont =>
      obtain ⟨k', t', o', f', tf', h', tk', m', e, F', N', d', e', lt, g1, g2⟩ := q
      exact ⟨h', tk', m', (ca, o') :: rest, k', e, F', N', lt, t', o', f', tf', rfl, d', e', by omega, g1, g2⟩
theorem cut_end {h₀ : Heap} {L : Addr} {s : Shared} {m₀ m' : PySem.Str → Option Value} {ca : Addr} {rest all : List (Addr × Obj)} {n k k' : Nat} {Q : Flow → Shared → Prop} {o : Obj} {x : PySem.Str} {t tf : Tok} {f : Int} {h' : Heap} {tk : Nat}
    (F : Fr h₀ L h' m') (N : News h₀ L h' all) (hm : (ca, o) ∈ all) (hr : ∀ p ∈ rest, p ∈ all) (hd : o.data = .cell (some (.str x t))) (hx : x = T (List.replicate k' 46)) (hf : f + (k' / 3 : Nat) = (n / 3 : Nat)) (hlt : k' < k)
    (h1 : m' "found" = some (.int f tf)) (h2 : ∀ z : PySem.Str, z ≠ "found" → z ≠ "width" → m' z = m₀ z) : CutPost h₀ L s m₀ ca rest n Q k .next { s with heap := h', toks := tk } :=
  ⟨k', t, o, f, tf, h', tk, m', rfl, F, fun p hp => (List.mem_cons.mp hp).elim (fun e => e ▸ N _ hm) fun e => N _ (hr _ e), by rw [hd, hx], hf, hlt, h1, h2⟩
end Mine
end
section
open PySem PySem.W PyProof.Rows
namespace Mine
def sizeI (W : List Int) : Nat := W.foldl (fun a c => if c = 114 then a * 2 else a * 3) 1
def sizeW (W : List Nat) : Nat := W.foldl (fun a c => if c = 114 then a * 2 else a * 3) 1
theorem sizeI_of (W : List Nat) : sizeI (W.map fun (c : Nat) => (c : Int)) = sizeW W := by
  have h : ∀ (l : List Nat) (a : Nat), (l.map fun (c : Nat) => (c : Int)).foldl (fun (a : Nat) (c : Int) => if c = 114 then a * 2 else a * 3) a = l.foldl (fun (a : Nat) (c : Nat) => if c = 114 then a * 2 else a * 3) a := by
    intro l
    induction l with
    | nil => intro a; rfl
    | cons c l ih =>
      intro a
      rw [List.map_cons, List.foldl_cons, List.foldl_cons, ih]
      congr 1
      by_cases h : c = 114
      · subst h; rfl
      · rw [if_neg h, if_neg (by omega)]
  exact h W 1
theorem sizeI_le : ∀ (l : List Int) (a : Nat), l.foldl (fun a c => if c = 114 then a * 2 else a * 3) a ≤ a * 3 ^ l.length := by
  intro l
  induction l with
  | nil => intro a; simp
  | cons c l ih =>
    intro a
    rw [List.foldl_cons, List.length_cons, Nat.pow_succ]
    refine Nat.le_trans (ih _) ?_
    rw [show a * (3 ^ l.length * 3) = (a * 3) * 3 ^ l.length by rw [Nat.mul_assoc, Nat.mul_comm (3 ^ l.length) 3]]
    refine Nat.mul_le_mul_right _ ?_
    split <;> omega
theorem size_start : (0 : Int) ≤ 1 ∧ (1 : Int) ≤ 9 ∧ (1 : Int) = sizeI [] := by decide
theorem rS : PySem.Str.ofString "r" = ⟨#[114]⟩ := by decide +kernel
theorem size_turn {pre post : List Int} {k : Int} {c : Nat} {W : List Nat} (h : k = sizeI pre) (hW : W.length ≤ 2) (kL : (T W).length = pre.length + (post.length + 1)) {b : Bool} (hc : (({ cps := #[c] } : PySem.Str) == PySem.Str.ofString "r") = b) :
    (0 : Int) ≤ (if b then k * 2 else k * 3) ∧ (if b then k * 2 else k * 3) ≤ 9 ∧ (if b then k * 2 else k * 3) = sizeI (pre ++ [(c : Int)]) := by
  rw [rS, T_one] at hc
  have e : sizeI (pre ++ [(c : Int)]) = if c = 114 then sizeI pre * 2 else sizeI pre * 3 := by
    unfold sizeI
    rw [List.foldl_append, List.foldl_cons, List.foldl_nil]
    by_cases h : c = 114
    · subst h; rfl
    · rw [if_neg h, if_neg (by omega)]
  have hle : sizeI pre ≤ 3 := by
    have := sizeI_le pre 1
    rw [T_len] at kL
    have hp : 3 ^ pre.length ≤ 3 ^ 1 := Nat.pow_le_pow_right (by omega) (by omega)
    unfold sizeI; omega
  rw [e, ← hc]
  by_cases h2 : c = 114
  · subst h2; simp; omega
  · rw [if_neg h2]; simp [h2]; omega
theorem size_r {pre post : List Int} {k : Int} {c : Nat} {W : List Nat} (h : k = sizeI pre) (hW : W.length ≤ 2) (kL : (T W).length = pre.length + (post.length + 1)) (hc : (({ cps := #[c] } : PySem.Str) == PySem.Str.ofString "r") = true) :
    (0 : Int) ≤ k * 2 ∧ k * 2 ≤ 9 ∧ k * 2 = sizeI (pre ++ [(c : Int)]) := size_turn h hW kL hc
theorem size_o {pre post : List Int} {k : Int} {c : Nat} {W : List Nat} (h : k = sizeI pre) (hW : W.length ≤ 2) (kL : (T W).length = pre.length + (post.length + 1)) (hc : (({ cps := #[c] } : PySem.Str) == PySem.Str.ofString "r") = false) :
    (0 : Int) ≤ k * 3 ∧ k * 3 ≤ 9 ∧ k * 3 = sizeI (pre ++ [(c : Int)]) := size_turn h hW kL hc
end Mine
end
section
open PySem PySem.W PyProof.Rows
namespace Mine
def numsOf (ns : List Int) : List Int := (ns.take 12).map (fun k' => k'.fmod 1000000) ++ [2, 3, 7, 65, 98, 151, 204, 270, 331, 425, 508, 612].drop (min 12 ns.length)
theorem nums_eq (ns : List Int) : (List.map (fun k' => k'.fmod 1000000) (List.take 12 ns)) ++ (List.drop (((List.map (fun k' => k'.fmod 1000000) (List.take 12 ns)).length : Nat) : Int).toNat [2, 3, 7, 65, 98, 151, 204, 270, 331, 425, 508, 612] : List Int) = numsOf ns := by
  unfold numsOf
  rw [Int.toNat_natCast, List.length_map, List.length_take]
end Mine
end
section
open PySem PySem.W PyProof.Rows PySem.Calls PyProof.Rows.LCg PyProof.Rows.LCt
namespace Mine
def words6 : List (List Nat) := [[114], [99], [114, 114], [114, 99], [99, 114], [99, 99]]
theorem words_len {W : List Nat} (h : W ∈ words6) : W.length ≤ 2 := by
  have : ∀ W ∈ words6, W.length ≤ 2 := by decide
  exact this W h
theorem size_bd {W : List Nat} (hW : W ∈ words6) : sizeW W ≤ 9 ∧ 2 ≤ sizeW W := by
  have : ∀ W ∈ words6, sizeW W ≤ 9 ∧ 2 ≤ sizeW W := by decide
  exact this W hW
section
variable {prog : Program} {w : World} {A : Around} {E : Value → Shared → Prop} {s : Shared} {h₀ : Heap} {L : Addr} {m : PySem.Str → Option Value} {env : Env} {news : List (Addr × Obj)}
theorem item_words {value slice : Expr} {a : Addr} {t0 t1 t2 t3 t4 t5 : Tok} {c : Nat} {n : Int} {u : Tok} {Q : Value → Shared → Prop} (N : News h₀ L s.heap news)
    (hm : (a, ({ cls := .type "tuple", data := .seq #[.str (PySem.Str.ofString "r") t0, .str (PySem.Str.ofString "c") t1, .str (PySem.Str.ofString "rr") t2, .str (PySem.Str.ofString "rc") t3, .str (PySem.Str.ofString "cr") t4, .str (PySem.Str.ofString "cc") t5] c } : Obj)) ∈ news)
    (h : ∀ W t, W ∈ words6 → sizeW W ≤ 9 ∧ 2 ≤ sizeW W → Q (.str (T W) t) s)
    (hs : subscripted slice false (.ref a) (.int (n.fmod 6) u) = operate [.ref a, .int (n.fmod 6) u] (getItem (.ref a) (.int (n.fmod 6) u)) := by with_unfolding_all rfl) :
    wpAny (model prog w) A (subscriptTail value slice (.ref a) (.int (n.fmod 6) u)) Q E s := by
  have h0 : 0 ≤ n.fmod 6 := Int.fmod_nonneg_of_pos _ (by decide)
  have h1 : n.fmod 6 < 6 := Int.fmod_lt_of_pos _ (by decide)
  refine item_tstrs N hm (.cons _ _ (.cons _ _ (.cons _ _ (.cons _ _ (.cons _ _ (.cons _ _ .nil)))))) h0 (by simpa using h1) (by simp) (fun t => ?_) hs
  have e : ∃ W ∈ words6, [PySem.Str.ofString "r", PySem.Str.ofString "c", PySem.Str.ofString "rr", PySem.Str.ofString "rc", PySem.Str.ofString "cr", PySem.Str.ofString "cc"].getD (n.fmod 6).toNat ⟨#[]⟩ = T W := by
    have : (n.fmod 6).toNat = 0 ∨ (n.fmod 6).toNat = 1 ∨ (n.fmod 6).toNat = 2 ∨ (n.fmod 6).toNat = 3 ∨ (n.fmod 6).toNat = 4 ∨ (n.fmod 6).toNat = 5 := by omega
    rcases this with e | e | e | e | e | e <;> rw [e]
    · exact ⟨[114], by decide, by decide +kernel⟩
    · exact ⟨[99], by decide, by decide +kernel⟩
    · exact ⟨[114, 114], by decide, by decide +kernel⟩
    · exact ⟨[114, 99], by decide, by decide +kernel⟩
    · exact ⟨[99, 114], by decide, by decide +kernel⟩
    · exact ⟨[99, 99], by decide, by decide +kernel⟩
  obtain ⟨W, hW, e⟩ := e
  rw [e]; exact h W t hW (size_bd hW)
theorem min_K {a : Nat} {t u : Tok} {Q : Value → Shared → Prop} (hh : A.handled = none) (F : Fr h₀ L s.heap m) (N : News h₀ L s.heap news) (ha : 1 ≤ a)
    (h : ∀ (c : Nat) t' h' tk, c ≤ 4 → c ≤ a → 1 ≤ c → Fr h₀ L h' m → News h₀ L h' news → Q (.int ((c : Nat) : Int) t') { s with heap := h', toks := tk }) :
    wpAny (model prog w) A (call (.builtin "min") [.int ((a : Nat) : Int) t, .int 4 u]) Q E s := by
  refine min_two_ints hh fun h' tk k => ?_
  split
  · exact h 4 u h' tk (by omega) (by omega) (by omega) (F.after k) (news_over N k)
  · exact h a t h' tk (by omega) (by omega) (by omega) (F.after k) (news_over N k)
theorem mod_K {n : Int} {c : Nat} {t u : Tok} {Q : Value → Shared → Prop} (hc : 1 ≤ c) (h : ∀ x : Nat, x < c → Q (.int ((x : Nat) : Int) s.toks) { s with toks := s.toks + 1 }) :
    wpAny (model prog w) A (binaryOp .Mod (.int n t) (.int ((c : Nat) : Int) u)) Q E s := by
  refine mod_int' (by omega) ?_
  have h0 : 0 ≤ n.fmod (c : Int) := Int.fmod_nonneg_of_pos _ (by omega)
  have h1 : n.fmod (c : Int) < (c : Int) := Int.fmod_lt_of_pos _ (by omega)
  have := h (n.fmod (c : Int)).toNat (by omega)
  rwa [Int.toNat_of_nonneg h0] at this
/-- a comprehension over range(1, n + 1) -/
theorem src_range1 {elt : Expr} {x : PySem.Str} {scope : Scope} {cl : List (PySem.Str × Addr)} {Fin : Shared → List Value → List (Addr × Obj) → Prop} {r : Addr} {b : Int} {t u v : Tok} {n : Nat} (J : Nat → List Value → Prop)
    (hh : A.handled = none) (F : Fr h₀ L s.heap m) (N : News h₀ L s.heap news) (hr : IsRange s.heap r 1 b 1 t u v) (hb : b = ((n : Nat) : Int) + 1) (hn : n ≤ 1000000) (h0 : J 0 [])
    (step : ∀ i ys (t : Tok) I oI C oC D m₂ h tk (E' : Value → Shared → Prop), i < n → J i ys → NsObj oC m₂ → m₂ x = some (.int (1 + ((i : Nat) : Int)) t) → Fr h₀ L h m → News h₀ L h ((I, oI) :: (C, oC) :: (D, lst ys) :: news) → Off3 I C D news → ((@Ne Nat I C) ∧ (@Ne Nat I D) ∧ (@Ne Nat C D)) →
      wpAny (model prog w) A (eval elt (compEnvC scope cl C env)) (ElEnd h₀ L m { s with heap := h, toks := tk } ((I, oI) :: (C, oC) :: (D, lst ys) :: news) (J (i + 1)) ys) E' { s with heap := h, toks := tk })
    (fin : ∀ g ys, J n ys → Fin { s with heap := g } ys news) :
    CompSrc prog w A h₀ L m env elt x scope cl Fin (.ref r) s := by
  subst hb
  refine CompSrc.range hh F N hr (small_one (by omega) (by omega) (by omega) (by omega)) (show Builtin.Range.rangeSize 1 (((n : Nat) : Int) + 1) 1 = ((n : Nat) : Int) by rw [rangeSize_nat]; omega) (by rw [sizeLine_eq]; omega) fun g => ?_
  refine rest_U (s := { s with heap := g }) J trivial (fun i ys v I oI C oC D m₂ h tk E' hi hJ hv hC hx F N off ne => ?_) (fin g) n 0 [] (by omega) h0
  obtain ⟨t, rfl⟩ := hv
  exact step i ys t I oI C oC D m₂ h tk E' hi hJ hC hx F N off ne
end
theorem intsAre_snoc' {vs : List Value} {ys : List Int} (h : IntsAre vs ys) (y : Int) (t : Tok) : IntsAre (vs ++ [.int y t]) (ys ++ [y]) := by
  induction h with
  | nil => exact .cons y t .nil
  | cons z u _ ih => exact .cons z u ih
/-- the first page's counts -/
def csA (m n : Nat) : List Nat := (List.range m).map fun j => n * (j + 1)
def csB (m n x : Nat) : List Nat := (List.range n).map fun j => m * (j + 1) - (x + 1)
def cnA (n i : Nat) : List Int := (List.range i).map fun j => ((n * (j + 1) : Nat) : Int)
def cnB (m x i : Nat) : List Int := (List.range i).map fun j => ((m * (j + 1) - (x + 1) : Nat) : Int)
theorem cnA_eq (m n : Nat) : cnA n m = (csA m n).map fun (c : Nat) => (c : Int) := by
  unfold cnA csA; rw [List.map_map]; rfl
theorem cnB_eq (m n x : Nat) : cnB m x n = (csB m n x).map fun (c : Nat) => (c : Int) := by
  unfold cnB csB; rw [List.map_map]; rfl
theorem cnA_step {n i : Nat} {ys : List Value} {t : Tok} (h : IntsAre ys (cnA n i)) : IntsAre (ys ++ [.int ((n : Int) * (1 + (i : Int))) t]) (cnA n (i + 1)) := by
  have e : cnA n (i + 1) = cnA n i ++ [(n : Int) * (1 + (i : Int))] := by
    unfold cnA
    rw [List.range_succ, List.map_append, List.map_singleton, Int.natCast_mul, Int.natCast_add, Int.add_comm (i : Int)]; rfl
  rw [e]; exact intsAre_snoc' h _ _
theorem cnB_step {m x i : Nat} {ys : List Value} {t : Tok} (hx : x < m) (h : IntsAre ys (cnB m x i)) : IntsAre (ys ++ [.int ((m : Int) * (1 + (i : Int)) - (x : Int) - 1) t]) (cnB m x (i + 1)) := by
  have hle : x + 1 ≤ m * (i + 1) := by
    have : m * 1 ≤ m * (i + 1) := Nat.mul_le_mul_left _ (by omega)
    omega
  have e : cnB m x (i + 1) = cnB m x i ++ [(m : Int) * (1 + (i : Int)) - (x : Int) - 1] := by
    unfold cnB
    rw [List.range_succ, List.map_append, List.map_singleton, Int.ofNat_sub hle, Int.natCast_mul, Int.natCast_add, Int.natCast_add, Int.add_comm (i : Int)]
    congr 2
    show (m : Int) * (1 + (i : Int)) - ((x : Int) + 1) = _
    omega
  rw [e]; exact intsAre_snoc' h _ _
theorem csA_len (m n : Nat) : (csA m n).length = m := by simp [csA]
theorem csB_len (m n x : Nat) : (csB m n x).length = n := by simp [csB]
theorem csA_bd {m n : Nat} (hm : m ≤ 9) (hn : n ≤ 9) : ∀ c ∈ csA m n, c ≤ 100 := by
  intro c h
  obtain ⟨j, hj, rfl⟩ := List.mem_map.mp h
  have : n * (j + 1) ≤ 9 * 9 := Nat.mul_le_mul hn (by have := List.mem_range.mp hj; omega)
  omega
theorem csB_bd {m n x : Nat} (hm : m ≤ 9) (hn : n ≤ 9) : ∀ c ∈ csB m n x, c ≤ 100 := by
  intro c h
  obtain ⟨j, hj, rfl⟩ := List.mem_map.mp h
  have : m * (j + 1) ≤ 9 * 9 := Nat.mul_le_mul hm (by have := List.mem_range.mp hj; omega)
  omega
end Mine
end
section
open PySem PySem.W PyProof.Rows
namespace Mine
def bothL (W V : List Nat) (x : Nat) : List Int :=
  metI (csA (sizeW W) (sizeW V)) (x + 1) (W.map fun (c : Nat) => (c : Int)) (sizeW W) ++ metI (csB (sizeW W) (sizeW V) x) 1 (V.map fun (c : Nat) => (c : Int)) (sizeW V)
theorem both_ok : (words6.all fun W => words6.all fun V => (List.range 4).all fun x => decide (sizeW W ≤ x) || (bothL W V x).isPerm (rangeKs 1 (((sizeW W : Nat) : Int) + ((sizeW V : Nat) : Int) + 1 - 1).toNat)) = true := by decide +kernel
theorem range_up (a : Int) (n : Nat) : (rangeKs a n).Pairwise (· ≤ ·) := by
  unfold rangeKs
  rw [List.pairwise_map]
  exact List.pairwise_lt_range.imp (by intro i j h; omega)
theorem law_eq {W V : List Nat} {x : Nat} {n : List Int} (hp : n.Perm (metI (csA (sizeW W) (sizeW V)) (x + 1) (W.map fun (c : Nat) => (c : Int)) (sizeW W) ++ metI (csB (sizeW W) (sizeW V) x) 1 (V.map fun (c : Nat) => (c : Int)) (sizeW V)))
    (ho : n.Pairwise (· ≤ ·)) (hW : W ∈ words6) (hV : V ∈ words6) (hx : x + 1 ≤ 4) (hm : x < sizeW W) : n = rangeKs 1 (((sizeW W : Nat) : Int) + ((sizeW V : Nat) : Int) + 1 - 1).toNat := by
  have h1 := List.all_eq_true.mp both_ok W hW
  have h2 := List.all_eq_true.mp h1 V hV
  have h3 := List.all_eq_true.mp h2 x (List.mem_range.mpr (by omega))
  rcases (Bool.or_eq_true _ _).mp h3 with h | h
  · exact absurd (of_decide_eq_true h) (by omega)
  · have h4 := hp.trans (List.isPerm_iff.mp h)
    exact h4.eq_of_pairwise (le := (· ≤ ·)) (by intros; omega) ho (range_up _ _)
end Mine
end
section
open PySem PySem.W PyProof.Rows
namespace Mine
theorem numsOf_len (ns : List Int) : (numsOf ns).length = 12 := by
  unfold numsOf
  rw [List.length_append, List.length_map, List.length_take, List.length_drop]
  simp only [List.length_cons, List.length_nil]
  omega
theorem numsOf_bd (ns : List Int) : ∀ n ∈ numsOf ns, 0 ≤ n ∧ n < 1000000 := by
  intro n h
  unfold numsOf at h
  rcases List.mem_append.mp h with h | h
  · obtain ⟨k, _, rfl⟩ := List.mem_map.mp h
    exact ⟨Int.fmod_nonneg_of_pos _ (by decide), Int.fmod_lt_of_pos _ (by decide)⟩
  · have h2 := List.mem_of_mem_drop h
    have : ∀ n ∈ ([2, 3, 7, 65, 98, 151, 204, 270, 331, 425, 508, 612] : List Int), 0 ≤ n ∧ n < 1000000 := by decide
    exact this n h2
theorem use_numbers {prog : Program} {w : World} {K : Frag} {p : Program} {loose : List PySem.Str} {mean : ExcName → Option Value} {mg mb : PySem.Str → Option Value} {f : Addr}
    (cc : ∀ (l : Addr) (vs : List Value) (ns : List Int), IntsAre vs ns → ns.length ≤ 63 → Con prog w K p loose mean mg mb 4 f [.ref l] (fun h => h.IsList l vs.toArray) (ListR fun xs => IntsAre xs (numsOf ns)))
    {dp un : Nat} {gd : Option (List Code)} {cn : PySem.Str} {cs : Scope} {a : Addr} {ccd : Value} {cl : List (PySem.Str × Addr)} {outer : List Env} {A₀ : Around} {base h₀ : Heap} {L : Addr} {m : PySem.Str → Option Value} {s : Shared} {Q E : Value → Shared → Prop} {news : List (Addr × Obj)} {l : Addr} {vs : List Value} {ns : List Int}
    (B : Below A₀ base outer h₀) (F : Fr h₀ L s.heap m) (X : K.In h₀) (TT : Top p loose mean mg mb h₀) (hk : cs.kind = .function) (hd : dp + 4 < recursionLimit) (hu : un + 30 * 4 < cLine) (N : News h₀ L s.heap news)
    (hl : h₀.IsList l vs.toArray) (hi : IntsAre vs ns) (hn : ¬ ((63 : Nat) : Int) < ((ns.length : Nat) : Int))
    (h : ∀ a xs c NS h' tk', IntsAre xs NS → NS.length = 12 → (∀ n ∈ NS, 0 ≤ n ∧ n < 1000000) → Fr h₀ L h' m → News h₀ L h' ((a, { cls := .type "list", data := .seq xs.toArray c }) :: news) → (∀ p ∈ news, @Ne Nat p.1 a) → Q (.ref a) { s with heap := h', toks := tk' }) :
    wpAny (model prog w) (ktrTop dp un gd cn cs L a ccd cl outer) (call (.ref f) [.ref l]) Q E s := by
  refine use_O (cc l vs ns hi (by omega)) B F X TT hk hd hu (F.lst hl) N fun v more h' tk' hR F' N' off => ?_
  obtain ⟨a, xs, c, rfl, hx, rfl⟩ := hR
  exact h a xs c _ h' tk' hx (numsOf_len ns) (numsOf_bd ns) F' N' fun q hq => off _ (List.mem_singleton_self _) q hq
theorem use_met {prog : Program} {w : World} {K : Frag} {p : Program} {loose : List PySem.Str} {mean : ExcName → Option Value} {mg mb : PySem.Str → Option Value} {f : Addr}
    (cc : ∀ (W cs : List Nat) (x : Nat) (ns : List Int) (lc ln : Addr) (vc vn : List Value) (tk tk2 : Tok), W.length ≤ 2 → cs.length ≤ 9 → (∀ c ∈ cs, c ≤ 100) → x ≤ 4 → 1 ≤ x → ns.length = 12 → (∀ n ∈ ns, 0 ≤ n ∧ n < 1000000) → IntsAre vc (cs.map fun (c : Nat) => (c : Int)) → IntsAre vn ns →
      Con prog w K p loose mean mg mb 6 f [.str (T W) tk, .ref lc, .int (x : Nat) tk2, .ref ln] (fun h => h.IsList lc vc.toArray ∧ h.IsList ln vn.toArray) (ListR fun xs => IntsAre xs (metI cs x (W.map fun (c : Nat) => (c : Int)) cs.length)))
    {dp un : Nat} {gd : Option (List Code)} {cn : PySem.Str} {cs' : Scope} {a : Addr} {ccd : Value} {cl : List (PySem.Str × Addr)} {outer : List Env} {A₀ : Around} {base h₀ : Heap} {L : Addr} {m : PySem.Str → Option Value} {s : Shared} {Q E : Value → Shared → Prop} {news : List (Addr × Obj)}
    {W cs : List Nat} {x : Nat} {k : Int} {ns ms : List Int} {lc ln : Addr} {vc vn : List Value} {c1 c2 : Nat} {tk tk2 : Tok}
    (B : Below A₀ base outer h₀) (F : Fr h₀ L s.heap m) (X : K.In h₀) (TT : Top p loose mean mg mb h₀) (hk : cs'.kind = .function) (hd : dp + 6 < recursionLimit) (hu : un + 30 * 6 < cLine) (N : News h₀ L s.heap news)
    (m1 : (lc, ({ cls := .type "list", data := .seq vc.toArray c1 } : Obj)) ∈ news) (m2 : (ln, ({ cls := .type "list", data := .seq vn.toArray c2 } : Obj)) ∈ news)
    (hic : IntsAre vc ms) (hin : IntsAre vn ns) (hms : ms = cs.map fun (c : Nat) => (c : Int)) (hkx : k = ((x : Nat) : Int)) (hW : W ∈ words6) (hc : cs.length ≤ 9) (hcs : ∀ c ∈ cs, c ≤ 100) (hx : x ≤ 4) (hx1 : 1 ≤ x) (hn : ns.length = 12) (hns : ∀ n ∈ ns, 0 ≤ n ∧ n < 1000000)
    (h : ∀ a xs c h' tk', IntsAre xs (metI cs x (W.map fun (c : Nat) => (c : Int)) cs.length) → Fr h₀ L h' m → News h₀ L h' ((a, { cls := .type "list", data := .seq xs.toArray c }) :: news) → (∀ p ∈ news, @Ne Nat p.1 a) → Q (.ref a) { s with heap := h', toks := tk' }) :
    wpAny (model prog w) (ktrTop dp un gd cn cs' L a ccd cl outer) (call (.ref f) [.str (T W) tk, .ref lc, .int k tk2, .ref ln]) Q E s := by
  subst hms; subst hkx
  refine use_O (cc W cs x ns lc ln vc vn tk tk2 (words_len hW) hc hcs hx hx1 hn hns hic hin) B F X TT hk hd hu ⟨⟨_, (N _ m1).1, rfl, _, rfl⟩, ⟨_, (N _ m2).1, rfl, _, rfl⟩⟩ N fun v more h' tk' hR F' N' off => ?_
  obtain ⟨a, xs, c, rfl, hxs, rfl⟩ := hR
  exact h a xs c h' tk' hxs F' N' fun q hq => off _ (List.mem_singleton_self _) q hq
end Mine
end
section
open PySem PySem.W PyProof.Rows
set_option maxHeartbeats 0
namespace Mine
def law_w.tw13884975898007635145 : Nat := 0
def law_w.tw12500106642314072766 : Nat := 0
def law_w.tw12962321754842523023 : Nat := 0
def law_w.tw10808640705706000975 : Nat := 0
def law_w.tw10733317112269821998 : Nat := 0
def law_w.tw4082206618326464797 : Nat := 0
def law_w.tw1600244290284232334 : Nat := 0
def law_w.tw8665676235769590426 : Nat := 0
def law_w.tw8419845025225732469 : Nat := 0
def law_w.tw7200432840101992331 : Nat := 0
def law_w.tw17058004912876188847 : Nat := 0
def law_w.tw3314765244410149184 : Nat := 0
def law_w.tw4385314060366624320 : Nat := 0
def law_w.tw9422905849870349705 : Nat := 0
local macro_rules | `(tactic| walk_at "mine enter") => `(tactic| k_dflt (refine' Mine.enter_def ?k1 ?k2 ?k3 ?k5 ?kA ?kF ?kK ?k6 ?k7 ?k8 ?k9 ?kB ?_ ?c2 ?c3 ?c4 ?c5; (case kA => exact rfl); (case kF => exact rfl); (case kK => assumption); (case k1 => k_asm); (case k2 => k_asm); (case k3 => k_asm); (case k5 => k_asm); (case k6 => k_is); (case k7 => k_is); (case k8 => ktr_room); (case k9 => exact BindsTo.of_eq rfl); (case c5 => decide); (case kB => exact locs rfl); (case c2 => exact rfl); (case c3 => exact rfl); (case c4 => exact rfl); k_whole; intro L' h' F' N' B' X' T'; (try dsimp only); (try k_fold)))
local macro_rules | `(tactic| walk_at "mine enterC") => `(tactic| k_dflt (refine' Mine.enter_defC ?k1 ?k2 ?k3 ?k5 ?kA ?kF ?kK ?k6 ?k7 ?k8 ?k9 ?kB ?kD ?_ ?c2 ?c3 ?c4; (case kA => exact rfl); (case kF => exact rfl); (case kK => assumption); (case k1 => k_asm); (case k2 => k_asm); (case k3 => k_asm); (case k5 => k_asm); (case k6 => k_is); (case k7 => k_is); (case k8 => ktr_room); (case k9 => exact BindsTo.of_eq rfl); (case kB => exact rfl); (case kD => decide +kernel); (case c2 => exact rfl); (case c3 => exact rfl); (case c4 => exact rfl); k_whole; intro L' h' tk' cells' F' N' Y' B' X' T'; k_cells Y'; (try simp only [List.cons_append, List.nil_append] at N'); (try dsimp only); (try k_fold)))
local macro_rules | `(tactic| walk_at "eval ListComp") => `(tactic| ((k_extra "in S5"); (k_here; lct_look; (with_reducible show wpAny _ _ (eval (Expr.ListComp _ [⟨_, Expr.Tuple _ _ _, _, _⟩] _ _) _) _ _ _); lcg_calm; k_dflt (refine Mine.ListComp_TT (F₀ := by k_asm) (by with_unfolding_all rfl) (by decide) (by rfl) (by decide) (by rfl) ?_))))
local macro_rules | `(tactic| walk_at "SrcTT") => `(tactic| ((k_extra "in S5"); (k_here; k_dflt (refine Mine.SrcTT.of (by rfl) (by k_asm) (by k_asm) (by k_mem) (by first | size_fits | exact Nat.le_of_ble_eq_true rfl) ?_; intro g'; lct_lit))))
local macro_rules | `(tactic| walk_at "storeName int") => `(tactic| ((k_extra "in S5"); ((fail_if_success (with_reducible show wpAny _ _ (storeName _ _ (Value.int 3 _)) _ _ _)); (fail_if_success (with_reducible show wpAny _ _ (storeName _ _ (Value.int 1 _)) _ _ _)); first | refine Mine.st_known (j := 3) (by omega) ?_ | refine Mine.st_known (j := 1) (by omega) ?_)))
local macro_rules | `(tactic| walk_at "subscriptTail Name Subscript ref str") => `(tactic| ((k_extra "in S5"); (k_here; (simp only [Mine.sl_11, Mine.sl_12, Mine.sl_13, Mine.sl_21, Mine.sl_22, Mine.sl_23, Mine.sl_31, Mine.sl_32, Mine.sl_33]); k_dflt (refine' topItem_K ?F ?X ?l ?k ?e ?_; (case F => k_asm); (case X => k_asm); (case l => k_is); (case k => k_keys); (case e => k_is)))))
local macro_rules | `(tactic| walk_at "compareOp In str ref") => `(tactic| ((k_extra "in S5"); (k_here; (simp only [Mine.sl_11, Mine.sl_12, Mine.sl_13, Mine.sl_21, Mine.sl_22, Mine.sl_23, Mine.sl_31, Mine.sl_32, Mine.sl_33]); k_dflt (refine' topIn_K ?F ?X ?l ?k ?e ?o ?_; (case F => k_asm); (case X => k_asm); (case l => k_is); (case k => k_keys); (case e => k_is); (case o => decide)))))
local macro_rules | `(tactic| walk_at "getMethod ref") => `(tactic| (k_here; k_dflt (refine' Mine.getM_sub ?F ?X ?l ?_; (case F => k_asm); (case X => k_asm); (case l => k_is))))
local macro_rules | `(tactic| walk_at "call builtin:re.Pattern.sub") => `(tactic| (k_here; (try dsimp only [List.cons_append, List.nil_append]); k_dflt (first | (refine' Mine.sub_crlf_K ?F ?N ?X ?p ?h5 ?h6 ?h2 ?c ?e ?x ?_; (case F => k_asm); (case N => k_asm); (case X => k_asm); (case p => k_is); (case h5 => rfl); (case h6 => rfl); (case h2 => rfl); (case c => k_is); (case e => decide +kernel); (case x => first | assumption | omega | (simp; omega)); intro h' tk' t' F' N') | (refine' Mine.sub_dots_K ?F ?N ?X ?p ?h5 ?h6 ?h2 ?c ?e ?x ?_; (case F => k_asm); (case N => k_asm); (case X => k_asm); (case p => k_is); (case h5 => rfl); (case h6 => rfl); (case h2 => rfl); (case c => k_is); (case e => decide +kernel); (case x => first | assumption | omega | (simp; omega)); intro h' tk' t' F' N'))))
local macro_rules | `(tactic| walk_at "call ref") => `(tactic| ((k_extra "in S7"); (k_here; (with_reducible show wpAny _ _ (call (Value.ref 63) _) _ _ _); k_dflt (refine' Mine.use_V ?yC ?yB ?yF ?yX ?yT ?yK ?yd ?yu ?yp ?yN ?_; (case yB => k_asm); (case yF => k_asm); (case yX => k_asm); (case yT => k_asm); (case yK => first | exact rfl | assumption); (case yC => k_extra "parse_c"); (case yd => ktr_room); (case yu => ktr_units); (case yp => trivial); (case yN => k_asm); intro t' h' tk' F' N'; (try dsimp only); (try k_fold)))))
local macro_rules | `(tactic| walk_at "exec For") => `(tactic| (k_here; (rename Fr _ _ _ _ => lF'); (with_unfolding_all refine' For_invVF lF' ?k1 ?k2 ?_; (case k1 => exact rfl); (case k2 => exact rfl); k_whole)))
local macro_rules | `(tactic| walk_at "exec For Name Name cons nil") => `(tactic| walk_at "exec For")
local macro_rules | `(tactic| walk_at "exec For Name Call cons nil") => `(tactic| walk_at "exec For")
local macro_rules | `(tactic| walk_at "subscriptTail Name Slice ref ref") => `(tactic| (k_here; (with_reducible show wpAny _ _ (subscriptTail _ (PySem.Expr.Slice none (some _) none _) (Value.ref _) (Value.ref _)) _ _ _); k_dflt (refine' kmk_slice_ints ?F ?N ?l ?p ?q ?i ?m ?c ?_ ?s ?t ?z; (case F => k_asm); (case N => k_asm); (case l => kmk_list); (case p => kmk_part); (case q => kmk_part); (case i => l_ints); (case m => exact kmk_upto (by l_ints) (by kmk_sign)); (case c => kmk_len); (case s => with_unfolding_all rfl); (case t => kmk_pure); (case z => kmk_size)); intro D' ws' h' F' N' l1 hI' hC' hL'; (try simp only [Int.reduceNeg, Int.neg_neg, Int.reduceToNat] at hI' hC' hL'); (try k_lt l1); (try k_sweep)))
local macro_rules | `(tactic| walk_at "subscriptTail Name Slice ref ref") => `(tactic| (k_here; (with_reducible show wpAny _ _ (subscriptTail _ (PySem.Expr.Slice (some _) none none _) (Value.ref _) (Value.ref _)) _ _ _); k_dflt (refine' kmk_slice_ints ?F ?N ?l ?p ?q ?i ?m ?c ?_ ?s ?t ?z; (case F => k_asm); (case N => k_asm); (case l => kmk_list); (case p => kmk_part); (case q => kmk_part); (case i => l_ints); (case m => exact kmk_from (by l_ints) (by kmk_sign)); (case c => kmk_len); (case s => with_unfolding_all rfl); (case t => kmk_pure); (case z => kmk_size)); intro D' ws' h' F' N' l1 hI' hC' hL'; (try simp only [Int.reduceNeg, Int.neg_neg, Int.reduceToNat] at hI' hC' hL'); (try k_lt l1); (try k_sweep)))
local macro_rules | `(tactic| walk_at "subscriptTail List Slice ref ref") => `(tactic| (k_here; k_dflt (refine kba_turn (value' := PySem.Expr.Name (PySem.Str.ofString "_") ⟨0, 0, 0, 0⟩) (fun _ => rfl) ?_)))
local macro_rules | `(tactic| walk_at "subscriptTail Name Name ref int") => `(tactic| ((k_extra "in S9a"); (k_here; k_dflt (refine' Mine.item_sign ?yN ?ym ?yS ?ya ?yb ?yz ?_; (case yN => k_asm); (case ym => k_mem); (case yS => with_reducible assumption); (case ya => assumption); (case yb => assumption); (case yz => assumption); intro t' hl'))))
local macro_rules | `(tactic| walk_at "subscriptTail Tuple cons BinOp ref int") => `(tactic| ((k_extra "in S9a"); (k_here; k_dflt (refine' Mine.item_end ?yN ?ym ?_; (case yN => k_asm); (case ym => k_mem); intro t' hl'))))
local macro_rules | `(tactic| walk_at "call ref") => `(tactic| ((k_extra "in S9a"); (k_here; (with_reducible show wpAny _ _ (call (Value.ref 102) _) _ _ _); k_dflt (refine' Mine.use_V ?yC ?yB ?yF ?yX ?yT ?yK ?yd ?yu ?yp ?yN ?_; (case yB => k_asm); (case yF => k_asm); (case yX => k_asm); (case yT => k_asm); (case yK => first | exact rfl | assumption); (case yC => k_extra "sign_c"); (case yd => ktr_room); (case yu => ktr_units); (case yp => trivial); (case yN => k_asm); intro t' h' tk' F' N'; (try dsimp only); (try k_fold)))))
local macro_rules | `(tactic| walk_at "call ref") => `(tactic| ((k_extra "in S9a"); (k_here; (with_reducible show wpAny _ _ (call (Value.ref 80) _) _ _ _); k_dflt (refine' Mine.use_V ?yC ?yB ?yF ?yX ?yT ?yK ?yd ?yu ?yp ?yN ?_; (case yB => k_asm); (case yF => k_asm); (case yX => k_asm); (case yT => k_asm); (case yK => first | exact rfl | assumption); (case yC => k_extra "quote_c"); (case yd => ktr_room); (case yu => ktr_units); (case yp => trivial); (case yN => k_asm); intro t' h' tk' F' N'; (try dsimp only); (try k_fold)))))
local macro_rules | `(tactic| walk_at "call builtin:str.split") => `(tactic| ((k_extra "in S9a"); (k_here; k_dflt (refine' Mine.split_K ?yF ?yN ?yz ?_; (case yF => k_asm); (case yN => k_asm); (case yz => assumption); intro D' vs' h' tk' hS' F' N' l1; (try k_lt l1); (try k_sweep)))))
local macro_rules | `(tactic| walk_at "subscriptTail Name Slice ref ref") => `(tactic| ((k_extra "in S9a"); (k_here; (with_reducible show wpAny _ _ (subscriptTail _ (PySem.Expr.Slice none (some (PySem.Expr.UnaryOp _ _ _)) none _) (Value.ref _) (Value.ref _)) _ _ _); k_dflt (refine' Mine.last_K ?yF ?yN ?ym ?yS ?yz ?yp ?_; (case yF => k_asm); (case yN => k_asm); (case ym => k_mem); (case yS => assumption); (case yz => (rw [List.length_map, List.length_range]; assumption)); (case yp => kmk_part); intro D' zs' h' hS' hL' F' N' l1; (try k_lt l1); (try k_sweep)))))
local macro_rules | `(tactic| walk_at "call builtin:len") => `(tactic| ((k_extra "in S9a"); (k_here; k_dflt (refine' Mine.len_K ?yN ?ym ?yS ?yz ?_; (case yN => k_asm); (case ym => k_mem); (case yS => with_reducible assumption); (case yz => assumption)))))
local macro_rules | `(tactic| walk_at "subscriptTail Name Name ref int") => `(tactic| ((k_extra "in S9a"); (k_here; k_dflt (refine' Mine.item_rows ?yN ?ym ?yS ?ya ?yb ?yz ?_; (case yN => k_asm); (case ym => k_mem); (case yS => with_reducible assumption); (case ya => assumption); (case yb => assumption); (case yz => assumption); intro t'))))
local macro_rules | `(tactic| walk_at "call ref") => `(tactic| ((k_extra "in S9a"); (k_here; (with_reducible show wpAny _ _ (call (Value.ref 109) _) _ _ _); k_dflt (refine' Mine.use_V ?yC ?yB ?yF ?yX ?yT ?yK ?yd ?yu ?yp ?yN ?_; (case yB => k_asm); (case yF => k_asm); (case yX => k_asm); (case yT => k_asm); (case yK => first | exact rfl | assumption); (case yC => k_extra "read_k"); (case yd => ktr_room); (case yu => ktr_units); (case yp => trivial); (case yN => k_asm); intro t' h' tk' F' N'; (try dsimp only); (try k_fold)))))
local macro_rules | `(tactic| walk_at "call ref") => `(tactic| ((k_extra "in S9a"); (k_here; (with_reducible show wpAny _ _ (call (Value.ref 114) _) _ _ _); k_dflt (refine' Mine.use_V ?yC ?yB ?yF ?yX ?yT ?yK ?yd ?yu ?yp ?yN ?_; (case yB => k_asm); (case yF => k_asm); (case yX => k_asm); (case yT => k_asm); (case yK => first | exact rfl | assumption); (case yC => k_extra "cut_k"); (case yd => ktr_room); (case yu => ktr_units); (case yp => trivial); (case yN => k_asm); intro t' h' tk' F' N'; (try dsimp only); (try k_fold)))))
local macro_rules | `(tactic| walk_at "call builtin:list.append") => `(tactic| ((k_extra "in S9a"); (k_here; (try dsimp only [List.cons_append, List.nil_append]); k_dflt (refine' append_K ?yF ?yN ?yu ?_ ?yz; (case yF => k_asm); (case yN => k_asm); (case yu => k_upd); (case yz => exact Mine.fit_vals (by assumption) (by assumption)); k_whole); intro h' F' N'; (try k_sweep))))
local macro_rules | `(tactic| walk_at "InvEndN") => `(tactic| ((k_extra "in S9a"); kst_close))
local macro_rules | `(tactic| walk_at "call ref") => `(tactic| ((k_extra "in L1.txt"); (k_here; (with_reducible show wpAny _ _ (call (Value.ref 88) _) _ _ _); k_dflt (refine' Mine.use_numbers ?yC ?yB ?yF ?yX ?yTT ?yK ?yd ?yu ?yN ?yl ?yi ?yn ?_; (case yB => k_asm); (case yF => k_asm); (case yX => k_asm); (case yTT => k_asm); (case yK => first | exact rfl | assumption); (case yC => k_extra "numbers_c"); (case yd => ktr_room); (case yu => ktr_units); (case yN => k_asm); (case yl => assumption); (case yi => assumption); (case yn => assumption); intro a' xs' c' NS' h' tk' hi' hl' hb' F' N' o1'; (try simp only [List.forall_mem_cons, List.forall_mem_nil, and_true] at o1'); (try dsimp only); (try k_fold)))))
local macro_rules | `(tactic| walk_at "call ref") => `(tactic| ((k_extra "in L1.txt"); (k_here; (with_reducible show wpAny _ _ (call (Value.ref 95) _) _ _ _); k_dflt (refine' Mine.use_V ?yC ?yB ?yF ?yX ?yTT ?yK ?yd ?yu ?yp ?yN ?_; (case yB => k_asm); (case yF => k_asm); (case yX => k_asm); (case yTT => k_asm); (case yK => first | exact rfl | assumption); (case yC => k_extra "size_c"); (case yd => ktr_room); (case yu => ktr_units); (case yp => trivial); (case yN => k_asm); intro t' h' tk' F' N'; (try dsimp only); (try k_fold)))))
local macro_rules | `(tactic| lcg_src) => `(tactic| ((k_extra "in S5"); exact ⟨_, by k_mem, rfl, _, rfl⟩))
theorem law_w : PySem.Challenge.rw_tp0010_01.Holds := by
  w_on
  o_law
  k_head
  (case hw => w_witness2)
  have parse_c : ∀ {w : World} {loose : List PySem.Str} {mean : ExcName → Option Value} {mg mb : PySem.Str → Option Value} (x : PySem.Str) (tk : Tok) (hx : Head257 x), ConV (PySem.Challenge.rw_tp0010_01.row.prog) w (Mine.law_w.heap_1_39 w.params) Mine.law_w.view_1_40 loose mean mg mb 2 63 [.str x tk] (fun _ => True) (fun t => .str (T (dirL (x.cps.toList.drop 5))) t) := by
    as_aux_lemma =>
      intro w loose mean mg mb x tk hx
      k_with "in C1" => skip
      w_on
      k_fill
      unfold ConV Con; intros; rename_i hret
      have hS1 := head_1 hx
      have hS2 := head_2 hx
      refine wpAny_call ?_
      walk_at "mine enter"
      k_with "state" => first | exact pinv_start hx | exact pinv_c (by assumption) (by assumption) (by assumption) | exact pinv_q (by assumption) (by assumption) (by assumption) (by assumption)
      k_with "exec While Compare cons nil" => k_while (fun (_ : List Int) (i : Int) (d : PySem.Str) => PAll x i d) (fun (_ : List Int) (i : Int) (d : PySem.Str) => (x.length - i).toNat) "i" "dirname"
      k_steps
      k_with_none
      all_goals (refine ret_S hret (by assumption) ?_ (by assumption); first | exact pend_0 (by assumption) (by assumption) | exact pend_1 (by assumption) (by assumption) (by assumption) (by assumption) | exact pend_2 (by assumption) (by assumption) (by assumption) (by assumption))
      k_with_none
  have sign_c : ∀ {w : World} {loose : List PySem.Str} {mean : ExcName → Option Value} {mg mb : PySem.Str → Option Value} (n : Int) (tk : Tok), ConV (PySem.Challenge.rw_tp0010_01.row.prog) w (Mine.law_w.heap_1_39 w.params) Mine.law_w.view_1_40 loose mean mg mb 2 102 [.int n tk] (fun _ => True) (fun t => .str (T [signN n]) t) := by
    as_aux_lemma =>
      intro w loose mean mg mb n tk
      k_with "in C1" => skip
      k_with "parse_c" => exact parse_c _ _ (by exact Mine.head_told (by omega))
      w_on
      k_fill
      unfold ConV Con; intros; rename_i hret
      refine wpAny_call ?_
      walk_at "mine enter"
      k_steps
      all_goals (refine ret_S hret (by assumption) ?_ (by assumption); first | exact sign_out (by assumption) | exact sign_in (by assumption))
      k_with_none
  have cut_c : ∀ {w : World} {loose : List PySem.Str} {mean : ExcName → Option Value} {mg mb : PySem.Str → Option Value} (n : Nat) (tk : Tok) (hn : n < 1000), ConV (PySem.Challenge.rw_tp0010_01.row.prog) w (Mine.law_w.heap_1_39 w.params) Mine.law_w.view_1_40 loose mean mg mb 2 114 [.int (n : Int) tk] (fun _ => True) (fun t => .int ((n / 3 : Nat) : Int) t) := by
    as_aux_lemma =>
      intro w loose mean mg mb n tk hn
      k_with "in S5" => skip
      k_with "parse_c" => exact parse_c _ _ (by exact Mine.head_told (by omega))
      k_with "sign_c" => exact sign_c _ _
      w_on
      k_fill
      unfold ConV Con; intros; rename_i hret
      refine wpAny_call ?_
      walk_at "mine enterC"
      repeat' ((fail_if_success (with_reducible show wpAny _ _ (exec (PySem.Stmt.While _ _ _ _) _) _ _ _)); first | (k_unfold; (try dsimp only)) | (k_end; wrow_close) | walk1 | (dsimp only; walk1) | (leave1; try dsimp only))
      (rename Fr _ _ _ _ => lF'); (rename News _ _ _ _ => lN'); (rename _ = Data.cell (some (Value.str (Txt.mul _ _) _)) => lD')
      rw [dots_mul] at lD'
      refine cut_while lF' lN' lD' rfl ?_
      clear lF' lN' lD'
      intro k t o f tf u h tk hd hf hk F' N'
      have hlen : (T (List.replicate k 46)).length ≤ 1000 := by rw [T_len, List.length_replicate]; omega
      rcases k with _ | _ | _ | k
      rotate_left 3
      have hne := ne_dots (k + 1 + 1)
      rotate_right 3
      repeat' ((fail_if_success (with_reducible show Mine.CutPost _ _ _ _ _ _ _ _ _ _ _)); first | (k_unfold; (try dsimp only)) | (k_end; wrow_close) | walk1 | (dsimp only; walk1) | (leave1; try dsimp only))
      · refine ret_I hret (by assumption) ?_ (by assumption); omega
      · (refine' cut_end ?aF ?aN ?ahm ?ahr ?ahd sl_f1 ?ahf ?ahl ?ah1 ?ah2; (case aF => assumption); (case aN => assumption); (case ahm => k_mem); (case ahr => exact List.forall_mem_nil _); (case ahd => assumption); (case ah1 => rfl); (case ahf => omega); (case ahl => omega); (case ah2 => intro z h1 h2; simp only [if_neg h1, if_neg h2]))
      · (refine' cut_end ?bF ?bN ?bhm ?bhr ?bhd sl_f2 ?bhf ?bhl ?bh1 ?bh2; (case bF => assumption); (case bN => assumption); (case bhm => k_mem); (case bhr => exact List.forall_mem_nil _); (case bhd => assumption); (case bh1 => rfl); (case bhf => omega); (case bhl => omega); (case bh2 => intro z h1 h2; simp only [if_neg h1, if_neg h2]))
      · (refine' cut_end ?cF ?cN ?chm ?chr ?chd (sl_f3 _) ?chf ?chl ?ch1 ?ch2; (case cF => assumption); (case cN => assumption); (case chm => k_mem); (case chr => exact List.forall_mem_nil _); (case chd => assumption); (case ch1 => rfl); (case chf => omega); (case chl => omega); (case ch2 => intro z h1 h2; simp only [if_neg h1, if_neg h2]))
      k_with_none
  have quote_c : ∀ {w : World} {loose : List PySem.Str} {mean : ExcName → Option Value} {mg mb : PySem.Str → Option Value} (l : List Nat) (tk : Tok) (hl : l.length ≤ 400000), ConV (PySem.Challenge.rw_tp0010_01.row.prog) w (Mine.law_w.heap_1_39 w.params) Mine.law_w.view_1_40 loose mean mg mb 2 80 [.str (T l) tk] (fun _ => True) (fun t => .str (T (quote l)) t) := by
    as_aux_lemma =>
      intro w loose mean mg mb l tk hl
      k_with "in S6" => skip
      k_with "parse_c" => exact parse_c _ _ (by exact Mine.head_told (by omega))
      k_with "sign_c" => exact sign_c _ _
      w_on
      k_fill
      unfold ConV Con; intros; rename_i hret
      have hl1 : l.length ≤ 1000000 := by omega
      have hl2 : (crlf l).length ≤ 1000000 := by have := crlf_len l; omega
      refine wpAny_call ?_
      walk_at "mine enter"
      k_steps
      all_goals (refine ret_S hret (by assumption) ?_ (by assumption); rfl)
      k_with_none
  have read_c : ∀ {w : World} {loose : List PySem.Str} {mean : ExcName → Option Value} {mg mb : PySem.Str → Option Value} (n c : Nat) (tk tk2 : Tok) (hn : n ≤ 1000) (hc : c ≠ 34), ConV (PySem.Challenge.rw_tp0010_01.row.prog) w (Mine.law_w.heap_1_39 w.params) Mine.law_w.view_1_40 loose mean mg mb 4 109 [.int (n : Int) tk, .str (T [c]) tk2] (fun _ => True) (fun t => .int ((n / 2 : Nat) : Int) t) := by
    as_aux_lemma =>
      intro w loose mean mg mb n c tk tk2 hn hc
      k_with "in S7" => skip
      k_with "parse_c" => exact parse_c _ _ (by exact Mine.head_told (by omega))
      k_with "sign_c" => exact sign_c _ _
      k_with "quote_c" => exact quote_c _ _ (by assumption)
      w_on
      k_fill
      unfold ConV Con; intros; rename_i hret
      have hl1 : (T [c]).length = 1 := rfl
      refine wpAny_call ?_
      walk_at "mine enter"
      k_steps
      all_goals exact ret_I hret (by assumption) (count_read hc) (by assumption)
      k_with_none
  have size_c : ∀ {w : World} {loose : List PySem.Str} {mean : ExcName → Option Value} {mg mb : PySem.Str → Option Value} (W : List Nat) (tk : Tok) (hW : W.length ≤ 2), ConV (PySem.Challenge.rw_tp0010_01.row.prog) w (Mine.law_w.heap_1_39 w.params) Mine.law_w.view_1_40 loose mean mg mb 2 95 [.str (T W) tk] (fun _ => True) (fun t => .int ((sizeW W : Nat) : Int) t) := by
    as_aux_lemma =>
      intro w loose mean mg mb W tk hW
      k_with "in S7" => skip
      k_with "parse_c" => exact parse_c _ _ (by exact Mine.head_told (by omega))
      k_with "sign_c" => exact sign_c _ _
      k_with "quote_c" => exact quote_c _ _ (by assumption)
      w_on
      k_fill
      unfold ConV Con; intros; rename_i hret
      refine wpAny_call ?_
      walk_at "mine enter"
      k_with "state" => first | exact size_start | exact size_r (by assumption) (by assumption) (by assumption) (by assumption) | exact size_o (by assumption) (by assumption) (by assumption) (by assumption)
      k_with "pyIter str" => k_state (fun (pre : List Int) (k : Int) => 0 ≤ k ∧ k ≤ 9 ∧ k = sizeI pre) "size"
      k_steps
      k_with_none
      all_goals (refine ret_I hret (by assumption) ?_ (by assumption))
      all_goals (rename _ = ((sizeI _ : Nat) : Int) => hz; rw [hz]; exact congrArg Nat.cast (sizeI_of W))
      k_with_none
  have numbers_c : ∀ {w : World} {loose : List PySem.Str} {mean : ExcName → Option Value} {mg mb : PySem.Str → Option Value} (l : Addr) (vs : List Value) (ns : List Int) (hi : IntsAre vs ns) (hn : ns.length ≤ 63), Con (PySem.Challenge.rw_tp0010_01.row.prog) w (Mine.law_w.heap_1_39 w.params) Mine.law_w.view_1_40 loose mean mg mb 4 88 [.ref l] (fun h => h.IsList l vs.toArray) (ListR fun xs => IntsAre xs (numsOf ns)) := by
    as_aux_lemma =>
      intro w loose mean mg mb l vs ns hi hn
      k_with "in S8" => skip
      k_with "parse_c" => exact parse_c _ _ (by exact Mine.head_told (by omega))
      k_with "sign_c" => exact sign_c _ _
      k_with "quote_c" => exact quote_c _ _ (by assumption)
      k_with "size_c" => exact size_c _ _ (by exact Mine.words_len (by assumption))
      w_on
      k_fill
      unfold Con; intros; rename_i hret
      refine wpAny_call ?_
      walk_at "mine enter"
      k_steps
      rename IntsAre _ (_ ++ _) => hz
      rw [nums_eq] at hz
      exact ret_L hret (by assumption) (by assumption) (by k_mem) (by exact hz) (by assumption)
      k_with_none
  have read_k : ∀ {w : World} {loose : List PySem.Str} {mean : ExcName → Option Value} {mg mb : PySem.Str → Option Value} (k : Int) (n c : Nat) (tk tk2 : Tok) (hk : k = ((n : Nat) : Int)) (hn : n ≤ 1000) (hc : c ≠ 34), ConV (PySem.Challenge.rw_tp0010_01.row.prog) w (Mine.law_w.heap_1_39 w.params) Mine.law_w.view_1_40 loose mean mg mb 4 109 [.int k tk, .str (T [c]) tk2] (fun _ => True) (fun t => .int ((n / 2 : Nat) : Int) t) := by
    as_aux_lemma =>
      intro w loose mean mg mb k n c tk tk2 hk hn hc
      k_with "in S9a" => skip
      k_with "parse_c" => exact parse_c _ _ (by exact Mine.head_told (by omega))
      k_with "sign_c" => exact sign_c _ _
      k_with "quote_c" => exact quote_c _ _ (by assumption)
      k_with "numbers_c" => exact numbers_c
      k_with "size_c" => exact size_c _ _ (by exact Mine.words_len (by assumption))
      subst hk; exact read_c n c tk tk2 hn hc
      k_with_none
  have cut_k : ∀ {w : World} {loose : List PySem.Str} {mean : ExcName → Option Value} {mg mb : PySem.Str → Option Value} (k : Int) (n : Nat) (tk : Tok) (hk : k = ((n : Nat) : Int)) (hn : n < 1000), ConV (PySem.Challenge.rw_tp0010_01.row.prog) w (Mine.law_w.heap_1_39 w.params) Mine.law_w.view_1_40 loose mean mg mb 2 114 [.int k tk] (fun _ => True) (fun t => .int ((n / 3 : Nat) : Int) t) := by
    as_aux_lemma =>
      intro w loose mean mg mb k n tk hk hn
      k_with "in S9a" => skip
      k_with "parse_c" => exact parse_c _ _ (by exact Mine.head_told (by omega))
      k_with "sign_c" => exact sign_c _ _
      k_with "quote_c" => exact quote_c _ _ (by assumption)
      k_with "read_k" => exact read_k _ _ _ _ _ (by assumption) (by exact Nat.le_of_lt (Mine.deeds_lt (by assumption) (by assumption) _ _)) (by exact (Mine.sgn_no _ _).2.2.2)
      k_with "numbers_c" => exact numbers_c
      k_with "size_c" => exact size_c _ _ (by exact Mine.words_len (by assumption))
      subst hk; exact cut_c n tk hn
      k_with_none
  have met_c : ∀ {w : World} {loose : List PySem.Str} {mean : ExcName → Option Value} {mg mb : PySem.Str → Option Value} (W cs : List Nat) (x : Nat) (ns : List Int) (lc ln : Addr) (vc vn : List Value) (tk tk2 : Tok) (hW : W.length ≤ 2) (hc : cs.length ≤ 9) (hcs : ∀ c ∈ cs, c ≤ 100) (hx : x ≤ 4) (hx1 : 1 ≤ x) (hn : ns.length = 12) (hns : ∀ n ∈ ns, 0 ≤ n ∧ n < 1000000)
  (hic : IntsAre vc (cs.map fun (c : Nat) => (c : Int))) (hin : IntsAre vn ns), Con (PySem.Challenge.rw_tp0010_01.row.prog) w (Mine.law_w.heap_1_39 w.params) Mine.law_w.view_1_40 loose mean mg mb 6 119 [.str (T W) tk, .ref lc, .int (x : Nat) tk2, .ref ln] (fun h => h.IsList lc vc.toArray ∧ h.IsList ln vn.toArray) (ListR fun xs => IntsAre xs (metI cs x (W.map fun (c : Nat) => (c : Int)) cs.length)) := by
    as_aux_lemma =>
      intro w loose mean mg mb W cs x ns lc ln vc vn tk tk2 hW hc hcs hx hx1 hn hns hic hin
      k_with "in S9a" => skip
      k_with "parse_c" => exact parse_c _ _ (by exact Mine.head_told (by omega))
      k_with "sign_c" => exact sign_c _ _
      k_with "quote_c" => exact quote_c _ _ (by assumption)
      k_with "read_k" => exact read_k _ _ _ _ _ (by assumption) (by exact Nat.le_of_lt (Mine.deeds_lt (by assumption) (by assumption) _ _)) (by exact (Mine.sgn_no _ _).2.2.2)
      k_with "cut_k" => exact cut_k _ _ _ (by assumption) (by exact Mine.deeds_lt (by assumption) (by assumption) _ _)
      k_with "numbers_c" => exact numbers_c
      k_with "size_c" => exact size_c _ _ (by exact Mine.words_len (by assumption))
      w_on
      k_fill
      unfold Con; intros; rename_i hpre hret
      obtain ⟨hlc, hln⟩ := hpre
      refine wpAny_call ?_
      walk_at "mine enterC"
      k_with "state" => first | (with_reducible exact deed_r (by assumption)) | (with_reducible exact deed_o (by assumption)) | (with_reducible exact q_turn) | (with_reducible assumption) | exact page_start | exact met_start | exact page_done (by assumption) | exact page_turn (by assumption) (by assumption) (by assumption) | exact met_turn2 (by assumption) (by assumption) (by assumption)
      repeat' ((fail_if_success (with_reducible show PyProof.Rows.LCg.CompSrc _ _ _ _ _ _ _ _ _ _ _ _ _ _)); first | (k_unfold; (try dsimp only)) | (k_end; wrow_close) | walk1 | (dsimp only; walk1) | (leave1; try dsimp only))
      refine src_range (n := cs.length) (J := fun i ys => StrsAre ys ((List.range i).map fun j => T [sgn ns j])) rfl (by k_asm) (by k_asm) (by assumption) (by simp) (by omega) .nil ?_ ?_
      · intro i ys t I oI C oC D m₂ h tk E' hi hJ hC hx F N off ne
        (try simp only [LCg.Off3, and_true] at off)
        k_steps
        exact ElEnd.intro (by assumption) (by assumption) (fun p hp => hp) (sgn_step hJ)
      · intro g ys hJ
        repeat' ((fail_if_success (with_reducible show wpAny _ _ (pyIter _) _ _ _)); first | (k_unfold; (try dsimp only)) | (k_end; wrow_close) | walk1 | (dsimp only; walk1) | (leave1; try dsimp only))
        k_state (fun (pre : List Int) (page : PySem.Str) => page = T (pageL cs ns pre.length) ∧ page.length ≤ 120 * pre.length) "page"
        · have hb := cnt_bd hcs kN.toNat
          have hk0 := (kn_lt kEq kLt).1; have hk1 := (kn_lt kEq kLt).2; have hk9 : cs.length ≤ 1000 := Nat.le_trans hc (by decide)
          k_steps
        repeat' ((fail_if_success (with_reducible show wpAny _ _ (pyIter _) _ _ _)); first | (k_unfold; (try dsimp only)) | (k_end; wrow_close) | walk1 | (dsimp only; walk1) | (leave1; try dsimp only))
        have hpl : (pageL cs ns cs.length).length ≤ 1080 := page_1080 hcs hc
        k_state (fun (pre : List Int) (page : PySem.Str) => page = T (qN pre.length (pageL cs ns cs.length))) "page"
        · have hql := qN_ok' hpl hx kLt
          subst kInv
          k_steps
        repeat' ((fail_if_success (with_reducible show wpAny _ _ (call (Value.builtin "str.split") _) _ _ _)); first | (k_unfold; (try dsimp only)) | (k_end; wrow_close) | walk1 | (dsimp only; walk1) | (leave1; try dsimp only))
        rename _ = T (qN (List.length (rangeKs _ _)) _) => hq
        have hpq := page_times hq hx1
        clear hq
        subst hpq
        have hz1 := pageQ_size (ns := ns) hx hcs hc
        have hk9 : cs.length ≤ 1000 := Nat.le_trans hc (by decide)
        walk1
        repeat' ((fail_if_success (with_reducible show wpAny _ _ (pyIter _) _ _ _)); first | (k_unfold; (try dsimp only)) | (k_end; wrow_close) | walk1 | (dsimp only; walk1) | (leave1; try dsimp only))
        k_state (fun (pre met : List Int) => met = metI cs x (W.map fun (c : Nat) => (c : Int)) pre.length) "met"
        · have hk0 := (kn_lt' kEq kLt).1
          have hk1 := (kn_lt' kEq kLt).2
          have hml := met_len kInv kLt hk9
          have hrl := rowD_len cs ns x kN.toNat hcs hx
          rcases Nat.eq_zero_or_pos (cs.getD kN.toNat 0) with hz | hz
          · have hrz := row_z (ns := ns) (x := x) hz
            have hrs := row_lz (ns := ns) (x := x) hz
            repeat' ((fail_if_success (with_reducible show wpAny _ _ (pyIter _) _ _ _)); first | (k_unfold; (try dsimp only)) | (k_end; wrow_close) | walk1 | (dsimp only; walk1) | (leave1; try dsimp only))
            k_state (fun (pre : List Int) (k : Int) => k = ((deedsI (cnt cs x kN.toNat) pre : Nat) : Int)) "count"
            · k_steps
            k_steps
          · have hrz := row_p (ns := ns) hz hx1
            have hrl2 := row_lpN (ns := ns) hcs hx hz hx1
            have hrs := row_lp (ns := ns) hz hx1
            repeat' ((fail_if_success (with_reducible show wpAny _ _ (pyIter _) _ _ _)); first | (k_unfold; (try dsimp only)) | (k_end; wrow_close) | walk1 | (dsimp only; walk1) | (leave1; try dsimp only))
            k_state (fun (pre : List Int) (k : Int) => k = ((deedsI (cnt cs x kN.toNat) pre : Nat) : Int)) "count"
            · k_steps
            k_steps
        k_steps
        have hend := met_end kInv
        subst hend
        exact ret_L hret (by assumption) (by assumption) (List.mem_cons_self ..) (by assumption) (by assumption)
      k_with_none
  k_with "in L1.txt" => skip
  k_with "parse_c" => exact parse_c _ _ (by exact Mine.head_told (by omega))
  k_with "sign_c" => exact sign_c _ _
  k_with "quote_c" => exact quote_c _ _ (by assumption)
  k_with "read_k" => exact read_k _ _ _ _ _ (by assumption) (by exact Nat.le_of_lt (Mine.deeds_lt (by assumption) (by assumption) _ _)) (by exact (Mine.sgn_no _ _).2.2.2)
  k_with "cut_k" => exact cut_k _ _ _ (by assumption) (by exact Mine.deeds_lt (by assumption) (by assumption) _ _)
  k_with "numbers_c" => exact numbers_c
  k_with "size_c" => exact size_c _ _ (by exact Mine.words_len (by assumption))
  k_go0
  all_goals (try k_fold)
  repeat' ((fail_if_success (with_reducible show wpAny _ _ (subscriptTail (PySem.Expr.Name _ _) (PySem.Expr.BinOp _ _ _ _) _ _) _ _ _)); first | (k_unfold; (try dsimp only)) | (k_end; wrow_close) | walk1 | (dsimp only; walk1) | (leave1; try dsimp only))
  refine item_words (by k_asm) (by k_mem) fun W tW hW hzW => ?_
  repeat' ((fail_if_success (with_reducible show wpAny _ _ (subscriptTail (PySem.Expr.Name _ _) (PySem.Expr.BinOp _ _ _ _) _ _) _ _ _)); first | (k_unfold; (try dsimp only)) | (k_end; wrow_close) | walk1 | (dsimp only; walk1) | (leave1; try dsimp only))
  refine item_words (by k_asm) (by k_mem) fun V tV hV hzV => ?_
  have hz1 : 1 ≤ sizeW W := by omega
  repeat' ((fail_if_success (with_reducible show wpAny _ _ (call (Value.builtin "min") _) _ _ _)); first | (k_unfold; (try dsimp only)) | (k_end; wrow_close) | walk1 | (dsimp only; walk1) | (leave1; try dsimp only))
  refine min_K rfl (by k_asm) (by k_asm) hz1 fun c tc h' tk hc4 hcW hc1 F' N' => ?_
  repeat' ((fail_if_success (with_reducible show wpAny _ _ (binaryOp PySem.Operator.Mod _ _) _ _ _)); first | (k_unfold; (try dsimp only)) | (k_end; wrow_close) | walk1 | (dsimp only; walk1) | (leave1; try dsimp only))
  refine mod_K hc1 fun x hxc => ?_
  have hx4 : x + 1 ≤ 4 := by omega
  have hxm : x < sizeW W := by omega
  repeat' ((fail_if_success (with_reducible show PyProof.Rows.LCg.CompSrc _ _ _ _ _ _ _ _ _ _ _ _ _ _)); first | (k_unfold; (try dsimp only)) | (k_end; wrow_close) | walk1 | (dsimp only; walk1) | (leave1; try dsimp only))
  refine src_range1 (n := sizeW W) (J := fun i ys => IntsAre ys (cnA (sizeW V) i)) rfl (by k_asm) (by k_asm) (by assumption) rfl (by omega) .nil ?_ ?_
  · intro i ys t I oI C oC D m₂ h tk E' hi hJ hC hx F N off ne
    (try simp only [LCg.Off3, and_true] at off)
    k_steps
    exact ElEnd.intro (by assumption) (by assumption) (fun p hp => hp) (cnA_step hJ)
  intro g ys hJA
  repeat' ((fail_if_success (with_reducible show wpAny _ _ (call (Value.ref _) _) _ _ _)); first | (k_unfold; (try dsimp only)) | (k_end; wrow_close) | walk1 | (dsimp only; walk1) | (leave1; try dsimp only))
  refine use_met met_c (x := x + 1) (cs := csA (sizeW W) (sizeW V)) (by k_asm) (by k_asm) (by k_asm) (by k_asm) (by first | exact rfl | assumption) (by ktr_room) (by ktr_units) (by k_asm) (by k_mem) (by k_mem) hJA (by assumption) (cnA_eq _ _) rfl hW (by rw [csA_len]; omega) (csA_bd hzW.1 hzV.1) hx4 (by omega) (by assumption) (by assumption) fun a1 xs1 c1 h1 tk1 hm1 F1 N1 o1 => ?_
  simp only [List.forall_mem_cons, List.forall_mem_nil, and_true] at o1
  rw [csA_len] at hm1
  dsimp only
  repeat' ((fail_if_success (with_reducible show PyProof.Rows.LCg.CompSrc _ _ _ _ _ _ _ _ _ _ _ _ _ _)); first | (k_unfold; (try dsimp only)) | (k_end; wrow_close) | walk1 | (dsimp only; walk1) | (leave1; try dsimp only))
  refine src_range1 (n := sizeW V) (J := fun i ys => IntsAre ys (cnB (sizeW W) x i)) rfl (by k_asm) (by k_asm) (by assumption) rfl (by omega) .nil ?_ ?_
  · intro i ys t I oI C oC D m₂ h tk E' hi hJ hC hx F N off ne
    (try simp only [LCg.Off3, and_true] at off)
    k_steps
    exact ElEnd.intro (by assumption) (by assumption) (fun p hp => hp) (cnB_step hxm hJ)
  intro g2 ys2 hJB
  repeat' ((fail_if_success (with_reducible show wpAny _ _ (call (Value.ref _) _) _ _ _)); first | (k_unfold; (try dsimp only)) | (k_end; wrow_close) | walk1 | (dsimp only; walk1) | (leave1; try dsimp only))
  refine use_met met_c (x := 1) (cs := csB (sizeW W) (sizeW V) x) (by k_asm) (by k_asm) (by k_asm) (by k_asm) (by first | exact rfl | assumption) (by ktr_room) (by ktr_units) (by k_asm) (by k_mem) (by k_mem) hJB (by assumption) (cnB_eq _ _ _) rfl hV (by rw [csB_len]; omega) (csB_bd hzW.1 hzV.1) (by omega) (by omega) (by assumption) (by assumption) fun a2 xs2 c2 h2 tk2 hm2 F2 N2 o2 => ?_
  simp only [List.forall_mem_cons, List.forall_mem_nil, and_true] at o2
  rw [csB_len] at hm2
  dsimp only
  have hl1 : (metI (csA (sizeW W) (sizeW V)) (x + 1) (List.map (fun (c : Nat) => (c : Int)) W) (sizeW W)).length ≤ 9 := by unfold metI; rw [List.length_map, List.length_range]; omega
  have hl2 : (metI (csB (sizeW W) (sizeW V) x) 1 (List.map (fun (c : Nat) => (c : Int)) V) (sizeW V)).length ≤ 9 := by unfold metI; rw [List.length_map, List.length_range]; omega
  k_steps
  rename List.Perm _ _ => hp
  rename List.Pairwise _ _ => ho
  rw [decide_eq_true (law_eq hp ho hW hV hx4 hxm)]
  k_steps
  k_with_none
end Mine
end
theorem PySem.Challenge.cw_tp0010_01_holds : PySem.Challenge.rw_tp0010_01.Holds := by
  exact Mine.law_w

import PyProof.Rows.All
import Wide.All
import OpenK.AllK
import Wide.FinOn
import PySem.Challenge.RW_tp0010_03
set_option maxRecDepth 100000
section
open PySem PySem.W PyProof.Rows
namespace Mine
/-! texts as lists of codes -/
abbrev T (l : List Nat) : PySem.Str := ⟨l.toArray⟩
theorem T_len (l : List Nat) : (T l).length = l.length := by simp [T, PySem.Str.length]
theorem T_app (a b : List Nat) : T a ++ T b = T (a ++ b) := PySem.Str.ext' (by simp [T, PySem.Str.cps_append])
theorem T_inj {a b : List Nat} : (T a == T b) = decide (a = b) := by
  rw [Bool.eq_iff_iff]; simp [T]
theorem T_of (x : PySem.Str) : x = T x.cps.toList := PySem.Str.ext' (by simp [T])
theorem T_list (l : List Nat) : (T l).cps.toList = l := by simp [T]
theorem T_one {x : PySem.Str} {c : Nat} : (x == ⟨#[c]⟩) = decide (x.cps.toList = [c]) := by
  conv => lhs; rw [T_of x]
  exact T_inj
theorem item_T {x : PySem.Str} {i : Int} (h0 : 0 ≤ i) (h1 : i < x.length) : ∃ c, Txt.item x i = ⟨#[c]⟩ ∧ x.cps.toList.drop i.toNat = c :: x.cps.toList.drop (i.toNat + 1) := by
  have hn : i.toNat < x.cps.toList.length := by simp [PySem.Str.length] at h1 ⊢; omega
  refine ⟨x.cps.toList[i.toNat], ?_, List.drop_eq_getElem_cons hn⟩
  unfold Txt.item Txt.charAt
  rw [StrLaws.at_nonneg h0 (n := x.cps.toList[i.toNat]) (by simp at hn ⊢)]
  rfl
/-! parse257 behind its head -/
def dirL : List Nat → List Nat
  | [] => []
  | [c] => if c = 34 then [] else [c]
  | c :: d :: r => if c = 34 then (if d = 34 then 34 :: dirL r else []) else c :: dirL (d :: r)
theorem dirL_other {c : Nat} (hc : c ≠ 34) (r : List Nat) : dirL (c :: r) = c :: dirL r := by
  cases r with
  | nil => simp [dirL, hc]
  | cons d r => simp [dirL, hc]
theorem dirL_told (sg : Nat) (hs : sg ≠ 34) (r : List Nat) : ∀ n : Nat, dirL (List.replicate n 34 ++ sg :: 34 :: 32 :: r) = List.replicate (n / 2) 34 ++ (if n % 2 = 0 then [sg] else [])
  | 0 => by simp [dirL_other hs, dirL]
  | 1 => by simp [dirL, hs]
  | n + 2 => by
    have := dirL_told sg hs r n
    have h1 : (n + 2) / 2 = n / 2 + 1 := by omega
    have h2 : (n + 2) % 2 = n % 2 := by omega
    rw [h1, h2]
    simp only [List.replicate_succ, List.cons_append, dirL, if_true]
    rw [this]
structure PInv (x : PySem.Str) (i : Int) (d : PySem.Str) : Prop where
  lo : 5 ≤ i
  hi : i ≤ x.length
  ds : d.length + 5 ≤ i
  eq : d.cps.toList ++ dirL (x.cps.toList.drop i.toNat) = dirL (x.cps.toList.drop 5)
abbrev PAll (x : PySem.Str) (i : Int) (d : PySem.Str) : Prop := 5 ≤ i ∧ i ≤ x.length ∧ d.length + 5 ≤ i ∧ PInv x i d
theorem PInv.all {x : PySem.Str} {i : Int} {d : PySem.Str} (h : PInv x i d) : PAll x i d := ⟨h.lo, h.hi, h.ds, h⟩
theorem nilS : (PySem.Str.ofString "") = ⟨#[]⟩ := by decide +kernel
theorem quoS : (PySem.Str.ofString "\"") = ⟨#[34]⟩ := by decide +kernel
theorem pinv_start {x : PySem.Str} (h : x.length ≤ 100000 ∧ x.cps.toList.take 5 = [50, 53, 55, 32, 34]) : PAll x 5 (PySem.Str.ofString "") := by
  have hl := congrArg List.length h.2
  rw [nilS]
  simp only [List.length_take, Array.length_toList, List.length_cons, List.length_nil] at hl
  exact PInv.all ⟨by omega, by simp only [PySem.Str.length]; omega, by simp [PySem.Str.length], by simp⟩
theorem pinv_c {x : PySem.Str} {i : Int} {d : PySem.Str} (h : PInv x i d) (hi : i < x.length) (hc : (Txt.item x i == PySem.Str.ofString "\"") = false) : PAll x (i + 1) (d ++ Txt.item x i) := by
  obtain ⟨c, e, hd⟩ := item_T (by have := h.lo; omega) hi
  rw [e, quoS, T_one] at hc
  have hc' : c ≠ 34 := by simpa using hc
  have hn : (i + 1).toNat = i.toNat + 1 := by have := h.lo; omega
  refine PInv.all ⟨by have := h.lo; omega, by omega, ?_, ?_⟩
  · have := h.ds; rw [PySem.Str.length_append, e]; simp [PySem.Str.length] at this ⊢; omega
  · have := h.eq
    rw [hd, dirL_other hc'] at this
    rw [e, hn, ← this]; simp [PySem.Str.cps_append]
theorem pinv_q {x : PySem.Str} {i : Int} {d : PySem.Str} (h : PInv x i d) (hi : ¬ (x.length : Int) ≤ i + 1) (hc : (Txt.item x i == PySem.Str.ofString "\"") = true) (hq : (Txt.item x (i + 1) != PySem.Str.ofString "\"") = false) : PAll x (i + 1 + 1) (d ++ Txt.item x i) := by
  obtain ⟨c, e, hd⟩ := item_T (x := x) (i := i) (by have := h.lo; omega) (by omega)
  obtain ⟨c', e', hd'⟩ := item_T (x := x) (i := i + 1) (by have := h.lo; omega) (by omega)
  rw [e, quoS, T_one] at hc
  rw [bne, e', quoS, T_one] at hq
  have hc1 : c = 34 := by simpa using hc
  have hc2 : c' = 34 := by simpa using hq
  subst hc1; subst hc2
  have hn : (i + 1).toNat = i.toNat + 1 := by have := h.lo; omega
  have hn2 : (i + 1 + 1).toNat = i.toNat + 1 + 1 := by have := h.lo; omega
  rw [hn] at hd'
  refine PInv.all ⟨by have := h.lo; omega, by omega, ?_, ?_⟩
  · have := h.ds; rw [PySem.Str.length_append, e]; simp [PySem.Str.length] at this ⊢; omega
  · have := h.eq
    rw [hd, hd'] at this
    simp only [dirL, if_true] at this
    rw [e, hn2, ← this]; simp [PySem.Str.cps_append]
theorem pend {x d : PySem.Str} (h : d.cps.toList = dirL (x.cps.toList.drop 5)) : d = T (dirL (x.cps.toList.drop 5)) := by rw [← h, ← T_of]
theorem pend_0 {x : PySem.Str} {i : Int} {d : PySem.Str} (h : PInv x i d) (hi : ¬ i < x.length) : d = T (dirL (x.cps.toList.drop 5)) := by
  have := h.eq
  have h2 : x.cps.toList.length ≤ i.toNat := by simp [PySem.Str.length] at hi ⊢; omega
  rw [List.drop_eq_nil_of_le h2] at this
  exact pend (by simpa [dirL] using this)
theorem pend_1 {x : PySem.Str} {i : Int} {d : PySem.Str} (h : PInv x i d) (hi : i < x.length) (hj : (x.length : Int) ≤ i + 1) (hc : (Txt.item x i == PySem.Str.ofString "\"") = true) : d = T (dirL (x.cps.toList.drop 5)) := by
  obtain ⟨c, e, hd⟩ := item_T (x := x) (i := i) (by have := h.lo; omega) (by omega)
  rw [e, quoS, T_one] at hc
  have hc1 : c = 34 := by simpa using hc
  subst hc1
  have := h.eq
  have h2 : x.cps.toList.length ≤ i.toNat + 1 := by simp [PySem.Str.length] at hj ⊢; omega
  rw [hd, List.drop_eq_nil_of_le h2] at this
  exact pend (by simpa [dirL] using this)
theorem pend_2 {x : PySem.Str} {i : Int} {d : PySem.Str} (h : PInv x i d) (hi : ¬ (x.length : Int) ≤ i + 1) (hc : (Txt.item x i == PySem.Str.ofString "\"") = true) (hq : (Txt.item x (i + 1) != PySem.Str.ofString "\"") = true) : d = T (dirL (x.cps.toList.drop 5)) := by
  obtain ⟨c, e, hd⟩ := item_T (x := x) (i := i) (by have := h.lo; omega) (by omega)
  obtain ⟨c', e', hd'⟩ := item_T (x := x) (i := i + 1) (by have := h.lo; omega) (by omega)
  rw [e, quoS, T_one] at hc
  rw [bne, e', quoS, T_one] at hq
  have hc1 : c = 34 := by simpa using hc
  have hc2 : c' ≠ 34 := by simpa using hq
  subst hc1
  have hn : (i + 1).toNat = i.toNat + 1 := by have := h.lo; omega
  rw [hn] at hd'
  have := h.eq
  rw [hd, hd'] at this
  exact pend (by simpa [dirL, hc2] using this)
theorem slice_clip (a b n : Nat) : Builtin.Str.strSliceIndices (some (a : Int)) (some (b : Int)) 1 n = Builtin.Str.strSliceIndices (some ((min a n : Nat) : Int)) (some ((min b n : Nat) : Int)) 1 n := by
  have e1 : ¬ ((a : Int) < 0) := by omega
  have e2 : ¬ ((b : Int) < 0) := by omega
  have e3 : ¬ (((min a n : Nat) : Int) < 0) := by omega
  have e4 : ¬ (((min b n : Nat) : Int) < 0) := by omega
  simp only [Builtin.Str.strSliceIndices, e1, e2, e3, e4, if_false]
  have p1 : max 0 (min (a : Int) n) = max 0 (min ((min a n : Nat) : Int) n) := by omega
  have p2 : max 0 (min (b : Int) n) = max 0 (min ((min b n : Nat) : Int) n) := by omega
  simp only [p1, p2, show ((1 : Int) > 0) = True from by simp, if_true]
theorem slice_T (x : PySem.Str) {a b : Nat} (hab : a ≤ b) : Txt.slice x (some (a : Int)) (some (b : Int)) = T ((x.cps.toList.drop a).take (b - a)) := by
  have h : Txt.slice x (some (a : Int)) (some (b : Int)) = Txt.slice x (some ((min a x.length : Nat) : Int)) (some ((min b x.length : Nat) : Int)) := by
    unfold Txt.slice
    rw [slice_clip]
  rw [h]
  have h2 := StrLaws.sliceText_nat x (a := min a x.length) (b := min b x.length) (by omega) (by omega)
  refine Eq.trans (b := StrLaws.sliceText x (some ((min a x.length : Nat) : Int)) (some ((min b x.length : Nat) : Int))) rfl (h2.trans ?_)
  have hl : x.length = x.cps.toList.length := by simp [PySem.Str.length]
  congr 2
  rcases Nat.le_total a x.length with h3 | h3
  · rw [Nat.min_eq_left h3]
    rcases Nat.le_total b x.length with h4 | h4
    · rw [Nat.min_eq_left h4]
    · rw [Nat.min_eq_right h4, List.take_of_length_le (by rw [List.length_drop, ← hl]; omega), List.take_of_length_le (by rw [List.length_drop, ← hl]; omega)]
  · rw [Nat.min_eq_right h3, List.drop_eq_nil_of_le (by omega), List.drop_eq_nil_of_le (by omega)]; simp
theorem slice_to_T (x : PySem.Str) (b : Nat) : Txt.slice x none (some (b : Int)) = T (x.cps.toList.take b) := by
  have := slice_T x (a := 0) (b := b) (by omega)
  simp only [List.drop_zero, Nat.sub_zero] at this
  rw [← this]
  unfold Txt.slice
  rw [StrLaws.sliceIdx_none_lo]; rfl
theorem slice_from_T (x : PySem.Str) (a : Nat) : Txt.slice x (some (a : Int)) none = T (x.cps.toList.drop a) := by
  have hl : x.length = x.cps.toList.length := by simp [PySem.Str.length]
  have h : Txt.slice x (some (a : Int)) none = Txt.slice x (some (a : Int)) (some (x.length : Int)) := by
    unfold Txt.slice
    rw [StrLaws.sliceIdx_none_hi]
  rw [h]
  rcases Nat.le_total a x.length with h3 | h3
  · rw [slice_T x h3, List.take_of_length_le (by simp [PySem.Str.length])]
  · have h5 : Txt.slice x (some (a : Int)) (some (x.length : Int)) = Txt.slice x (some (x.length : Int)) (some (x.length : Int)) := by
      unfold Txt.slice
      rw [slice_clip, Nat.min_eq_right h3, Nat.min_self]
    have h6 : x.cps.toList.drop a = [] := List.drop_eq_nil_of_le (by rw [← hl]; exact h3)
    rw [h5, slice_T x (Nat.le_refl _), h6]; simp
theorem slice_lit (x : PySem.Str) {a b : Nat} {i j : Int} (hi : i = a) (hj : j = b) (hab : a ≤ b) : Txt.slice x (some i) (some j) = T ((x.cps.toList.drop a).take (b - a)) := by
  rw [hi, hj]; exact slice_T x hab
theorem slice_to_lit (x : PySem.Str) {b : Nat} {j : Int} (hj : j = b) : Txt.slice x none (some j) = T (x.cps.toList.take b) := by
  rw [hj]; exact slice_to_T x b
theorem slice_from_lit (x : PySem.Str) {a : Nat} {i : Int} (hi : i = a) : Txt.slice x (some i) none = T (x.cps.toList.drop a) := by
  rw [hi]; exact slice_from_T x a
abbrev Head257 (x : PySem.Str) : Prop := x.length ≤ 100000 ∧ x.cps.toList.take 5 = [50, 53, 55, 32, 34]
theorem head_1 {x : PySem.Str} (hx : Head257 x) : (Txt.slice x none (some 3) != PySem.Str.ofString "257") = false := by
  rw [slice_to_lit x (b := 3) (j := 3) rfl, show (PySem.Str.ofString "257") = T [50, 53, 55] from by decide +kernel, bne, T_inj]
  have := congrArg (List.take 3) hx.2
  simpa [List.take_take] using this
theorem head_2 {x : PySem.Str} (hx : Head257 x) : (Txt.slice x (some 3) (some 5) != PySem.Str.ofString " \"") = false := by
  rw [slice_lit x (a := 3) (b := 5) (i := 3) (j := 5) rfl rfl (by omega), show (PySem.Str.ofString " \"") = T [32, 34] from by decide +kernel, bne, T_inj]
  have := congrArg (List.drop 3) hx.2
  rw [List.drop_take] at this
  simpa using this
/-! the sign -/
def codeN (n : Int) : Nat := ((n.fdiv 3).fmod 55296).toNat
def signN (n : Int) : Nat := if codeN n ∈ [46, 34, 13, 10] then 97 else codeN n
theorem signN_ne (n : Int) : signN n ≠ 46 ∧ signN n ≠ 34 ∧ signN n ≠ 13 ∧ signN n ≠ 10 := by
  unfold signN
  split
  · decide
  · rename_i h
    simp only [List.mem_cons, List.not_mem_nil, or_false, not_or] at h
    exact h
theorem badS : (PySem.Str.ofString ".\"\r\n") = T [46, 34, 13, 10] := by decide +kernel
theorem sign_out {n : Int} (h : (Builtin.Str.occurrences (PySem.Str.ofString ".\"\r\n") { cps := #[((n.fdiv 3).fmod 55296).toNat] } 0 (PySem.Str.ofString ".\"\r\n").length 1).isEmpty = true) : ({ cps := #[((n.fdiv 3).fmod 55296).toNat] } : PySem.Str) = T [signN n] := by
  have h2 := StrLaws.found_one (PySem.Str.ofString ".\"\r\n") ((n.fdiv 3).fmod 55296).toNat
  rw [h, badS, T_list] at h2
  have h3 : ¬ codeN n ∈ [46, 34, 13, 10] := by simpa [codeN] using h2
  unfold signN
  rw [if_neg h3]; rfl
theorem sign_in {n : Int} (h : (Builtin.Str.occurrences (PySem.Str.ofString ".\"\r\n") { cps := #[((n.fdiv 3).fmod 55296).toNat] } 0 (PySem.Str.ofString ".\"\r\n").length 1).isEmpty = false) : PySem.Str.ofString "a" = T [signN n] := by
  have h2 := StrLaws.found_one (PySem.Str.ofString ".\"\r\n") ((n.fdiv 3).fmod 55296).toNat
  rw [h, badS, T_list] at h2
  have h3 : codeN n ∈ [46, 34, 13, 10] := by simpa [codeN] using h2
  unfold signN
  rw [if_pos h3]; decide +kernel
/-! dots -/
theorem mul_T (c n : Nat) : Txt.mul (T [c]) (n : Int) = T (List.replicate n c) := by
  have h : ∀ (k : Nat) (acc : Array Nat), ((List.replicate k #[c]).foldl (· ++ ·) acc) = (acc.toList ++ List.replicate k c).toArray := by
    intro k
    induction k with
    | zero => intro acc; simp
    | succ k ih => intro acc; rw [List.replicate_succ, List.foldl_cons, ih, List.replicate_succ]; simp
  unfold Txt.mul
  split
  · have : n = 0 := by omega
    subst this; rfl
  · split
    · rename_i h2
      simp only [Bool.or_eq_true, beq_iff_eq, T_len, List.length_cons, List.length_nil, Nat.zero_add, Nat.one_ne_zero, or_false] at h2
      have : n = 1 := by omega
      subst this; rfl
    · rw [show (T [c]).cps = #[c] from rfl, Int.toNat_natCast, h]; rfl
theorem dots_mul (n : Nat) : Txt.mul (PySem.Str.ofString ".") (n : Int) = T (List.replicate n 46) := by
  rw [show (PySem.Str.ofString ".") = T [46] from by decide +kernel]; exact mul_T 46 n
theorem sl_11 : Txt.slice (T (List.replicate (0 + 1) 46)) none (some 1) = T [46] := by decide +kernel
theorem sl_12 : Txt.slice (T (List.replicate (0 + 1) 46)) none (some 2) = T [46] := by decide +kernel
theorem sl_13 : Txt.slice (T (List.replicate (0 + 1) 46)) none (some 3) = T [46] := by decide +kernel
theorem sl_21 : Txt.slice (T (List.replicate (0 + 1 + 1) 46)) none (some 1) = T [46] := by decide +kernel
theorem sl_22 : Txt.slice (T (List.replicate (0 + 1 + 1) 46)) none (some 2) = T [46, 46] := by decide +kernel
theorem sl_23 : Txt.slice (T (List.replicate (0 + 1 + 1) 46)) none (some 3) = T [46, 46] := by decide +kernel
theorem sl_31 (k : Nat) : Txt.slice (T (List.replicate (k + 1 + 1 + 1) 46)) none (some 1) = T [46] := by
  rw [slice_to_lit _ (b := 1) (j := 1) rfl, T_list]; simp [List.replicate_succ]
theorem sl_32 (k : Nat) : Txt.slice (T (List.replicate (k + 1 + 1 + 1) 46)) none (some 2) = T [46, 46] := by
  rw [slice_to_lit _ (b := 2) (j := 2) rfl, T_list]; simp [List.replicate_succ]
theorem sl_33 (k : Nat) : Txt.slice (T (List.replicate (k + 1 + 1 + 1) 46)) none (some 3) = T [46, 46, 46] := by
  rw [slice_to_lit _ (b := 3) (j := 3) rfl, T_list]; simp [List.replicate_succ]
theorem sl_f1 : Txt.slice (T (List.replicate (0 + 1) 46)) (some 3) none = T (List.replicate 0 46) := by decide +kernel
theorem sl_f2 : Txt.slice (T (List.replicate (0 + 1 + 1) 46)) (some 1) none = T (List.replicate 1 46) := by decide +kernel
theorem sl_f3 (k : Nat) : Txt.slice (T (List.replicate (k + 1 + 1 + 1) 46)) (some 3) none = T (List.replicate k 46) := by
  rw [slice_from_lit _ (a := 3) (i := 3) rfl, T_list]; simp [List.replicate_succ]
theorem ne_dots (k : Nat) : (T (List.replicate (k + 1) 46) != PySem.Str.ofString "") = true := by
  rw [nilS, bne, show (⟨#[]⟩ : PySem.Str) = T [] from rfl, T_inj]; simp [List.replicate_succ]
/-! reading -/
theorem told_T (n c : Nat) : PySem.Str.ofString "257 \"" ++ Txt.mul (PySem.Str.ofString "\"") (n : Int) ++ T [c] ++ PySem.Str.ofString "\" is it" = T ([50, 53, 55, 32, 34] ++ (List.replicate n 34 ++ c :: [34, 32, 105, 115, 32, 105, 116])) := by
  rw [show (PySem.Str.ofString "257 \"") = T [50, 53, 55, 32, 34] from by decide +kernel, show (PySem.Str.ofString "\"") = T [34] from by decide +kernel, show (PySem.Str.ofString "\" is it") = T [34, 32, 105, 115, 32, 105, 116] from by decide +kernel, mul_T, T_app, T_app, T_app]
  simp
theorem head_told {n c : Nat} (hn : n ≤ 90000) : Head257 (PySem.Str.ofString "257 \"" ++ Txt.mul (PySem.Str.ofString "\"") (n : Int) ++ T [c] ++ PySem.Str.ofString "\" is it") := by
  rw [told_T]
  refine ⟨?_, by simp⟩
  rw [T_len]; simp; omega
theorem dir_told {n c : Nat} (hc : c ≠ 34) : dirL ((PySem.Str.ofString "257 \"" ++ Txt.mul (PySem.Str.ofString "\"") (n : Int) ++ T [c] ++ PySem.Str.ofString "\" is it").cps.toList.drop 5) = List.replicate (n / 2) 34 ++ (if n % 2 = 0 then [c] else []) := by
  rw [told_T, T_list, show (List.drop 5 ([50, 53, 55, 32, 34] ++ (List.replicate n 34 ++ c :: [34, 32, 105, 115, 32, 105, 116]))) = List.replicate n 34 ++ c :: 34 :: 32 :: [105, 115, 32, 105, 116] from by simp]
  exact dirL_told c hc _ n
theorem cnt_rep (n : Nat) : cnt 34 (List.replicate n 34) = (n : Nat) := by
  induction n with
  | zero => rfl
  | succ n ih => rw [List.replicate_succ, cnt_cons, ih, if_pos rfl]; omega
theorem count_told {n c : Nat} (hc : c ≠ 34) : Txt.count (T (List.replicate (n / 2) 34 ++ (if n % 2 = 0 then [c] else []))) (PySem.Str.ofString "\"") = ((n / 2 : Nat) : Int) := by
  rw [quoS, count_is, T_list]
  show cnt 34 _ = _
  rw [cnt_append, cnt_rep]
  split
  · rw [cnt_cons, if_neg hc, cnt_nil]; omega
  · rw [cnt_nil]; omega
theorem count_read {n c : Nat} (hc : c ≠ 34) : Txt.count (T (dirL ((PySem.Str.ofString "257 \"" ++ Txt.mul (PySem.Str.ofString "\"") (n : Int) ++ T [c] ++ PySem.Str.ofString "\" is it").cps.toList.drop 5))) (PySem.Str.ofString "\"") = ((n / 2 : Nat) : Int) := by
  rw [dir_told hc, count_told hc]
end Mine
end
section
open PySem PySem.W PyProof.Rows PySem.Calls
namespace Mine
abbrev Keeps (h h' : Heap) : Prop := ∀ b o, h.get? b = some o → h'.get? b = some o
theorem news_over {h₀ h h' : Heap} {L : Addr} {news : List (Addr × Obj)} (N : News h₀ L h news) (k : Keeps h h') : News h₀ L h' news :=
  fun p hp => ⟨k _ _ (N p hp).1, (N p hp).2⟩
theorem news_more {h₀ h h' : Heap} {L : Addr} {m : PySem.Str → Option Value} {news more : List (Addr × Obj)} (F : Fr h₀ L h m) (N : News h₀ L h news) (k : Keeps h h')
    (hm : ∀ p ∈ more, h'.get? p.1 = some p.2 ∧ h.get? p.1 = none) : News h₀ L h' (more ++ news) := by
  intro p hp
  rcases List.mem_append.mp hp with hp | hp
  · refine ⟨(hm p hp).1, fun q => ?_, ?_⟩
    · obtain ⟨oL, _, _, hL, _⟩ := F.ns
      have := (hm p hp).2
      rw [q, hL] at this; cases this
    · cases e : h₀.get? p.1 with
      | none => rfl
      | some o => have := F.keep _ _ e; rw [(hm p hp).2] at this; cases this
  · exact news_over N k p hp
theorem leave_of {h₀ g : Heap} {L : Addr} {m : PySem.Str → Option Value} {R : Result → Shared → Prop} {v : Value} {s' : Shared} (F : Fr h₀ L g m) (hl : LeaveK h₀ L m g R v s') : R (.ok (.ret v)) s' := by
  obtain ⟨L', m', news', F', N', k⟩ := hl
  refine k (F.after F'.keep) ?_
  have := news_more (news := []) (more := news') F News.nil F'.keep fun p hp => ⟨(N' p hp).1, (N' p hp).2.2⟩
  simpa using this
section
variable {prog : Program} {w : World} {A A₀ : Around} {s : Shared} {K : Frag} {L : Addr} {h₀ base : Heap} {m mg mb : PySem.Str → Option Value} {p : Program} {loose : List PySem.Str} {mean : ExcName → Option Value}
  {env : Env} {outer : List Env} {R : Result → Shared → Prop} {name qual : PySem.Str} {params : Arguments} {body : List Stmt} {scope : Scope} {dV kV doc pm cdv ct oc : Value} {an od : Option Addr} {osl : Array (Option Value)} {f : Addr} {args : Args} {binds : List (PySem.Str × Value)}
theorem enter_def
    (B : Below A₀ base outer h₀) (F : Fr h₀ L s.heap m) (X₀ : K.In h₀) (T : Top p loose mean mg mb h₀) (hA : A.frames = some (env :: outer)) (hf : env.frame = some L) (hke : env.scope.kind = .function)
    (ho : K.lookup f = some ⟨oc, od, .func (fnOf name qual params body scope dV kV doc pm an cdv ct), osl⟩) (hcd : codeIn K cdv qual = true) (hroom : A.depth < recursionLimit)
    (hbind : BindsTo s (fnOf name qual params body scope dV kV doc pm an cdv ct) args binds) (hloc : ∀ y ∈ binds, scope.names.lookup y.1 = some .local)
    (h : ∀ L' h₁, Fr s.heap L' h₁ (fun y => binds.reverse.lookup y) → News s.heap L' h₁ [] → Below A base (env :: outer) s.heap → K.In s.heap → Top p loose mean mg mb s.heap →
      wpAny (model prog w) (A.deeper (envOf qual scope L' f cdv)) (execs body (envOf qual scope L' f cdv))
        (fun fl s' => LeaveK h₀ L m s.heap R (match fl with | .ret v => v | _ => .none) s')
        (fun e s' => wpAny (model prog w) (A.deeper (envOf qual scope L' f cdv)) (leaving (envOf qual scope L' f cdv) e) (fun _ s'' => R (.error e) s'') (fun e' s'' => R (.error e') s'') s')
        { s with heap := h₁, toks := s.toks + binds.length })
    (hco : scope.isCoroutine = false) (hgen : scope.isGenerator = false) (hk : scope.kind = .function)
    (hcell : ∀ x ∈ scope.names, x.2 ≠ .cell) : codeAny (model prog w) A (.call (.ref f) args) R s := by
  have B₁ := pushX B F hf hke
  have X₁ := X₀.keeps F.keep
  refine codeAny_call_def (fd := fnOf name qual params body scope dV kV doc pm an cdv ct) (body := body) (binds := binds) hroom (X₁ _ _ ho) rfl (T.nolimit.keeps F.keep) (codeRec_of X₁ hcd) rfl hbind hcell hloc (fun h₁ hns hk₁ => ?_) hco hgen hk
  exact wpAny_mono (h s.heap.objs.size h₁ ⟨hns, hk₁, Nat.le_refl _⟩ News.nil ⟨hA, B₁.stays, B₁.frames⟩ X₁ (T.keeps F.keep)) (fun fl s' hl => leave_of F hl) fun _ _ y => y
theorem enter_defC
    (B : Below A₀ base outer h₀) (F : Fr h₀ L s.heap m) (X₀ : K.In h₀) (T : Top p loose mean mg mb h₀) (hA : A.frames = some (env :: outer)) (hf : env.frame = some L) (hke : env.scope.kind = .function)
    (ho : K.lookup f = some ⟨oc, od, .func (fnOf name qual params body scope dV kV doc pm an cdv ct), osl⟩) (hcd : codeIn K cdv qual = true) (hroom : A.depth < recursionLimit)
    (hbind : BindsTo s (fnOf name qual params body scope dV kV doc pm an cdv ct) args binds) (hkind : (binds.all fun y => scope.names.lookup y.1 == some .local || scope.names.lookup y.1 == some .cell) = true)
    (hnd : ((cellsFrom 0 scope.names []).map (·.1)).Nodup)
    (h : ∀ L' h₁ tk cells, Fr s.heap L' h₁ (bindL (envOfC qual scope L' f cdv).kindOf binds fun _ => none) → News s.heap L' h₁ cells →
      CellsAre (bindC (envOfC qual scope L' f cdv).kindOf binds fun _ => none) (cellsFrom (L' + 1) scope.names []) cells → Below A base (env :: outer) s.heap → K.In s.heap → Top p loose mean mg mb s.heap →
      wpAny (model prog w) (A.deeper (envOfC qual scope L' f cdv)) (execs body (envOfC qual scope L' f cdv))
        (fun fl s' => LeaveK h₀ L m s.heap R (match fl with | .ret v => v | _ => .none) s')
        (fun e s' => wpAny (model prog w) (A.deeper (envOfC qual scope L' f cdv)) (leaving (envOfC qual scope L' f cdv) e) (fun _ s'' => R (.error e) s'') (fun e' s'' => R (.error e') s'') s')
        { s with heap := h₁, toks := tk })
    (hco : scope.isCoroutine = false) (hgen : scope.isGenerator = false) (hk : scope.kind = .function) : codeAny (model prog w) A (.call (.ref f) args) R s := by
  have B₁ := pushX B F hf hke
  have X₁ := X₀.keeps F.keep
  refine codeAny_call_function hroom (X₁ _ _ ho) rfl hco hgen rfl (codeRec_of X₁ hcd) (hbind _ _ _ _ ?_)
  refine wpAny_newFunctionEnv_cells hk (kindsX hkind _) fun env' he s' x => ?_
  subst he
  refine ⟨(T.nolimit.keeps F.keep).keeps x.toInCall.keep, codeAny_func ?_⟩
  obtain ⟨h₁, tk, rfl, _⟩ := x.done
  have hk₁ := x.toInCall.keep
  obtain ⟨cells, NC, Y⟩ := Cl.news (h₀ := s.heap) (Nat.le_refl _) fun n c hm => ⟨x.cell n c (lookup_of_mem_nodup (cellsFrom_names scope.names 0 (s.heap.objs.size + 1) [] [] rfl ▸ hnd) hm), x.above n c hm⟩
  exact wpAny_mono (h s.heap.objs.size h₁ tk cells ⟨x.toInCall.ns, hk₁, Nat.le_refl _⟩ NC Y ⟨hA, B₁.stays, B₁.frames⟩ X₁ (T.keeps F.keep)) (fun fl s' hl => leave_of F hl) fun _ _ y => y
end
/-- a call of the def at f with vs, whatever stands around it; d: how deep it may go; Pre: what it asks of the heap; R: its value and what it has made -/
def Con (prog : Program) (w : World) (K : Frag) (p : Program) (loose : List PySem.Str) (mean : ExcName → Option Value) (mg mb : PySem.Str → Option Value) (d : Nat) (f : Addr) (vs : List Value) (Pre : Heap → Prop) (R : Value → List (Addr × Obj) → Prop) : Prop :=
  ∀ (dp un : Nat) (gd : Option (List Code)) (cn : PySem.Str) (cs : Scope) (a : Addr) (ccd : Value) (cl : List (PySem.Str × Addr)) (outer : List Env) (A₀ : Around) (base h₀ : Heap) (L : Addr) (m : PySem.Str → Option Value) (s : Shared) (Q E : Value → Shared → Prop),
    Below A₀ base outer h₀ → Fr h₀ L s.heap m → K.In h₀ → Top p loose mean mg mb h₀ → cs.kind = .function →
    dp + d < recursionLimit → un + 30 * d < cLine → Pre s.heap →
    (∀ (v : Value) (more : List (Addr × Obj)) (h' : Heap) (tk' : Nat), R v more → (∀ p ∈ more, h'.get? p.1 = some p.2 ∧ s.heap.get? p.1 = none) → Keeps s.heap h' → Fr h₀ L h' m → Q v { s with heap := h', toks := tk' }) →
    wpAny (model prog w) (ktrTop dp un gd cn cs L a ccd cl outer) (call (.ref f) vs) Q E s
/-- one plain value back, nothing made -/
abbrev ConV (prog : Program) (w : World) (K : Frag) (p : Program) (loose : List PySem.Str) (mean : ExcName → Option Value) (mg mb : PySem.Str → Option Value) (d : Nat) (f : Addr) (vs : List Value) (Pre : Heap → Prop) (R : Tok → Value) : Prop :=
  Con prog w K p loose mean mg mb d f vs Pre (fun v more => more = [] ∧ ∃ t, v = R t)
section
variable {h₀ g h' : Heap} {L L' : Addr} {m m' : PySem.Str → Option Value} {s : Shared} {Q : Value → Shared → Prop} {R : Value → List (Addr × Obj) → Prop} {news' : List (Addr × Obj)} {v : Value} {tk' : Nat}
/-- the end of a body, behind its leave -/
theorem ret_more (hret : ∀ (v : Value) (more : List (Addr × Obj)) (h' : Heap) (tk' : Nat), R v more → (∀ p ∈ more, h'.get? p.1 = some p.2 ∧ s.heap.get? p.1 = none) → Keeps s.heap h' → Fr h₀ L h' m → Q v { s with heap := h', toks := tk' })
    (FC : Fr s.heap L' h' m') (NC : News s.heap L' h' news') (more : List (Addr × Obj)) (hsub : ∀ p ∈ more, p ∈ news') (hR : R v more) (F : Fr h₀ L h' m) : Q v { s with heap := h', toks := tk' } :=
  hret v more h' tk' hR (fun p hp => ⟨(NC p (hsub p hp)).1, (NC p (hsub p hp)).2.2⟩) FC.keep F
theorem ret_val {R : Tok → Value} (hret : ∀ (v : Value) (more : List (Addr × Obj)) (h' : Heap) (tk' : Nat), (more = [] ∧ ∃ t, v = R t) → (∀ p ∈ more, h'.get? p.1 = some p.2 ∧ s.heap.get? p.1 = none) → Keeps s.heap h' → Fr h₀ L h' m → Q v { s with heap := h', toks := tk' })
    (FC : Fr s.heap L' h' m') (hv : ∃ t, v = R t) (F : Fr h₀ L h' m) : Q v { s with heap := h', toks := tk' } :=
  hret v [] h' tk' ⟨rfl, hv⟩ (fun _ hp => nomatch hp) FC.keep F
theorem ret_S {x y : PySem.Str} {t : Tok} (hret : ∀ (v : Value) (more : List (Addr × Obj)) (h' : Heap) (tk' : Nat), (more = [] ∧ ∃ t, v = (fun t => Value.str x t) t) → (∀ p ∈ more, h'.get? p.1 = some p.2 ∧ s.heap.get? p.1 = none) → Keeps s.heap h' → Fr h₀ L h' m → Q v { s with heap := h', toks := tk' })
    (FC : Fr s.heap L' h' m') (e : y = x) (F : Fr h₀ L h' m) : Q (.str y t) { s with heap := h', toks := tk' } := by
  subst e; exact ret_val hret FC ⟨t, rfl⟩ F
theorem ret_I {x y : Int} {t : Tok} (hret : ∀ (v : Value) (more : List (Addr × Obj)) (h' : Heap) (tk' : Nat), (more = [] ∧ ∃ t, v = (fun t => Value.int x t) t) → (∀ p ∈ more, h'.get? p.1 = some p.2 ∧ s.heap.get? p.1 = none) → Keeps s.heap h' → Fr h₀ L h' m → Q v { s with heap := h', toks := tk' })
    (FC : Fr s.heap L' h' m') (e : y = x) (F : Fr h₀ L h' m) : Q (.int y t) { s with heap := h', toks := tk' } := by
  subst e; exact ret_val hret FC ⟨t, rfl⟩ F
end
theorem st_known {M : Model} {A : Around} {Q : Unit → Shared → Prop} {E : Value → Shared → Prop} {s : Shared} {env : Env} {x : PySem.Str} {i j : Int} {t : Tok} (e : i = j) (h : wpAny M A (storeName env x (.int j t)) Q E s) : wpAny M A (storeName env x (.int i t)) Q E s := by
  subst e; exact h
/-- a contract used within a walk: one plain value back -/
theorem use_V {prog : Program} {w : World} {K : Frag} {p : Program} {loose : List PySem.Str} {mean : ExcName → Option Value} {mg mb : PySem.Str → Option Value} {d : Nat} {f : Addr} {vs : List Value} {Pre : Heap → Prop} {R : Tok → Value}
    (c : ConV prog w K p loose mean mg mb d f vs Pre R) {dp un : Nat} {gd : Option (List Code)} {cn : PySem.Str} {cs : Scope} {a : Addr} {ccd : Value} {cl : List (PySem.Str × Addr)} {outer : List Env} {A₀ : Around} {base h₀ : Heap} {L : Addr} {m : PySem.Str → Option Value} {s : Shared} {Q E : Value → Shared → Prop} {news : List (Addr × Obj)}
    (B : Below A₀ base outer h₀) (F : Fr h₀ L s.heap m) (X : K.In h₀) (T : Top p loose mean mg mb h₀) (hk : cs.kind = .function) (hd : dp + d < recursionLimit) (hu : un + 30 * d < cLine) (hp : Pre s.heap) (N : News h₀ L s.heap news)
    (h : ∀ t h' tk', Fr h₀ L h' m → News h₀ L h' news → Q (R t) { s with heap := h', toks := tk' }) :
    wpAny (model prog w) (ktrTop dp un gd cn cs L a ccd cl outer) (call (.ref f) vs) Q E s :=
  c dp un gd cn cs a ccd cl outer A₀ base h₀ L m s Q E B F X T hk hd hu hp fun v more h' tk' hR _ k F' => by
    obtain ⟨_, t, rfl⟩ := hR
    exact h t h' tk' F' (news_over N k)
/-- the same: an object made -/
theorem use_O {prog : Program} {w : World} {K : Frag} {p : Program} {loose : List PySem.Str} {mean : ExcName → Option Value} {mg mb : PySem.Str → Option Value} {d : Nat} {f : Addr} {vs : List Value} {Pre : Heap → Prop} {R : Value → List (Addr × Obj) → Prop}
    (c : Con prog w K p loose mean mg mb d f vs Pre R) {dp un : Nat} {gd : Option (List Code)} {cn : PySem.Str} {cs : Scope} {a : Addr} {ccd : Value} {cl : List (PySem.Str × Addr)} {outer : List Env} {A₀ : Around} {base h₀ : Heap} {L : Addr} {m : PySem.Str → Option Value} {s : Shared} {Q E : Value → Shared → Prop} {news : List (Addr × Obj)}
    (B : Below A₀ base outer h₀) (F : Fr h₀ L s.heap m) (X : K.In h₀) (T : Top p loose mean mg mb h₀) (hk : cs.kind = .function) (hd : dp + d < recursionLimit) (hu : un + 30 * d < cLine) (hp : Pre s.heap) (N : News h₀ L s.heap news)
    (h : ∀ v more h' tk', R v more → Fr h₀ L h' m → News h₀ L h' (more ++ news) → (∀ p ∈ more, ∀ q ∈ news, q.1 ≠ p.1) → Q v { s with heap := h', toks := tk' }) :
    wpAny (model prog w) (ktrTop dp un gd cn cs L a ccd cl outer) (call (.ref f) vs) Q E s :=
  c dp un gd cn cs a ccd cl outer A₀ base h₀ L m s Q E B F X T hk hd hu hp fun v more h' tk' hR hm k F' =>
    h v more h' tk' hR F' (news_more F N k hm) fun p hp q hq e => by
      have h1 := (hm p hp).2
      rw [← e, (N q hq).1] at h1; cases h1
/-- a new list, told by its items -/
abbrev ListR (P : List Value → Prop) : Value → List (Addr × Obj) → Prop := fun v more => ∃ (a : Addr) (xs : List Value) (c : Nat), v = .ref a ∧ P xs ∧ more = [(a, { cls := .type "list", data := .seq xs.toArray c })]
theorem ret_L {h₀ h' : Heap} {L L' : Addr} {m m' : PySem.Str → Option Value} {s : Shared} {Q : Value → Shared → Prop} {P : List Value → Prop} {news' : List (Addr × Obj)} {a : Addr} {xs : List Value} {c : Nat} {tk' : Nat}
    (hret : ∀ (v : Value) (more : List (Addr × Obj)) (h' : Heap) (tk' : Nat), (∃ (a : Addr) (xs : List Value) (c : Nat), v = .ref a ∧ P xs ∧ more = [(a, { cls := .type "list", data := .seq xs.toArray c })]) → (∀ p ∈ more, h'.get? p.1 = some p.2 ∧ s.heap.get? p.1 = none) → Keeps s.heap h' → Fr h₀ L h' m → Q v { s with heap := h', toks := tk' })
    (FC : Fr s.heap L' h' m') (NC : News s.heap L' h' news') (hm : (a, ({ cls := .type "list", data := .seq xs.toArray c } : Obj)) ∈ news') (hP : P xs) (F : Fr h₀ L h' m) : Q (.ref a) { s with heap := h', toks := tk' } :=
  hret _ [(a, _)] h' tk' ⟨a, xs, c, rfl, hP, rfl⟩ (fun p hp => by rw [List.mem_singleton.mp hp]; exact ⟨(NC _ hm).1, (NC _ hm).2.2⟩) FC.keep F
end Mine
end
section
open PySem PySem.W PyProof.Rows PySem.Calls PyProof.Rows.LCg PyProof.Rows.LCt
namespace Mine
section
variable {prog : Program} {w : World} {A : Around} {E : Value → Shared → Prop} {s : Shared} {h₀ : Heap} {L : Addr} {m : PySem.Str → Option Value} {env : Env}
/-- a tuple that the call has made -/
def TupAt (ax : Addr) (its : Array Value) (news : List (Addr × Obj)) : Prop := ∃ o, (ax, o) ∈ news ∧ o.cls = .type "tuple" ∧ ∃ n, o.data = .seq its n
theorem TupAt.tup {h₀ h : Heap} {L ax : Addr} {its : Array Value} {news : List (Addr × Obj)} (x : TupAt ax its news) (N : News h₀ L h news) : h.IsTuple ax its := by
  obtain ⟨o, hm, hc, n, hd⟩ := x
  exact ⟨o, (N _ hm).1, hc, n, hd⟩
def SrcTT (prog : Program) (w : World) (A : Around) (h₀ : Heap) (L : Addr) (m : PySem.Str → Option Value) (env : Env) (ct elt : Expr) (x : PySem.Str) (scope : Scope) (cl : List (PySem.Str × Addr)) (Fin : Shared → List Value → List (Addr × Obj) → Prop) (xv : Value) (s₁ : Shared) : Prop :=
  ∃ ax its news, xv = .ref ax ∧ A.handled = none ∧ Fr h₀ L s₁.heap m ∧ News h₀ L s₁.heap news ∧ TupAt ax its news ∧ its.size ≤ sizeLine ∧
    ∀ s₂ : Shared, (∃ h, s₂ = { s₁ with heap := h }) → CompRestT prog w A h₀ L m env ct elt x scope cl s₂ (TupAt ax its) (fun i v => its[i]? = some v) (Fin s₂) its.size 0 [] news
theorem SrcTT.of {ct elt : Expr} {x : PySem.Str} {scope : Scope} {cl : List (PySem.Str × Addr)} {Fin : Shared → List Value → List (Addr × Obj) → Prop} {ax : Addr} {its : Array Value} {k : Nat} {news : List (Addr × Obj)} {s₁ : Shared}
    (hh : A.handled = none) (F : Fr h₀ L s₁.heap m) (N : News h₀ L s₁.heap news) (hm : (ax, ({ cls := .type "tuple", data := .seq its k } : Obj)) ∈ news) (hsz : its.size ≤ sizeLine)
    (h : ∀ g, CompRestT prog w A h₀ L m env ct elt x scope cl { s₁ with heap := g } (TupAt ax its) (fun i v => its[i]? = some v) (Fin { s₁ with heap := g }) its.size 0 [] news) :
    SrcTT prog w A h₀ L m env ct elt x scope cl Fin (.ref ax) s₁ := ⟨ax, its, news, rfl, hh, F, N, ⟨_, hm, rfl, _, rfl⟩, hsz, fun _ ⟨g, e⟩ => e ▸ h g⟩
theorem tup_st {ax I : Addr} {its : Array Value} : ∀ i (h h' : Heap) (o : Obj) (nw : List (Addr × Obj)), (h.IsTupleIter I ax i ∧ h.IsTuple ax its) → h.get? I = some o → h'.get? I = some o → (∀ b o, h₀.get? b = some o → h'.get? b = some o) → News h₀ L h' nw → TupAt ax its nw → (h'.IsTupleIter I ax i ∧ h'.IsTuple ax its) :=
  fun i h h' o nw st e e' _ N S => ⟨by obtain ⟨o', q, r⟩ := st.1; rw [e] at q; cases q; exact ⟨o, e', r⟩, S.tup N⟩
theorem ListComp_TT {ct elt iter : Expr} {x : PySem.Str} {px : Pos} {scope : Scope} {cl : List (PySem.Str × Addr)} {pos : Pos} {Q : Value → Shared → Prop} (F₀ : Fr h₀ L s.heap m)
    (hclos : closureFor scope env = pure cl) (hcell : ∀ y ∈ scope.names, y.2 ≠ .cell) (hkind : scope.kind = .function)
    (hnames : ∀ y ∈ scope.names, y.2 = .local → scope.names.lookup y.1 = some .local) (hx : scope.names.lookup x = some .local)
    (h : wpAny (model prog w) A (eval iter env) (SrcTT prog w A h₀ L m env ct elt x scope cl (fun s₂ => FinE h₀ L m s₂ Q)) E s)
    (hs : ∀ x, foldedSetIterable iter env x = pure x := by intro _; rfl) :
    wpAny (model prog w) A (eval (.ListComp elt [⟨.Name x px, iter, [ct], 0⟩] scope pos) env) Q E s := by
  rw [eval_ListComp]
  refine wpAny_comprehension_free (use := none) rfl hs hclos hkind hnames (wpAny_mono h (fun xv s₁ h₁ => ?_) fun _ _ e => e)
  obtain ⟨ax, its, news, rfl, hh, F, N, S, hsz, R⟩ := h₁
  have hl := S.tup N
  have hlt : ax < s₁.heap.objs.size := by obtain ⟨_, e, _⟩ := hl; exact Heap.lt_size e
  refine wpAny_pyIter_tuple hl ?_
  have up : ∀ b o, s₁.heap.get? b = some o → (s₁.heap.push { cls := .type "tuple_iterator", data := .fields #[.ref ax, .int 0 0] }).get? b = some o := fun b o e => Heap.get?_push_of_some _ e
  refine block_T (Walks.tuple hh s₁.heap.objs.size ax (Nat.ne_of_lt hlt) its) hsz (fun i h st => by obtain ⟨o, e, _⟩ := st.1; exact ⟨o, e⟩) tup_st hcell hkind hx ⟨⟨_, Heap.get?_push_size _ rfl, rfl, rfl⟩, hl.at fun o e => up _ o e⟩ (fun b hb => ?_)
    (F.keeps up) (N.grown up) (Nat.ne_of_lt F.ns.lt) (next_is_new F) (fun p hp => Nat.ne_of_lt (Heap.lt_size (N p hp).1)) S (R _ ⟨_, rfl⟩) ?_
  · show b < (s₁.heap.push _).objs.size
    rw [Heap.size_push]
    rcases List.mem_cons.mp hb with rfl | hb
    · exact Nat.lt_succ_self _
    · rw [List.mem_singleton.mp hb]; exact Nat.lt_succ_of_lt hlt
  · intro D C h tk m' ys news' F' N' o1 hn hC₀ hD₀ hCL hDL hCD offC fin
    refine ⟨m', hn, fun h'' hs'' => fin D h'' tk (F'.change hs'' hCL hC₀) (fun p hp => ?_) o1⟩
    refine ⟨hs''.extBut _ _ ?_ (N' p hp).1, (N' p hp).2⟩
    rcases List.mem_cons.mp hp with rfl | hp
    · exact Ne.symm hCD
    · exact offC p hp
/-- a turn's end: what stood stands, and one item more -/
def ElEnd (h₀ : Heap) (L : Addr) (m : PySem.Str → Option Value) (s₁ : Shared) (all : List (Addr × Obj)) (J : List Value → Prop) (ys : List Value) (y : Value) (s₂ : Shared) : Prop :=
  ∃ h' tk, s₂ = { s₁ with heap := h', toks := tk } ∧ Fr h₀ L h' m ∧ News h₀ L h' all ∧ J (ys ++ [y])
theorem ElEnd.intro {h₀ h' : Heap} {L : Addr} {m : PySem.Str → Option Value} {s₁ : Shared} {all nn : List (Addr × Obj)} {J : List Value → Prop} {ys : List Value} {y : Value} {tk : Nat} (F : Fr h₀ L h' m) (N : News h₀ L h' nn) (sub : ∀ p ∈ all, p ∈ nn) (hJ : J (ys ++ [y])) :
    ElEnd h₀ L m s₁ all J ys y { s₁ with heap := h', toks := tk } := ⟨h', tk, rfl, F, fun p hp => N p (sub p hp), hJ⟩
theorem rest_U {elt : Expr} {x : PySem.Str} {scope : Scope} {cl : List (PySem.Str × Addr)} {S : List (Addr × Obj) → Prop} {P : Nat → Value → Prop} {Fin : List Value → List (Addr × Obj) → Prop} {n : Nat} {news : List (Addr × Obj)} (J : Nat → List Value → Prop) (hS : S news)
    (step : ∀ i ys v I oI C oC D m₂ h tk (E' : Value → Shared → Prop), i < n → J i ys → P i v → NsObj oC m₂ → m₂ x = some v → Fr h₀ L h m → News h₀ L h ((I, oI) :: (C, oC) :: (D, lst ys) :: news) → Off3 I C D news → ((@Ne Nat I C) ∧ (@Ne Nat I D) ∧ (@Ne Nat C D)) →
      wpAny (model prog w) A (eval elt (compEnvC scope cl C env)) (ElEnd h₀ L m { s with heap := h, toks := tk } ((I, oI) :: (C, oC) :: (D, lst ys) :: news) (J (i + 1)) ys) E' { s with heap := h, toks := tk })
    (fin : ∀ ys, J n ys → Fin ys news) :
    ∀ (k i : Nat) (ys : List Value), i + k = n → J i ys → CompRest prog w A h₀ L m env elt x scope cl s S P Fin k i ys news
  | 0, i, ys, e, hJ => by
    have : i = n := by omega
    exact CompRest.zero (fin ys (this ▸ hJ))
  | k + 1, i, ys, e, hJ => by
    refine CompRest.succ fun v I oI C oC D m₂ h tk E' hv hC hx F N off ne => ?_
    refine wpAny_mono (step i ys v I oI C oC D m₂ h tk E' (by omega) hJ hv hC hx F N off ne) (fun y s₂ q => ?_) fun _ _ z => z
    obtain ⟨h', tk', rfl, F', N', hJ'⟩ := q
    exact CompEnd.intro F' N' news (fun p hp => hp) off hS (rest_U J hS step fin k (i + 1) (ys ++ [y]) (by omega) hJ')
theorem rangeSize_to (n : Nat) : Builtin.Range.rangeSize 0 ((n : Nat) : Int) 1 = ((n : Nat) : Int) := by rw [rangeSize_nat]; simp
theorem small_to {n : Nat} (h : n ≤ 1000000) : Builtin.Range.small 0 ((n : Nat) : Int) 1 = true := small_one (by omega) (by omega) (by omega) (by omega)
theorem src_range {elt : Expr} {x : PySem.Str} {scope : Scope} {cl : List (PySem.Str × Addr)} {Fin : Shared → List Value → List (Addr × Obj) → Prop} {r : Addr} {b : Int} {t u v : Tok} {n : Nat} {news : List (Addr × Obj)} (J : Nat → List Value → Prop)
    (hh : A.handled = none) (F : Fr h₀ L s.heap m) (N : News h₀ L s.heap news) (hr : IsRange s.heap r 0 b 1 t u v) (hb : b = ((n : Nat) : Int)) (hn : n ≤ 1000000) (h0 : J 0 [])
    (step : ∀ i ys (t : Tok) I oI C oC D m₂ h tk (E' : Value → Shared → Prop), i < n → J i ys → NsObj oC m₂ → m₂ x = some (.int ((i : Nat) : Int) t) → Fr h₀ L h m → News h₀ L h ((I, oI) :: (C, oC) :: (D, lst ys) :: news) → Off3 I C D news → ((@Ne Nat I C) ∧ (@Ne Nat I D) ∧ (@Ne Nat C D)) →
      wpAny (model prog w) A (eval elt (compEnvC scope cl C env)) (ElEnd h₀ L m { s with heap := h, toks := tk } ((I, oI) :: (C, oC) :: (D, lst ys) :: news) (J (i + 1)) ys) E' { s with heap := h, toks := tk })
    (fin : ∀ g ys, J n ys → Fin { s with heap := g } ys news) :
    CompSrc prog w A h₀ L m env elt x scope cl Fin (.ref r) s := by
  subst hb
  refine CompSrc.range hh F N hr (small_to hn) (rangeSize_to n) (by rw [sizeLine_eq]; omega) fun g => ?_
  refine rest_U (s := { s with heap := g }) J trivial (fun i ys v I oI C oC D m₂ h tk E' hi hJ hv hC hx F N off ne => ?_) (fin g) n 0 [] (by omega) h0
  obtain ⟨t, rfl⟩ := hv
  rw [Int.zero_add] at hx
  exact step i ys t I oI C oC D m₂ h tk E' hi hJ hC hx F N off ne
theorem strsAre_snoc' {vs : List Value} {ys : List PySem.Str} (h : StrsAre vs ys) (y : PySem.Str) (t : Tok) : StrsAre (vs ++ [.str y t]) (ys ++ [y]) := by
  induction h with
  | nil => exact .cons y t .nil
  | cons z u _ ih => exact .cons z u ih
theorem strsAre_len {vs : List Value} {ys : List PySem.Str} (h : StrsAre vs ys) : vs.length = ys.length := by
  induction h with
  | nil => rfl
  | cons z u _ ih => simp [ih]
theorem strsAre_get {vs : List Value} {ys : List PySem.Str} (h : StrsAre vs ys) : ∀ {k : Nat}, k < ys.length → ∃ t, vs[k]? = some (.str (ys.getD k ⟨#[]⟩) t) := by
  induction h with
  | nil => intro k hk; simp at hk
  | cons z u _ ih =>
    intro k hk
    cases k with
    | zero => exact ⟨u, rfl⟩
    | succ k =>
      obtain ⟨t, e⟩ := ih (by simpa using hk)
      exact ⟨t, by simpa using e⟩
/-- an item of a list of texts that the call has made -/
theorem item_strs {value slice : Expr} {a : Addr} {vs : List Value} {ys : List PySem.Str} {c : Nat} {k : Int} {u : Tok} {news : List (Addr × Obj)} {Q : Value → Shared → Prop} (N : News h₀ L s.heap news) (hm : (a, ({ cls := .type "list", data := .seq vs.toArray c } : Obj)) ∈ news)
    (hS : StrsAre vs ys) (h0 : 0 ≤ k) (h1 : k < ys.length) (hz : ys.length ≤ 1000000) (h : ∀ t, Q (.str (ys.getD k.toNat ⟨#[]⟩) t) s)
    (hs : subscripted slice false (.ref a) (.int k u) = operate [.ref a, .int k u] (getItem (.ref a) (.int k u)) := by with_unfolding_all rfl) :
    wpAny (model prog w) A (subscriptTail value slice (.ref a) (.int k u)) Q E s := by
  have hl : s.heap.IsList a vs.toArray := ⟨_, (N _ hm).1, rfl, _, rfl⟩
  obtain ⟨t, e⟩ := strsAre_get hS (k := k.toNat) (by omega)
  exact tail_any hl.typeIs slot_list_getitem.lookup (wpAny_getItem_list hl h0 (by omega) (by simpa using e) (h t)) hs
/-- an item of a tuple of texts that the call has made -/
theorem item_tstrs {value slice : Expr} {a : Addr} {vs : List Value} {ys : List PySem.Str} {c : Nat} {k : Int} {u : Tok} {news : List (Addr × Obj)} {Q : Value → Shared → Prop} (N : News h₀ L s.heap news) (hm : (a, ({ cls := .type "tuple", data := .seq vs.toArray c } : Obj)) ∈ news)
    (hS : StrsAre vs ys) (h0 : 0 ≤ k) (h1 : k < ys.length) (hz : ys.length ≤ 1000000) (h : ∀ t, Q (.str (ys.getD k.toNat ⟨#[]⟩) t) s)
    (hs : subscripted slice false (.ref a) (.int k u) = operate [.ref a, .int k u] (getItem (.ref a) (.int k u)) := by with_unfolding_all rfl) :
    wpAny (model prog w) A (subscriptTail value slice (.ref a) (.int k u)) Q E s := by
  obtain ⟨t, e⟩ := strsAre_get hS (k := k.toNat) (by omega)
  have hl := strsAre_len hS
  refine item_tupleT (l := vs) (j := k.toNat) ⟨_, (N _ hm).1, rfl, _, rfl⟩ (by omega) (by omega) ?_ e (h t) hs
  exact StrLaws.seqIndex_nonneg h0 (by omega)
end
end Mine
end
section
open PySem PySem.Sre
namespace Mine
theorem op_0 : ops[0]? = some Op.FAILURE := rfl
theorem op_1 : ops[1]? = some Op.SUCCESS := rfl
theorem op_5 : ops[5]? = some Op.ASSERT_NOT := rfl
theorem op_6 : ops[6]? = some Op.AT := rfl
theorem op_7 : ops[7]? = some Op.BRANCH := rfl
theorem op_14 : ops[14]? = some Op.INFO := rfl
theorem op_15 : ops[15]? = some Op.JUMP := rfl
theorem op_16 : ops[16]? = some Op.LITERAL := rfl
theorem exec_lit {m : M} (hw : m.code.getD m.pc 0 = 16) : m.exec =
    if m.pos ≥ m.lim then { m with seen := m.seen.add 16 }.say false else
    if m.text.getD m.pos 0 = m.code.getD (m.pc + 1) 0 then { m with seen := m.seen.add 16, pc := m.pc + 2, pos := m.pos + 1 } else { m with seen := m.seen.add 16 }.say false := by
  have h0 : m.word 0 = 16 := hw
  unfold M.exec
  rw [h0, op_16]
  dsimp only
  split
  · rfl
  · unfold accepts
    rw [hw, op_16]
    dsimp only
    by_cases hc : m.text.getD m.pos 0 = m.code.getD (m.pc + 1) 0
    · rw [if_pos hc]
      simp only [hc, beq_self_eq_true, itemWidth, hw, op_16]
    · rw [if_neg hc]
      have : (m.text.getD m.pos 0 == m.code.getD (m.pc + 1) 0) = false := by simpa using hc
      simp only [this]
theorem exec_at1 {m : M} (hw : m.code.getD m.pc 0 = 6) (hw1 : m.code.getD (m.pc + 1) 0 = 1) : m.exec =
    if m.pos = 0 ∨ m.text.getD (m.pos - 1) 0 = 10 then { m with seen := (m.seen.add 6).add 44, pc := m.pc + 2 } else { m with seen := (m.seen.add 6).add 44 }.say false := by
  have h0 : m.word 0 = 6 := hw
  have h1 : m.word 1 = 1 := hw1
  unfold M.exec
  rw [h0, op_6]
  have h2 : ({ m with seen := m.seen.add 6 } : M).isAt (({ m with seen := m.seen.add 6 } : M).word 1) = .ok (m.pos == 0 || m.text.getD (m.pos - 1) 0 == 10) := by
    rw [show ({ m with seen := m.seen.add 6 } : M).word 1 = 1 from h1]; rfl
  dsimp only
  rw [h2]
  dsimp only
  rw [show ({ m with seen := m.seen.add 6 } : M).word 1 = 1 from h1]
  by_cases hc : m.pos = 0 ∨ m.text.getD (m.pos - 1) 0 = 10
  · rw [if_pos hc]
    have : (m.pos == 0 || m.text.getD (m.pos - 1) 0 == 10) = true := by simpa using hc
    rw [this, if_pos rfl]
  · rw [if_neg hc]
    have : (m.pos == 0 || m.text.getD (m.pos - 1) 0 == 10) = false := by simpa using hc
    rw [this]; rfl
theorem exec_success {m : M} (hw : m.code.getD m.pc 0 = 1) (h : m.outermost = false ∨ (m.wholeText = false ∧ m.pos ≠ m.start)) : m.exec = { m with seen := m.seen.add 1, handed := m.pos }.say true := by
  have h0 : m.word 0 = 1 := hw
  unfold M.exec
  rw [h0, op_1]
  dsimp only
  have : (m.outermost && ((m.wholeText && m.pos != m.lim) || (m.mustAdvance && m.pos == m.start))) = false := by
    rcases h with h | ⟨h1, h2⟩
    · rw [h]; rfl
    · have : (m.pos == m.start) = false := by simpa using h2
      rw [h1, this]; simp
  rw [if_neg (by rw [this]; simp)]
theorem exec_jump {m : M} (hw : m.code.getD m.pc 0 = 15) : m.exec = { m with seen := m.seen.add 15, pc := m.pc + 1 + m.code.getD (m.pc + 1) 0 } := by
  have h0 : m.word 0 = 15 := hw
  unfold M.exec
  rw [h0, op_15]
  rfl
theorem exec_branch {m : M} (hw : m.code.getD m.pc 0 = 7) : m.exec = ({ m with seen := m.seen.add 7 } : M).alternative (m.pc + 1) (({ m with seen := m.seen.add 7 } : M).keep m.inner.isSome) := by
  have h0 : m.word 0 = 7 := hw
  unfold M.exec
  rw [h0, op_7]
theorem exec_assertNot {m : M} (hw : m.code.getD m.pc 0 = 5) (h2 : m.code.getD (m.pc + 2) 0 = 0) : m.exec =
    ({ m with seen := m.seen.add 5 } : M).attempt { ({ m with seen := m.seen.add 5 } : M).frame .lookNot with kept := ({ m with seen := m.seen.add 5 } : M).keep m.inner.isSome } (m.pc + 3) m.pos false := by
  have h0 : m.word 0 = 5 := hw
  unfold M.exec
  rw [h0, op_5]
  dsimp only
  rw [show ({ m with seen := m.seen.add 5 } : M).word 2 = 0 from h2]
  simp

theorem exec_lit_ok {m : M} (hw : m.code.getD m.pc 0 = 16) (hp : m.pos < m.lim) (hc : m.text.getD m.pos 0 = m.code.getD (m.pc + 1) 0) : m.exec = { m with seen := m.seen.add 16, pc := m.pc + 2, pos := m.pos + 1 } := by
  rw [exec_lit hw, if_neg (Nat.not_le.mpr hp), if_pos hc]
theorem exec_lit_no {m : M} (hw : m.code.getD m.pc 0 = 16) (h : m.lim ≤ m.pos ∨ m.text.getD m.pos 0 ≠ m.code.getD (m.pc + 1) 0) : m.exec = { m with seen := m.seen.add 16 }.say false := by
  rw [exec_lit hw]
  by_cases hp : m.pos ≥ m.lim
  · rw [if_pos hp]
  · rw [if_neg hp, if_neg (h.resolve_left hp)]
theorem exec_at1_ok {m : M} (hw : m.code.getD m.pc 0 = 6) (hw1 : m.code.getD (m.pc + 1) 0 = 1) (h : m.pos = 0 ∨ m.text.getD (m.pos - 1) 0 = 10) : m.exec = { m with seen := (m.seen.add 6).add 44, pc := m.pc + 2 } := by
  rw [exec_at1 hw hw1, if_pos h]
theorem exec_at1_no {m : M} (hw : m.code.getD m.pc 0 = 6) (hw1 : m.code.getD (m.pc + 1) 0 = 1) (h : ¬ (m.pos = 0 ∨ m.text.getD (m.pos - 1) 0 = 10)) : m.exec = { m with seen := (m.seen.add 6).add 44 }.say false := by
  rw [exec_at1 hw hw1, if_neg h]

/-! runs -/
def To (k : Nat) (m m' : M) : Prop := M.runFor k m = m'
theorem step_done {m : M} (h : m.outcome.isSome = true) : m.step = m := by unfold M.step; rw [if_pos h]
theorem runFor_done {m : M} (h : m.outcome.isSome = true) : ∀ k, M.runFor k m = m
  | 0 => rfl
  | k + 1 => by unfold M.runFor; rw [if_pos h]
theorem runFor_succ (k : Nat) (m : M) : M.runFor (k + 1) m = M.runFor k m.step := by
  show (if m.outcome.isSome then m else M.runFor k m.step) = _
  split
  · rename_i h; rw [step_done h, runFor_done h]
  · rfl
theorem runFor_add (b : Nat) : ∀ (a : Nat) (m : M), M.runFor (a + b) m = M.runFor b (M.runFor a m)
  | 0, m => by rw [Nat.zero_add]; rfl
  | a + 1, m => by rw [Nat.succ_add, runFor_succ, runFor_succ, runFor_add b a]
theorem To.refl (m : M) : To 0 m m := rfl
theorem To.trans {a b : Nat} {m m' m'' : M} (h : To a m m') (h' : To b m' m'') : To (a + b) m m'' := by
  unfold To at *; rw [runFor_add, h, h']
theorem To.one {m m' : M} (h : m.step = m') : To 1 m m' := by unfold To; rw [runFor_succ, h]; rfl
theorem step_exec {m : M} (ho : m.outcome = none) (ha : m.answer = none) (hp : m.pc < m.code.size) : m.step = m.exec := by
  unfold M.step
  rw [if_neg (by rw [ho]; simp), ha]
  cases m.frames <;> simp only [if_pos hp]
theorem step_nil {m : M} {yes : Bool} (ho : m.outcome = none) (ha : m.answer = some yes) (hf : m.frames = []) : m.step = { m with outcome := some (if yes then .matched else .failed) } := by
  unfold M.step
  rw [if_neg (by rw [ho]; simp), ha, hf]
theorem step_cons {m : M} {yes : Bool} {f : PySem.Sre.Frame} {rest : List PySem.Sre.Frame} (ho : m.outcome = none) (ha : m.answer = some yes) (hf : m.frames = f :: rest) :
    m.step = M.resume { m with answer := none, frames := rest, weight := m.weight - (1 + f.kept.marks.size), pc := f.pc, pos := f.pos, outermost := f.outermost } f yes := by
  unfold M.step
  rw [if_neg (by rw [ho]; simp), ha, hf]
def code1 : Array Nat := #[14, 4, 0, 1, 1, 6, 1, 16, 46, 1]
def code2 : Array Nat := #[14, 9, 4, 1, 2, 16, 10, 16, 13, 0, 7, 7, 16, 13, 16, 10, 15, 18, 5, 16, 10, 15, 13, 11, 16, 13, 5, 5, 0, 16, 10, 1, 15, 2, 0, 1]
/-- an attempt at s -/
def att (code : Array Nat) (body : Nat) (t : Array Nat) (n s : Nat) (ob md : Bool) (sn : Seen) : M :=
  { code, text := t, lim := n, start := s, lastStart := n, wholeText := false, mustAdvance := md, pc := body, pos := s, handed := s, outermost := ob, marks := #[], lastmark := -1, lastindex := -1, loops := #[], inner := none,
    frames := [{ wait := .nextStart, pc := body, pos := s, outermost := ob }], weight := 1, answer := none, seen := sn, outcome := none }
def Hit1 (t : Array Nat) (n q : Nat) : Prop := q < n ∧ (q = 0 ∨ t.getD (q - 1) 0 = 10) ∧ t.getD q 0 = 46
def ans (m : M) (b : Bool) (sn : Seen) : M := { m with answer := some b, seen := sn }
/-- an answer goes to the one frame: yes -/
theorem yes_up {m : M} {code : Array Nat} {body : Nat} {s : Nat} {ob : Bool} (ho : m.outcome = none) (ha : m.answer = some true) (hf : m.frames = [{ wait := .nextStart, pc := body, pos := s, outermost := ob }]) (_hc : m.code = code) :
    ∃ m', To 2 m m' ∧ m'.outcome = some .matched ∧ m'.start = m.start ∧ m'.handed = m.handed := by
  have e1 := step_cons ho ha hf
  refine ⟨_, (To.one e1).trans (To.one (step_nil (yes := true) ?_ ?_ ?_)), ?_, ?_, ?_⟩
  · exact ho
  · rfl
  · rfl
  · rfl
  · rfl
  · rfl
theorem att1_hit {t : Array Nat} {n s : Nat} {ob md : Bool} {sn : Seen} (h : Hit1 t n s) : ∃ m', To 5 (att code1 5 t n s ob md sn) m' ∧ m'.outcome = some .matched ∧ m'.start = s ∧ m'.handed = s + 1 := by
  obtain ⟨h1, h2, h3⟩ := h
  have e1 : (att code1 5 t n s ob md sn).step = { att code1 5 t n s ob md sn with seen := (sn.add 6).add 44, pc := 7 } := by
    rw [step_exec rfl rfl (show 5 < 10 by omega), exec_at1_ok rfl rfl h2]; rfl
  have e2 : ({ att code1 5 t n s ob md sn with seen := (sn.add 6).add 44, pc := 7 } : M).step = { att code1 5 t n s ob md sn with seen := ((sn.add 6).add 44).add 16, pc := 9, pos := s + 1 } := by
    rw [step_exec rfl rfl (show 7 < 10 by omega), exec_lit_ok rfl h1 h3]; rfl
  have e3 : ({ att code1 5 t n s ob md sn with seen := ((sn.add 6).add 44).add 16, pc := 9, pos := s + 1 } : M).step = { att code1 5 t n s ob md sn with seen := (((sn.add 6).add 44).add 16).add 1, pc := 9, pos := s + 1, handed := s + 1, answer := some true } := by
    rw [step_exec rfl rfl (show 9 < 10 by omega), exec_success rfl (.inr ⟨rfl, Nat.succ_ne_self s⟩)]; rfl
  obtain ⟨m', r, a, b, c⟩ := yes_up (m := { att code1 5 t n s ob md sn with seen := (((sn.add 6).add 44).add 16).add 1, pc := 9, pos := s + 1, handed := s + 1, answer := some true }) rfl rfl rfl rfl
  exact ⟨m', (((To.one e1).trans (To.one e2)).trans (To.one e3)).trans r, a, b, c⟩
theorem resume_next_on {m : M} {pc pos : Nat} {ob : Bool} (h : pos < m.lastStart) : M.resume m { wait := .nextStart, pc := pc, pos := pos, outermost := ob } false = ({ m with mustAdvance := false } : M).attemptFrom (pos + 1) false :=
  (show M.resume m { wait := .nextStart, pc := pc, pos := pos, outermost := ob } false = if pos < m.lastStart then ({ m with mustAdvance := false } : M).attemptFrom (pos + 1) false else m.say false from rfl).trans (if_pos h)
theorem resume_next_end {m : M} {pc pos : Nat} {ob : Bool} (h : ¬ pos < m.lastStart) : M.resume m { wait := .nextStart, pc := pc, pos := pos, outermost := ob } false = m.say false :=
  (show M.resume m { wait := .nextStart, pc := pc, pos := pos, outermost := ob } false = if pos < m.lastStart then ({ m with mustAdvance := false } : M).attemptFrom (pos + 1) false else m.say false from rfl).trans (if_neg h)
/-- an answer no at the one frame, code 1 -/
theorem no_up1 {t : Array Nat} {n s pos pc : Nat} {ob md : Bool} {sn : Seen} (h : s < n) : ∃ m', To 1 ({ att code1 5 t n s ob md sn with pc := pc, pos := pos, answer := some false } : M) m' ∧ m' = att code1 5 t n (s + 1) false false sn :=
  ⟨_, To.one (step_cons (yes := false) rfl rfl rfl), (resume_next_on h).trans rfl⟩
theorem no_last1 {t : Array Nat} {n pos pc : Nat} {ob md : Bool} {sn : Seen} : ∃ m', To 2 ({ att code1 5 t n n ob md sn with pc := pc, pos := pos, answer := some false } : M) m' ∧ m'.outcome = some .failed := by
  have e1 := (step_cons (m := ({ att code1 5 t n n ob md sn with pc := pc, pos := pos, answer := some false } : M)) (yes := false) rfl rfl rfl).trans (resume_next_end (Nat.lt_irrefl n))
  exact ⟨_, (To.one e1).trans (To.one (step_nil (yes := false) rfl rfl rfl)), rfl⟩
/-- no hit at s: the answer no, one or two steps on -/
theorem att1_no {t : Array Nat} {n s : Nat} {ob md : Bool} {sn : Seen} (h : ¬ Hit1 t n s) : ∃ k pc pos sn', k ≤ 2 ∧ To k (att code1 5 t n s ob md sn) { att code1 5 t n s ob md sn' with pc := pc, pos := pos, answer := some false } := by
  by_cases h2 : s = 0 ∨ t.getD (s - 1) 0 = 10
  · have e1 : (att code1 5 t n s ob md sn).step = { att code1 5 t n s ob md sn with seen := (sn.add 6).add 44, pc := 7 } := by
      rw [step_exec rfl rfl (show 5 < 10 by omega), exec_at1_ok rfl rfl h2]; rfl
    refine ⟨2, 7, s, ((sn.add 6).add 44).add 16, Nat.le_refl _, (To.one e1).trans (To.one ?_)⟩
    rw [step_exec rfl rfl (show 7 < 10 by omega), exec_lit_no rfl (show n ≤ s ∨ t.getD s 0 ≠ 46 from (Nat.lt_or_ge s n).elim (fun h1 => .inr fun h3 => h ⟨h1, h2, h3⟩) .inl)]; rfl
  · refine ⟨1, 5, s, (sn.add 6).add 44, by omega, To.one ?_⟩
    rw [step_exec rfl rfl (show 5 < 10 by omega), exec_at1_no rfl rfl h2]; rfl
/-- from an attempt at s on: the first hit, or none -/
theorem from1_hit {t : Array Nat} {n p : Nat} (hp : Hit1 t n p) : ∀ (d s : Nat) (ob md : Bool) (sn : Seen), s + d = p → (∀ q, s ≤ q → q < p → ¬ Hit1 t n q) →
    ∃ k m', k ≤ 3 * d + 5 ∧ To k (att code1 5 t n s ob md sn) m' ∧ m'.outcome = some .matched ∧ m'.start = p ∧ m'.handed = p + 1
  | 0, s, ob, md, sn, e, _ => by
    obtain rfl : s = p := by omega
    obtain ⟨m', r⟩ := att1_hit (ob := ob) (md := md) (sn := sn) hp
    exact ⟨5, m', by omega, r⟩
  | d + 1, s, ob, md, sn, e, hn => by
    obtain ⟨k, pc, pos, sn', hk, r⟩ := att1_no (ob := ob) (md := md) (sn := sn) (hn s (Nat.le_refl _) (by omega))
    obtain ⟨m₁, r₁, rfl⟩ := no_up1 (t := t) (n := n) (s := s) (pos := pos) (pc := pc) (ob := ob) (md := md) (sn := sn') (by have := hp.1; omega)
    obtain ⟨k', m', hk', r', o⟩ := from1_hit hp d (s + 1) false false sn' (by omega) (fun q a b => hn q (by omega) b)
    exact ⟨k + 1 + k', m', by omega, (r.trans r₁).trans r', o⟩
theorem from1_none {t : Array Nat} {n : Nat} : ∀ (d s : Nat) (ob md : Bool) (sn : Seen), s + d = n → (∀ q, s ≤ q → ¬ Hit1 t n q) →
    ∃ k m', k ≤ 3 * d + 5 ∧ To k (att code1 5 t n s ob md sn) m' ∧ m'.outcome = some .failed
  | 0, s, ob, md, sn, e, hn => by
    obtain rfl : s = n := by omega
    obtain ⟨k, pc, pos, sn', hk, r⟩ := att1_no (ob := ob) (md := md) (sn := sn) (hn s (Nat.le_refl _))
    obtain ⟨m', r', o⟩ := no_last1 (t := t) (n := s) (pos := pos) (pc := pc) (ob := ob) (md := md) (sn := sn')
    exact ⟨k + 2, m', by omega, r.trans r', o⟩
  | d + 1, s, ob, md, sn, e, hn => by
    obtain ⟨k, pc, pos, sn', hk, r⟩ := att1_no (ob := ob) (md := md) (sn := sn) (hn s (Nat.le_refl _))
    obtain ⟨m₁, r₁, rfl⟩ := no_up1 (t := t) (n := n) (s := s) (pos := pos) (pc := pc) (ob := ob) (md := md) (sn := sn') (by omega)
    obtain ⟨k', m', hk', r', o⟩ := from1_none d (s + 1) false false sn' (by omega) (fun q a => hn q (by omega))
    exact ⟨k + 1 + k', m', by omega, (r.trans r₁).trans r', o⟩
theorem search1_start {t : Array Nat} {n s : Nat} {must : Bool} (h : s < n) : ∃ sn, forSearch code1 t 0 s n must = att code1 5 t n s true must sn := by
  refine ⟨({} : Seen).add 14, ?_⟩
  unfold forSearch
  have e : header code1 = (1, 5) := rfl
  rw [e]
  dsimp only
  rw [if_neg (by simp; omega)]
  rfl
theorem search1_over {t : Array Nat} {n s : Nat} {must : Bool} (h : n ≤ s) : ∃ m', To 1 (forSearch code1 t 0 s n must) m' ∧ m'.outcome = some .failed := by
  unfold forSearch
  have e : header code1 = (1, 5) := rfl
  rw [e]
  dsimp only
  rw [if_pos (by simp; omega)]
  exact ⟨_, To.one rfl, rfl⟩

/-! the second pattern -/
def nbF (pc p : Nat) (ob : Bool) : PySem.Sre.Frame := { wait := .nextBranch, pc := pc, pos := p, outermost := ob }
def lnF (p : Nat) (ob : Bool) : PySem.Sre.Frame := { wait := .lookNot, pc := 26, pos := p, outermost := ob }
def nsF (p : Nat) (ob : Bool) : PySem.Sre.Frame := { wait := .nextStart, pc := 10, pos := p, outermost := ob }
/-- within an attempt at p -/
def inB (t : Array Nat) (n p : Nat) (ob : Bool) (sn : Seen) (pc pos hd : Nat) (oo : Bool) (fs : List PySem.Sre.Frame) (wt : Nat) (an : Option Bool) : M :=
  { att code2 10 t n p ob false sn with pc := pc, pos := pos, handed := hd, outermost := oo, frames := fs, weight := wt, answer := an }
section
variable {t : Array Nat} {n p : Nat} {ob : Bool} {sn : Seen}
theorem b_branch : ∃ sn', To 1 (att code2 10 t n p ob false sn) (inB t n p ob sn' 12 p p ob [nbF 11 p ob, nsF p ob] 2 none) :=
  ⟨sn.add 7, To.one (by rw [step_exec rfl rfl (show 10 < 36 by omega), exec_branch rfl]; rfl)⟩
theorem b_lit_ok {pc pos hd wt : Nat} {oo : Bool} {fs : List PySem.Sre.Frame} (hpc : pc < 36) (hw : code2.getD pc 0 = 16) (hp : pos < n) (hc : t.getD pos 0 = code2.getD (pc + 1) 0) :
    ∃ sn', To 1 (inB t n p ob sn pc pos hd oo fs wt none) (inB t n p ob sn' (pc + 2) (pos + 1) hd oo fs wt none) :=
  ⟨sn.add 16, To.one (by rw [step_exec rfl rfl hpc, exec_lit_ok hw hp hc]; rfl)⟩
theorem b_lit_no {pc pos hd wt : Nat} {oo : Bool} {fs : List PySem.Sre.Frame} (hpc : pc < 36) (hw : code2.getD pc 0 = 16) (h : n ≤ pos ∨ t.getD pos 0 ≠ code2.getD (pc + 1) 0) :
    ∃ sn', To 1 (inB t n p ob sn pc pos hd oo fs wt none) (inB t n p ob sn' pc pos hd oo fs wt (some false)) :=
  ⟨sn.add 16, To.one (by rw [step_exec rfl rfl hpc, exec_lit_no hw h]; rfl)⟩
theorem b_jump {pc pos hd wt : Nat} {oo : Bool} {fs : List PySem.Sre.Frame} (hpc : pc < 36) (hw : code2.getD pc 0 = 15) :
    ∃ sn', To 1 (inB t n p ob sn pc pos hd oo fs wt none) (inB t n p ob sn' (pc + 1 + code2.getD (pc + 1) 0) pos hd oo fs wt none) :=
  ⟨sn.add 15, To.one (by rw [step_exec rfl rfl hpc, exec_jump hw]; rfl)⟩
theorem b_success {pos hd wt : Nat} {oo : Bool} {fs : List PySem.Sre.Frame} (h : pos ≠ p) :
    ∃ sn', To 1 (inB t n p ob sn 35 pos hd oo fs wt none) (inB t n p ob sn' 35 pos pos oo fs wt (some true)) :=
  ⟨sn.add 1, To.one (by rw [step_exec rfl rfl (show 35 < 36 by omega), exec_success rfl (.inr ⟨rfl, h⟩)]; rfl)⟩
/-- the branch's next way -/
theorem b_next {pc pos hd : Nat} {oo : Bool} {k : Nat} (hk : k = 11 ∨ k = 18) :
    To 1 (inB t n p ob sn pc pos hd oo [nbF k p ob, nsF p ob] 2 (some false)) (inB t n p ob sn (k + code2.getD k 0 + 1) p p ob [nbF (k + code2.getD k 0) p ob, nsF p ob] 2 none) := by
  refine To.one ((step_cons (yes := false) rfl rfl rfl).trans ?_)
  rcases hk with rfl | rfl <;> rfl
theorem b_look {pos hd : Nat} {k : Nat} : ∃ sn', To 1 (inB t n p ob sn 26 pos hd ob [nbF k p ob, nsF p ob] 2 none) (inB t n p ob sn' 29 pos pos false [lnF pos ob, nbF k p ob, nsF p ob] 3 none) :=
  ⟨sn.add 5, To.one (by rw [step_exec rfl rfl (show 26 < 36 by omega), exec_assertNot rfl rfl]; rfl)⟩
theorem b_unlook {pc pos pos' hd : Nat} {k : Nat} : To 1 (inB t n p ob sn pc pos hd false [lnF pos' ob, nbF k p ob, nsF p ob] 3 (some false)) (inB t n p ob sn 32 pos' hd ob [nbF k p ob, nsF p ob] 2 none) :=
  To.one ((step_cons (yes := false) rfl rfl rfl).trans rfl)
theorem b_yes {pos hd k : Nat} {oo : Bool} : ∃ m', To 3 (inB t n p ob sn 35 pos hd oo [nbF k p ob, nsF p ob] 2 (some true)) m' ∧ m'.outcome = some .matched ∧ m'.start = p ∧ m'.handed = hd := by
  have e1 : (inB t n p ob sn 35 pos hd oo [nbF k p ob, nsF p ob] 2 (some true)).step = inB t n p ob sn k p hd ob [nsF p ob] 1 (some true) := (step_cons (yes := true) rfl rfl rfl).trans rfl
  have e2 : (inB t n p ob sn k p hd ob [nsF p ob] 1 (some true)).step = inB t n p ob sn 10 p hd ob [] 0 (some true) := (step_cons (yes := true) rfl rfl rfl).trans rfl
  exact ⟨_, ((To.one e1).trans (To.one e2)).trans (To.one (step_nil (yes := true) rfl rfl rfl)), rfl, rfl, rfl⟩
end
/-- the width of the line end at p: 0 if there is none -/
def wid (t : Array Nat) (n p : Nat) : Nat := if t.getD p 0 = 13 then (if p + 1 < n ∧ t.getD (p + 1) 0 = 10 then 2 else 1) else 1
def Hit2 (t : Array Nat) (n q : Nat) : Prop := q < n ∧ (t.getD q 0 = 10 ∨ t.getD q 0 = 13)
theorem att2_hit {t : Array Nat} {n p : Nat} {ob : Bool} {sn : Seen} (h : Hit2 t n p) : ∃ k m', k ≤ 20 ∧ To k (att code2 10 t n p ob false sn) m' ∧ m'.outcome = some .matched ∧ m'.start = p ∧ m'.handed = p + wid t n p := by
  obtain ⟨hp, hc⟩ := h
  obtain ⟨s1, r1⟩ := b_branch (t := t) (n := n) (p := p) (ob := ob) (sn := sn)
  by_cases h13 : t.getD p 0 = 13
  · obtain ⟨s2, r2⟩ := b_lit_ok (p := p) (ob := ob) (sn := s1) (hd := p) (wt := 2) (oo := ob) (fs := [nbF 11 p ob, nsF p ob]) (pc := 12) (by omega) rfl hp (show t.getD p 0 = 13 from h13)
    by_cases h10 : p + 1 < n ∧ t.getD (p + 1) 0 = 10
    · obtain ⟨s3, r3⟩ := b_lit_ok (p := p) (ob := ob) (sn := s2) (hd := p) (wt := 2) (oo := ob) (fs := [nbF 11 p ob, nsF p ob]) (pc := 14) (by omega) rfl h10.1 (show t.getD (p + 1) 0 = 10 from h10.2)
      obtain ⟨s4, r4⟩ := b_jump (t := t) (n := n) (p := p) (ob := ob) (sn := s3) (pos := p + 1 + 1) (hd := p) (wt := 2) (oo := ob) (fs := [nbF 11 p ob, nsF p ob]) (pc := 16) (by omega) rfl
      obtain ⟨s5, r5⟩ := b_success (t := t) (n := n) (p := p) (ob := ob) (sn := s4) (pos := p + 1 + 1) (hd := p) (wt := 2) (oo := ob) (fs := [nbF 11 p ob, nsF p ob]) (by omega)
      obtain ⟨m', r6, a, b, c⟩ := b_yes (t := t) (n := n) (p := p) (ob := ob) (sn := s5) (pos := p + 1 + 1) (hd := p + 1 + 1) (k := 11) (oo := ob)
      refine ⟨_, m', ?_, ((((r1.trans r2).trans r3).trans r4).trans r5).trans r6, a, b, ?_⟩
      · omega
      · rw [c]; unfold wid; rw [if_pos h13, if_pos h10]
    · obtain ⟨s3, r3⟩ := b_lit_no (t := t) (n := n) (p := p) (ob := ob) (sn := s2) (pos := p + 1) (hd := p) (wt := 2) (oo := ob) (fs := [nbF 11 p ob, nsF p ob]) (pc := 14) (by omega) rfl
        (show n ≤ p + 1 ∨ t.getD (p + 1) 0 ≠ 10 from (Nat.lt_or_ge (p + 1) n).elim (fun a => .inr fun b => h10 ⟨a, b⟩) .inl)
      have r4 := b_next (t := t) (n := n) (p := p) (ob := ob) (sn := s3) (pc := 14) (pos := p + 1) (hd := p) (oo := ob) (k := 11) (.inl rfl)
      obtain ⟨s5, r5⟩ := b_lit_no (t := t) (n := n) (p := p) (ob := ob) (sn := s3) (pos := p) (hd := p) (wt := 2) (oo := ob) (fs := [nbF 18 p ob, nsF p ob]) (pc := 19) (by omega) rfl
        (show n ≤ p ∨ t.getD p 0 ≠ 10 from .inr (by rw [h13]; decide))
      have r6 := b_next (t := t) (n := n) (p := p) (ob := ob) (sn := s5) (pc := 19) (pos := p) (hd := p) (oo := ob) (k := 18) (.inr rfl)
      obtain ⟨s7, r7⟩ := b_lit_ok (p := p) (ob := ob) (sn := s5) (hd := p) (wt := 2) (oo := ob) (fs := [nbF 23 p ob, nsF p ob]) (pc := 24) (by omega) rfl hp (show t.getD p 0 = 13 from h13)
      obtain ⟨s8, r8⟩ := b_look (t := t) (n := n) (p := p) (ob := ob) (sn := s7) (pos := p + 1) (hd := p) (k := 23)
      obtain ⟨s9, r9⟩ := b_lit_no (t := t) (n := n) (p := p) (ob := ob) (sn := s8) (pos := p + 1) (hd := p + 1) (wt := 3) (oo := false) (fs := [lnF (p + 1) ob, nbF 23 p ob, nsF p ob]) (pc := 29) (by omega) rfl
        (show n ≤ p + 1 ∨ t.getD (p + 1) 0 ≠ 10 from (Nat.lt_or_ge (p + 1) n).elim (fun a => .inr fun b => h10 ⟨a, b⟩) .inl)
      have r10 := b_unlook (t := t) (n := n) (p := p) (ob := ob) (sn := s9) (pc := 29) (pos := p + 1) (pos' := p + 1) (hd := p + 1) (k := 23)
      obtain ⟨s11, r11⟩ := b_jump (t := t) (n := n) (p := p) (ob := ob) (sn := s9) (pos := p + 1) (hd := p + 1) (wt := 2) (oo := ob) (fs := [nbF 23 p ob, nsF p ob]) (pc := 32) (by omega) rfl
      obtain ⟨s12, r12⟩ := b_success (t := t) (n := n) (p := p) (ob := ob) (sn := s11) (pos := p + 1) (hd := p + 1) (wt := 2) (oo := ob) (fs := [nbF 23 p ob, nsF p ob]) (by omega)
      obtain ⟨m', r13, a, b, c⟩ := b_yes (t := t) (n := n) (p := p) (ob := ob) (sn := s12) (pos := p + 1) (hd := p + 1) (k := 23) (oo := ob)
      refine ⟨_, m', ?_, (((((((((((r1.trans r2).trans r3).trans r4).trans r5).trans r6).trans r7).trans r8).trans r9).trans r10).trans r11).trans r12).trans r13, a, b, ?_⟩
      · omega
      · rw [c]; unfold wid; rw [if_pos h13, if_neg h10]
  · have hc10 : t.getD p 0 = 10 := hc.resolve_right h13
    obtain ⟨s2, r2⟩ := b_lit_no (t := t) (n := n) (p := p) (ob := ob) (sn := s1) (pos := p) (hd := p) (wt := 2) (oo := ob) (fs := [nbF 11 p ob, nsF p ob]) (pc := 12) (by omega) rfl (show n ≤ p ∨ t.getD p 0 ≠ 13 from .inr h13)
    have r3 := b_next (t := t) (n := n) (p := p) (ob := ob) (sn := s2) (pc := 12) (pos := p) (hd := p) (oo := ob) (k := 11) (.inl rfl)
    obtain ⟨s4, r4⟩ := b_lit_ok (p := p) (ob := ob) (sn := s2) (hd := p) (wt := 2) (oo := ob) (fs := [nbF 18 p ob, nsF p ob]) (pc := 19) (by omega) rfl hp (show t.getD p 0 = 10 from hc10)
    obtain ⟨s5, r5⟩ := b_jump (t := t) (n := n) (p := p) (ob := ob) (sn := s4) (pos := p + 1) (hd := p) (wt := 2) (oo := ob) (fs := [nbF 18 p ob, nsF p ob]) (pc := 21) (by omega) rfl
    obtain ⟨s6, r6⟩ := b_success (t := t) (n := n) (p := p) (ob := ob) (sn := s5) (pos := p + 1) (hd := p) (wt := 2) (oo := ob) (fs := [nbF 18 p ob, nsF p ob]) (by omega)
    obtain ⟨m', r7, a, b, c⟩ := b_yes (t := t) (n := n) (p := p) (ob := ob) (sn := s6) (pos := p + 1) (hd := p + 1) (k := 18) (oo := ob)
    refine ⟨_, m', ?_, (((((r1.trans r2).trans r3).trans r4).trans r5).trans r6).trans r7, a, b, ?_⟩
    · omega
    · rw [c]; unfold wid; rw [if_neg h13]
/-! the first set -/
theorem inSet2 (c : Nat) (sn : Seen) : ∃ sn', inSet code2 c code2.size 5 true sn = .ok (decide (c = 10 ∨ c = 13), sn') := by
  have e : inSet code2 c code2.size 5 true sn = if (c == 10) = true then .ok (true, sn.add 16) else if (c == 13) = true then .ok (true, (sn.add 16).add 16) else .ok (false, ((sn.add 16).add 16).add 0) := rfl
  by_cases h1 : c = 10
  · exact ⟨sn.add 16, by rw [e, if_pos (by simp [h1])]; simp [h1]⟩
  · by_cases h2 : c = 13
    · exact ⟨(sn.add 16).add 16, by rw [e, if_neg (by simpa using h1), if_pos (by simp [h2])]; simp [h2]⟩
    · exact ⟨((sn.add 16).add 16).add 0, by rw [e, if_neg (by simpa using h1), if_neg (by simpa using h2)]; simp [h1, h2]⟩
theorem admitted_hit {m : M} {t : Array Nat} {n p : Nat} (hc : m.code = code2) (ht : m.text = t) (hn : m.lim = n) (hp : Hit2 t n p) : ∀ (d s fuel : Nat) (sn : Seen), s + d = p → d < fuel → (∀ q, s ≤ q → q < p → ¬ Hit2 t n q) →
    ∃ sn', M.admitted m fuel s sn = .ok (some p, sn')
  | d, s, 0, sn, _, hf, _ => by omega
  | 0, s, fuel + 1, sn, e, _, _ => by
    obtain rfl : s = p := by omega
    obtain ⟨sn', e'⟩ := inSet2 (t.getD s 0) sn
    refine ⟨sn', ?_⟩
    unfold M.admitted
    rw [if_neg (by rw [hn]; exact Nat.not_le.mpr hp.1), hc, ht, e', decide_eq_true hp.2]
  | d + 1, s, fuel + 1, sn, e, hf, hno => by
    obtain ⟨sn₁, e₁⟩ := inSet2 (t.getD s 0) sn
    obtain ⟨sn', e'⟩ := admitted_hit hc ht hn hp d (s + 1) fuel sn₁ (by omega) (by omega) (fun q a b => hno q (by omega) b)
    refine ⟨sn', ?_⟩
    unfold M.admitted
    have hlt : s < n := by have := hp.1; omega
    rw [if_neg (by rw [hn]; exact Nat.not_le.mpr hlt), hc, ht, e₁, decide_eq_false (fun h => hno s (Nat.le_refl _) (by omega) ⟨hlt, h⟩)]
    exact e'
theorem admitted_none {m : M} {t : Array Nat} {n : Nat} (hc : m.code = code2) (ht : m.text = t) (hn : m.lim = n) : ∀ (fuel s : Nat) (sn : Seen), (∀ q, s ≤ q → ¬ Hit2 t n q) →
    ∃ sn', M.admitted m fuel s sn = .ok (none, sn')
  | 0, s, sn, _ => ⟨sn, rfl⟩
  | fuel + 1, s, sn, hno => by
    unfold M.admitted
    by_cases h : s ≥ m.lim
    · exact ⟨sn, by rw [if_pos h]⟩
    · obtain ⟨sn₁, e₁⟩ := inSet2 (t.getD s 0) sn
      obtain ⟨sn', e'⟩ := admitted_none hc ht hn fuel (s + 1) sn₁ (fun q a => hno q (by omega))
      refine ⟨sn', ?_⟩
      rw [if_neg h, hc, ht, e₁, decide_eq_false (fun h' => hno s (Nat.le_refl _) ⟨by omega, h'⟩)]
      exact e'
def m02 (t : Array Nat) (n s : Nat) (must : Bool) : M := { code := code2, text := t, lim := n, start := s, lastStart := n, pc := 10, pos := s, handed := s, marks := #[], mustAdvance := must, seen := ({} : Seen).add 14 }
theorem fs2 {t : Array Nat} {n s : Nat} {must : Bool} (h : s < n) : forSearch code2 t 0 s n must = M.attemptFrom (m02 t n s must) s true := by
  unfold forSearch
  rw [show header code2 = (1, 10) from rfl]
  dsimp only
  rw [if_neg (by simp; omega)]
  rfl
theorem af2 {t : Array Nat} {n s : Nat} {must : Bool} : M.attemptFrom (m02 t n s must) s true = (match M.admitted (m02 t n s must) (n + 1 - s) s (({} : Seen).add 14) with
    | .ok (some s', seen) => ({ m02 t n s must with mustAdvance := false, seen } : M).attemptAt s' true
    | .ok (none, seen) => ({ m02 t n s must with seen } : M).say false
    | .error why => (m02 t n s must).stick why) := by
  unfold M.attemptFrom
  rw [if_neg (by rw [show (m02 t n s must).hasFirstSet = true from rfl]; simp)]
  rfl
theorem search2_hit {t : Array Nat} {n s p : Nat} {must : Bool} (hp : Hit2 t n p) (hs : s ≤ p) (hno : ∀ q, s ≤ q → q < p → ¬ Hit2 t n q) :
    ∃ k m', k ≤ 20 ∧ To k (forSearch code2 t 0 s n must) m' ∧ m'.outcome = some .matched ∧ m'.start = p ∧ m'.handed = p + wid t n p := by
  have hlt := hp.1
  obtain ⟨sn', e'⟩ := admitted_hit (m := m02 t n s must) (t := t) (n := n) rfl rfl rfl hp (p - s) s (n + 1 - s) (({} : Seen).add 14) (by omega) (by omega) hno
  rw [fs2 (by omega), af2, e']
  exact att2_hit (ob := true) (sn := sn') hp
theorem search2_none {t : Array Nat} {n s : Nat} {must : Bool} (hno : ∀ q, s ≤ q → ¬ Hit2 t n q) :
    ∃ k m', k ≤ 20 ∧ To k (forSearch code2 t 0 s n must) m' ∧ m'.outcome = some .failed := by
  by_cases h : s < n
  · obtain ⟨sn', e'⟩ := admitted_none (m := m02 t n s must) (t := t) (n := n) rfl rfl rfl (n + 1 - s) s (({} : Seen).add 14) hno
    rw [fs2 h, af2, e']
    exact ⟨1, _, by omega, To.one (step_nil (yes := false) rfl rfl rfl), rfl⟩
  · unfold forSearch
    rw [show header code2 = (1, 10) from rfl]
    dsimp only
    rw [if_pos (by simp; omega)]
    exact ⟨1, _, by omega, To.one rfl, rfl⟩
theorem search1_hit {t : Array Nat} {n s p : Nat} {must : Bool} (hp : Hit1 t n p) (hs : s ≤ p) (hno : ∀ q, s ≤ q → q < p → ¬ Hit1 t n q) :
    ∃ k m', k ≤ 3 * n + 20 ∧ To k (forSearch code1 t 0 s n must) m' ∧ m'.outcome = some .matched ∧ m'.start = p ∧ m'.handed = p + 1 := by
  have hlt := hp.1
  obtain ⟨sn, e⟩ := search1_start (t := t) (n := n) (s := s) (must := must) (by omega)
  rw [e]
  obtain ⟨k, m', hk, r⟩ := from1_hit hp (p - s) s true must sn (by omega) hno
  exact ⟨k, m', by omega, r⟩
theorem search1_none {t : Array Nat} {n s : Nat} {must : Bool} (hno : ∀ q, s ≤ q → ¬ Hit1 t n q) :
    ∃ k m', k ≤ 3 * n + 20 ∧ To k (forSearch code1 t 0 s n must) m' ∧ m'.outcome = some .failed := by
  by_cases h : s < n
  · obtain ⟨sn, e⟩ := search1_start (t := t) (n := n) (s := s) (must := must) h
    rw [e]
    obtain ⟨k, m', hk, r⟩ := from1_none (n - s) s true must sn (by omega) hno
    exact ⟨k, m', by omega, r⟩
  · obtain ⟨m', r⟩ := search1_over (t := t) (n := n) (s := s) (must := must) (Nat.not_lt.mp h)
    exact ⟨1, m', by omega, r⟩
end Mine
end
section
open PySem PySem.W PyProof.Rows PySem.Calls PySem.Builtin PySem.Builtin.Re
namespace Mine
section
variable {M : Model} {A : Around} {E : Value → Shared → Prop} {s : Shared}
theorem wp_drive {m' : Sre.M} (ho : m'.outcome.isSome = true) {Q : Sre.M → Shared → Prop} (hQ : Q m' s) : ∀ (turns k : Nat) (m : Sre.M), To k m m' → k ≤ 4 * turns → 0 < turns → wpAny M A (reDrive turns m) Q E s
  | 0, _, _, _, _, h0 => by omega
  | turns + 1, k, m, r, hk, _ => by
    unfold reDrive
    have e4 : ∀ j, Sre.M.runFor (k + j) m = m' := fun j => by rw [runFor_add, r, runFor_done ho]
    by_cases h1 : (m.runFor reTurnSteps).outcome.isSome = true
    · have : m.runFor reTurnSteps = m' := by
        have a := runFor_done h1 k
        rw [← runFor_add, Nat.add_comm, e4] at a
        exact a.symm
      dsimp only
      rw [if_pos h1, this]
      exact wpAny_pure hQ
    · dsimp only
      rw [if_neg h1]
      refine wpAny_bind (wpAny_rule ?_)
      have hlt : 4 < k := by
        rcases Nat.lt_or_ge 4 k with h | h
        · exact h
        · exfalso
          apply h1
          have : m.runFor reTurnSteps = m' := by
            have a := e4 (4 - k)
            rwa [Nat.add_sub_cancel' h] at a
          rw [this]; exact ho
      refine wp_drive ho hQ turns (k - 4) _ ?_ (by omega) (by omega)
      unfold To
      rw [← runFor_add, show reTurnSteps + (k - 4) = k from by unfold reTurnSteps; omega]
      exact r
theorem wp_forNil {f : Nat → PUnit → Sem (ForInStep PUnit)} (hf : ∀ (i : Nat) (Q : ForInStep PUnit → Shared → Prop), Q (.yield PUnit.unit) s → wpAny M A (f i PUnit.unit) Q E s) {Q : PUnit → Shared → Prop} (hQ : Q PUnit.unit s) :
    ∀ l : List Nat, wpAny M A (forIn l PUnit.unit f) Q E s
  | [] => by rw [List.forIn_nil]; exact wpAny_pure hQ
  | i :: l => by
    rw [List.forIn_cons]
    refine wpAny_bind (hf i _ ?_)
    exact wp_forNil hf hQ l
theorem wp_runToEnd {m m' : Sre.M} {k : Nat} (r : To k m m') (hk : k ≤ 4 * 2 ^ 64) {Q : Option Sre.M → Shared → Prop} (ho : (m'.outcome = some .matched ∧ Q (some m') s) ∨ (m'.outcome = some .failed ∧ Q none s)) : wpAny M A (reRunToEnd m) Q E s := by
  unfold reRunToEnd
  refine wpAny_bind (wp_drive (m' := m') (by rcases ho with h | h <;> rw [h.1] <;> rfl) ?_ _ k m r hk (by omega))
  refine wpAny_bind (wp_forNil ?_ ?_ _)
  · intro i Q hQ
    split
    · exact wpAny_bind (wpAny_rule (wpAny_pure hQ))
    · exact wpAny_pure hQ
  · rcases ho with h | h
    · rw [h.1]; exact wpAny_pure h.2
    · rw [h.1]; exact wpAny_pure h.2
end
end Mine
end
section
open PySem PySem.W PyProof.Rows PySem.Calls PySem.Builtin PySem.Builtin.Re
namespace Mine
theorem entry_subloop : entryFor table "re.Pattern.sub.loop" = some Builtin.«re.Pattern.sub.loop» := entryFor_of_fast (by kernel_rfl)
theorem entry_sub : entryFor table "re.Pattern.sub" = some Builtin.«re.Pattern.sub» := entryFor_of_fast (by kernel_rfl)
theorem plain_subloop : plainId "re.Pattern.sub.loop" = true := by decide +kernel
theorem plain_sub : plainId "re.Pattern.sub" = true := by decide +kernel
theorem slot_sub : Slot "re.Pattern" "sub" "re.Pattern.sub" :=
  .of (owner := "re.Pattern") (n := "sub") (by rw [typeLookup_type, builtinLookup_eq_fast]; kernel_rfl) (by decide +kernel) (by decide +kernel) (by decide +kernel)
    (by first | exact .inl (by decide +kernel) | exact .inr (by decide +kernel)) (by rw [isSubtype_type]; kernel_rfl)
theorem type_sub : typeOf (.builtin "re.Pattern.sub") = pure (.type "method_descriptor") := by show builtinType _ = _; rw [builtinType_eq_fast]; kernel_rfl
/-- a compiled pattern of texts, its code written -/
structure PatAt (h : Heap) (pa ct : Addr) (code : Array Nat) : Prop where
  pat : ∃ o fs, h.get? pa = some o ∧ o.cls = .type "re.Pattern" ∧ o.dict = none ∧ o.data = .fields fs ∧ fs.getD 5 .none = .ref ct ∧ fs.getD 6 .none = .int 0 0 ∧ fs.getD 2 .none = .int 0 0
  code : ∃ o its n, h.get? ct = some o ∧ o.data = .seq its n ∧ (its.map reRawOf).map (·.toNat) = code
theorem PatAt.but {h h' : Heap} {pa ct l : Addr} {code : Array Nat} (P : PatAt h pa ct code) (hp : pa ≠ l) (hc : ct ≠ l) (k : ∀ b o, b ≠ l → h.get? b = some o → h'.get? b = some o) : PatAt h' pa ct code :=
  ⟨let ⟨o, fs, e, r⟩ := P.pat; ⟨o, fs, k _ _ hp e, r⟩, let ⟨o, its, n, e, r⟩ := P.code; ⟨o, its, n, k _ _ hc e, r⟩⟩
theorem PatAt.keeps {h h' : Heap} {pa ct : Addr} {code : Array Nat} (P : PatAt h pa ct code) (k : Keeps h h') : PatAt h' pa ct code :=
  ⟨let ⟨o, fs, e, r⟩ := P.pat; ⟨o, fs, k _ _ e, r⟩, let ⟨o, its, n, e, r⟩ := P.code; ⟨o, its, n, k _ _ e, r⟩⟩
section
variable {prog : Program} {w : World} {A : Around} {E : Value → Shared → Prop} {s : Shared}
theorem wp_wholeTarget {pa ct : Addr} {code : Array Nat} {x : PySem.Str} {t : Tok} (P : PatAt s.heap pa ct code) {Q : ReTarget → Shared → Prop}
    (hQ : Q { pattern := .ref pa, string := .str x t, code, text := x.cps, kind := 0, groups := 0, pos := 0, lim := x.cps.size } s) : wpAny (model prog w) A (reWholeTarget (.ref pa) (.str x t)) Q E s := by
  obtain ⟨o, fs, ho, _, _, hd, h5, h6, h2⟩ := P.pat
  obtain ⟨oc, its, n, hoc, hdc, hcode⟩ := P.code
  unfold reWholeTarget
  refine wpAny_bind (wpAny_fieldsOf ho hd ?_)
  refine wpAny_bind (show wpAny _ _ (reTextOf (.str x t)) _ _ _ from wpAny_pure ?_)
  dsimp only
  rw [h6, h2, h5]
  refine wpAny_bind (show wpAny _ _ (reNoCollectionInside _ 0) _ _ _ from wpAny_pure ?_)
  refine wpAny_bind (wpAny_bind (wpAny_seqItems hoc hdc (wpAny_pure ?_)))
  rw [show ((some its).getD #[]).map reRawOf = its.map reRawOf from rfl, hcode]
  exact wpAny_pure hQ
/-- the places that a pattern finds from start on -/
inductive Scan (code txt : Array Nat) : Nat → List (Nat × Nat) → Prop
  | nil {start : Nat} : (∀ must, ∃ k m', k ≤ 4 * 2 ^ 64 ∧ To k (Sre.forSearch code txt 0 start txt.size must) m' ∧ m'.outcome = some .failed) → Scan code txt start []
  | cons {start p e : Nat} {r : List (Nat × Nat)} : (∀ must, ∃ k m', k ≤ 4 * 2 ^ 64 ∧ To k (Sre.forSearch code txt 0 start txt.size must) m' ∧ m'.outcome = some .matched ∧ m'.start = p ∧ m'.handed = e) →
      start ≤ p → p ≤ e → e ≤ txt.size → Scan code txt e r → Scan code txt start ((p, e) :: r)
theorem wp_nextFound_none {T : ReTarget} {code txt : Array Nat} {start : Nat} {must : Bool} (h1 : T.code = code) (h2 : T.text = txt) (h3 : T.groups = 0) (h4 : T.lim = txt.size) (h : Scan code txt start []) {Q : Option Sre.M → Shared → Prop} (hQ : Q none s) :
    wpAny (model prog w) A (reNextFound T start must) Q E s := by
  cases h with
  | nil h =>
    obtain ⟨k, m', hk, r, o⟩ := h must
    unfold reNextFound
    rw [h1, h2, h3, h4]
    exact wp_runToEnd r hk (.inr ⟨o, hQ⟩)
theorem wp_nextFound_some {T : ReTarget} {code txt : Array Nat} {start p e : Nat} {r : List (Nat × Nat)} {must : Bool} (h1 : T.code = code) (h2 : T.text = txt) (h3 : T.groups = 0) (h4 : T.lim = txt.size) (h : Scan code txt start ((p, e) :: r)) {Q : Option Sre.M → Shared → Prop}
    (hQ : ∀ m' : Sre.M, m'.start = p → m'.handed = e → Q (some m') s) : wpAny (model prog w) A (reNextFound T start must) Q E s := by
  cases h with
  | cons h _ _ _ _ =>
    obtain ⟨k, m', hk, rr, o, a, b⟩ := h must
    unfold reNextFound
    rw [h1, h2, h3, h4]
    exact wp_runToEnd rr hk (.inl ⟨o, hQ m' a b⟩)
/-- what the substitution makes of the rest of the text -/
def subst (txt : List Nat) (rp : List Nat) : Nat → List (Nat × Nat) → List Nat
  | start, [] => txt.drop start
  | start, (p, e) :: r => (txt.drop start).take (p - start) ++ (rp ++ subst txt rp e r)
def glue (ys : List PySem.Str) : List Nat := (ys.map fun y => y.cps.toList).flatten
theorem glue_snoc (ys : List PySem.Str) (y : PySem.Str) : glue (ys ++ [y]) = glue ys ++ y.cps.toList := by simp [glue]
theorem join_nil (ys : List PySem.Str) : Txt.join ⟨#[]⟩ ys = T (glue ys) := by
  have h : ∀ (l : List PySem.Str) (acc : Array Nat), l.foldl (fun acc p => acc ++ (⟨#[]⟩ : PySem.Str).cps ++ p.cps) acc = (acc.toList ++ glue l).toArray := by
    intro l
    induction l with
    | nil => intro acc; simp [glue]
    | cons y l ih => intro acc; rw [List.foldl_cons, ih]; simp [glue]
  unfold Txt.join Builtin.Str.glued
  rw [h]
  cases ys with
  | nil => rfl
  | cons y l => simp [glue, T]
theorem glue_len (ys : List PySem.Str) : (ys.map (·.length)).sum = (glue ys).length := by
  induction ys with
  | nil => rfl
  | cons y l ih => simp only [List.map_cons, List.sum_cons, ih, glue, List.flatten_cons, List.length_append]; simp [PySem.Str.length]
abbrev lstObj (vs : List Value) (c : Nat) : Obj := { cls := .type "list", dict := none, data := .seq vs.toArray c, slots := #[] }
theorem push_obj (vs : List Value) (c : Nat) (v : Value) : Obj.mapSeq (·.push v) (lstObj vs c) = lstObj (vs ++ [v]) (c + 1) := by
  simp [Obj.mapSeq, lstObj]
theorem strsAre_snoc {vs : List Value} {ys : List PySem.Str} (h : StrsAre vs ys) (y : PySem.Str) (t : Tok) : StrsAre (vs ++ [.str y t]) (ys ++ [y]) := by
  induction h with
  | nil => exact .cons y t .nil
  | cons z u _ ih => exact .cons z u ih
theorem extract_T (txt : Array Nat) (a b : Nat) : (⟨txt.extract a b⟩ : PySem.Str) = T ((txt.toList.drop a).take (b - a)) := by
  refine PySem.Str.ext' ?_
  apply Array.toList_inj.mp
  simp [T]
theorem wp_slice {txt : Array Nat} {b e : Nat} (hz : txt.size ≤ 16777216) {Q : Value → Shared → Prop} (h : Q (.str (T ((txt.toList.drop b).take (e - b))) s.toks) { s with toks := s.toks + 1 }) : wpAny (model prog w) A (reSlice txt 0 b e) Q E s := by
  show wpAny _ _ (mkStr ⟨txt.extract b e⟩) _ _ _
  refine wpAny_mkStr (by rw [extract_T]; exact h) ?_
  rw [sizeLine_eq]
  simp only [PySem.Str.length, Array.size_extract]; omega
theorem sub_loop {R : Result → Shared → Prop} {pa ct l : Addr} {code : Array Nat} {x rp : PySem.Str} {tx tr : Tok} (hpl : pa ≠ l) (hcl : ct ≠ l) (hx : x.cps.size ≤ 1000000) :
    ∀ (ms : List (Nat × Nat)) (s : Shared) (cnt : Int) (start : Nat) (must : Bool) (vs : List Value) (ys : List PySem.Str) (c : Nat),
      PatAt s.heap pa ct code → s.heap.get? l = some (lstObj vs c) → StrsAre vs ys → Scan code x.cps start ms → vs.length + 2 * ms.length + 1 ≤ 10000000 → (glue ys).length + (subst x.cps.toList rp.cps.toList start ms).length ≤ 10000000 →
      (∀ h' tk t', (∀ b o, b ≠ l → s.heap.get? b = some o → h'.get? b = some o) → R (.ok (.ret (.str (T (glue ys ++ subst x.cps.toList rp.cps.toList start ms)) t'))) { s with heap := h', toks := tk }) →
      codeAny (model prog w) A (.builtin "re.Pattern.sub.loop" ⟨[.ref pa, .str x tx, .str rp tr, rawInt 0, rawInt 0, rawInt cnt, rawInt (start : Nat), rawInt (start : Nat), .bool must, .ref l, .bool false], []⟩) R s
  | [], s, cnt, start, must, vs, ys, c, P, hl, hy, hS, hn, hg, hR => by
    refine codeAny_builtin entry_subloop ?_
    rw [Around.under_plainId plain_subloop _]
    unfold «re.Pattern.sub.loop»
    dsimp only [rawInt]
    refine wpAny_bind (wp_wholeTarget P ?_)
    rw [if_pos (show ((0 : Int) == 0) = true from rfl)]
    refine wpAny_bind (show wpAny _ _ (reLiteralCannotBeTurned _) _ _ _ from wpAny_pure ?_)
    rw [if_neg (show ¬ ((0 : Int) != 0 && decide (cnt ≥ 0)) = true from by simp)]
    refine wpAny_bind (wp_nextFound_none rfl rfl rfl rfl (by simpa using hS) ?_)
    dsimp only
    have fin : ∀ (s₁ : Shared) (vs₁ : List Value) (ys₁ : List PySem.Str) (c₁ : Nat), (∃ h tk, s₁ = { s with heap := h, toks := tk }) → (∀ b o, b ≠ l → s.heap.get? b = some o → s₁.heap.get? b = some o) → s₁.heap.get? l = some (lstObj vs₁ c₁) → StrsAre vs₁ ys₁ → glue ys₁ = glue ys ++ subst x.cps.toList rp.cps.toList start [] →
        wpAny (model prog w) A.in1 (do
          let joiner ← reSlice x.cps 0 0 0
          let y ← seqItems? (Value.ref l)
          if (y.getD #[]).isEmpty = true then do
              let text ← pure joiner
              if false = true then do
                  let z ← holding [text] (do newTuple [text, ← mkInt cnt])
                  ret z
                else ret text
            else do
              let text ← call (Value.builtin (if (0 == 0) = true then "str.join" else "bytes.join")) [joiner, Value.ref l]
              if false = true then do
                  let z ← holding [text] (do newTuple [text, ← mkInt cnt])
                  ret z
                else ret text)
          (fun fin s' => match fin with | .done f => R (.ok f) s' | .again c' => c'.quiet = true ∧ codeAny (model prog w) A c' R s') (fun e s' => R (.error e) s') s₁ := by
      rintro s₁ vs₁ ys₁ c₁ ⟨h₁, tk₁, rfl⟩ hk hl₁ hy₁ hg₁
      refine wpAny_bind (wp_slice (by omega) ?_)
      refine wpAny_bind (wpAny_seqItems (o := lstObj vs₁ c₁) hl₁ rfl ?_)
      have e0 : ({ cps := x.cps.extract 0 0 } : PySem.Str) = ⟨#[]⟩ := by rw [extract_T]; simp [T]
      by_cases hv : vs₁ = []
      · subst hv
        cases hy₁
        rw [if_pos (show ((some (#[] : Array Value)).getD #[]).isEmpty = true from rfl)]
        refine wpAny_bind (wpAny_pure ?_)
        rw [if_neg (by simp)]
        have : T (List.take (0 - 0) (List.drop 0 x.cps.toList)) = T (glue ys ++ subst x.cps.toList rp.cps.toList start []) := by rw [← hg₁]; simp [glue]
        rw [this]
        exact wpAny_pure (hR _ _ _ hk)
      · rw [if_neg (by simpa using hv)]
        have hok : (ys₁.map (·.length)).sum + ys₁.length * (T (List.take (0 - 0) (List.drop 0 x.cps.toList))).length ≤ 16777216 := by
          rw [glue_len, hg₁, T_len]; simp at hg ⊢; omega
        refine wpAny_bind (join_list (x := T (List.take (0 - 0) (List.drop 0 x.cps.toList))) ⟨_, hl₁, rfl, _, rfl⟩ hy₁ hok fun t' k => ?_)
        rw [if_neg (by simp)]
        have : Txt.join (T (List.take (0 - 0) (List.drop 0 x.cps.toList))) ys₁ = T (glue ys ++ subst x.cps.toList rp.cps.toList start []) := by
          rw [show T (List.take (0 - 0) (List.drop 0 x.cps.toList)) = ⟨#[]⟩ from by simp [T], join_nil, hg₁]
        rw [this]
        exact wpAny_pure (hR _ _ _ hk)
    simp only [Int.toNat_natCast]
    by_cases hd : start < x.cps.size
    · rw [if_pos hd]
      refine wpAny_bind (wp_slice (by omega) ?_)
      refine wpAny_bind (wpAny_updateSeq hl rfl ?_ (by rw [sizeLine_eq]; simp; omega) (by rw [sizeLine_eq]; simp; omega))
      refine fin _ (vs ++ [.str (T ((x.cps.toList.drop start).take (x.cps.size - start))) s.toks]) (ys ++ [T ((x.cps.toList.drop start).take (x.cps.size - start))]) (c + 1) ⟨_, _, rfl⟩ (fun b o hb e => ?_) ?_ (strsAre_snoc hy _ _) ?_
      · exact (Heap.get?_update_other _ _ (Ne.symm hb)).trans e
      · rw [← push_obj]; exact Heap.get?_update_self _ hl rfl
      · rw [glue_snoc, T_list]
        congr 1
        simp only [subst]
        rw [List.take_of_length_le (by simp)]
    · rw [if_neg hd]
      refine fin _ vs ys c ⟨_, _, rfl⟩ (fun b o hb e => e) hl hy ?_
      simp only [subst]
      rw [List.drop_eq_nil_of_le (by simpa using Nat.not_lt.mp hd)]; simp
  | (p, e) :: r, s, cnt, start, must, vs, ys, c, P, hl, hy, hS, hn, hg, hR => by
    refine codeAny_builtin entry_subloop ?_
    rw [Around.under_plainId plain_subloop _]
    unfold «re.Pattern.sub.loop»
    dsimp only [rawInt]
    refine wpAny_bind (wp_wholeTarget P ?_)
    rw [if_pos (show ((0 : Int) == 0) = true from rfl)]
    refine wpAny_bind (show wpAny _ _ (reLiteralCannotBeTurned _) _ _ _ from wpAny_pure ?_)
    rw [if_neg (show ¬ ((0 : Int) != 0 && decide (cnt ≥ 0)) = true from by simp)]
    refine wpAny_bind (wp_nextFound_some rfl rfl rfl rfl (by simpa using hS) ?_)
    intro m' hm1 hm2
    dsimp only
    obtain ⟨h1, h2, h3, hS'⟩ : start ≤ p ∧ p ≤ e ∧ e ≤ x.cps.size ∧ Scan code x.cps e r := by cases hS; exact ⟨by assumption, by assumption, by assumption, by assumption⟩
    rw [hm1, hm2]
    have fin : ∀ (s₁ : Shared) (vs₁ : List Value) (ys₁ : List PySem.Str) (c₁ : Nat), (∃ h tk, s₁ = { s with heap := h, toks := tk }) → (∀ b o, b ≠ l → s.heap.get? b = some o → s₁.heap.get? b = some o) → s₁.heap.get? l = some (lstObj vs₁ c₁) → StrsAre vs₁ ys₁ → vs₁.length ≤ vs.length + 1 → glue ys₁ = glue ys ++ (x.cps.toList.drop start).take (p - start) →
        wpAny (model prog w) A.in1 (if ((0 : Int) == 0) = true then do
                    let item ← pure (Value.str rp tr)
                    if (item != Value.none) = true then do
                        updateSeq l fun x => x.push item
                        again
                            (Code.builtin "re.Pattern.sub.loop"
                              ⟨[Value.ref pa, Value.str x tx, Value.str rp tr, Value.int 0 0, Value.int 0 0,
                                    Value.int (cnt + 1) 0, Value.int (e : Nat) 0, Value.int (e : Nat) 0,
                                    Value.bool (e == p), Value.ref l, Value.bool false], []⟩)
                      else
                        again
                          (Code.builtin "re.Pattern.sub.loop"
                            ⟨[Value.ref pa, Value.str x tx, Value.str rp tr, Value.int 0 0, Value.int 0 0,
                                  Value.int (cnt + 1) 0, Value.int (e : Nat) 0, Value.int (e : Nat) 0,
                                  Value.bool (e == p), Value.ref l, Value.bool false], []⟩)
                  else do
                    let found ← reNewMatch (Value.ref pa) (Value.str x tx) 0 0 x.cps.size m'
                    let item ←
                      holding [found]
                          (if ((0 : Int) == 1) = true then call (Value.str rp tr) [found]
                          else do
                            let z ← reFound found
                            reExpand (Value.str rp tr) z)
                    if (item != Value.none) = true then do
                        updateSeq l fun x => x.push item
                        again
                            (Code.builtin "re.Pattern.sub.loop"
                              ⟨[Value.ref pa, Value.str x tx, Value.str rp tr, Value.int 0 0, Value.int 0 0,
                                    Value.int (cnt + 1) 0, Value.int (e : Nat) 0, Value.int (e : Nat) 0,
                                    Value.bool (e == p), Value.ref l, Value.bool false], []⟩)
                      else
                        again
                          (Code.builtin "re.Pattern.sub.loop"
                            ⟨[Value.ref pa, Value.str x tx, Value.str rp tr, Value.int 0 0, Value.int 0 0,
                                  Value.int (cnt + 1) 0, Value.int (e : Nat) 0, Value.int (e : Nat) 0,
                                  Value.bool (e == p), Value.ref l, Value.bool false], []⟩))
          (fun fin s' => match fin with | .done f => R (.ok f) s' | .again c' => c'.quiet = true ∧ codeAny (model prog w) A c' R s') (fun e s' => R (.error e) s') s₁ := by
      rintro s₁ vs₁ ys₁ c₁ ⟨h₁, tk₁, rfl⟩ hk hl₁ hy₁ hlen hg₁
      rw [if_pos (show ((0 : Int) == 0) = true from rfl)]
      refine wpAny_bind (wpAny_pure ?_)
      rw [if_pos (show (Value.str rp tr != Value.none) = true from by simp)]
      simp only [List.length_cons] at hn
      refine wpAny_bind (wpAny_updateSeq hl₁ rfl ?_ (by rw [sizeLine_eq]; simp; omega) (by rw [sizeLine_eq]; simp; omega))
      refine wpAny_pure ⟨plainId_quiet plain_subloop _, ?_⟩
      have hk' : ∀ b o, b ≠ l → s.heap.get? b = some o → (h₁.update l (Obj.mapSeq (·.push (.str rp tr)))).get? b = some o := fun b o hb e => (Heap.get?_update_other _ _ (Ne.symm hb)).trans (hk b o hb e)
      have hg₂ : glue (ys₁ ++ [rp]) ++ subst x.cps.toList rp.cps.toList e r = glue ys ++ subst x.cps.toList rp.cps.toList start ((p, e) :: r) := by
        rw [glue_snoc, hg₁]; simp [subst]
      refine sub_loop hpl hcl hx r _ (cnt + 1) e (e == p) (vs₁ ++ [.str rp tr]) (ys₁ ++ [rp]) (c₁ + 1) (P.but hpl hcl hk') ?_ (strsAre_snoc hy₁ _ _) hS' (by simp; omega) ?_ fun h' tk t' hk'' => ?_
      · show (h₁.update l _).get? l = _
        rw [Heap.get?_update_self _ hl₁ rfl, push_obj]
      · have := congrArg List.length hg₂
        simp only [List.length_append] at this
        omega
      · rw [hg₂]
        exact hR h' tk t' fun b o hb e => hk'' b o hb (hk' b o hb e)
    simp only [Int.toNat_natCast]
    by_cases hd : start < p
    · rw [if_pos hd]
      refine wpAny_bind (wp_slice (by omega) ?_)
      refine wpAny_bind (wpAny_updateSeq hl rfl ?_ (by rw [sizeLine_eq]; simp; omega) (by rw [sizeLine_eq]; simp; omega))
      refine fin _ (vs ++ [.str (T ((x.cps.toList.drop start).take (p - start))) s.toks]) (ys ++ [T ((x.cps.toList.drop start).take (p - start))]) (c + 1) ⟨_, _, rfl⟩ (fun b o hb e => ?_) ?_ (strsAre_snoc hy _ _) (by simp) ?_
      · exact (Heap.get?_update_other _ _ (Ne.symm hb)).trans e
      · rw [← push_obj]; exact Heap.get?_update_self _ hl rfl
      · rw [glue_snoc, T_list]
    · rw [if_neg hd]
      refine fin _ vs ys c ⟨_, _, rfl⟩ (fun b o hb e => e) hl hy (by omega) ?_
      have : p - start = 0 := by omega
      rw [this]; simp
end
end Mine
end
section
open PySem PySem.W PyProof.Rows PySem.Calls PySem.Builtin PySem.Builtin.Re
namespace Mine
theorem args_sub (a b c : Value) : argsOk "re.Pattern.sub" ⟨[a, b, c], []⟩ := by
  unfold argsOk; kernel_rfl
theorem named_sub (a b : Value) : reNamed "re.Pattern.sub" "sub" ["repl", "string", "count"] 2 [a, b] [] = pure [some a, some b, none] := by rfl
theorem str_nocall : typeLookup (.type "str") "__call__" = pure none := by rw [typeLookup_type, builtinLookup_eq_fast]; kernel_rfl
theorem pa_pattern : PlainAttrs "re.Pattern" where
  ga := ⟨"object.__getattribute__", by rw [typeLookup_type, builtinLookup_eq_fast]; kernel_rfl, by decide +kernel⟩
  noGetattr := by rw [typeLookup_type, builtinLookup_eq_fast]; kernel_rfl
section
variable {prog : Program} {w : World} {A : Around} {E : Value → Shared → Prop} {s : Shared}
theorem call_sub {pa ct : Addr} {code : Array Nat} {x rp : PySem.Str} {tx tr : Tok} {ms : List (Nat × Nat)} {Q : Value → Shared → Prop} (P : PatAt s.heap pa ct code) (hrp : rp.cps.contains 92 = false) (hx : x.cps.size ≤ 1000000) (hS : Scan code x.cps 0 ms)
    (hn : ms.length ≤ 1000000) (hg : (subst x.cps.toList rp.cps.toList 0 ms).length ≤ 10000000)
    (hQ : ∀ h' tk t', Keeps s.heap h' → Q (.str (T (subst x.cps.toList rp.cps.toList 0 ms)) t') { s with heap := h', toks := tk }) :
    wpAny (model prog w) A (call (.builtin "re.Pattern.sub") [.ref pa, .str rp tr, .str x tx]) Q E s := by
  obtain ⟨o, fs, ho, hc, _⟩ := P.pat
  have hT : s.TypeIs (.ref pa) "re.Pattern" := ⟨o, ho, hc⟩
  refine wpAny_call (codeAny_call_builtin plain_sub entry_sub (slot_sub.check _ _ _ _ _ _ _ _ hT (args_sub _ _ _) ?_))
  unfold «re.Pattern.sub» reSubstitute
  dsimp only
  rw [named_sub]
  refine wpAny_bind (wpAny_pure ?_)
  refine wpAny_bind (wpAny_pure ?_)
  refine wpAny_bind (wpAny_specialOf (T := "str") (typeIs_str _ _ _) str_nocall ?_)
  rw [show (none : Option Value).isSome = false from rfl]
  rw [if_neg (show ¬ (false = true) from by simp)]
  refine wpAny_bind (show wpAny _ _ (asStr? (.str rp tr)) _ _ _ from wpAny_pure ?_)
  dsimp only
  refine wpAny_bind (wpAny_pure ?_)
  rw [if_neg (show ¬ (false = true) from by simp), if_pos (show (!rp.cps.contains 92) = true from by rw [hrp]; rfl)]
  refine wpAny_bind (wpAny_pure ?_)
  dsimp only
  refine wpAny_bind (wpAny_holding (wp_wholeTarget P ?_))
  rw [if_neg (show ¬ ((0 : Int) == 1) = true from by simp)]
  refine wpAny_bind (wpAny_newObj_type ?_ (by size_fits))
  refine wpAny_pure ⟨plainId_quiet plain_subloop _, ?_⟩
  have hplt : pa < s.heap.objs.size := Heap.lt_size ho
  obtain ⟨oc, its, nc, hoc, _⟩ := id P.code
  have hclt : ct < s.heap.objs.size := Heap.lt_size hoc
  have hkp : Keeps s.heap (s.heap.push { cls := .type "list", dict := none, data := .seq ([] : List Value).toArray }) := fun b o e => Heap.get?_push_of_some _ e
  refine sub_loop (Nat.ne_of_lt hplt) (Nat.ne_of_lt hclt) hx ms { s with heap := s.heap.push { cls := .type "list", dict := none, data := .seq ([] : List Value).toArray } } 0 0 false [] [] 0 (P.keeps hkp) (Heap.get?_push_size _ rfl) .nil hS (by simp; omega) (by simpa [glue] using hg) fun h' tk t' hk => ?_
  rw [show glue [] ++ subst x.cps.toList rp.cps.toList 0 ms = subst x.cps.toList rp.cps.toList 0 ms from by simp [glue]]
  exact hQ h' tk t' fun b o e => hk b o (Nat.ne_of_lt (Heap.lt_size e)) (hkp b o e)
end
/-! the places, and what comes of them -/
inductive HS (hit : Nat → Prop) (wd : Nat → Nat) : Nat → List (Nat × Nat) → Prop
  | nil {start : Nat} : (∀ q, start ≤ q → ¬ hit q) → HS hit wd start []
  | cons {start p : Nat} {r : List (Nat × Nat)} : hit p → start ≤ p → (∀ q, start ≤ q → q < p → ¬ hit q) → HS hit wd (p + wd p) r → HS hit wd start ((p, p + wd p) :: r)
theorem HS.back {hit : Nat → Prop} {wd : Nat → Nat} {start : Nat} {ms : List (Nat × Nat)} (h : HS hit wd (start + 1) ms) (hn : ¬ hit start) : HS hit wd start ms := by
  have all : ∀ q, start ≤ q → ¬ (start + 1 ≤ q) → ¬ hit q := fun q a b => by
    have : q = start := by omega
    rw [this]; exact hn
  cases h with
  | nil h => exact .nil fun q a => if b : start + 1 ≤ q then h q b else all q a b
  | cons h1 h2 h3 h4 => exact .cons h1 (by omega) (fun q a c => if b : start + 1 ≤ q then h3 q b c else all q a b) h4
theorem subst_back {hit : Nat → Prop} {wd : Nat → Nat} {txt rp : List Nat} {start c : Nat} {ms : List (Nat × Nat)} (h : HS hit wd (start + 1) ms) (hc : txt.drop start = c :: txt.drop (start + 1)) : subst txt rp start ms = c :: subst txt rp (start + 1) ms := by
  cases h with
  | nil h => simp only [subst]; exact hc
  | cons h1 h2 h3 h4 =>
    rename_i p r
    simp only [subst]
    rw [hc, show p - start = (p - (start + 1)) + 1 by omega, List.take_succ_cons]; simp
theorem subst_here {txt rp : List Nat} {p e : Nat} {r : List (Nat × Nat)} : subst txt rp p ((p, e) :: r) = rp ++ subst txt rp e r := by
  simp [subst]
def crlf : List Nat → List Nat
  | [] => []
  | [c] => if c = 13 ∨ c = 10 then [13, 10] else [c]
  | c :: d :: r => if c = 13 ∧ d = 10 then 13 :: 10 :: crlf r else if c = 13 ∨ c = 10 then 13 :: 10 :: crlf (d :: r) else c :: crlf (d :: r)
theorem crlf_other {c : Nat} (h : ¬ (c = 13 ∨ c = 10)) (r : List Nat) : crlf (c :: r) = c :: crlf r := by
  cases r with
  | nil => simp [crlf, h]
  | cons d r => simp only [crlf]; rw [if_neg (by omega), if_neg h]
theorem crlf_two (r : List Nat) : crlf (13 :: 10 :: r) = 13 :: 10 :: crlf r := by simp [crlf]
theorem crlf_ten (r : List Nat) : crlf (10 :: r) = 13 :: 10 :: crlf r := by
  cases r with
  | nil => simp [crlf]
  | cons d r => simp [crlf]
theorem crlf_one {r : List Nat} (h : ∀ d t, r = d :: t → d ≠ 10) : crlf (13 :: r) = 13 :: 10 :: crlf r := by
  cases r with
  | nil => simp [crlf]
  | cons d r => simp only [crlf]; rw [if_neg (by have := h d r rfl; omega)]; simp
/-- dots at a line's start, doubled -/
def dd : Bool → List Nat → List Nat
  | _, [] => []
  | b, c :: r => if b = true ∧ c = 46 then 46 :: 46 :: dd false r else c :: dd (decide (c = 10)) r
theorem drop_at {txt : Array Nat} {start : Nat} (h : start < txt.size) : txt.toList.drop start = txt.getD start 0 :: txt.toList.drop (start + 1) := by
  rw [List.drop_eq_getElem_cons (by simpa using h)]
  congr 1
  simp [Array.getD, h]
theorem wid_pos (t : Array Nat) (n p : Nat) : 1 ≤ wid t n p := by
  unfold wid
  by_cases h : t.getD p 0 = 13
  · rw [if_pos h]
    by_cases h2 : p + 1 < n ∧ t.getD (p + 1) 0 = 10
    · rw [if_pos h2]; omega
    · rw [if_neg h2]; omega
  · rw [if_neg h]; omega
theorem wid_le {t : Array Nat} {n p : Nat} (hp : p < n) : p + wid t n p ≤ n := by
  unfold wid
  by_cases h : t.getD p 0 = 13
  · rw [if_pos h]
    by_cases h2 : p + 1 < n ∧ t.getD (p + 1) 0 = 10
    · rw [if_pos h2]; omega
    · rw [if_neg h2]; omega
  · rw [if_neg h]; omega
theorem ex2 (txt : Array Nat) : ∀ (n start : Nat), txt.size - start = n → ∃ ms, HS (Hit2 txt txt.size) (wid txt txt.size) start ms ∧ subst txt.toList [13, 10] start ms = crlf (txt.toList.drop start) ∧ ms.length ≤ n := by
  intro n
  induction n using Nat.strongRecOn with
  | ind n ih =>
    intro start hn
    by_cases hlt : start < txt.size
    · have hd := drop_at hlt
      by_cases hit : Hit2 txt txt.size start
      · have hw := wid_pos txt txt.size start
        obtain ⟨ms, h1, h2, h3⟩ := ih (txt.size - (start + wid txt txt.size start)) (by omega) _ rfl
        refine ⟨(start, start + wid txt txt.size start) :: ms, .cons hit (Nat.le_refl _) (fun q a b => by omega) h1, ?_, by simp; omega⟩
        rw [subst_here, h2, hd]
        unfold wid
        by_cases h13 : txt.getD start 0 = 13
        · rw [if_pos h13, h13]
          by_cases h10 : start + 1 < txt.size ∧ txt.getD (start + 1) 0 = 10
          · rw [if_pos h10, drop_at h10.1, h10.2, crlf_two]; rfl
          · rw [if_neg h10, crlf_one]
            · rfl
            · intro d t e
              by_cases hl : start + 1 < txt.size
              · rw [drop_at hl] at e
                injection e with e1 e2
                intro hd10
                exact h10 ⟨hl, by rw [e1, hd10]⟩
              · rw [List.drop_eq_nil_of_le (by simpa using hl)] at e; cases e
        · rw [if_neg h13, hit.2.resolve_right h13, crlf_ten]; rfl
      · obtain ⟨ms, h1, h2, h3⟩ := ih (txt.size - (start + 1)) (by omega) _ rfl
        refine ⟨ms, h1.back hit, ?_, by omega⟩
        rw [subst_back h1 hd, h2, hd, crlf_other]
        intro h
        exact hit ⟨hlt, h.symm⟩
    · refine ⟨[], .nil fun q a h => by have := h.1; omega, ?_, by simp⟩
      have : txt.toList.drop start = [] := List.drop_eq_nil_of_le (by simpa using hlt)
      simp only [subst, this, crlf]
theorem ex1 (txt : Array Nat) : ∀ (n start : Nat), txt.size - start = n → ∃ ms, HS (Hit1 txt txt.size) (fun _ => 1) start ms ∧ subst txt.toList [46, 46] start ms = dd (decide (start = 0 ∨ txt.getD (start - 1) 0 = 10)) (txt.toList.drop start) ∧ ms.length ≤ n := by
  intro n
  induction n with
  | zero =>
    intro start hn
    refine ⟨[], .nil fun q a h => by have := h.1; omega, ?_, by simp⟩
    have : txt.toList.drop start = [] := List.drop_eq_nil_of_le (by simp; omega)
    simp only [subst, this, dd]
  | succ n ih =>
    intro start hn
    have hlt : start < txt.size := by omega
    have hd := drop_at hlt
    obtain ⟨ms, h1, h2, h3⟩ := ih (start + 1) (by omega)
    have hb : decide (start + 1 = 0 ∨ txt.getD (start + 1 - 1) 0 = 10) = decide (txt.getD start 0 = 10) := by simp
    rw [hb] at h2
    by_cases hit : Hit1 txt txt.size start
    · refine ⟨(start, start + 1) :: ms, .cons hit (Nat.le_refl _) (fun q a b => by omega) h1, ?_, by simp; omega⟩
      have h46 := hit.2.2
      rw [subst_here, h2, hd, h46, decide_eq_true hit.2.1]
      simp [dd]
    · refine ⟨ms, h1.back hit, ?_, by omega⟩
      rw [subst_back h1 hd, h2, hd]
      by_cases hbol : start = 0 ∨ txt.getD (start - 1) 0 = 10
      · have h46 : txt.getD start 0 ≠ 46 := fun h => hit ⟨hlt, hbol, h⟩
        simp only [dd]
        rw [if_neg (fun h => h46 h.2)]
      · rw [decide_eq_false hbol]
        simp only [dd]
        rw [if_neg (by simp)]
theorem scan2 {txt : Array Nat} {start : Nat} {ms : List (Nat × Nat)} (h : HS (Hit2 txt txt.size) (wid txt txt.size) start ms) : Scan code2 txt start ms := by
  induction h with
  | nil h => exact .nil fun must => by obtain ⟨k, m', hk, r⟩ := search2_none (must := must) h; exact ⟨k, m', by omega, r⟩
  | cons h1 h2 h3 _ ih =>
    refine .cons (fun must => ?_) h2 (Nat.le_add_right _ _) ?_ ih
    · obtain ⟨k, m', hk, r⟩ := search2_hit (must := must) h1 h2 h3; exact ⟨k, m', by omega, r⟩
    · exact wid_le h1.1
theorem scan1 {txt : Array Nat} {start : Nat} {ms : List (Nat × Nat)} (hz : txt.size ≤ 16777216) (h : HS (Hit1 txt txt.size) (fun _ => 1) start ms) : Scan code1 txt start ms := by
  induction h with
  | nil h => exact .nil fun must => by obtain ⟨k, m', hk, r⟩ := search1_none (must := must) h; exact ⟨k, m', by omega, r⟩
  | cons h1 h2 h3 _ ih =>
    refine .cons (fun must => ?_) h2 (by omega) ?_ ih
    · obtain ⟨k, m', hk, r⟩ := search1_hit (must := must) h1 h2 h3; exact ⟨k, m', by omega, r⟩
    · have := h1.1; omega
theorem crlf_len : ∀ l : List Nat, (crlf l).length ≤ 2 * l.length
  | [] => by simp [crlf]
  | [c] => by simp only [crlf]; split <;> simp
  | c :: d :: r => by
    have h1 := crlf_len r
    have h2 := crlf_len (d :: r)
    simp only [crlf]
    split
    · simp; omega
    · split <;> (simp only [List.length_cons] at h2 ⊢; omega)
theorem dd_len : ∀ (l : List Nat) (b : Bool), (dd b l).length ≤ 2 * l.length
  | [], _ => by simp [dd]
  | c :: r, b => by
    have h1 := dd_len r false
    have h2 := dd_len r (decide (c = 10))
    simp only [dd]
    split <;> (simp only [List.length_cons]; omega)
def quote (l : List Nat) : List Nat := dd true (crlf l)
theorem quote_len (l : List Nat) : (quote l).length ≤ 4 * l.length := by
  have := crlf_len l
  have := dd_len (crlf l) true
  unfold quote; omega
section
variable {prog : Program} {w : World} {A : Around} {E : Value → Shared → Prop} {s : Shared}
theorem call_crlf {pa ct : Addr} {l : List Nat} {tx tr : Tok} {Q : Value → Shared → Prop} (P : PatAt s.heap pa ct code2) (hx : l.length ≤ 1000000)
    (hQ : ∀ h' tk t', Keeps s.heap h' → Q (.str (T (crlf l)) t') { s with heap := h', toks := tk }) :
    wpAny (model prog w) A (call (.builtin "re.Pattern.sub") [.ref pa, .str (PySem.Str.ofString "\r\n") tr, .str (T l) tx]) Q E s := by
  obtain ⟨ms, h1, h2, h3⟩ := ex2 l.toArray l.toArray.size 0 rfl
  have hr : (PySem.Str.ofString "\r\n").cps.toList = [13, 10] := by decide +kernel
  rw [List.drop_zero] at h2
  have hl := crlf_len l
  refine call_sub P (by decide +kernel) (by simpa using hx) (scan2 h1) (by simp at h3; omega) ?_ fun h' tk t' k => ?_
  · rw [hr, show (T l).cps.toList = l from by simp]
    have : subst l [13, 10] 0 ms = crlf l := by simpa using h2
    rw [this]; omega
  · rw [hr]
    have : subst (T l).cps.toList [13, 10] 0 ms = crlf l := by simpa using h2
    rw [this]; exact hQ h' tk t' k
theorem call_dots {pa ct : Addr} {l : List Nat} {tx tr : Tok} {Q : Value → Shared → Prop} (P : PatAt s.heap pa ct code1) (hx : l.length ≤ 1000000)
    (hQ : ∀ h' tk t', Keeps s.heap h' → Q (.str (T (dd true l)) t') { s with heap := h', toks := tk }) :
    wpAny (model prog w) A (call (.builtin "re.Pattern.sub") [.ref pa, .str (PySem.Str.ofString "..") tr, .str (T l) tx]) Q E s := by
  obtain ⟨ms, h1, h2, h3⟩ := ex1 l.toArray l.toArray.size 0 rfl
  have hr : (PySem.Str.ofString "..").cps.toList = [46, 46] := by decide +kernel
  rw [List.drop_zero] at h2
  have hl := dd_len l true
  have h2' : subst l [46, 46] 0 ms = dd true l := by simpa using h2
  refine call_sub P (by decide +kernel) (by simpa using hx) (scan1 (by simp; omega) h1) (by simp at h3; omega) ?_ fun h' tk t' k => ?_
  · rw [hr, show (T l).cps.toList = l from by simp, h2']; omega
  · rw [hr, show (T l).cps.toList = l from by simp, h2']; exact hQ h' tk t' k
end
end Mine
end
section
open PySem PySem.W PyProof.Rows PySem.Calls PySem.Builtin PySem.Builtin.Re
namespace Mine
section
variable {prog : Program} {w : World} {A : Around} {E : Value → Shared → Prop} {s : Shared} {K : Frag} {h₀ : Heap} {L : Addr} {m : PySem.Str → Option Value} {news : List (Addr × Obj)} {pa ct : Addr} {fs : Array Value} {its : Array Value} {n : Nat} {sl sl' : Array (Option Value)} {c' : Value} {d' : Option Addr}
theorem patAt_K {h : Heap} {code : Array Nat} (X : K.In h) (hp : K.lookup pa = some ⟨.type "re.Pattern", none, .fields fs, sl⟩) (h5 : fs.getD 5 .none = .ref ct) (h6 : fs.getD 6 .none = .int 0 0) (h2 : fs.getD 2 .none = .int 0 0)
    (hc : K.lookup ct = some ⟨c', d', .seq its n, sl'⟩) (he : (its.map reRawOf).map (·.toNat) = code) : PatAt h pa ct code :=
  ⟨⟨_, fs, X _ _ hp, rfl, rfl, rfl, h5, h6, h2⟩, ⟨_, its, n, X _ _ hc, rfl, he⟩⟩
theorem getM_sub {pl : Sem Bool} {Q : Value × List Value → Shared → Prop} (F : Fr h₀ L s.heap m) (X : K.In h₀) (hp : K.lookup pa = some ⟨.type "re.Pattern", none, .fields fs, sl⟩)
    (h : Q (.builtin "re.Pattern.sub", [.ref pa]) s) : wpAny (model prog w) A (getMethod (.ref pa) "sub" pl) Q E s :=
  have ho := (X.keeps F.keep) _ _ hp
  getMethod_builtin (T := "re.Pattern") ⟨_, ho, rfl⟩ pa_pattern slot_sub type_sub (fun a e => by cases e; exact ⟨_, ho, rfl⟩) h
theorem sub_crlf_K {l : List Nat} {tx tr : Tok} {Q : Value → Shared → Prop} (F : Fr h₀ L s.heap m) (N : News h₀ L s.heap news) (X : K.In h₀) (hp : K.lookup pa = some ⟨.type "re.Pattern", none, .fields fs, sl⟩) (h5 : fs.getD 5 .none = .ref ct) (h6 : fs.getD 6 .none = .int 0 0) (h2 : fs.getD 2 .none = .int 0 0)
    (hc : K.lookup ct = some ⟨c', d', .seq its n, sl'⟩) (he : (its.map reRawOf).map (·.toNat) = code2) (hx : l.length ≤ 1000000)
    (h : ∀ h' tk t', Fr h₀ L h' m → News h₀ L h' news → Q (.str (T (crlf l)) t') { s with heap := h', toks := tk }) :
    wpAny (model prog w) A (call (.builtin "re.Pattern.sub") [.ref pa, .str (PySem.Str.ofString "\r\n") tr, .str (T l) tx]) Q E s :=
  call_crlf (patAt_K (X.keeps F.keep) hp h5 h6 h2 hc he) hx fun h' tk t' k => h h' tk t' (F.after k) (news_over N k)
theorem sub_dots_K {l : List Nat} {tx tr : Tok} {Q : Value → Shared → Prop} (F : Fr h₀ L s.heap m) (N : News h₀ L s.heap news) (X : K.In h₀) (hp : K.lookup pa = some ⟨.type "re.Pattern", none, .fields fs, sl⟩) (h5 : fs.getD 5 .none = .ref ct) (h6 : fs.getD 6 .none = .int 0 0) (h2 : fs.getD 2 .none = .int 0 0)
    (hc : K.lookup ct = some ⟨c', d', .seq its n, sl'⟩) (he : (its.map reRawOf).map (·.toNat) = code1) (hx : l.length ≤ 1000000)
    (h : ∀ h' tk t', Fr h₀ L h' m → News h₀ L h' news → Q (.str (T (dd true l)) t') { s with heap := h', toks := tk }) :
    wpAny (model prog w) A (call (.builtin "re.Pattern.sub") [.ref pa, .str (PySem.Str.ofString "..") tr, .str (T l) tx]) Q E s :=
  call_dots (patAt_K (X.keeps F.keep) hp h5 h6 h2 hc he) hx fun h' tk t' k => h h' tk t' (F.after k) (news_over N k)
end
end Mine
end
section
open PySem PySem.W PyProof.Rows PySem.Calls PyProof.Rows.LCg PyProof.Rows.LCt
namespace Mine
section
variable {prog : Program} {w : World} {A : Around} {E : Value → Shared → Prop} {s : Shared} {h₀ : Heap} {L : Addr} {m : PySem.Str → Option Value} {env : Env}
/-- a comprehension over a list that the call has made -/
theorem src_made {elt : Expr} {x : PySem.Str} {scope : Scope} {cl : List (PySem.Str × Addr)} {Fin : Shared → List Value → List (Addr × Obj) → Prop} {a : Addr} {vs : List Value} {c : Nat} {news : List (Addr × Obj)} (J : Nat → List Value → Prop)
    (hh : A.handled = none) (F : Fr h₀ L s.heap m) (N : News h₀ L s.heap news) (hm : (a, ({ cls := .type "list", data := .seq vs.toArray c } : Obj)) ∈ news) (hn : vs.length ≤ 1000000) (h0 : J 0 [])
    (step : ∀ i ys v I oI C oC D m₂ h tk (E' : Value → Shared → Prop), i < vs.length → J i ys → vs[i]? = some v → NsObj oC m₂ → m₂ x = some v → Fr h₀ L h m → News h₀ L h ((I, oI) :: (C, oC) :: (D, lst ys) :: news) → Off3 I C D news → ((@Ne Nat I C) ∧ (@Ne Nat I D) ∧ (@Ne Nat C D)) →
      wpAny (model prog w) A (eval elt (compEnvC scope cl C env)) (ElEnd h₀ L m { s with heap := h, toks := tk } ((I, oI) :: (C, oC) :: (D, lst ys) :: news) (J (i + 1)) ys) E' { s with heap := h, toks := tk })
    (fin : ∀ g ys, J vs.length ys → Fin { s with heap := g } ys news) :
    CompSrc prog w A h₀ L m env elt x scope cl Fin (.ref a) s := by
  refine CompSrc.ledger hh F N hm (by rw [List.size_toArray, sizeLine_eq]; omega) fun g => ?_
  refine rest_U (n := vs.toArray.size) (s := { s with heap := g }) J (.inr ⟨_, hm, rfl, _, rfl⟩) (fun i ys v I oI C oC D m₂ h tk E' hi hJ hv hC hx F N off ne => ?_) (fun ys hJ => fin g ys (by simpa using hJ)) vs.toArray.size 0 [] (by omega) h0
  exact step i ys v I oI C oC D m₂ h tk E' (by simpa using hi) hJ (by simpa using hv) hC hx F N off ne
/-- the same over a list that stood before the call -/
theorem src_base {elt : Expr} {x : PySem.Str} {scope : Scope} {cl : List (PySem.Str × Addr)} {Fin : Shared → List Value → List (Addr × Obj) → Prop} {a : Addr} {vs : List Value} {news : List (Addr × Obj)} (J : Nat → List Value → Prop)
    (hh : A.handled = none) (F : Fr h₀ L s.heap m) (N : News h₀ L s.heap news) (hl : h₀.IsList a vs.toArray) (hn : vs.length ≤ 1000000) (h0 : J 0 [])
    (step : ∀ i ys v I oI C oC D m₂ h tk (E' : Value → Shared → Prop), i < vs.length → J i ys → vs[i]? = some v → NsObj oC m₂ → m₂ x = some v → Fr h₀ L h m → News h₀ L h ((I, oI) :: (C, oC) :: (D, lst ys) :: news) → Off3 I C D news → ((@Ne Nat I C) ∧ (@Ne Nat I D) ∧ (@Ne Nat C D)) →
      wpAny (model prog w) A (eval elt (compEnvC scope cl C env)) (ElEnd h₀ L m { s with heap := h, toks := tk } ((I, oI) :: (C, oC) :: (D, lst ys) :: news) (J (i + 1)) ys) E' { s with heap := h, toks := tk })
    (fin : ∀ g ys, J vs.length ys → Fin { s with heap := g } ys news) :
    CompSrc prog w A h₀ L m env elt x scope cl Fin (.ref a) s := by
  refine CompSrc.base hh F N hl (by rw [List.size_toArray, sizeLine_eq]; omega) fun g => ?_
  refine rest_U (n := vs.toArray.size) (s := { s with heap := g }) J (.inl hl) (fun i ys v I oI C oC D m₂ h tk E' hi hJ hv hC hx F N off ne => ?_) (fun ys hJ => fin g ys (by simpa using hJ)) vs.toArray.size 0 [] (by omega) h0
  exact step i ys v I oI C oC D m₂ h tk E' (by simpa using hi) hJ (by simpa using hv) hC hx F N off ne
/-- a turn that the test leaves out -/
def NoEnd (h₀ : Heap) (L : Addr) (m : PySem.Str → Option Value) (s₁ : Shared) (all : List (Addr × Obj)) (J : List Value → Prop) (ys : List Value) (s₂ : Shared) : Prop :=
  ∃ h' tk, s₂ = { s₁ with heap := h', toks := tk } ∧ Fr h₀ L h' m ∧ News h₀ L h' all ∧ J ys
theorem NoEnd.intro {h₀ h' : Heap} {L : Addr} {m : PySem.Str → Option Value} {s₁ : Shared} {all nn : List (Addr × Obj)} {J : List Value → Prop} {ys : List Value} {tk : Nat} (F : Fr h₀ L h' m) (N : News h₀ L h' nn) (sub : ∀ p ∈ all, p ∈ nn) (hJ : J ys) :
    NoEnd h₀ L m s₁ all J ys { s₁ with heap := h', toks := tk } := ⟨h', tk, rfl, F, fun p hp => N p (sub p hp), hJ⟩
theorem rest_T {ct elt : Expr} {x : PySem.Str} {scope : Scope} {cl : List (PySem.Str × Addr)} {S : List (Addr × Obj) → Prop} {P : Nat → Value → Prop} {Fin : List Value → List (Addr × Obj) → Prop} {n : Nat} {news : List (Addr × Obj)} (J : Nat → List Value → Prop) (hS : S news)
    (step : ∀ i ys v I oI C oC D m₂ h tk (E' : Value → Shared → Prop), i < n → J i ys → P i v → NsObj oC m₂ → m₂ x = some v → Fr h₀ L h m → News h₀ L h ((I, oI) :: (C, oC) :: (D, lst ys) :: news) → Off3 I C D news → ((@Ne Nat I C) ∧ (@Ne Nat I D) ∧ (@Ne Nat C D)) →
      wpAny (model prog w) A (isTrue ct (compEnvC scope cl C env) (eval ct (compEnvC scope cl C env))) (fun ok s' => if ok = true then
        wpAny (model prog w) A (eval elt (compEnvC scope cl C env)) (ElEnd h₀ L m { s with heap := h, toks := tk } ((I, oI) :: (C, oC) :: (D, lst ys) :: news) (J (i + 1)) ys) E' s'
        else NoEnd h₀ L m { s with heap := h, toks := tk } ((I, oI) :: (C, oC) :: (D, lst ys) :: news) (J (i + 1)) ys s') E' { s with heap := h, toks := tk })
    (fin : ∀ ys, J n ys → Fin ys news) :
    ∀ (k i : Nat) (ys : List Value), i + k = n → J i ys → CompRestT prog w A h₀ L m env ct elt x scope cl s S P Fin k i ys news
  | 0, i, ys, e, hJ => by
    have : i = n := by omega
    exact CompRestT.zero (fin ys (this ▸ hJ))
  | k + 1, i, ys, e, hJ => by
    refine CompRestT.succ fun v I oI C oC D m₂ h tk E' hv hC hx F N off ne => ?_
    refine wpAny_mono (step i ys v I oI C oC D m₂ h tk E' (by omega) hJ hv hC hx F N off ne) (fun b s₂ q => ?_) fun _ _ z => z
    cases b with
    | true =>
      simp only [if_true] at q ⊢
      refine wpAny_mono q (fun y s₃ q => ?_) fun _ _ z => z
      obtain ⟨h', tk', rfl, F', N', hJ'⟩ := q
      exact CompEnd.intro F' N' news (fun p hp => hp) off hS (rest_T J hS step fin k (i + 1) (ys ++ [y]) (by omega) hJ')
    | false =>
      simp only [Bool.false_eq_true, if_false] at q ⊢
      obtain ⟨h', tk', rfl, F', N', hJ'⟩ := q
      exact CompEnd.intro F' N' news (fun p hp => hp) off hS (rest_T J hS step fin k (i + 1) ys (by omega) hJ')
theorem src_rangeT {ct elt : Expr} {x : PySem.Str} {scope : Scope} {cl : List (PySem.Str × Addr)} {Fin : Shared → List Value → List (Addr × Obj) → Prop} {r : Addr} {b : Int} {t u v : Tok} {n : Nat} {news : List (Addr × Obj)} (J : Nat → List Value → Prop)
    (hh : A.handled = none) (F : Fr h₀ L s.heap m) (N : News h₀ L s.heap news) (hr : IsRange s.heap r 0 b 1 t u v) (hb : b = ((n : Nat) : Int)) (hn : n ≤ 1000000) (h0 : J 0 [])
    (step : ∀ i ys (t : Tok) I oI C oC D m₂ h tk (E' : Value → Shared → Prop), i < n → J i ys → NsObj oC m₂ → m₂ x = some (.int ((i : Nat) : Int) t) → Fr h₀ L h m → News h₀ L h ((I, oI) :: (C, oC) :: (D, lst ys) :: news) → Off3 I C D news → ((@Ne Nat I C) ∧ (@Ne Nat I D) ∧ (@Ne Nat C D)) →
      wpAny (model prog w) A (isTrue ct (compEnvC scope cl C env) (eval ct (compEnvC scope cl C env))) (fun ok s' => if ok = true then
        wpAny (model prog w) A (eval elt (compEnvC scope cl C env)) (ElEnd h₀ L m { s with heap := h, toks := tk } ((I, oI) :: (C, oC) :: (D, lst ys) :: news) (J (i + 1)) ys) E' s'
        else NoEnd h₀ L m { s with heap := h, toks := tk } ((I, oI) :: (C, oC) :: (D, lst ys) :: news) (J (i + 1)) ys s') E' { s with heap := h, toks := tk })
    (fin : ∀ g ys, J n ys → Fin { s with heap := g } ys news) :
    CompSrcT prog w A h₀ L m env ct elt x scope cl Fin (.ref r) s := by
  subst hb
  refine CompSrcT.range hh F N hr (small_to hn) (rangeSize_to n) (by rw [sizeLine_eq]; omega) fun g => ?_
  refine rest_T (s := { s with heap := g }) J trivial (fun i ys v I oI C oC D m₂ h tk E' hi hJ hv hC hx F N off ne => ?_) (fin g) n 0 [] (by omega) h0
  obtain ⟨t, rfl⟩ := hv
  rw [Int.zero_add] at hx
  exact step i ys t I oI C oC D m₂ h tk E' hi hJ hC hx F N off ne
end
section
variable {prog : Program} {w : World} {A : Around} {E : Value → Shared → Prop} {s : Shared} {env : Env} {h₀ : Heap} {x : PySem.Str} {body : List Stmt} {Q : Flow → Shared → Prop}
/-- a turn's end of a loop: what J says of the frame and the ledger, whatever the ledger's places -/
def EndJ (h₀ : Heap) (L : Addr) (J : (PySem.Str → Option Value) → List (Addr × Obj) → Prop) (I : Addr) (oI : Obj) (s₁ s₂ : Shared) : Prop :=
  ∃ h' tk m' nx, s₂ = { s₁ with heap := h', toks := tk } ∧ Fr h₀ L h' m' ∧ News h₀ L h' ((I, oI) :: nx) ∧ (∀ p ∈ nx, @Ne Nat p.1 I) ∧ J m' nx
def TurnJ (h₀ : Heap) (L : Addr) (J : (PySem.Str → Option Value) → List (Addr × Obj) → Prop) (I : Addr) (oI : Obj) (s₁ : Shared) (Q : Flow → Shared → Prop) (f : Flow) (s₂ : Shared) : Prop :=
  match f with
  | .ret v => Q (.ret v) s₂
  | .brk => Q .next s₂
  | _ => EndJ h₀ L J I oI s₁ s₂
theorem loop_J {I : Addr} {n : Nat} {P : Nat → Value → Prop} {St : Nat → Heap → Prop} {m₀ : PySem.Str → Option Value} {news : List (Addr × Obj)} (J : Nat → (PySem.Str → Option Value) → List (Addr × Obj) → Prop)
    (W : Walks prog w A I [I] [I] n P St) (hLf : env.locals ≠ I) (hI : h₀.get? I = none) (hnw : ∀ p ∈ news, p.1 ≠ I) (hIo : ∀ i h, St i h → ∃ o, h.get? I = some o) (hst : St 0 s.heap) (F : Fr h₀ env.locals s.heap m₀) (N : News h₀ env.locals s.heap news) (hj : J 0 m₀ news)
    (turn : ∀ i v m₁ nx oI h tk, i < n → P i v → J i m₁ nx → (∀ p ∈ nx, @Ne Nat p.1 I) → Fr h₀ env.locals h (fun y => if y = x then some v else m₁ y) → News h₀ env.locals h ((I, oI) :: nx) →
      wpAny (model prog w) A (execs body env) (TurnJ h₀ env.locals (J (i + 1)) I oI { s with heap := h, toks := tk } Q) E { s with heap := h, toks := tk })
    (done : ∀ m₁ nx h tk, J n m₁ nx → Fr h₀ env.locals h m₁ → News h₀ env.locals h nx → Q .next { s with heap := h, toks := tk }) :
    LoopAtV prog w A h₀ env x body Q E (.ref I) s := by
  refine ⟨I, [I], [I], n, P, St, m₀, news, J, rfl, W, by simpa using hLf, by simpa using hI, fun p hp => by simpa using hnw p hp, hst, F, N, hj, ?_, ?_⟩
  · rintro i v m₁ nx s₁ own ⟨hh', tk', rfl⟩ hin hP hJ hoff hown hget hall hst₁ F₁ N₁
    obtain ⟨oI, heI⟩ := hIo _ _ hst₁
    have hmI : (I, oI) ∈ own := hall I (List.mem_singleton_self _) hI oI heI
    have hsub : ∀ p ∈ own, p = (I, oI) := by
      intro p hp
      have h1 : p.1 = I := List.mem_singleton.mp (hown p hp)
      have h2 := hget p hp
      rw [h1] at h2
      have h3 : p.2 = oI := Option.some.inj (h2.symm.trans heI)
      exact Prod.ext h1 h3
    have N₂ : News h₀ env.locals hh' ((I, oI) :: nx) := fun p hp => by
      rcases List.mem_cons.mp hp with rfl | hp
      · exact N₁ _ (List.mem_append_left _ hmI)
      · exact N₁ _ (List.mem_append_right _ hp)
    refine wpAny_mono (turn i v m₁ nx oI hh' tk' hin hP hJ (fun p hp => by simpa using hoff p hp) F₁ N₂) (fun f s₂ p => ?_) fun _ _ e => e
    have fin : EndJ h₀ env.locals (J (i + 1)) I oI { s with heap := hh', toks := tk' } s₂ → LoopStepU h₀ env.locals [I] own (J (i + 1)) { s with heap := hh', toks := tk' } .next s₂ := by
      rintro ⟨h', tk, m', nx', e, F', N', ho, hm⟩
      refine ⟨rfl, h', tk, m', nx', e, F', fun p hp => ?_, fun p hp => by simpa using ho p hp, hm⟩
      rcases List.mem_append.mp hp with hp | hp
      · rw [hsub p hp]; exact N' _ List.mem_cons_self
      · exact N' _ (List.mem_cons_of_mem _ hp)
    cases f with
    | ret v => exact .ret p
    | brk => exact .brk p
    | next => exact .next (fin p)
    | cont => exact .cont (fin p)
  · rintro h' tk m' nx F' N' _ hJ
    exact done m' nx h' tk hJ F' N'
/-- a loop over a text -/
theorem text_J {xt : PySem.Str} {tx : Tok} {m₀ : PySem.Str → Option Value} {news : List (Addr × Obj)} (J : Nat → (PySem.Str → Option Value) → List (Addr × Obj) → Prop)
    (hh : A.handled = none) (F : Fr h₀ env.locals s.heap m₀) (N : News h₀ env.locals s.heap news) (hj : J 0 m₀ news)
    (turn : ∀ i c t m₁ nx I oI h tk, xt.cps[i]? = some c → J i m₁ nx → (∀ p ∈ nx, @Ne Nat p.1 I) → Fr h₀ env.locals h (fun y => if y = x then some (.str ⟨#[c]⟩ t) else m₁ y) → News h₀ env.locals h ((I, oI) :: nx) →
      wpAny (model prog w) A (execs body env) (TurnJ h₀ env.locals (J (i + 1)) I oI { s with heap := h, toks := tk } Q) E { s with heap := h, toks := tk })
    (done : ∀ m₁ nx h tk, J xt.length m₁ nx → Fr h₀ env.locals h m₁ → News h₀ env.locals h nx → Q .next { s with heap := h, toks := tk }) :
    wpAny (model prog w) A (pyIter (.str xt tx)) (fun it s₂ => LoopAtV prog w A h₀ env x body Q E it s₂) E s := by
  have go : ∀ (T : String) (o : Obj), Walks prog w A s.heap.objs.size [s.heap.objs.size] [s.heap.objs.size] xt.cps.size (SignAt xt) (fun i h => h.IsStrIter s.heap.objs.size T xt tx i) → (s.heap.push o).IsStrIter s.heap.objs.size T xt tx 0 →
      LoopAtV prog w A h₀ env x body Q E (.ref s.heap.objs.size) { s with heap := s.heap.push o } := by
    intro T o W hst
    refine loop_J J W (Nat.ne_of_lt F.ns.lt) (next_is_new F) (fun p hp => Nat.ne_of_lt (Heap.lt_size (N p hp).1)) ?_ hst (F.push _) (fun p hp => ⟨Heap.get?_push_of_some _ (N p hp).1, (N p hp).2⟩) hj ?_ done
    · intro i h hs
      obtain ⟨o, e, _⟩ := hs
      exact ⟨o, e⟩
    · rintro i v m₁ nx oI h tk _ ⟨c, t, hn, rfl⟩ hJ ho F₁ N₁
      exact turn i c t m₁ nx _ oI h tk hn hJ ho F₁ N₁
  cases ha : xt.cps.all (· < 128)
  · exact wpAny_pyIter_wide ha (go _ _ (Walks.strWide hh _ xt tx) ⟨_, Heap.get?_push_size _ rfl, rfl, rfl⟩)
  · exact wpAny_pyIter_ascii ha (go _ _ (Walks.strAscii hh _ xt tx) ⟨_, Heap.get?_push_size _ rfl, rfl, rfl⟩)
/-- a loop over range(n) -/
theorem range_J {r : Addr} {b : Int} {t u v : Tok} {n : Nat} {m₀ : PySem.Str → Option Value} {news : List (Addr × Obj)} (J : Nat → (PySem.Str → Option Value) → List (Addr × Obj) → Prop)
    (hh : A.handled = none) (F : Fr h₀ env.locals s.heap m₀) (N : News h₀ env.locals s.heap news) (hr : IsRange s.heap r 0 b 1 t u v) (hb : b = ((n : Nat) : Int)) (hn : n ≤ 1000000) (hj : J 0 m₀ news)
    (turn : ∀ i (t : Tok) m₁ nx I oI h tk, i < n → J i m₁ nx → (∀ p ∈ nx, @Ne Nat p.1 I) → Fr h₀ env.locals h (fun y => if y = x then some (.int ((i : Nat) : Int) t) else m₁ y) → News h₀ env.locals h ((I, oI) :: nx) →
      wpAny (model prog w) A (execs body env) (TurnJ h₀ env.locals (J (i + 1)) I oI { s with heap := h, toks := tk } Q) E { s with heap := h, toks := tk })
    (done : ∀ m₁ nx h tk, J n m₁ nx → Fr h₀ env.locals h m₁ → News h₀ env.locals h nx → Q .next { s with heap := h, toks := tk }) :
    wpAny (model prog w) A (pyIter (.ref r)) (fun it s₂ => LoopAtV prog w A h₀ env x body Q E it s₂) E s := by
  subst hb
  refine wpAny_pyIter_range hr (small_to hn) ?_
  refine loop_J J (range_walks hh 0 n) (Nat.ne_of_lt F.ns.lt) (next_is_new F) (fun p hp => Nat.ne_of_lt (Heap.lt_size (N p hp).1)) (fun i h st => ⟨_, st⟩) ?_ (F.push _) (fun p hp => ⟨Heap.get?_push_of_some _ (N p hp).1, (N p hp).2⟩) hj ?_ done
  · show IsRangeIter _ _ _ _ _
    rw [rangeSize_to]; simpa using Heap.get?_push_size _ rfl
  · rintro i v m₁ nx oI h tk hi ⟨t, rfl⟩ hJ ho F₁ N₁
    rw [Int.zero_add] at F₁
    exact turn i t m₁ nx _ oI h tk hi hJ ho F₁ N₁
theorem EndJ.intro {L : Addr} {J : (PySem.Str → Option Value) → List (Addr × Obj) → Prop} {I : Addr} {oI : Obj} {s₁ : Shared} {h' : Heap} {tk : Nat} {m' : PySem.Str → Option Value} {all : List (Addr × Obj)} (F : Fr h₀ L h' m') (N : News h₀ L h' all) (nx : List (Addr × Obj)) (hI : (I, oI) ∈ all) (hs : ∀ p ∈ nx, p ∈ all) (ho : ∀ p ∈ nx, @Ne Nat p.1 I) (hj : J m' nx) :
    EndJ h₀ L J I oI s₁ { s₁ with heap := h', toks := tk } :=
  ⟨h', tk, m', nx, rfl, F, fun p hp => (List.mem_cons.mp hp).elim (fun e => e ▸ N _ hI) fun e => N _ (hs _ e), ho, hj⟩
end
end Mine
end
section
open PySem PySem.W PyProof.Rows PySem.Calls PyProof.Rows.LCg PyProof.Rows.LCt
namespace Mine
section
variable {prog : Program} {w : World} {A : Around} {E : Value → Shared → Prop} {s : Shared} {env : Env} {h₀ : Heap} {x : PySem.Str} {body : List Stmt} {Q : Flow → Shared → Prop}
/-- a turn's end of a loop that stores no local but its own letter -/
def EndC (h₀ : Heap) (L : Addr) (x : PySem.Str) (m₀ : PySem.Str → Option Value) (J : List (Addr × Obj) → Prop) (I : Addr) (oI : Obj) (s₁ s₂ : Shared) : Prop :=
  ∃ h' tk m' nx, s₂ = { s₁ with heap := h', toks := tk } ∧ Fr h₀ L h' m' ∧ (∀ y, y ≠ x → m' y = m₀ y) ∧ News h₀ L h' ((I, oI) :: nx) ∧ (∀ p ∈ nx, @Ne Nat p.1 I) ∧ J nx
def TurnC (h₀ : Heap) (L : Addr) (x : PySem.Str) (m₀ : PySem.Str → Option Value) (J : List (Addr × Obj) → Prop) (I : Addr) (oI : Obj) (s₁ : Shared) (Q : Flow → Shared → Prop) (f : Flow) (s₂ : Shared) : Prop :=
  match f with
  | .ret v => Q (.ret v) s₂
  | .brk => Q .next s₂
  | _ => EndC h₀ L x m₀ J I oI s₁ s₂
theorem EndC.intro {L : Addr} {m₀ : PySem.Str → Option Value} {J : List (Addr × Obj) → Prop} {I : Addr} {oI : Obj} {s₁ : Shared} {h' : Heap} {tk : Nat} {m' : PySem.Str → Option Value} {all : List (Addr × Obj)} (nx : List (Addr × Obj)) (F : Fr h₀ L h' m') (N : News h₀ L h' all) (hm : ∀ y, y ≠ x → m' y = m₀ y) (hI : (I, oI) ∈ all) (hs : ∀ p ∈ nx, p ∈ all) (ho : ∀ p ∈ nx, @Ne Nat p.1 I) (hj : J nx) :
    TurnC h₀ L x m₀ J I oI s₁ Q .next { s₁ with heap := h', toks := tk } :=
  ⟨h', tk, m', nx, rfl, F, hm, fun p hp => (List.mem_cons.mp hp).elim (fun e => e ▸ N _ hI) fun e => N _ (hs _ e), ho, hj⟩
theorem text_C {xt : PySem.Str} {tx : Tok} {m₀ : PySem.Str → Option Value} {news : List (Addr × Obj)} (J : Nat → List (Addr × Obj) → Prop)
    (hh : A.handled = none) (F : Fr h₀ env.locals s.heap m₀) (N : News h₀ env.locals s.heap news) (nx₀ : List (Addr × Obj)) (hs : ∀ p ∈ nx₀, p ∈ news) (hj : J 0 nx₀)
    (turn : ∀ i c t nx I oI h tk, xt.cps[i]? = some c → J i nx → (∀ p ∈ nx, @Ne Nat p.1 I) → Fr h₀ env.locals h (fun y => if y = x then some (.str ⟨#[c]⟩ t) else m₀ y) → News h₀ env.locals h ((I, oI) :: nx) →
      wpAny (model prog w) A (execs body env) (TurnC h₀ env.locals x m₀ (J (i + 1)) I oI { s with heap := h, toks := tk } Q) E { s with heap := h, toks := tk })
    (done : ∀ u nx h tk, J xt.length nx → Fr h₀ env.locals h (fun y => if y = x then u else m₀ y) → News h₀ env.locals h nx → Q .next { s with heap := h, toks := tk }) :
    wpAny (model prog w) A (pyIter (.str xt tx)) (fun it s₂ => LoopAtV prog w A h₀ env x body Q E it s₂) E s := by
  have em : ∀ (m₁ : PySem.Str → Option Value) (u : Option Value), (∀ y, y ≠ x → m₁ y = m₀ y) → (fun y => if y = x then u else m₁ y) = fun y => if y = x then u else m₀ y := by
    intro m₁ u h
    funext y
    by_cases e : y = x
    · simp [e]
    · simp [e, h y e]
  refine text_J (fun i m nx => (∀ y, y ≠ x → m y = m₀ y) ∧ J i nx) hh F (fun p hp => N p (hs p hp)) ⟨fun _ _ => rfl, hj⟩ ?_ ?_
  · rintro i c t m₁ nx I oI h tk hc ⟨hm, hJ⟩ ho F₁ N₁
    rw [em m₁ _ hm] at F₁
    refine wpAny_mono (turn i c t nx I oI h tk hc hJ ho F₁ N₁) (fun f s₂ p => ?_) fun _ _ e => e
    have fin : EndC h₀ env.locals x m₀ (J (i + 1)) I oI { s with heap := h, toks := tk } s₂ → EndJ h₀ env.locals (fun m nx => (∀ y, y ≠ x → m y = m₀ y) ∧ J (i + 1) nx) I oI { s with heap := h, toks := tk } s₂ := by
      rintro ⟨h', tk', m', nx', e, F', hm', N', ho', hj'⟩
      exact ⟨h', tk', m', nx', e, F', N', ho', hm', hj'⟩
    cases f with
    | ret v => exact p
    | brk => exact p
    | next => exact fin p
    | cont => exact fin p
  · rintro m₁ nx h tk ⟨hm, hJ⟩ F₁ N₁
    refine done (m₁ x) nx h tk hJ ?_ N₁
    rw [← em m₁ _ hm]
    have : (fun y => if y = x then m₁ x else m₁ y) = m₁ := by
      funext y
      by_cases e : y = x
      · simp [e]
      · simp [e]
    rw [this]; exact F₁
end
end Mine
end
section
open PySem PySem.W PyProof.Rows PySem.Calls
namespace Mine
/-! law 1: the page -/
def sgn (ns : List Int) (j : Nat) : Nat := signN (ns.getD (3 + j % 6) 0)
def endN (ns : List Int) (j : Nat) : Nat := ((ns.getD (3 + j % 6) 0).fmod 3).toNat
def endL (k : Nat) : List Nat := if k = 0 then [10] else if k = 1 then [13] else [13, 10]
theorem endL_len (k : Nat) : (T (endL k)).length ≤ 2 := by
  rw [T_len]; unfold endL; split
  · simp
  · split <;> simp
section
variable {prog : Program} {w : World} {A : Around} {E : Value → Shared → Prop} {s : Shared} {h₀ : Heap} {L : Addr} {news : List (Addr × Obj)}
theorem item_sign {value slice : Expr} {a : Addr} {vs : List Value} {ns : List Int} {n c : Nat} {k : Int} {u : Tok} {Q : Value → Shared → Prop} (N : News h₀ L s.heap news) (hm : (a, ({ cls := .type "list", data := .seq vs.toArray c } : Obj)) ∈ news)
    (hS : StrsAre vs ((List.range n).map fun j => T [sgn ns j])) (h0 : 0 ≤ k) (h1 : k < n) (hz : n ≤ 1000) (h : ∀ t, (T [sgn ns k.toNat]).length = 1 → Q (.str (T [sgn ns k.toNat]) t) s)
    (hs : subscripted slice false (.ref a) (.int k u) = operate [.ref a, .int k u] (getItem (.ref a) (.int k u)) := by with_unfolding_all rfl) :
    wpAny (model prog w) A (subscriptTail value slice (.ref a) (.int k u)) Q E s := by
  refine item_strs N hm hS h0 (by simpa using h1) (by simp; omega) (fun t => ?_) hs
  have e : ((List.range n).map fun j => T [sgn ns j]).getD k.toNat ⟨#[]⟩ = T [sgn ns k.toNat] := by
    have hk : k.toNat < n := by omega
    simp [List.getD, hk]
  rw [e]; exact h t rfl
theorem item_end {value slice : Expr} {a : Addr} {t0 t1 t2 : Tok} {c : Nat} {n : Int} {u : Tok} {Q : Value → Shared → Prop} (N : News h₀ L s.heap news)
    (hm : (a, ({ cls := .type "tuple", data := .seq #[.str (PySem.Str.ofString "\n") t0, .str (PySem.Str.ofString "\r") t1, .str (PySem.Str.ofString "\r\n") t2] c } : Obj)) ∈ news)
    (h : ∀ t, (T (endL (n.fmod 3).toNat)).length ≤ 2 → Q (.str (T (endL (n.fmod 3).toNat)) t) s)
    (hs : subscripted slice false (.ref a) (.int (n.fmod 3) u) = operate [.ref a, .int (n.fmod 3) u] (getItem (.ref a) (.int (n.fmod 3) u)) := by with_unfolding_all rfl) :
    wpAny (model prog w) A (subscriptTail value slice (.ref a) (.int (n.fmod 3) u)) Q E s := by
  have h0 : 0 ≤ n.fmod 3 := Int.fmod_nonneg_of_pos _ (by decide)
  have h1 : n.fmod 3 < 3 := Int.fmod_lt_of_pos _ (by decide)
  refine item_tstrs N hm (.cons _ _ (.cons _ _ (.cons _ _ .nil))) h0 (by simpa using h1) (by simp) (fun t => ?_) hs
  have e : [PySem.Str.ofString "\n", PySem.Str.ofString "\r", PySem.Str.ofString "\r\n"].getD (n.fmod 3).toNat ⟨#[]⟩ = T (endL (n.fmod 3).toNat) := by
    have : (n.fmod 3).toNat = 0 ∨ (n.fmod 3).toNat = 1 ∨ (n.fmod 3).toNat = 2 := by omega
    rcases this with e | e | e <;> rw [e] <;> decide +kernel
  rw [e]; exact h t (endL_len _)
end
def rowL (cs : List Nat) (ns : List Int) (j : Nat) : List Nat := List.replicate (cs.getD j 0) 46 ++ (sgn ns j :: endL (endN ns j))
def pageL (cs : List Nat) (ns : List Int) (i : Nat) : List Nat := ((List.range i).map (rowL cs ns)).flatten
theorem pageL_succ (cs : List Nat) (ns : List Int) (i : Nat) : pageL cs ns (i + 1) = pageL cs ns i ++ rowL cs ns i := by
  simp [pageL, List.range_succ]
theorem getD_cast (cs : List Nat) (k : Nat) : (cs.map fun (c : Nat) => (c : Int)).getD k 0 = ((cs.getD k 0 : Nat) : Int) := by
  simp only [List.getD, List.getElem?_map]
  cases cs[k]? <;> simp
theorem cnt_bd {cs : List Nat} {B : Nat} (h : ∀ c ∈ cs, c ≤ B) (k : Nat) : 0 ≤ (cs.map fun (c : Nat) => (c : Int)).getD k 0 ∧ (cs.map fun (c : Nat) => (c : Int)).getD k 0 ≤ B := by
  rw [getD_cast]
  have : cs.getD k 0 ≤ B := by
    simp only [List.getD]
    cases e : cs[k]? with
    | none => simp
    | some c => exact h c (List.mem_of_getElem? e)
  omega
theorem row_len (cs : List Nat) (ns : List Int) (j : Nat) {B : Nat} (h : ∀ c ∈ cs, c ≤ B) : (rowL cs ns j).length ≤ B + 3 := by
  have := cnt_bd h j
  rw [getD_cast] at this
  have h2 := endL_len (endN ns j)
  rw [T_len] at h2
  simp only [rowL, List.length_append, List.length_replicate, List.length_cons]
  omega
theorem page_len {cs : List Nat} {ns : List Int} {B : Nat} (h : ∀ c ∈ cs, c ≤ B) : ∀ i, (pageL cs ns i).length ≤ (B + 3) * i
  | 0 => by simp [pageL]
  | i + 1 => by
    rw [pageL_succ, List.length_append, Nat.mul_succ]
    exact Nat.add_le_add (page_len h i) (row_len cs ns i h)
theorem page_start {cs : List Nat} {ns : List Int} : PySem.Str.ofString "" = T (pageL cs ns (List.length ([] : List Int))) ∧ (PySem.Str.ofString "").length ≤ 120 * (List.length ([] : List Int)) := by
  rw [nilS]; exact ⟨rfl, Nat.le_refl _⟩
theorem end_walk {ns : List Int} {k : Int} (h : 0 ≤ k) : ((ns.getD (3 + k.fmod 6).toNat 0).fmod 3).toNat = endN ns k.toNat := by
  unfold endN
  have e : (3 + k.fmod 6).toNat = 3 + k.toNat % 6 := by
    rw [Int.fmod_eq_emod_of_nonneg _ (by decide)]; omega
  rw [e]
theorem page_turn {cs : List Nat} {ns pre : List Int} {p : PySem.Str} {k : Int} (hcs : ∀ c ∈ cs, c ≤ 100) (h : p = T (pageL cs ns pre.length)) (hk : k = 0 + (pre.length : Int)) :
    p ++ Txt.mul (PySem.Str.ofString ".") ((cs.map fun (c : Nat) => (c : Int)).getD k.toNat 0) ++ T [sgn ns k.toNat] ++ T (endL ((ns.getD (3 + k.fmod 6).toNat 0).fmod 3).toNat) = T (pageL cs ns (pre ++ [k]).length) ∧
    (p ++ Txt.mul (PySem.Str.ofString ".") ((cs.map fun (c : Nat) => (c : Int)).getD k.toNat 0) ++ T [sgn ns k.toNat] ++ T (endL ((ns.getD (3 + k.fmod 6).toNat 0).fmod 3).toNat)).length ≤ 120 * (pre ++ [k]).length := by
  rw [end_walk (by omega)]
  have hkn : k.toNat = pre.length := by omega
  have e : p ++ Txt.mul (PySem.Str.ofString ".") ((cs.map fun (c : Nat) => (c : Int)).getD k.toNat 0) ++ T [sgn ns k.toNat] ++ T (endL (endN ns k.toNat)) = T (pageL cs ns (pre ++ [k]).length) := by
    rw [h, getD_cast, dots_mul, hkn, T_app, T_app, T_app, List.length_append, List.length_singleton, pageL_succ, rowL]
    simp
  refine ⟨e, ?_⟩
  rw [e, T_len]
  have := page_len (ns := ns) hcs (pre ++ [k]).length
  omega
theorem kn_lt {cs : List Nat} {k : Int} {pre : List Int} (e : k = 0 + (pre.length : Int)) (h : pre.length < (((cs.map fun (c : Nat) => (c : Int)).length : Int) - 0).toNat) : 0 ≤ k ∧ k < (cs.length : Int) := by
  rw [List.length_map] at h; omega
theorem kn_lt' {n : Nat} {k : Int} {pre : List Int} (e : k = 0 + (pre.length : Int)) (h : pre.length < ((n : Int) - 0).toNat) : 0 ≤ k ∧ k < (n : Int) := by omega
theorem sgn_step {ns : List Int} {ys : List Value} {i : Nat} {t : Tok} (h : StrsAre ys ((List.range i).map fun j => T [sgn ns j])) :
    StrsAre (ys ++ [.str (T [signN (ns.getD (3 + ((i : Nat) : Int).fmod 6).toNat 0)]) t]) ((List.range (i + 1)).map fun j => T [sgn ns j]) := by
  rw [List.range_succ, List.map_append]
  have e : (3 + ((i : Nat) : Int).fmod 6).toNat = 3 + i % 6 := by
    rw [Int.fmod_eq_emod_of_nonneg _ (by decide)]; omega
  rw [e]
  exact strsAre_snoc' h _ _
end Mine
end
section
open PySem PySem.W PyProof.Rows PySem.Calls
namespace Mine
/-! law 1: quoting the page -/
def qN : Nat → List Nat → List Nat
  | 0, l => l
  | k + 1, l => quote (qN k l)
theorem qN_len (l : List Nat) : ∀ k, (qN k l).length ≤ 4 ^ k * l.length
  | 0 => by simp [qN]
  | k + 1 => by
    have h1 := qN_len l k
    have h2 := quote_len (qN k l)
    rw [qN, Nat.pow_succ]
    calc (quote (qN k l)).length ≤ 4 * (qN k l).length := h2
      _ ≤ 4 * (4 ^ k * l.length) := Nat.mul_le_mul_left 4 h1
      _ = 4 ^ k * 4 * l.length := by rw [Nat.mul_comm (4 ^ k) 4, Nat.mul_assoc]
theorem qN_ok {l : List Nat} {k : Nat} (h : l.length ≤ 1080) (hk : k ≤ 4) : (qN k l).length ≤ 400000 := by
  have h1 := qN_len l k
  have h2 : 4 ^ k ≤ 4 ^ 4 := Nat.pow_le_pow_right (by decide) hk
  have h3 : 4 ^ k * l.length ≤ 4 ^ 4 * 1080 := Nat.mul_le_mul h2 h
  omega
def rowQ (cs : List Nat) (ns : List Int) (t j : Nat) : List Nat := List.replicate (cs.getD j 0 + if cs.getD j 0 = 0 then 0 else t) 46 ++ [sgn ns j, 13, 10]
def pageQ (cs : List Nat) (ns : List Int) (t i : Nat) : List Nat := ((List.range i).map (rowQ cs ns t)).flatten
theorem sgn_no (ns : List Int) (j : Nat) : sgn ns j ≠ 13 ∧ sgn ns j ≠ 10 ∧ sgn ns j ≠ 46 ∧ sgn ns j ≠ 34 := by
  have h := signN_ne (ns.getD (3 + j % 6) 0)
  exact ⟨h.2.2.1, h.2.2.2, h.1, h.2.1⟩
theorem crlf_dots (c : Nat) (r : List Nat) : crlf (List.replicate c 46 ++ r) = List.replicate c 46 ++ crlf r := by
  induction c with
  | zero => rfl
  | succ c ih => rw [List.replicate_succ, List.cons_append, crlf_other (by decide), ih]; rfl
theorem crlf_end {k : Nat} {r : List Nat} (h : ∀ x, r.head? = some x → x ≠ 10) : crlf (endL k ++ r) = 13 :: 10 :: crlf r := by
  unfold endL
  split
  · cases r with
    | nil => simp [crlf]
    | cons d r => simp [crlf]
  · split
    · cases r with
      | nil => simp [crlf]
      | cons d r =>
        have : d ≠ 10 := h d rfl
        simp [crlf, this]
    · exact crlf_two r
theorem rows_head {cs : List Nat} {ns : List Int} {f : Nat → List Nat} (hf : ∀ j, ∃ c r, f j = List.replicate c 46 ++ sgn ns j :: r) (l : List Nat) : ∀ x, ((l.map f).flatten).head? = some x → x ≠ 10 := by
  intro x hx
  cases l with
  | nil => simp at hx
  | cons j l =>
    obtain ⟨c, r, e⟩ := hf j
    rw [List.map_cons, List.flatten_cons, e] at hx
    cases c with
    | zero =>
      simp at hx
      rw [← hx]; exact (sgn_no _ _).2.1
    | succ c =>
      simp [List.replicate_succ] at hx
      omega
theorem crlf_rows (cs : List Nat) (ns : List Int) (g : Nat → List Nat) (hg : ∀ j, ∃ c k, g j = List.replicate c 46 ++ (sgn ns j :: endL k)) : ∀ l : List Nat,
    crlf ((l.map g).flatten) = (l.map fun j => List.replicate ((g j).takeWhile (· == 46)).length 46 ++ [sgn ns j, 13, 10]).flatten
  | [] => rfl
  | j :: l => by
    obtain ⟨c, k, e⟩ := hg j
    have hh := rows_head (cs := cs) (ns := ns) (f := g) (fun j => by obtain ⟨c, k, e⟩ := hg j; exact ⟨c, endL k, e⟩) l
    have hs := sgn_no ns j
    have e2 : ((g j).takeWhile (· == 46)).length = c := by
      rw [e, List.takeWhile_append_of_pos (by intro a ha; simp [List.eq_of_mem_replicate ha])]
      simp [hs.2.2.1]
    rw [List.map_cons, List.flatten_cons, List.map_cons, List.flatten_cons, e2, e, List.append_assoc, crlf_dots, List.cons_append]
    rw [crlf_other (by omega), crlf_end hh, crlf_rows cs ns g hg l]
    simp
theorem dd_dots (c : Nat) (r : List Nat) : dd false (List.replicate c 46 ++ r) = List.replicate c 46 ++ dd false r := by
  induction c with
  | zero => rfl
  | succ c ih =>
    rw [List.replicate_succ, List.cons_append, dd]
    simp [ih]
theorem dd_row {c s : Nat} {r : List Nat} (h1 : s ≠ 46) (h2 : s ≠ 10) : dd true (List.replicate c 46 ++ ([s, 13, 10] ++ r)) = List.replicate (c + if c = 0 then 0 else 1) 46 ++ ([s, 13, 10] ++ dd true r) := by
  cases c with
  | zero => simp [dd, h1, h2]
  | succ c =>
    rw [List.replicate_succ, List.cons_append, dd, if_pos ⟨rfl, rfl⟩, dd_dots]
    simp [dd, h1, h2, List.replicate_succ]
theorem dd_rows (ns : List Int) (h : Nat → Nat) : ∀ l : List Nat,
    dd true ((l.map fun j => List.replicate (h j) 46 ++ [sgn ns j, 13, 10]).flatten) = (l.map fun j => List.replicate (h j + if h j = 0 then 0 else 1) 46 ++ [sgn ns j, 13, 10]).flatten
  | [] => rfl
  | j :: l => by
    have hs := sgn_no ns j
    rw [List.map_cons, List.flatten_cons, List.map_cons, List.flatten_cons, List.append_assoc, dd_row hs.2.2.1 hs.2.1, dd_rows ns h l, List.append_assoc]
theorem quote_rows (cs : List Nat) (ns : List Int) (g : Nat → List Nat) (h : Nat → Nat) (hg : ∀ j, ∃ k, g j = List.replicate (h j) 46 ++ (sgn ns j :: endL k)) (l : List Nat) :
    quote ((l.map g).flatten) = (l.map fun j => List.replicate (h j + if h j = 0 then 0 else 1) 46 ++ [sgn ns j, 13, 10]).flatten := by
  unfold quote
  rw [crlf_rows cs ns g (fun j => by obtain ⟨k, e⟩ := hg j; exact ⟨h j, k, e⟩)]
  have e : (fun j => List.replicate ((g j).takeWhile (· == 46)).length 46 ++ [sgn ns j, 13, 10]) = fun j => List.replicate (h j) 46 ++ [sgn ns j, 13, 10] := by
    funext j
    obtain ⟨k, e⟩ := hg j
    have hs := sgn_no ns j
    have e2 : ((g j).takeWhile (· == 46)).length = h j := by
      rw [e, List.takeWhile_append_of_pos (by intro a ha; simp [List.eq_of_mem_replicate ha])]
      simp [hs.2.2.1]
    rw [e2]
  rw [e, dd_rows]
theorem qN_page (cs : List Nat) (ns : List Int) (i : Nat) : ∀ t, qN (t + 1) (pageL cs ns i) = pageQ cs ns (t + 1) i
  | 0 => by
    rw [qN, qN, pageL, quote_rows cs ns (rowL cs ns) (fun j => cs.getD j 0) (fun j => ⟨endN ns j, rfl⟩)]
    rfl
  | t + 1 => by
    rw [qN, qN_page cs ns i t, pageQ, quote_rows cs ns (rowQ cs ns (t + 1)) (fun j => cs.getD j 0 + if cs.getD j 0 = 0 then 0 else t + 1) (fun j => ⟨2, rfl⟩), pageQ]
    congr 2
    funext j
    simp only [rowQ]
    generalize cs.getD j 0 = c
    congr 2
    by_cases h : c = 0
    · subst h; rfl
    · simp only [h, if_false]
      rw [if_neg (by omega)]; omega
theorem page_1080 {cs : List Nat} {ns : List Int} (h : ∀ c ∈ cs, c ≤ 100) (hc : cs.length ≤ 9) : (pageL cs ns cs.length).length ≤ 1080 := by
  have := page_len (ns := ns) h cs.length
  omega
theorem rks_len (n : Nat) (a : Int) : (rangeKs a n).length = n := by simp [rangeKs]
theorem page_done {cs : List Nat} {ns : List Int} {p : PySem.Str} (h : p = T (pageL cs ns (rangeKs 0 (((cs.map fun (c : Nat) => (c : Int)).length : Int) - 0).toNat).length)) :
    p = T (qN ([] : List Int).length (pageL cs ns cs.length)) := by
  rw [h, rks_len, List.length_map, List.length_nil, qN, show ((cs.length : Int) - 0).toNat = cs.length by omega]
theorem q_turn {pre : List Int} {k : Int} {l : List Nat} : T (quote (qN pre.length l)) = T (qN (pre ++ [k]).length l) := by
  rw [List.length_append, List.length_singleton, qN]
theorem qN_ok' {l : List Nat} {pre : List Int} {x : Nat} (h : l.length ≤ 1080) (hx : x ≤ 4) (hk : pre.length < ((x : Int) - 0).toNat) : (qN pre.length l).length ≤ 400000 :=
  qN_ok h (by omega)
theorem page_times {cs : List Nat} {ns : List Int} {p : PySem.Str} {x : Nat} (h : p = T (qN (rangeKs 0 ((x : Int) - 0).toNat).length (pageL cs ns cs.length))) (hx : 1 ≤ x) :
    p = T (pageQ cs ns x cs.length) := by
  rw [rks_len, show ((x : Int) - 0).toNat = (x - 1) + 1 by omega, qN_page, show x - 1 + 1 = x by omega] at h
  exact h
end Mine
end
section
open PySem PySem.W PyProof.Rows PySem.Calls
namespace Mine
open PySem.StrLaws PySem.Builtin PySem.Builtin.Str
/-! splitting at the line ends -/
theorem at_T (l : List Nat) (i : Nat) : At (T l) (T [13, 10]) (T l).length i ↔ (l.drop i).take 2 = [13, 10] := by
  unfold At
  rw [subAt_eq, T_len, T_len, T_list, T_list, beq_iff_eq]
  show i + 2 ≤ l.length ∧ (l.drop i).take 2 = [13, 10] ↔ (l.drop i).take 2 = [13, 10]
  constructor
  · exact fun h => h.2
  · intro h
    refine ⟨?_, h⟩
    have := congrArg List.length h
    simp at this
    omega
def rowsJ (rows : List (List Nat)) : List Nat := (rows.map (· ++ [13, 10])).flatten
theorem rows_parts : ∀ (rows : List (List Nat)), (∀ r ∈ rows, 13 ∉ r) → ∀ (x pre : List Nat) (cuts : List Nat) (f : Nat), x = pre ++ rowsJ rows →
    ChainG (T x) (T [13, 10]) (T x).length pre.length cuts f → (∀ k, f ≤ k → ¬ At (T x) (T [13, 10]) (T x).length k) → partsFrom (T x) (T [13, 10]).length pre.length cuts = rows.map T ++ [T []]
  | [], _, x, pre, cuts, f, hx, hC, hn => by
    have hx' : x = pre := by simpa [rowsJ] using hx
    subst hx'
    cases cuts with
    | nil =>
      show [strSub (T x) x.length (T x).length] = [T []]
      congr 1
      apply Str.ext'
      apply Array.toList_inj.mp
      rw [strSub_toList, T_list]; simp
    | cons c r =>
      have h1 := hC.1
      have h2 := (at_T x c).mp hC.2.1
      rw [List.drop_of_length_le h1] at h2
      simp at h2
  | row :: rows, hr, x, pre, cuts, f, hx, hC, hn => by
    have hx1 : x = (pre ++ row) ++ (13 :: 10 :: rowsJ rows) := by rw [hx]; simp [rowsJ]
    have hp : At (T x) (T [13, 10]) (T x).length (pre.length + row.length) := by
      rw [at_T, hx1, ← List.length_append, List.drop_left]; rfl
    have hno : ∀ c, pre.length ≤ c → c < pre.length + row.length → ¬ At (T x) (T [13, 10]) (T x).length c := by
      intro c h1 h2 h3
      rw [at_T] at h3
      have h4 : x[c]? = some 13 := by
        have := congrArg (fun l : List Nat => l[0]?) h3
        simpa using this
      rw [hx1, List.append_assoc, List.getElem?_append_right h1, List.getElem?_append_left (by omega)] at h4
      exact hr row (.head _) (List.mem_of_getElem? h4)
    cases cuts with
    | nil =>
      have e : f = pre.length := hC
      exact absurd hp (hn _ (by rw [e]; exact Nat.le_add_right _ _))
    | cons c r =>
      have hc : c = pre.length + row.length := by
        rcases Nat.lt_trichotomy c (pre.length + row.length) with h | h | h
        · exact absurd hC.2.1 (hno c hC.1 h)
        · exact h
        · exact absurd hp (hC.2.2.1 (pre.length + row.length) (Nat.le_add_right _ _) h)
      subst hc
      show strSub (T x) pre.length (pre.length + row.length) :: partsFrom (T x) (T [13, 10]).length (pre.length + row.length + 2) r = T row :: (rows.map T ++ [T []])
      have hl : pre.length + row.length + 2 = (pre ++ row ++ [13, 10]).length := by simp [Nat.add_assoc]
      have hC' := hC.2.2.2
      rw [show (T [13, 10]).length = 2 from rfl, hl] at hC'
      rw [hl, rows_parts rows (fun r h => hr r (List.mem_cons_of_mem _ h)) x (pre ++ row ++ [13, 10]) r f (by rw [hx1]; simp) hC' hn]
      congr 1
      apply Str.ext'
      apply Array.toList_inj.mp
      rw [strSub_toList, T_list, T_list, hx1, List.append_assoc, List.drop_left, Nat.add_sub_cancel_left, List.take_left]
theorem kind_lo (x : PySem.Str) : ¬ PySem.Builtin.Str.strKind x < PySem.Builtin.Str.strKind (T [13, 10]) := by
  have : PySem.Builtin.Str.strKind (T [13, 10]) = 1 := by decide +kernel
  rw [this]
  unfold PySem.Builtin.Str.strKind
  split
  · omega
  · split <;> omega
theorem split_rows {rows : List (List Nat)} (hr : ∀ r ∈ rows, 13 ∉ r) : Txt.split (T (rowsJ rows)) (T [13, 10]) = rows.map T ++ [T []] := by
  have hk := kind_lo (T (rowsJ rows))
  obtain ⟨f, hG, hn⟩ := occ_tight (T (rowsJ rows)) (T [13, 10]) (by rw [T_len]; decide)
  have key := rows_parts rows hr (rowsJ rows) [] _ f rfl hG hn
  unfold Txt.split
  split
  · rename_i h
    simp only [hk, decide_false, Bool.or_false, decide_eq_true_eq] at h
    cases rows with
    | nil => rfl
    | cons a l =>
      rw [T_len, T_len] at h
      simp [rowsJ] at h
      omega
  · split
    · rename_i h
      have e : occurrences (T (rowsJ rows)) (T [13, 10]) 0 (T (rowsJ rows)).length ((T (rowsJ rows)).length + 1) = [] := List.isEmpty_iff.mp h
      rw [e] at key
      rw [← key]
      show _ = [strSub (T (rowsJ rows)) 0 (T (rowsJ rows)).length]
      rw [sub_whole]
    · rw [partsBetween_eq]; exact key
def rowD (cs : List Nat) (ns : List Int) (t j : Nat) : List Nat := List.replicate (cs.getD j 0 + if cs.getD j 0 = 0 then 0 else t) 46 ++ [sgn ns j]
theorem pageQ_rows (cs : List Nat) (ns : List Int) (t i : Nat) : pageQ cs ns t i = rowsJ ((List.range i).map (rowD cs ns t)) := by
  unfold pageQ rowsJ
  rw [List.map_map]
  congr 2
  funext j
  simp [rowQ, rowD]
theorem split_page (cs : List Nat) (ns : List Int) (t i : Nat) : Txt.split (T (pageQ cs ns t i)) (PySem.Str.ofString "\r\n") = ((List.range i).map fun j => T (rowD cs ns t j)) ++ [T []] := by
  have e : PySem.Str.ofString "\r\n" = T [13, 10] := by decide +kernel
  rw [e, pageQ_rows, split_rows, List.map_map]
  · rfl
  · intro r hr
    obtain ⟨j, _, rfl⟩ := List.mem_map.mp hr
    have h := sgn_no ns j
    simp [rowD, List.mem_replicate, Ne.symm h.1]
theorem rowQ_len (cs : List Nat) (ns : List Int) (t j : Nat) {B : Nat} (h : ∀ c ∈ cs, c ≤ B) : (rowQ cs ns t j).length ≤ B + t + 3 := by
  have := cnt_bd h j
  rw [getD_cast] at this
  simp only [rowQ, List.length_append, List.length_replicate, List.length_cons, List.length_nil]
  split <;> omega
theorem pageQ_len {cs : List Nat} {ns : List Int} {t B : Nat} (h : ∀ c ∈ cs, c ≤ B) : ∀ i, (pageQ cs ns t i).length ≤ (B + t + 3) * i
  | 0 => by simp [pageQ]
  | i + 1 => by
    have e : pageQ cs ns t (i + 1) = pageQ cs ns t i ++ rowQ cs ns t i := by simp [pageQ, List.range_succ]
    rw [e, List.length_append, Nat.mul_succ]
    exact Nat.add_le_add (pageQ_len h i) (rowQ_len cs ns t i h)
theorem pageQ_size {cs : List Nat} {ns : List Int} {x : Nat} (hx : x ≤ 4) (h : ∀ c ∈ cs, c ≤ 100) (hc : cs.length ≤ 12) : (pageQ cs ns x cs.length).length + 2 ≤ sizeLine := by
  have h1 := pageQ_len (ns := ns) (t := x) h cs.length
  have h2 : (100 + x + 3) * cs.length ≤ (100 + 4 + 3) * 12 := Nat.mul_le_mul (by omega) hc
  rw [sizeLine_eq]; omega
end Mine
end
section
open PySem PySem.W PyProof.Rows PySem.Calls
namespace Mine
theorem pick_last (vs : List Value) : (slicePick vs.toArray none (some (-1)) none).toList = vs.dropLast := by
  have e : sliceBounds none (some (-1)) none vs.toArray.size = (((0 : Nat) : Int), ((vs.toArray.size - 1 : Nat) : Int), 1) := by
    simp only [sliceBounds, Option.getD_none, show (1 : Int) > 0 by decide, if_true, if_pos (show (-1 : Int) < 0 by decide)]
    congr 1
    congr 1
    omega
  rw [kmk_pick_nat _ e]
  show (vs.drop 0).take (vs.toArray.size - 1 - 0) = _
  rw [List.drop_zero, Nat.sub_zero, List.size_toArray, List.dropLast_eq_take]
theorem strsAre_drop {vs : List Value} {ys : List PySem.Str} {y : PySem.Str} (h : StrsAre vs (ys ++ [y])) : StrsAre vs.dropLast ys := by
  induction ys generalizing vs with
  | nil =>
    cases h with
    | cons z u r => cases r; exact .nil
  | cons a l ih =>
    cases h with
    | cons z u r =>
      have := ih r
      have hr := strsAre_len r
      rename_i tl
      cases tl with
      | nil => simp at hr
      | cons b tl => exact .cons _ _ this
section
variable {prog : Program} {w : World} {A : Around} {E : Value → Shared → Prop} {s : Shared} {h₀ : Heap} {L : Addr} {m : PySem.Str → Option Value} {news : List (Addr × Obj)} {Q : Value → Shared → Prop}
theorem split_K {cs : List Nat} {ns : List Int} {x n : Nat} {t u : Tok} (F : Fr h₀ L s.heap m) (N : News h₀ L s.heap news) (hz : (pageQ cs ns x n).length + 2 ≤ sizeLine)
    (h : ∀ D vs h' k, StrsAre vs (((List.range n).map fun j => T (rowD cs ns x j)) ++ [T []]) → Fr h₀ L h' m → News h₀ L h' ((D, listOf vs.toArray 0) :: news) → (∀ p ∈ news, p.1 < D) → Q (.ref D) { s with heap := h', toks := k }) :
    wpAny (model prog w) A (call (.builtin "str.split") [.str (T (pageQ cs ns x n)) t, .str (PySem.Str.ofString "\r\n") u]) Q E s :=
  splitN1A F N rfl (fun l h' k e S _ _ F' N' => h _ _ h' k (by rw [e, split_page] at S; exact S) F' N' fun p hp => Heap.lt_size (N p hp).1) (by rw [T_len]; exact hz)
theorem last_K {ys : List PySem.Str} {y : PySem.Str} {value slice : Expr} {l : Addr} {vs : List Value} {c : Nat} {vl : Value} {t : Tok} (F : Fr h₀ L s.heap m) (N : News h₀ L s.heap news) (hm : (l, listOf vs.toArray c) ∈ news) (hS : StrsAre vs (ys ++ [y])) (hz : ys.length ≤ 1000) (pl : IsPart vl none)
    (h : ∀ D zs h', StrsAre zs ys → zs.length = ys.length → Fr h₀ L h' m → News h₀ L h' ((D, listOf zs.toArray 0) :: news) → (∀ p ∈ news, p.1 < D) → Q (.ref D) { s with heap := h' })
    (hs : subscripted slice false (.ref l) (.ref s.heap.objs.size) = operate [.ref s.heap.objs.size, .ref l] (getItem (.ref l) (.ref s.heap.objs.size)) := by with_unfolding_all rfl) (ht : ∀ r, letTemporaryGo value (.ref l) r = pure () := by intro _; with_unfolding_all rfl) :
    wpAny (model prog w) A (subscriptTail value slice (.ref l) (.ref s.heap.objs.size)) Q E { s with heap := s.heap.push { cls := .type "slice", data := .fields #[vl, .int (-1) t, .none] } } := by
  have hl : s.heap.IsList l vs.toArray := ⟨_, (N _ hm).1, rfl, _, rfl⟩
  have e := strsAre_len hS
  refine kmk_slice_lit F N hl pl (IsPart.int _ _) (pick_last vs) (fun D h' F' N' l1 => h D _ h' (strsAre_drop hS) ?_ F' N' l1) hs ht ?_
  · exact strsAre_len (strsAre_drop hS)
  · rw [List.length_append, List.length_singleton] at e
    rw [List.size_toArray, sizeLine_eq]; omega
theorem len_K {a : Addr} {vs : List Value} {c n : Nat} {f : Nat → PySem.Str} (N : News h₀ L s.heap news) (hm : (a, listOf vs.toArray c) ∈ news) (hS : StrsAre vs ((List.range n).map f)) (hn : n ≤ 1000)
    (h : Q (.int ((n : Nat) : Int) (s.toks + 1)) { s with toks := s.toks + 1 + 1 }) : wpAny (model prog w) A (call (.builtin "len") [.ref a]) Q E s := by
  have hl : s.heap.IsList a vs.toArray := ⟨_, (N _ hm).1, rfl, _, rfl⟩
  have e : vs.toArray.size = n := by
    have := strsAre_len hS
    rw [List.length_map, List.length_range] at this
    rw [List.size_toArray, this]
  refine len_list hl (by rw [e]; omega) ?_
  rw [e]; exact h
theorem item_rows {value slice : Expr} {a : Addr} {vs : List Value} {cs : List Nat} {ns : List Int} {x n c : Nat} {k : Int} {u : Tok} (N : News h₀ L s.heap news) (hm : (a, ({ cls := .type "list", data := .seq vs.toArray c } : Obj)) ∈ news)
    (hS : StrsAre vs ((List.range n).map fun j => T (rowD cs ns x j))) (h0 : 0 ≤ k) (h1 : k < n) (hz : n ≤ 1000) (h : ∀ t, Q (.str (T (rowD cs ns x k.toNat)) t) s)
    (hs : subscripted slice false (.ref a) (.int k u) = operate [.ref a, .int k u] (getItem (.ref a) (.int k u)) := by with_unfolding_all rfl) :
    wpAny (model prog w) A (subscriptTail value slice (.ref a) (.int k u)) Q E s := by
  refine item_strs N hm hS h0 (by simpa using h1) (by simp; omega) (fun t => ?_) hs
  have e : ((List.range n).map fun j => T (rowD cs ns x j)).getD k.toNat ⟨#[]⟩ = T (rowD cs ns x k.toNat) := by
    have hk : k.toNat < n := by omega
    simp [List.getD, hk]
  rw [e]; exact h t
end
end Mine
end
section
open PySem PySem.W PyProof.Rows
namespace Mine
def CutNext (h₀ : Heap) (L : Addr) (s : Shared) (m₀ : PySem.Str → Option Value) (ca : Addr) (rest : List (Addr × Obj)) (n : Nat) (k : Nat) (s₂ : Shared) : Prop :=
  ∃ (k' : Nat) (t : Tok) (o : Obj) (f : Int) (tf : Tok) (h' : Heap) (tk : Nat) (m' : PySem.Str → Option Value), s₂ = { s with heap := h', toks := tk } ∧ Fr h₀ L h' m' ∧ News h₀ L h' ((ca, o) :: rest) ∧
      o.data = .cell (some (.str (T (List.replicate k' 46)) t)) ∧ f + (k' / 3 : Nat) = (n / 3 : Nat) ∧ k' < k ∧ m' "found" = some (.int f tf) ∧ (∀ z : PySem.Str, z ≠ "found" → z ≠ "width" → m' z = m₀ z)
def CutPost (h₀ : Heap) (L : Addr) (s : Shared) (m₀ : PySem.Str → Option Value) (ca : Addr) (rest : List (Addr × Obj)) (n : Nat) (Q : Flow → Shared → Prop) (k : Nat) (fl : Flow) (s₂ : Shared) : Prop :=
  match fl with
  | .ret v => Q (.ret v) s₂
  | .brk => Q .next s₂
  | _ => CutNext h₀ L s m₀ ca rest n k s₂
theorem cut_while {prog : Program} {w : World} {A : Around} {E : Value → Shared → Prop} {Q : Flow → Shared → Prop} {s : Shared} {env : Env} {h₀ : Heap} {L : Addr}
    {test : Expr} {body : List Stmt} {pos : Pos} {m₀ : PySem.Str → Option Value} {ca : Addr} {o : Obj} {rest : List (Addr × Obj)} {n : Nat} {t tf : Tok}
    (F : Fr h₀ L s.heap m₀) (N : News h₀ L s.heap ((ca, o) :: rest)) (hd : o.data = .cell (some (.str (T (List.replicate n 46)) t))) (hk : m₀ "found" = some (.int 0 tf))
    (turn : ∀ (k : Nat) (t : Tok) (o : Obj) (f : Int) (tf : Tok) (u : Option Value) h tk, o.data = .cell (some (.str (T (List.replicate k 46)) t)) → f + (k / 3 : Nat) = (n / 3 : Nat) → k ≤ n →
      Fr h₀ L h (fun (z : PySem.Str) => if z = "found" then some (.int f tf) else if z = "width" then u else m₀ z) → News h₀ L h ((ca, o) :: rest) →
      wpAny (model prog w) A (isTrue test env (eval test env)) (fun b s₂ =>
        if b = true then wpAny (model prog w) A (execs body env) (CutPost h₀ L s m₀ ca rest n Q k) E s₂ else Q .next s₂) E { s with heap := h, toks := tk })
    (hE : PassesOwn (model prog w) A env E := by passes_own) :
    wpAny (model prog w) A (exec (.While test body [] pos) env) Q E s := by
  refine While_inv2 (fun k m nx => ∃ (t : Tok) (o : Obj) (f : Int) (tf : Tok), nx = (ca, o) :: rest ∧ o.data = .cell (some (.str (T (List.replicate k 46)) t)) ∧ f + (k / 3 : Nat) = (n / 3 : Nat) ∧ k ≤ n ∧ m "found" = some (.int f tf) ∧ (∀ z : PySem.Str, z ≠ "found" → z ≠ "width" → m z = m₀ z)) (n₀ := n) F N ⟨t, o, 0, tf, rfl, hd, by omega, Nat.le_refl _, hk, fun _ _ _ => rfl⟩ ?_ hE
  rintro k m₁ nx h tk F₁ N₁ ⟨t, o, f, tf, rfl, hd, hf, hkn, h1, h2⟩
  have em : (fun (z : PySem.Str) => if z = "found" then some (.int f tf) else if z = "width" then m₁ "width" else m₀ z) = m₁ := by
    funext z
    by_cases e1 : z = "found"
    · subst e1; simp [h1]
    · by_cases e2 : z = "width"
      · subst e2; simp [e1]
      · simp only [if_neg e1, if_neg e2]; exact (h2 z e1 e2).symm
  refine wpAny_mono (turn k t o f tf (m₁ "width") h tk hd hf hkn (by rw [em]; exact F₁) N₁) (fun b s₂ p => ?_) fun _ _ x => x
  cases b with
  | false => simpa using p
  | true =>
    simp only [if_true] at p ⊢
    refine wpAny_mono p (fun fl s₃ q => ?_) fun _ _ x => x
    cases fl with
    | ret v => exact q
    | brk => exact q
    | next =>
      obtain ⟨k', t', o', f', tf', h', tk', m', e, F', N', d', e', lt, g1, g2⟩ := q
      exact ⟨h', tk', m', (ca, o') :: rest, k', e, F', N', lt, t', o', f', tf', rfl, d', e', by omega, g1, g2⟩
    | cont =>
      obtain ⟨k', t', o', f', tf', h', tk', m', e, F', N', d', e', lt, g1, g2⟩ := q
      exact ⟨h', tk', m', (ca, o') :: rest, k', e, F', N', lt, t', o', f', tf', rfl, d', e', by omega, g1, g2⟩
theorem cut_end {h₀ : Heap} {L : Addr} {s : Shared} {m₀ m' : PySem.Str → Option Value} {ca : Addr} {rest all : List (Addr × Obj)} {n k k' : Nat} {Q : Flow → Shared → Prop} {o : Obj} {x : PySem.Str} {t tf : Tok} {f : Int} {h' : Heap} {tk : Nat}
    (F : Fr h₀ L h' m') (N : News h₀ L h' all) (hm : (ca, o) ∈ all) (hr : ∀ p ∈ rest, p ∈ all) (hd : o.data = .cell (some (.str x t))) (hx : x = T (List.replicate k' 46)) (hf : f + (k' / 3 : Nat) = (n / 3 : Nat)) (hlt : k' < k)
    (h1 : m' "found" = some (.int f tf)) (h2 : ∀ z : PySem.Str, z ≠ "found" → z ≠ "width" → m' z = m₀ z) : CutPost h₀ L s m₀ ca rest n Q k .next { s with heap := h', toks := tk } :=
  ⟨k', t, o, f, tf, h', tk, m', rfl, F, fun p hp => (List.mem_cons.mp hp).elim (fun e => e ▸ N _ hm) fun e => N _ (hr _ e), by rw [hd, hx], hf, hlt, h1, h2⟩
end Mine
end
section
open PySem PySem.W PyProof.Rows PySem.Calls
namespace Mine
/-! law 3: a page sent once -/
def up (cs : List Nat) : List Nat := cs.map (· + 1)
theorem up_bd {cs : List Nat} (h : ∀ c ∈ cs, c ≤ 90) : ∀ c ∈ up cs, c ≤ 100 := by
  intro c hc
  obtain ⟨d, hd, rfl⟩ := List.mem_map.mp hc
  have := h d hd; omega
theorem up_len (cs : List Nat) : (up cs).length = cs.length := List.length_map ..
theorem up_get {cs : List Nat} {j : Nat} (h : j < cs.length) : (up cs).getD j 0 = cs.getD j 0 + 1 := by
  simp [up, List.getD, h]
theorem dotS3 : PySem.Str.ofString "." = T [46] := by decide +kernel
theorem page3_turn {cs : List Nat} {ns pre : List Int} {p : PySem.Str} {k : Int} (hcs : ∀ c ∈ cs, c ≤ 90) (h : p = T (pageL (up cs) ns pre.length)) (hk : k = 0 + (pre.length : Int)) (hl : k < (cs.length : Int)) :
    p ++ PySem.Str.ofString "." ++ Txt.mul (PySem.Str.ofString ".") ((cs.map fun (c : Nat) => (c : Int)).getD k.toNat 0) ++ T [signN (ns.getD (3 + k.fmod 6).toNat 0)] ++ T (endL ((ns.getD (3 + k.fmod 6).toNat 0).fmod 3).toNat) = T (pageL (up cs) ns (pre ++ [k]).length) ∧
    (p ++ PySem.Str.ofString "." ++ Txt.mul (PySem.Str.ofString ".") ((cs.map fun (c : Nat) => (c : Int)).getD k.toNat 0) ++ T [signN (ns.getD (3 + k.fmod 6).toNat 0)] ++ T (endL ((ns.getD (3 + k.fmod 6).toNat 0).fmod 3).toNat)).length ≤ 120 * (pre ++ [k]).length := by
  rw [end_walk (by omega)]
  have hkn : k.toNat = pre.length := by omega
  have hk6 : (3 + k.fmod 6).toNat = 3 + pre.length % 6 := by
    rw [Int.fmod_eq_emod_of_nonneg _ (by decide)]; omega
  have e : p ++ PySem.Str.ofString "." ++ Txt.mul (PySem.Str.ofString ".") ((cs.map fun (c : Nat) => (c : Int)).getD k.toNat 0) ++ T [signN (ns.getD (3 + k.fmod 6).toNat 0)] ++ T (endL (endN ns k.toNat)) = T (pageL (up cs) ns (pre ++ [k]).length) := by
    rw [h, getD_cast, dots_mul, hkn, hk6, dotS3, T_app, T_app, T_app, T_app, List.length_append, List.length_singleton, pageL_succ, rowL, up_get (by omega), sgn]
    simp [List.replicate_succ]
  refine ⟨e, ?_⟩
  rw [e, T_len]
  have := page_len (ns := ns) (up_bd hcs) (pre ++ [k]).length
  omega
theorem page3_done {cs : List Nat} {ns : List Int} {p : PySem.Str} (h : p = T (pageL (up cs) ns (rangeKs 0 (((cs.map fun (c : Nat) => (c : Int)).length : Int) - 0).toNat).length)) :
    p = T (pageL (up cs) ns cs.length) := by
  rw [h, rks_len, List.length_map, show ((cs.length : Int) - 0).toNat = cs.length by omega]
theorem page3_len {cs : List Nat} {ns : List Int} (hcs : ∀ c ∈ cs, c ≤ 90) (hc : cs.length ≤ 12) : (pageL (up cs) ns cs.length).length ≤ 400000 := by
  have := page_len (ns := ns) (up_bd hcs) cs.length
  omega
theorem quote_page (cs : List Nat) (ns : List Int) (i : Nat) : quote (pageL cs ns i) = pageQ cs ns 1 i := qN_page cs ns i 0
section
variable {prog : Program} {w : World} {A : Around} {E : Value → Shared → Prop} {s : Shared} {h₀ : Heap} {L : Addr} {m : PySem.Str → Option Value} {news : List (Addr × Obj)} {Q : Value → Shared → Prop}
theorem split_K1 {cs : List Nat} {ns : List Int} {n : Nat} {t u : Tok} (F : Fr h₀ L s.heap m) (N : News h₀ L s.heap news) (hz : (pageQ cs ns 1 n).length + 2 ≤ sizeLine)
    (h : ∀ D vs h' k, StrsAre vs (((List.range n).map fun j => T (rowD cs ns 1 j)) ++ [T []]) → Fr h₀ L h' m → News h₀ L h' ((D, listOf vs.toArray 0) :: news) → (∀ p ∈ news, p.1 < D) → Q (.ref D) { s with heap := h', toks := k }) :
    wpAny (model prog w) A (call (.builtin "str.split") [.str (T (quote (pageL cs ns n))) t, .str (PySem.Str.ofString "\r\n") u]) Q E s := by
  rw [quote_page]; exact split_K F N hz h
end
theorem row3_len {cs : List Nat} {ns : List Int} {j : Nat} (h : j < cs.length) : ((T (rowD (up cs) ns 1 j)).length : Int) - 2 = ((cs.getD j 0 + 1 : Nat) : Int) := by
  rw [T_len, rowD, up_get h, if_neg (by omega), List.length_append, List.length_replicate, List.length_singleton]
  omega
theorem row3_le {cs : List Nat} {ns : List Int} {j : Nat} (hcs : ∀ c ∈ cs, c ≤ 90) (h : j < cs.length) : (T (rowD (up cs) ns 1 j)).length ≤ 1000 := by
  have h1 := row3_len (ns := ns) h
  have h2 : cs.getD j 0 ≤ 90 := by
    rw [List.getD, List.getElem?_eq_getElem h]; exact hcs _ (List.getElem_mem h)
  omega
def sentI (cs : List Nat) (i : Nat) : List Int := (List.range i).map fun j => ((cs.getD j 0 + 1 : Nat) : Int)
theorem sent_eq (cs : List Nat) : sentI cs cs.length = (up cs).map fun (c : Nat) => (c : Int) := by
  unfold sentI up
  apply List.ext_getElem
  · simp
  · intro i h1 h2
    simp at h1
    simp [List.getD, h1]
theorem ints_snoc3 {vs : List Value} {ys : List Int} (h : IntsAre vs ys) (y : Int) (t : Tok) : IntsAre (vs ++ [.int y t]) (ys ++ [y]) := by
  induction h with
  | nil => exact .cons y t .nil
  | cons z u _ ih => exact .cons z u ih
theorem sent_step {cs : List Nat} {ns : List Int} {ys : List Value} {i : Nat} {t : Tok} (hi : i < cs.length) (h : IntsAre ys (sentI cs i)) : IntsAre (ys ++ [.int (((T (rowD (up cs) ns 1 i)).length : Int) - 2) t]) (sentI cs (i + 1)) := by
  rw [row3_len hi]
  have e : sentI cs (i + 1) = sentI cs i ++ [((cs.getD i 0 + 1 : Nat) : Int)] := by unfold sentI; rw [List.range_succ, List.map_append]; rfl
  rw [e]; exact ints_snoc3 h _ _
theorem row_at {vs : List Value} {n : Nat} {f : Nat → PySem.Str} {i : Nat} {v : Value} (hS : StrsAre vs ((List.range n).map f)) (hi : i < n) (hv : vs[i]? = some v) : ∃ t, v = .str (f i) t := by
  obtain ⟨t, e⟩ := strsAre_get hS (k := i) (by simpa using hi)
  refine ⟨t, ?_⟩
  rw [hv] at e
  have := Option.some.inj e
  rw [this]; simp [List.getD, hi]
end Mine
end
section
open PySem PySem.W PyProof.Rows PySem.Calls
namespace Mine
/-! law 3: what a run tells, what it does -/
def dueF (l : List Int) : Nat × Nat := l.foldl (fun (a : Nat × Nat) c => if c = 115 then (a.1, a.2 + a.1) else if c = 104 then (a.1 * 2, a.2) else (a.1 * 3, a.2)) (1, 0)
theorem dueF_snoc (l : List Int) (c : Int) : dueF (l ++ [c]) = if c = 115 then ((dueF l).1, (dueF l).2 + (dueF l).1) else if c = 104 then ((dueF l).1 * 2, (dueF l).2) else ((dueF l).1 * 3, (dueF l).2) := by
  unfold dueF; rw [List.foldl_append, List.foldl_cons, List.foldl_nil]
theorem sS : PySem.Str.ofString "s" = ⟨#[115]⟩ := by decide +kernel
theorem hS' : PySem.Str.ofString "h" = ⟨#[104]⟩ := by decide +kernel
theorem is_s {c : Nat} {b : Bool} (h : (({ cps := #[c] } : PySem.Str) == PySem.Str.ofString "s") = b) : decide (c = 115) = b := by
  rw [sS, T_one] at h; rw [← h]; simp
theorem is_h {c : Nat} {b : Bool} (h : (({ cps := #[c] } : PySem.Str) == PySem.Str.ofString "h") = b) : decide (c = 104) = b := by
  rw [hS', T_one] at h; rw [← h]; simp
theorem due_start : (1 : Int) = (((dueF []).1 : Nat) : Int) ∧ (0 : Int) = (((dueF []).2 : Nat) : Int) := ⟨rfl, rfl⟩
theorem due_s {pre : List Int} {w d : Int} {c : Nat} (hw : w = (((dueF pre).1 : Nat) : Int)) (hd : d = (((dueF pre).2 : Nat) : Int)) (hc : (({ cps := #[c] } : PySem.Str) == PySem.Str.ofString "s") = true) :
    w = (((dueF (pre ++ [(c : Int)])).1 : Nat) : Int) ∧ d + w = (((dueF (pre ++ [(c : Int)])).2 : Nat) : Int) := by
  have h : c = 115 := of_decide_eq_true (is_s hc)
  rw [dueF_snoc, if_pos (by omega), hw, hd]; exact ⟨rfl, by simp⟩
theorem due_h {pre : List Int} {w d : Int} {c : Nat} (hw : w = (((dueF pre).1 : Nat) : Int)) (hd : d = (((dueF pre).2 : Nat) : Int)) (hc : (({ cps := #[c] } : PySem.Str) == PySem.Str.ofString "s") = false) (hh : (({ cps := #[c] } : PySem.Str) == PySem.Str.ofString "h") = true) :
    w * 2 = (((dueF (pre ++ [(c : Int)])).1 : Nat) : Int) ∧ d = (((dueF (pre ++ [(c : Int)])).2 : Nat) : Int) := by
  have h : c = 104 := of_decide_eq_true (is_h hh)
  rw [dueF_snoc, if_neg (by omega), if_pos (by omega), hw, hd]; exact ⟨by simp, rfl⟩
theorem due_t {pre : List Int} {w d : Int} {c : Nat} (hw : w = (((dueF pre).1 : Nat) : Int)) (hd : d = (((dueF pre).2 : Nat) : Int)) (hc : (({ cps := #[c] } : PySem.Str) == PySem.Str.ofString "s") = false) (hh : (({ cps := #[c] } : PySem.Str) == PySem.Str.ofString "h") = false) :
    w * 3 = (((dueF (pre ++ [(c : Int)])).1 : Nat) : Int) ∧ d = (((dueF (pre ++ [(c : Int)])).2 : Nat) : Int) := by
  have h1 : ¬ c = 115 := of_decide_eq_false (is_s hc)
  have h2 : ¬ c = 104 := of_decide_eq_false (is_h hh)
  rw [dueF_snoc, if_neg (by omega), if_neg (by omega), hw, hd]; exact ⟨by simp, rfl⟩
end Mine
end
section
open PySem PySem.W PyProof.Rows PySem.Calls
namespace Mine
def doStep (a : List Nat) (c : Nat) : List Nat := if c = 115 then up a else if c = 104 then a.map (· / 2) else a.map (· / 3)
def doneF (cs r : List Nat) : List Nat := r.foldl doStep cs
theorem done_step {n i c : Nat} {r : List Nat} (h : (T r).cps[i]? = some c) : doneF (List.range n) (r.take (i + 1)) = doStep (doneF (List.range n) (r.take i)) c := by
  have h' : r[i]? = some c := by simpa [T] using h
  unfold doneF
  rw [List.take_add_one, h']
  simp
theorem doStep_len (a : List Nat) (c : Nat) : (doStep a c).length = a.length := by
  unfold doStep up
  split
  · simp
  · split <;> simp
theorem doStep_bd {a : List Nat} {B : Nat} (h : ∀ c ∈ a, c ≤ B) (d : Nat) : ∀ c ∈ doStep a d, c ≤ B + 1 := by
  intro c hc
  unfold doStep up at hc
  split at hc
  · obtain ⟨x, hx, rfl⟩ := List.mem_map.mp hc; have := h x hx; omega
  · split at hc
    · obtain ⟨x, hx, rfl⟩ := List.mem_map.mp hc; have := h x hx; omega
    · obtain ⟨x, hx, rfl⟩ := List.mem_map.mp hc; have := h x hx; omega
theorem done_len : ∀ (l cs : List Nat), (doneF cs l).length = cs.length
  | [], _ => rfl
  | c :: l, cs => by
    show (doneF (doStep cs c) l).length = _
    rw [done_len l, doStep_len]
theorem done_bd : ∀ (l cs : List Nat) (B : Nat), (∀ c ∈ cs, c ≤ B) → ∀ c ∈ doneF cs l, c ≤ B + l.length
  | [], _, _, h => by simpa [doneF] using h
  | d :: l, cs, B, h => by
    intro c hc
    have := done_bd l (doStep cs d) (B + 1) (doStep_bd h d) c hc
    rw [List.length_cons]; omega
theorem done_ok {n i : Nat} {r : List Nat} (hn : n ≤ 12) (hr : r.length ≤ 60) : (doneF (List.range n) (r.take i)).length = n ∧ ∀ c ∈ doneF (List.range n) (r.take i), c ≤ 80 := by
  refine ⟨by rw [done_len, List.length_range], fun c hc => ?_⟩
  have h1 := done_bd (r.take i) (List.range n) 11 (fun c hc => by have := List.mem_range.mp hc; omega) c hc
  have h2 := List.length_take_le' i r
  omega
theorem range_ints (n : Nat) : rangeKs 0 n = (doneF (List.range n) (([] : List Nat))).map fun (c : Nat) => (c : Int) := by
  simp [rangeKs, doneF]
def DJ (C Cn : Addr) (on : Obj) (n : Nat) (r : List Nat) (i : Nat) (nx : List (Addr × Obj)) : Prop :=
  ∃ (a : Addr) (vs : List Value) (k : Nat) (oc : Obj), nx = [(a, { cls := .type "list", data := .seq vs.toArray k }), (C, oc), (Cn, on)] ∧ IntsAre vs ((doneF (List.range n) (r.take i)).map fun (c : Nat) => (c : Int)) ∧ oc.data = .cell (some (.ref a)) ∧ (@Ne Nat a C) ∧ (@Ne Nat a Cn)
/-! the h comprehension -/
def halfI (d : Nat) (cs : List Nat) (i : Nat) : List Int := (List.range i).map fun j => ((cs.getD j 0 / d : Nat) : Int)
theorem half_eq (d : Nat) (cs : List Nat) : halfI d cs cs.length = (cs.map (· / d)).map fun (c : Nat) => (c : Int) := by
  unfold halfI
  apply List.ext_getElem
  · simp
  · intro i h1 h2
    simp at h1
    simp [List.getD, h1]
theorem half_step {d : Nat} {cs : List Nat} {ys : List Value} {i : Nat} {t : Tok} (h : IntsAre ys (halfI d cs i)) : IntsAre (ys ++ [.int ((cs.getD i 0 / d : Nat) : Int) t]) (halfI d cs (i + 1)) := by
  have e : halfI d cs (i + 1) = halfI d cs i ++ [((cs.getD i 0 / d : Nat) : Int)] := by unfold halfI; rw [List.range_succ, List.map_append]; rfl
  rw [e]; exact ints_snoc3 h _ _
theorem int_at {vs : List Value} {cs : List Nat} {i : Nat} {v : Value} (hI : IntsAre vs (cs.map fun (c : Nat) => (c : Int))) (hv : vs[i]? = some v) : ∃ t, v = .int ((cs.getD i 0 : Nat) : Int) t := by
  induction hI' : (cs.map fun (c : Nat) => (c : Int)) generalizing vs cs i with
  | nil =>
    rw [hI'] at hI; cases hI; simp at hv
  | cons y l ih =>
    rw [hI'] at hI
    cases cs with
    | nil => simp at hI'
    | cons c cs =>
      rw [List.map_cons] at hI'
      obtain ⟨rfl, rfl⟩ := List.cons.inj hI'
      cases hI with
      | cons _ t hr =>
        cases i with
        | zero => simp at hv; exact ⟨t, by rw [← hv]; rfl⟩
        | succ i => simpa using ih (cs := cs) hr (by simpa using hv) rfl
theorem sign34 (n : Int) : signN n ≠ 34 := by
  have h := signN_ne n
  exact h.2.1
theorem get_le {cs : List Nat} {B : Nat} (h : ∀ c ∈ cs, c ≤ B) (j : Nat) : cs.getD j 0 ≤ B := by
  rw [List.getD]
  cases e : cs[j]? with
  | none => exact Nat.zero_le _
  | some c => exact h c (List.mem_of_getElem? e)
section
variable {h₀ h' : Heap} {L : Addr} {x : PySem.Str} {m₀ : PySem.Str → Option Value} {C Cn I : Addr} {on oI : Obj} {n i : Nat} {r : List Nat} {s₁ : Shared} {Q : Flow → Shared → Prop} {tk : Nat}
theorem DJ_end {u : Option Value} {all : List (Addr × Obj)} {a' : Addr} {vs' : List Value} {k' : Nat} {oc' : Obj} {cs' : List Nat} (F : Fr h₀ L h' (fun y => if y = x then u else m₀ y)) (N : News h₀ L h' all) (hI : (I, oI) ∈ all) (h1 : (a', ({ cls := .type "list", data := .seq vs'.toArray k' } : Obj)) ∈ all) (h2 : (C, oc') ∈ all) (h3 : (Cn, on) ∈ all)
    (hi : IntsAre vs' (cs'.map fun (c : Nat) => (c : Int))) (he : doneF (List.range n) (r.take (i + 1)) = cs') (hd : oc'.data = .cell (some (.ref a'))) (n0 : @Ne Nat a' I) (n1 : @Ne Nat a' C) (n2 : @Ne Nat a' Cn) (n3 : @Ne Nat C I) (n4 : @Ne Nat Cn I) :
    TurnC h₀ L x m₀ (DJ C Cn on n r (i + 1)) I oI s₁ Q .next { s₁ with heap := h', toks := tk } := by
  refine EndC.intro [(a', { cls := .type "list", data := .seq vs'.toArray k' }), (C, oc'), (Cn, on)] F N (fun y hy => if_neg hy) hI ?_ ?_ ⟨a', vs', k', oc', rfl, by rw [he]; exact hi, hd, n1, n2⟩
  · intro p hp
    rcases List.mem_cons.mp hp with rfl | hp
    · exact h1
    · rcases List.mem_cons.mp hp with rfl | hp
      · exact h2
      · rw [List.mem_singleton.mp hp]; exact h3
  · intro p hp
    rcases List.mem_cons.mp hp with rfl | hp
    · exact n0
    · rcases List.mem_cons.mp hp with rfl | hp
      · exact n3
      · rw [List.mem_singleton.mp hp]; exact n4
end
theorem st_s {a : List Nat} {c : Nat} (h : (({ cps := #[c] } : PySem.Str) == PySem.Str.ofString "s") = true) : doStep a c = up a := by
  unfold doStep; rw [if_pos (of_decide_eq_true (is_s h))]
theorem st_h {a : List Nat} {c : Nat} (h : (({ cps := #[c] } : PySem.Str) == PySem.Str.ofString "s") = false) (h2 : (({ cps := #[c] } : PySem.Str) == PySem.Str.ofString "h") = true) : doStep a c = a.map (· / 2) := by
  unfold doStep; rw [if_neg (of_decide_eq_false (is_s h)), if_pos (of_decide_eq_true (is_h h2))]
theorem st_t {a : List Nat} {c : Nat} (h : (({ cps := #[c] } : PySem.Str) == PySem.Str.ofString "s") = false) (h2 : (({ cps := #[c] } : PySem.Str) == PySem.Str.ofString "h") = false) : doStep a c = a.map (· / 3) := by
  unfold doStep; rw [if_neg (of_decide_eq_false (is_s h)), if_neg (of_decide_eq_false (is_h h2))]
end Mine
end
section
open PySem PySem.W PyProof.Rows
namespace Mine
theorem use_sent {prog : Program} {w : World} {K : Frag} {p : Program} {loose : List PySem.Str} {mean : ExcName → Option Value} {mg mb : PySem.Str → Option Value} {f : Addr}
    (cc : ∀ (cs : List Nat) (ns : List Int) (lc ln : Addr) (vc vn : List Value), cs.length ≤ 12 → (∀ c ∈ cs, c ≤ 90) → ns.length = 9 → (∀ n ∈ ns, 0 ≤ n ∧ n < 1000000) → IntsAre vc (cs.map fun (c : Nat) => (c : Int)) → IntsAre vn ns →
      Con prog w K p loose mean mg mb 6 f [.ref lc, .ref ln] (fun h => h.IsList lc vc.toArray ∧ h.IsList ln vn.toArray) (ListR fun xs => IntsAre xs ((up cs).map fun (c : Nat) => (c : Int))))
    {dp un : Nat} {gd : Option (List Code)} {cn : PySem.Str} {cs' : Scope} {a : Addr} {ccd : Value} {cl : List (PySem.Str × Addr)} {outer : List Env} {A₀ : Around} {base h₀ : Heap} {L : Addr} {m : PySem.Str → Option Value} {s : Shared} {Q E : Value → Shared → Prop} {news : List (Addr × Obj)}
    {cs : List Nat} {ns : List Int} {lc ln : Addr} {vc vn : List Value} {c1 : Nat}
    (B : Below A₀ base outer h₀) (F : Fr h₀ L s.heap m) (X : K.In h₀) (TT : Top p loose mean mg mb h₀) (hk : cs'.kind = .function) (hd : dp + 6 < recursionLimit) (hu : un + 30 * 6 < cLine) (N : News h₀ L s.heap news)
    (m1 : (lc, ({ cls := .type "list", data := .seq vc.toArray c1 } : Obj)) ∈ news) (hl : h₀.IsList ln vn.toArray)
    (hic : IntsAre vc (cs.map fun (c : Nat) => (c : Int))) (hin : IntsAre vn ns) (hc : cs.length ≤ 12) (hcs : ∀ c ∈ cs, c ≤ 80) (hn : ns.length = 9) (hns : ∀ n ∈ ns, 0 ≤ n ∧ n < 1000000)
    (h : ∀ a xs c h' tk', IntsAre xs ((up cs).map fun (c : Nat) => (c : Int)) → Fr h₀ L h' m → News h₀ L h' ((a, { cls := .type "list", data := .seq xs.toArray c }) :: news) → (∀ p ∈ news, @Ne Nat p.1 a) → Q (.ref a) { s with heap := h', toks := tk' }) :
    wpAny (model prog w) (ktrTop dp un gd cn cs' L a ccd cl outer) (call (.ref f) [.ref lc, .ref ln]) Q E s := by
  refine use_O (cc cs ns lc ln vc vn hc (fun c hc => Nat.le_trans (hcs c hc) (by decide)) hn hns hic hin) B F X TT hk hd hu ⟨⟨_, (N _ m1).1, rfl, _, rfl⟩, F.lst hl⟩ N fun v more h' tk' hR F' N' off => ?_
  obtain ⟨a, xs, c, rfl, hxs, rfl⟩ := hR
  exact h a xs c h' tk' hxs F' N' fun q hq => off _ (List.mem_singleton_self _) q hq
end Mine
end
section
open PySem PySem.W PyProof.Rows PySem.Calls
namespace Mine
/-! law 3: the first run: letters taken out one by one -/
def paN : Nat → List Nat → List (List Nat)
  | 0, _ => [[]]
  | n + 1, l => (List.range l.length).flatMap fun i => (paN n (l.eraseIdx i)).map (l.getD i 0 :: ·)
def pa (l : List Nat) : List (List Nat) := paN l.length l
theorem pa_step {l r : List Nat} {W : List Nat} {i : Nat} (hi : i < l.length) (h : ∀ x ∈ pa l, r ++ x ∈ pa W) : ∀ x ∈ pa (l.eraseIdx i), (r ++ [l.getD i 0]) ++ x ∈ pa W := by
  intro x hx
  rw [List.append_assoc]
  refine h _ ?_
  have hl : (l.eraseIdx i).length + 1 = l.length := by rw [List.length_eraseIdx, if_pos hi]; omega
  unfold pa at hx ⊢
  rw [← hl, paN, List.mem_flatMap]
  exact ⟨i, List.mem_range.mpr hi, List.mem_map.mpr ⟨x, hx, rfl⟩⟩
theorem pa_done {r W : List Nat} (h : ∀ x ∈ pa [], r ++ x ∈ pa W) : r ∈ pa W := by
  have := h [] (by simp [pa, paN])
  rwa [List.append_nil] at this
theorem strsAre_of {f : Nat → PySem.Str} : ∀ (l : List Nat) (vs : List Value), vs.length = l.length → (∀ (j : Nat) v, vs[j]? = some v → ∃ c t, l[j]? = some c ∧ v = .str (f c) t) → StrsAre vs (l.map f)
  | [], [], _, _ => .nil
  | [], _ :: _, h, _ => by simp at h
  | _ :: _, [], h, _ => by simp at h
  | c :: l, v :: vs, h, hv => by
    obtain ⟨c', t, e, rfl⟩ := hv 0 v rfl
    have : c = c' := by simpa using e
    subst this
    exact .cons _ _ (strsAre_of l vs (by simpa using h) fun j v hj => by simpa using hv (j + 1) v (by simpa using hj))
theorem kl_cut_at : ∀ (l : List Value) (k : Nat) (h : k < l.length), kl_cut l k = some (l.take k, l[k], l.drop (k + 1))
  | x :: r, 0, _ => rfl
  | x :: r, k + 1, h => by
    rw [kl_cut, kl_cut_at r k (by simpa using h)]
    rfl
theorem strsAre_erase {vs : List Value} {ys : List PySem.Str} (h : StrsAre vs ys) : ∀ i, StrsAre (vs.eraseIdx i) (ys.eraseIdx i) := by
  induction h with
  | nil => intro i; exact .nil
  | cons y t hr ih =>
    intro i
    cases i with
    | zero => exact hr
    | succ i => exact .cons y t (ih i)
section
variable {prog : Program} {w : World} {A : Around} {E : Value → Shared → Prop} {s : Shared} {h₀ : Heap} {L D : Addr} {m : PySem.Str → Option Value} {news news' : List (Addr × Obj)} {Q : Value → Shared → Prop}
theorem list_text_K {l : List Nat} {t : Tok} (hh : A.handled = none) (F : Fr h₀ L s.heap m) (N : News h₀ L s.heap news) (hn : l.length ≤ 1000)
    (h : ∀ D us c h' tk, StrsAre us (l.map fun c => T [c]) → Fr h₀ L h' m → News h₀ L h' ((D, { cls := .type "list", data := .seq us.toArray c }) :: news) → (∀ p ∈ news, p.1 < D) → Q (.ref D) { s with heap := h', toks := tk }) :
    wpAny (model prog w) A (call (.type "list") [.str (T l) t]) Q E s := by
  refine call_list_str hh (T l) t (fun h' tk acc c hk hS hI => ?_) (by show l.toArray.size ≤ _; rw [List.size_toArray, sizeLine_eq]; omega)
  have hs : acc.toList.length = l.length := by
    have := hI.1
    rw [Array.length_toList, this]; exact List.size_toArray
  refine h s.heap.objs.size acc.toList c h' tk (strsAre_of l acc.toList hs fun j v hj => ?_) (F.after hk) (fun p hp => ?_) (fun p hp => Heap.lt_size (N p hp).1)
  · obtain ⟨c, u, e, rfl⟩ := hI.2 j v (by simpa using hj)
    exact ⟨c, u, by simpa [T] using e, rfl⟩
  · rcases List.mem_cons.mp hp with rfl | hp
    · refine ⟨?_, Nat.ne_of_gt F.ns.lt, next_is_new F⟩
      show h'.get? s.heap.objs.size = some _
      rw [hS]
    · exact news_over N hk p hp
theorem ne_nil_K {D b : Addr} {us : List Value} (hl : s.heap.IsList D us.toArray) (hb : s.heap.IsList b #[]) (hu : A.units + 64 < cLine) (h : Q (.bool (!us.isEmpty)) s) :
    wpAny (model prog w) A (compareOp .NotEq (.ref D) (.ref b)) Q E s := by
  cases us with
  | nil => exact ne_intsK (vs := []) (us := []) hl .nil hb .nil hu h
  | cons u us =>
    exact (SeqAt.RcNeAt.lists_lengths (A := A) hl hb (by simp) (by omega)) prog w E Q h
theorem pop_K {us : List Value} {l : List Nat} {n x : Nat} {u : Tok} (F : Fr h₀ L s.heap m) (N : News h₀ L s.heap news) (hS : StrsAre us (l.map fun c => T [c])) (hx : x < l.length) (hz : l.length ≤ 1000)
    (U : Upd D (listOf us.toArray n) (listOf (us.eraseIdx x).toArray (n + 1)) news news')
    (h : ∀ t h', StrsAre (us.eraseIdx x) ((l.eraseIdx x).map fun c => T [c]) → Fr h₀ L h' m → News h₀ L h' news' → Q (.str (T [l.getD x 0]) t) { s with heap := h' }) :
    wpAny (model prog w) A (call (.builtin "list.pop") [.ref D, .int ((x : Nat) : Int) u]) Q E s := by
  have hl := strsAre_len hS
  rw [List.length_map] at hl
  obtain ⟨t, e⟩ := strsAre_get hS (k := x) (by simpa using hx)
  have hx' : x < us.length := by omega
  have ey : us[x] = .str (T [l.getD x 0]) t := by
    have := List.getElem?_eq_getElem hx'
    rw [this] at e
    have := Option.some.inj e
    rw [this]; simp [List.getD, hx]
  have he : us.take x ++ us.drop (x + 1) = us.eraseIdx x := (List.eraseIdx_eq_take_drop_succ us x).symm
  refine kl_popAt (k := x) (p := us.take x) (q := us.drop (x + 1)) (y := us[x]) F N ?_ ?_ ?_ (by rw [he]; exact U) ?_ fun h' F' N' => ?_
  · unfold Builtin.List.listFitsIndex; simp; omega
  · exact StrLaws.seqIndex_nonneg (by omega) (by simpa using hx')
  · exact kl_cut_at us x hx'
  · show us.length ≤ _; rw [sizeLine_eq]; omega
  · rw [ey]
    refine h t h' ?_ F' N'
    have := strsAre_erase hS x
    rwa [List.eraseIdx_eq_take_drop_succ (l.map _), ← List.map_take, ← List.map_drop, ← List.map_append, ← List.eraseIdx_eq_take_drop_succ] at this
theorem mod_K3 {n : Int} {c : Nat} {t u : Tok} (hc : 1 ≤ c) (h : ∀ x : Nat, x < c → Q (.int ((x : Nat) : Int) s.toks) { s with toks := s.toks + 1 }) :
    wpAny (model prog w) A (binaryOp .Mod (.int n t) (.int ((c : Nat) : Int) u)) Q E s := by
  refine mod_int' (by omega) ?_
  have h0 : 0 ≤ n.fmod (c : Int) := Int.fmod_nonneg_of_pos _ (by omega)
  have h1 : n.fmod (c : Int) < (c : Int) := Int.fmod_lt_of_pos _ (by omega)
  have := h (n.fmod (c : Int)).toNat (by omega)
  rwa [Int.toNat_of_nonneg h0] at this
theorem len_txt_K {a : Addr} {vs : List Value} {c : Nat} {l : List Nat} {f : Nat → PySem.Str} (N : News h₀ L s.heap news) (hm : (a, listOf vs.toArray c) ∈ news) (hS : StrsAre vs (l.map f)) (hn : l.length ≤ 1000)
    (h : Q (.int ((l.length : Nat) : Int) (s.toks + 1)) { s with toks := s.toks + 1 + 1 }) : wpAny (model prog w) A (call (.builtin "len") [.ref a]) Q E s := by
  have hl : s.heap.IsList a vs.toArray := ⟨_, (N _ hm).1, rfl, _, rfl⟩
  have e : vs.toArray.size = l.length := by
    have := strsAre_len hS
    rw [List.length_map] at this
    rw [List.size_toArray, this]
  refine len_list hl (by rw [e]; omega) ?_
  rw [e]; exact h
end
end Mine
end
section
open PySem PySem.W PyProof.Rows PySem.Calls
namespace Mine
def RunNext (h₀ : Heap) (L : Addr) (s : Shared) (m₀ : PySem.Str → Option Value) (D : Addr) (W : List Nat) (k : Nat) (s₂ : Shared) : Prop :=
  ∃ (us : List Value) (c : Nat) (l r : List Nat) (t : Tok) (q : Int) (tq : Tok) (h' : Heap) (tk : Nat) (m' : PySem.Str → Option Value), s₂ = { s with heap := h', toks := tk } ∧ Fr h₀ L h' m' ∧ News h₀ L h' [(D, listOf us.toArray c)] ∧
    StrsAre us (l.map fun c => T [c]) ∧ l.length < k ∧ r.length + l.length = W.length ∧ (∀ x ∈ pa l, r ++ x ∈ pa W) ∧ m' "run" = some (.str (T r) t) ∧ m' "number" = some (.int q tq) ∧ (∀ z : PySem.Str, z ≠ "run" → z ≠ "number" → z ≠ "size" → m' z = m₀ z)
def RunPost (h₀ : Heap) (L : Addr) (s : Shared) (m₀ : PySem.Str → Option Value) (D : Addr) (W : List Nat) (Q : Flow → Shared → Prop) (k : Nat) (fl : Flow) (s₂ : Shared) : Prop :=
  match fl with
  | .ret v => Q (.ret v) s₂
  | .brk => Q .next s₂
  | _ => RunNext h₀ L s m₀ D W k s₂
theorem run_while {prog : Program} {w : World} {A : Around} {E : Value → Shared → Prop} {Q : Flow → Shared → Prop} {s : Shared} {env : Env} {h₀ : Heap} {L : Addr}
    {test : Expr} {body : List Stmt} {pos : Pos} {m₀ : PySem.Str → Option Value} {D : Addr} {us : List Value} {c : Nat} {W : List Nat} {q : Int} {t tq : Tok} {e : PySem.Str}
    (F : Fr h₀ L s.heap m₀) (N : News h₀ L s.heap [(D, listOf us.toArray c)]) (hS : StrsAre us (W.map fun c => T [c])) (he : e = T []) (hr : m₀ "run" = some (.str e t)) (hq : m₀ "number" = some (.int q tq))
    (turn : ∀ (us : List Value) (c : Nat) (l r : List Nat) (t : Tok) (q : Int) (tq : Tok) (u : Option Value) h tk, StrsAre us (l.map fun c => T [c]) → r.length + l.length = W.length → (∀ x ∈ pa l, r ++ x ∈ pa W) →
      Fr h₀ L h (fun (z : PySem.Str) => if z = "run" then some (.str (T r) t) else if z = "number" then some (.int q tq) else if z = "size" then u else m₀ z) → News h₀ L h [(D, listOf us.toArray c)] →
      wpAny (model prog w) A (isTrue test env (eval test env)) (fun b s₂ =>
        if b = true then wpAny (model prog w) A (execs body env) (RunPost h₀ L s m₀ D W Q l.length) E s₂ else Q .next s₂) E { s with heap := h, toks := tk })
    (hE : PassesOwn (model prog w) A env E := by passes_own) :
    wpAny (model prog w) A (exec (.While test body [] pos) env) Q E s := by
  subst he
  refine While_inv2 (fun k m nx => ∃ (us : List Value) (c : Nat) (l r : List Nat) (t : Tok) (q : Int) (tq : Tok), nx = [(D, listOf us.toArray c)] ∧ StrsAre us (l.map fun c => T [c]) ∧ l.length = k ∧ r.length + l.length = W.length ∧ (∀ x ∈ pa l, r ++ x ∈ pa W) ∧ m "run" = some (.str (T r) t) ∧ m "number" = some (.int q tq) ∧ (∀ z : PySem.Str, z ≠ "run" → z ≠ "number" → z ≠ "size" → m z = m₀ z))
    (n₀ := W.length) F N ⟨us, c, W, [], t, q, tq, rfl, hS, rfl, Nat.zero_add _, fun x hx => hx, hr, hq, fun _ _ _ _ => rfl⟩ ?_ hE
  rintro k m₁ nx h tk F₁ N₁ ⟨us, c, l, r, t, q, tq, rfl, hS, rfl, hlW, hi, h1, h2, h3⟩
  have em : (fun (z : PySem.Str) => if z = "run" then some (.str (T r) t) else if z = "number" then some (.int q tq) else if z = "size" then m₁ "size" else m₀ z) = m₁ := by
    funext z
    by_cases e1 : z = "run"
    · subst e1; simp [h1]
    · by_cases e2 : z = "number"
      · subst e2; simp [e1, h2]
      · by_cases e3 : z = "size"
        · subst e3; simp [e1, e2]
        · simp only [if_neg e1, if_neg e2, if_neg e3]; exact (h3 z e1 e2 e3).symm
  refine wpAny_mono (turn us c l r t q tq (m₁ "size") h tk hS hlW hi (by rw [em]; exact F₁) N₁) (fun b s₂ p => ?_) fun _ _ x => x
  cases b with
  | false => simpa using p
  | true =>
    simp only [if_true] at p ⊢
    refine wpAny_mono p (fun fl s₃ q => ?_) fun _ _ x => x
    cases fl with
    | ret v => exact q
    | brk => exact q
    | next =>
      obtain ⟨us', c', l', r', t', q', tq', h', tk', m', e, F', N', hS', lt, hrl, hi', g1, g2, g3⟩ := q
      exact ⟨h', tk', m', _, l'.length, e, F', N', lt, us', c', l', r', t', q', tq', rfl, hS', rfl, hrl, hi', g1, g2, g3⟩
    | cont =>
      obtain ⟨us', c', l', r', t', q', tq', h', tk', m', e, F', N', hS', lt, hrl, hi', g1, g2, g3⟩ := q
      exact ⟨h', tk', m', _, l'.length, e, F', N', lt, us', c', l', r', t', q', tq', rfl, hS', rfl, hrl, hi', g1, g2, g3⟩
theorem run_end {h₀ : Heap} {L : Addr} {s : Shared} {m₀ m' : PySem.Str → Option Value} {D : Addr} {all : List (Addr × Obj)} {W l r : List Nat} {k c : Nat} {us : List Value} {Q : Flow → Shared → Prop} {x : PySem.Str} {t tq : Tok} {q : Int} {h' : Heap} {tk : Nat}
    (F : Fr h₀ L h' m') (N : News h₀ L h' all) (hm : (D, listOf us.toArray c) ∈ all) (hS : StrsAre us (l.map fun c => T [c])) (hlt : l.length < k) (hrl : r.length + l.length = W.length) (hi : ∀ x ∈ pa l, r ++ x ∈ pa W) (hx : x = T r)
    (h1 : m' "run" = some (.str x t)) (h2 : m' "number" = some (.int q tq)) (h3 : ∀ z : PySem.Str, z ≠ "run" → z ≠ "number" → z ≠ "size" → m' z = m₀ z) : RunPost h₀ L s m₀ D W Q k .next { s with heap := h', toks := tk } :=
  ⟨us, c, l, r, t, q, tq, h', tk, m', rfl, F, fun p hp => by rw [List.mem_singleton.mp hp]; exact N _ hm, hS, hlt, hrl, hi, by rw [h1, hx], h2, h3⟩
end Mine
end
section
open PySem PySem.W PyProof.Rows PySem.Calls
namespace Mine
/-! law 3: the led run -/
def pairs3 : List (List Nat) := [[104, 115], [116, 115], [116, 104]]
def rep3 (p : List Nat) : List Nat := if p = [104, 115] then [115, 115, 104] else if p = [116, 115] then [115, 115, 115, 116] else [104, 116]
def pairAt (r : List Nat) (k : Nat) : List Nat := (r.drop k).take 2
def isP (r : List Nat) (k : Nat) : Bool := pairs3.contains (pairAt r k)
def plN (r : List Nat) (i : Nat) : List Nat := (List.range i).filter (isP r)
def plI (r : List Nat) (i : Nat) : List Int := (plN r i).map fun (c : Nat) => (c : Int)
def swap3 (r : List Nat) (k : Nat) : List Nat := r.take k ++ rep3 (pairAt r k) ++ r.drop (k + 2)
def led1 (r : List Nat) : List (List Nat) := if plN r (r.length - 1) = [] then [r] else (plN r (r.length - 1)).map (swap3 r)
def ledN : Nat → List Nat → List (List Nat)
  | 0, r => [r]
  | i + 1, r => (ledN i r).flatMap led1
theorem ledN_step {i : Nat} {r a b : List Nat} (h : a ∈ ledN i r) (hb : b ∈ led1 a) : b ∈ ledN (i + 1) r := List.mem_flatMap.mpr ⟨a, h, hb⟩
theorem led_stay {r : List Nat} (h : plI r (r.length - 1) = []) : r ∈ led1 r := by
  have : plN r (r.length - 1) = [] := by simpa [plI] using h
  unfold led1; rw [if_pos this]; exact List.mem_singleton_self _
theorem led_move {r : List Nat} {k : Nat} (h : k ∈ plN r (r.length - 1)) : swap3 r k ∈ led1 r := by
  unfold led1
  rw [if_neg (List.ne_nil_of_mem h)]
  exact List.mem_map.mpr ⟨k, h, rfl⟩
theorem pl_at {r : List Nat} {n x : Nat} (hx : x < (plI r n).length) : ∃ k : Nat, k ∈ plN r n ∧ (plI r n).getD x 0 = (k : Int) ∧ k < n ∧ isP r k = true := by
  have hx' : x < (plN r n).length := by simpa [plI] using hx
  refine ⟨(plN r n)[x], List.getElem_mem hx', by simp [plI, List.getD, hx'], ?_⟩
  have := List.mem_filter.mp (List.getElem_mem hx')
  exact ⟨List.mem_range.mp this.1, this.2⟩
theorem pl_yes {r : List Nat} {ys : List Value} {i : Nat} {t : Tok} (h : IntsAre ys (plI r i)) (hp : isP r i = true) : IntsAre (ys ++ [.int ((i : Nat) : Int) t]) (plI r (i + 1)) := by
  have e : plI r (i + 1) = plI r i ++ [((i : Nat) : Int)] := by
    unfold plI plN; rw [List.range_succ, List.filter_append, List.map_append, List.filter_cons_of_pos hp]; rfl
  rw [e]; exact ints_snoc3 h _ _
theorem pl_no {r : List Nat} {ys : List Value} {i : Nat} (h : IntsAre ys (plI r i)) (hp : isP r i = false) : IntsAre ys (plI r (i + 1)) := by
  have e : plI r (i + 1) = plI r i := by
    unfold plI plN; rw [List.range_succ, List.filter_append, List.map_append, List.filter_cons_of_neg (by simp [hp])]; simp
  rw [e]; exact h
theorem swap_len {r : List Nat} {k : Nat} (h : k + 2 ≤ r.length) : r.length ≤ (swap3 r k).length ∧ (swap3 r k).length ≤ r.length + 2 := by
  unfold swap3
  rw [List.length_append, List.length_append, List.length_take, List.length_drop]
  have : 2 ≤ (rep3 (pairAt r k)).length ∧ (rep3 (pairAt r k)).length ≤ 4 := by
    unfold rep3
    split
    · decide
    · split <;> decide
  omega
theorem isP_cases {r : List Nat} {k : Nat} (h : isP r k = true) : pairAt r k = [104, 115] ∨ pairAt r k = [116, 115] ∨ pairAt r k = [116, 104] := by
  unfold isP pairs3 at h
  simpa using h
end Mine
end
section
open PySem PySem.W PyProof.Rows PySem.Calls
namespace Mine
def LedOff (m' m₀ : PySem.Str → Option Value) : Prop := ∀ z : PySem.Str, z ≠ "turn" → z ≠ "number" → z ≠ "places" → z ≠ "k" → m' z = m₀ z
def ledFr (m₀ : PySem.Str → Option Value) (u0 : Option Value) (q : Int) (tq : Tok) (u1 u2 : Option Value) : PySem.Str → Option Value :=
  fun (z : PySem.Str) => if z = "turn" then u0 else if z = "number" then some (.int q tq) else if z = "places" then u1 else if z = "k" then u2 else m₀ z
def LedNext (h₀ : Heap) (L : Addr) (m₀ : PySem.Str → Option Value) (C : Addr) (r : List Nat) (i : Nat) (I : Addr) (oI : Obj) (s s₂ : Shared) : Prop :=
  ∃ (a : List Nat) (oc : Obj) (ta : Tok) (q : Int) (tq : Tok) (h' : Heap) (tk : Nat) (m' : PySem.Str → Option Value), s₂ = { s with heap := h', toks := tk } ∧ Fr h₀ L h' m' ∧ News h₀ L h' [(I, oI), (C, oc)] ∧
    a ∈ ledN (i + 1) r ∧ 2 ≤ a.length ∧ a.length ≤ 20 + 2 * (i + 1) ∧ oc.data = .cell (some (.str (T a) ta)) ∧ m' "number" = some (.int q tq) ∧ LedOff m' m₀
def LedPost (h₀ : Heap) (L : Addr) (m₀ : PySem.Str → Option Value) (C : Addr) (r : List Nat) (i : Nat) (I : Addr) (oI : Obj) (s : Shared) (Q : Flow → Shared → Prop) (fl : Flow) (s₂ : Shared) : Prop :=
  match fl with
  | .ret v => Q (.ret v) s₂
  | .brk => Q .next s₂
  | _ => LedNext h₀ L m₀ C r i I oI s s₂
theorem led_loop {prog : Program} {w : World} {A : Around} {E : Value → Shared → Prop} {Q : Flow → Shared → Prop} {s : Shared} {env : Env} {h₀ : Heap} {body : List Stmt} {m₀ : PySem.Str → Option Value} {C : Addr} {oc : Obj} {r : List Nat} {q : Int} {tq tr : Tok} {r0 : Addr} {t u v : Tok} {x : PySem.Str}
    (hh : A.handled = none) (F : Fr h₀ env.locals s.heap m₀) (N : News h₀ env.locals s.heap [(C, oc)]) (hr : IsRange s.heap r0 0 3 1 t u v) (hxx : x = "turn") (hd : oc.data = .cell (some (.str (T r) tr))) (hq : m₀ "number" = some (.int q tq)) (h2 : 2 ≤ r.length) (h20 : r.length ≤ 20)
    (turn : ∀ (i : Nat) (a : List Nat) (q : Int) (tq t : Tok) (u1 u2 : Option Value) (I : Addr) (oI oc : Obj) (ta : Tok) h tk, i < 3 → a ∈ ledN i r → 2 ≤ a.length → a.length ≤ 20 + 2 * i → oc.data = .cell (some (.str (T a) ta)) → (@Ne Nat C I) →
      Fr h₀ env.locals h (fun (z : PySem.Str) => if z = "turn" then some (.int ((i : Nat) : Int) t) else if z = "number" then some (.int q tq) else if z = "places" then u1 else if z = "k" then u2 else m₀ z) → News h₀ env.locals h [(I, oI), (C, oc)] →
      wpAny (model prog w) A (execs body env) (LedPost h₀ env.locals m₀ C r i I oI { s with heap := h, toks := tk } Q) E { s with heap := h, toks := tk })
    (done : ∀ (a : List Nat) (oc : Obj) (ta : Tok) (q : Int) (tq : Tok) (u0 u1 u2 : Option Value) h tk, a ∈ ledN 3 r → oc.data = .cell (some (.str (T a) ta)) →
      Fr h₀ env.locals h (fun (z : PySem.Str) => if z = "turn" then u0 else if z = "number" then some (.int q tq) else if z = "places" then u1 else if z = "k" then u2 else m₀ z) → News h₀ env.locals h [(C, oc)] → Q .next { s with heap := h, toks := tk }) :
    wpAny (model prog w) A (pyIter (.ref r0)) (fun it s₂ => LoopAtV prog w A h₀ env x body Q E it s₂) E s := by
  subst hxx
  have em : ∀ (m₁ : PySem.Str → Option Value) (u0 : Option Value) (q : Int) (tq : Tok), m₁ "number" = some (.int q tq) → LedOff m₁ m₀ → (fun y : PySem.Str => if y = "turn" then u0 else m₁ y) = (fun (z : PySem.Str) => if z = "turn" then u0 else if z = "number" then some (.int q tq) else if z = "places" then m₁ "places" else if z = "k" then m₁ "k" else m₀ z) := by
    intro m₁ u0 q tq h1 h2
    funext z
    by_cases e0 : z = "turn"
    · subst e0; simp
    · by_cases e1 : z = "number"
      · subst e1; simp [e0, h1]
      · by_cases e2 : z = "places"
        · subst e2; simp [e0, e1]
        · by_cases e3 : z = "k"
          · subst e3; simp [e0, e1, e2]
          · simp only [if_neg e0, if_neg e1, if_neg e2, if_neg e3]; exact h2 z e0 e1 e2 e3
  refine range_J (n := 3) (fun i m nx => ∃ (a : List Nat) (oc : Obj) (ta : Tok) (q : Int) (tq : Tok), nx = [(C, oc)] ∧ a ∈ ledN i r ∧ 2 ≤ a.length ∧ a.length ≤ 20 + 2 * i ∧ oc.data = .cell (some (.str (T a) ta)) ∧ m "number" = some (.int q tq) ∧ LedOff m m₀)
    hh F N hr rfl (by decide) ⟨r, oc, tr, q, tq, rfl, List.mem_singleton_self _, h2, by omega, hd, hq, fun _ _ _ _ _ => rfl⟩ ?_ ?_
  · rintro i t m₁ nx I oI h tk hi ⟨a, oc, ta, q, tq, rfl, ha, hl2, hl, hd, hq, ho⟩ hI F₁ N₁
    rw [em m₁ _ q tq hq ho] at F₁
    refine wpAny_mono (turn i a q tq t _ _ I oI oc ta h tk hi ha hl2 hl hd (hI _ (List.mem_singleton_self _)) F₁ N₁) (fun f s₂ p => ?_) fun _ _ e => e
    have fin : LedNext h₀ env.locals m₀ C r i I oI { s with heap := h, toks := tk } s₂ → EndJ h₀ env.locals (fun m nx => ∃ (a : List Nat) (oc : Obj) (ta : Tok) (q : Int) (tq : Tok), nx = [(C, oc)] ∧ a ∈ ledN (i + 1) r ∧ 2 ≤ a.length ∧ a.length ≤ 20 + 2 * (i + 1) ∧ oc.data = .cell (some (.str (T a) ta)) ∧ m "number" = some (.int q tq) ∧ LedOff m m₀) I oI { s with heap := h, toks := tk } s₂ := by
      rintro ⟨a', oc', ta', q', tq', h', tk', m', e, F', N', g1, g2, g3, g4, g5, g6⟩
      refine ⟨h', tk', m', [(C, oc')], e, F', N', fun p hp => ?_, a', oc', ta', q', tq', rfl, g1, g2, g3, g4, g5, g6⟩
      rw [List.mem_singleton.mp hp]; exact hI (C, oc) (List.mem_singleton_self _)
    cases f with
    | ret v => exact p
    | brk => exact p
    | next => exact fin p
    | cont => exact fin p
  · rintro m₁ nx h tk ⟨a, oc, ta, q, tq, rfl, ha, hl2, hl, hd, hq, ho⟩ F₁ N₁
    refine done a oc ta q tq (m₁ "turn") (m₁ "places") (m₁ "k") h tk ha hd ?_ N₁
    rw [← em m₁ (m₁ "turn") q tq hq ho]
    have : (fun y : PySem.Str => if y = "turn" then m₁ "turn" else m₁ y) = m₁ := by
      funext y
      by_cases e : y = "turn"
      · simp [e]
      · simp [e]
    rw [this]; exact F₁
theorem led_end {h₀ : Heap} {L : Addr} {m₀ m' : PySem.Str → Option Value} {C I : Addr} {oI oc : Obj} {r a b : List Nat} {i : Nat} {s : Shared} {Q : Flow → Shared → Prop} {h' : Heap} {tk : Nat} {all : List (Addr × Obj)} {x : PySem.Str} {ta tq : Tok} {q : Int}
    (F : Fr h₀ L h' m') (N : News h₀ L h' all) (hI : (I, oI) ∈ all) (hC : (C, oc) ∈ all) (ha : a ∈ ledN i r) (hb : b ∈ led1 a) (h2 : a.length ≤ b.length) (hl : b.length ≤ a.length + 2) (h2a : 2 ≤ a.length) (hla : a.length ≤ 20 + 2 * i) (hd : oc.data = .cell (some (.str x ta))) (hx : x = T b) (hq : m' "number" = some (.int q tq)) (ho : LedOff m' m₀) :
    LedPost h₀ L m₀ C r i I oI s Q .next { s with heap := h', toks := tk } := by
  subst hx
  refine ⟨b, oc, ta, q, tq, h', tk, m', rfl, F, fun p hp => ?_, ledN_step ha hb, by omega, by omega, hd, hq, ho⟩
  rcases List.mem_cons.mp hp with rfl | hp
  · exact N _ hI
  · rw [List.mem_singleton.mp hp]; exact N _ hC
end Mine
end
section
open PySem PySem.W PyProof.Rows PySem.Calls
namespace Mine
theorem hsS : PySem.Str.ofString "hs" = T [104, 115] := by decide +kernel
theorem tsS : PySem.Str.ofString "ts" = T [116, 115] := by decide +kernel
theorem thS : PySem.Str.ofString "th" = T [116, 104] := by decide +kernel
theorem sshS : PySem.Str.ofString "ssh" = T [115, 115, 104] := by decide +kernel
theorem ssstS : PySem.Str.ofString "ssst" = T [115, 115, 115, 116] := by decide +kernel
theorem htS : PySem.Str.ofString "ht" = T [104, 116] := by decide +kernel
theorem slice_pair (a : List Nat) (k : Nat) : Txt.slice (T a) (some (k : Int)) (some ((k : Int) + 2)) = T (pairAt a k) := by
  have h := slice_T (T a) (a := k) (b := k + 2) (by omega)
  rw [T_list, Nat.add_sub_cancel_left] at h
  exact h
theorem slice_from2 (a : List Nat) (k : Nat) : Txt.slice (T a) (some ((k : Int) + 2)) none = T (a.drop (k + 2)) := by
  have h := slice_from_T (T a) (k + 2)
  rw [T_list] at h
  exact h
theorem slice_to2 (a : List Nat) (k : Nat) : Txt.slice (T a) none (some (k : Int)) = T (a.take k) := by
  have h := slice_to_T (T a) k
  rw [T_list] at h
  exact h
theorem slice_hs {a : List Nat} {k : Nat} (h : pairAt a k = [104, 115]) : Txt.slice (T a) (some (k : Int)) (some ((k : Int) + 2)) = PySem.Str.ofString "hs" := by rw [slice_pair, h, hsS]
theorem slice_ts {a : List Nat} {k : Nat} (h : pairAt a k = [116, 115]) : Txt.slice (T a) (some (k : Int)) (some ((k : Int) + 2)) = PySem.Str.ofString "ts" := by rw [slice_pair, h, tsS]
theorem slice_th {a : List Nat} {k : Nat} (h : pairAt a k = [116, 104]) : Txt.slice (T a) (some (k : Int)) (some ((k : Int) + 2)) = PySem.Str.ofString "th" := by rw [slice_pair, h, thS]
theorem swap_hs {a : List Nat} {k : Nat} (h : pairAt a k = [104, 115]) : Txt.slice (T a) none (some (k : Int)) ++ PySem.Str.ofString "ssh" ++ Txt.slice (T a) (some ((k : Int) + 2)) none = T (swap3 a k) := by
  rw [slice_to2, slice_from2, sshS, T_app, T_app, swap3, h]; rfl
theorem swap_ts {a : List Nat} {k : Nat} (h : pairAt a k = [116, 115]) : Txt.slice (T a) none (some (k : Int)) ++ PySem.Str.ofString "ssst" ++ Txt.slice (T a) (some ((k : Int) + 2)) none = T (swap3 a k) := by
  rw [slice_to2, slice_from2, ssstS, T_app, T_app, swap3, h]; rfl
theorem swap_th {a : List Nat} {k : Nat} (h : pairAt a k = [116, 104]) : Txt.slice (T a) none (some (k : Int)) ++ PySem.Str.ofString "ht" ++ Txt.slice (T a) (some ((k : Int) + 2)) none = T (swap3 a k) := by
  rw [slice_to2, slice_from2, htS, T_app, T_app, swap3, h]; rfl
section
variable {prog : Program} {w : World} {A : Around} {E : Value → Shared → Prop} {s : Shared} {h₀ : Heap} {L D : Addr} {m : PySem.Str → Option Value} {news : List (Addr × Obj)} {Q : Value → Shared → Prop}
theorem in_pair_K {a : List Nat} {j : Nat} {t0 t1 t2 u : Tok} {c : Nat} (N : News h₀ L s.heap news)
    (hm : (D, ({ cls := .type "tuple", data := .seq #[.str (PySem.Str.ofString "hs") t0, .str (PySem.Str.ofString "ts") t1, .str (PySem.Str.ofString "th") t2] c } : Obj)) ∈ news) (h : Q (.bool (isP a j)) s) :
    wpAny (model prog w) A (compareOp .In (.str (Txt.slice (T a) (some (j : Int)) (some ((j : Int) + 2))) u) (.ref D)) Q E s := by
  refine in_tuple_strs (ys := [PySem.Str.ofString "hs", PySem.Str.ofString "ts", PySem.Str.ofString "th"]) ⟨_, (N _ hm).1, rfl, _, rfl⟩ (.cons _ _ (.cons _ _ (.cons _ _ .nil))) ?_
  have e : ([PySem.Str.ofString "hs", PySem.Str.ofString "ts", PySem.Str.ofString "th"].any (· == Txt.slice (T a) (some (j : Int)) (some ((j : Int) + 2)))) = isP a j := by
    rw [slice_pair, hsS, tsS, thS]
    unfold isP pairs3
    simp only [List.any_cons, List.any_nil, T_inj, List.contains_cons, List.contains_nil, Bool.or_false]
    have hc : ∀ p q : List Nat, decide (p = q) = (q == p) := by
      intro p q
      by_cases h : p = q
      · rw [decide_eq_true h, h]; exact (beq_self_eq_true q).symm
      · rw [decide_eq_false h]; exact (beq_eq_false_iff_ne.mpr (Ne.symm h)).symm
    rw [hc [104, 115], hc [116, 115], hc [116, 104]]
  rw [e]; exact h
theorem pl_item_K {value slice : Expr} {a : List Nat} {n x c : Nat} {vs : List Value} {u : Tok} (N : News h₀ L s.heap news) (hm : (D, ({ cls := .type "list", data := .seq vs.toArray c } : Obj)) ∈ news) (hI : IntsAre vs (plI a n)) (hx : x < (plI a n).length) (hz : (plI a n).length ≤ 1000)
    (h : ∀ (k : Nat) t, k ∈ plN a n → k < n → isP a k = true → Q (.int ((k : Nat) : Int) t) s)
    (hs : subscripted slice false (.ref D) (.int ((x : Nat) : Int) u) = operate [.ref D, .int ((x : Nat) : Int) u] (getItem (.ref D) (.int ((x : Nat) : Int) u)) := by with_unfolding_all rfl) :
    wpAny (model prog w) A (subscriptTail value slice (.ref D) (.int ((x : Nat) : Int) u)) Q E s := by
  have hl : s.heap.IsList D vs.toArray := ⟨_, (N _ hm).1, rfl, _, rfl⟩
  have hlen := IntsAre.length hI
  have hxv : x < vs.length := by omega
  obtain ⟨t, e⟩ := int_at (cs := plN a n) (i := x) hI (List.getElem?_eq_getElem hxv)
  obtain ⟨k, h1, h2, h3, h4⟩ := pl_at hx
  have ek : (((plN a n).getD x 0 : Nat) : Int) = (k : Int) := by
    rw [← h2]; unfold plI; exact (getD_cast _ _).symm
  refine tail_any hl.typeIs slot_list_getitem.lookup (wpAny_getItem_list hl (by omega) (by omega) (x := .int (((plN a n).getD x 0 : Nat) : Int) t) (by simpa [List.getElem?_eq_getElem hxv] using e) ?_) hs
  rw [ek]; exact h k t h1 h3 h4
theorem in_pair_b {a : List Nat} {j : Nat} {t0 t1 t2 u : Tok} {c : Nat} {b : Bool} (hp : isP a j = b) (N : News h₀ L s.heap news)
    (hm : (D, ({ cls := .type "tuple", data := .seq #[.str (PySem.Str.ofString "hs") t0, .str (PySem.Str.ofString "ts") t1, .str (PySem.Str.ofString "th") t2] c } : Obj)) ∈ news) (h : Q (.bool b) s) :
    wpAny (model prog w) A (compareOp .In (.str (Txt.slice (T a) (some (j : Int)) (some ((j : Int) + 2))) u) (.ref D)) Q E s := by
  subst hp; exact in_pair_K N hm h
theorem ne_none_b {b' : Addr} {vs : List Value} {ns : List Int} {b : Bool} (hb : (!decide (ns = [])) = b) (hl : s.heap.IsList D vs.toArray) (hi : IntsAre vs ns) (hl' : s.heap.IsList b' #[]) (hu : A.units + 64 < cLine) (h : Q (.bool b) s) :
    wpAny (model prog w) A (compareOp .NotEq (.ref D) (.ref b')) Q E s := by
  subst hb; exact ne_intsK (us := []) hl hi hl' .nil hu h
theorem sub_key {value slice : Expr} {x y : PySem.Str} {t : Tok} (e : x = y) (h : wpAny (model prog w) A (subscriptTail value slice (.ref D) (.str y t)) Q E s) : wpAny (model prog w) A (subscriptTail value slice (.ref D) (.str x t)) Q E s := by
  subst e; exact h
theorem getItem_str_K {d : Addr} {T' : List (PyData × PyData)} {k y : PySem.Str} {t : Tok} (hT : TabAt (PySem.strKind prog w) PyData.str s.heap d T') (hl : PySem.Spec.lookup (PyData.str k) T' = some (PyData.str y))
    (h : ∀ u, Q (.str y u) { s with toks := s.toks + 1 }) : wpAny (model prog w) A (getItem (.ref d) (.str k t)) Q E s := by
  refine getItem_tab PyProof.V.same_str (PySem.strKind_is _ _ _ _) hT hl fun v hv => ?_
  obtain ⟨u, rfl⟩ := hv.str_inv
  exact h u
end
end Mine
end
section
open PySem PySem.W PyProof.Rows PySem.Calls
namespace Mine
def wd3 (k : Nat) : List Nat := if k = 0 then [104, 116, 115, 115, 115] else if k = 1 then [104, 104, 116, 115, 115] else [116, 116, 115, 115, 115]
def rw3 (k : Nat) : Nat := if k = 0 then 6 else if k = 1 then 12 else 9
def dueN (r : List Nat) : Nat := (dueF (r.map fun (c : Nat) => (c : Int))).2
def okPair (n : Nat) (r o : List Nat) : Bool :=
  (doneF (List.range n) r).sum == dueN r && (doneF (List.range n) o).sum == dueN o && ((doneF (List.range n) r == doneF (List.range n) o) == (dueN r == dueN o))
def dd3 (l : List (List Nat)) : List (List Nat) := l.foldr (fun x acc => if acc.contains x then acc else x :: acc) []
def all3 : Bool := (List.range 3).all fun k => (dd3 (pa (wd3 k))).all fun r => (dd3 (pa (wd3 k)) ++ dd3 (ledN 3 r)).all fun o => okPair (rw3 k) r o
theorem all3_ok : all3 = true := by decide +kernel
theorem dd3_mem {x : List Nat} : ∀ {l : List (List Nat)}, x ∈ l → x ∈ dd3 l
  | y :: l, h => by
    show x ∈ (if (dd3 l).contains y then dd3 l else y :: dd3 l)
    split
    · rename_i hc
      rcases List.mem_cons.mp h with rfl | h
      · exact List.contains_iff_mem.mp hc
      · exact dd3_mem h
    · rcases List.mem_cons.mp h with rfl | h
      · exact List.mem_cons_self
      · exact List.mem_cons_of_mem _ (dd3_mem h)
theorem pa_len : ∀ (n : Nat) (l r : List Nat), r ∈ paN n l → r.length = n
  | 0, _, r, h => by rw [List.mem_singleton.mp h]; rfl
  | n + 1, l, r, h => by
    obtain ⟨i, _, h⟩ := List.mem_flatMap.mp h
    obtain ⟨x, hx, rfl⟩ := List.mem_map.mp h
    rw [List.length_cons, pa_len n _ x hx]
theorem wd_len (k : Nat) : (wd3 k).length = 5 := by
  unfold wd3
  split
  · rfl
  · split <;> rfl
theorem run_len {k : Nat} {r : List Nat} (h : r ∈ pa (wd3 k)) : r.length = 5 := by rw [pa_len _ _ _ h, wd_len]
theorem led1_len {r a : List Nat} (h : a ∈ led1 r) : a.length ≤ r.length + 2 := by
  unfold led1 at h
  split at h
  · rw [List.mem_singleton.mp h]; omega
  · obtain ⟨k, hk, rfl⟩ := List.mem_map.mp h
    have := List.mem_range.mp (List.mem_filter.mp hk).1
    exact (swap_len (by omega)).2
theorem ledN_len : ∀ (i : Nat) {r a : List Nat}, a ∈ ledN i r → a.length ≤ r.length + 2 * i
  | 0, _, _, h => by rw [List.mem_singleton.mp h]; omega
  | i + 1, r, a, h => by
    obtain ⟨b, hb, h⟩ := List.mem_flatMap.mp h
    have h1 := ledN_len i hb
    have h2 := led1_len h
    omega
theorem pair_ok {k : Nat} {r o : List Nat} (hk : k < 3) (hr : r ∈ pa (wd3 k)) (ho : o ∈ pa (wd3 k) ∨ o ∈ ledN 3 r) : okPair (rw3 k) r o = true := by
  have h1 := List.all_eq_true.mp all3_ok k (List.mem_range.mpr hk)
  have h2 := List.all_eq_true.mp h1 r (dd3_mem hr)
  exact List.all_eq_true.mp h2 o (List.mem_append.mpr (ho.elim (fun h => .inl (dd3_mem h)) fun h => .inr (dd3_mem h)))
theorem sum_cast (l : List Nat) : (l.map fun (c : Nat) => (c : Int)).sum = ((l.sum : Nat) : Int) := by
  induction l with
  | nil => rfl
  | cons c l ih => rw [List.map_cons, List.sum_cons, ih, List.sum_cons]; simp
theorem pair_facts {k : Nat} {r o : List Nat} (hk : k < 3) (hr : r ∈ pa (wd3 k)) (ho : o ∈ pa (wd3 k) ∨ o ∈ ledN 3 r) :
    ((doneF (List.range (rw3 k)) r).map fun (c : Nat) => (c : Int)).sum = ((dueN r : Nat) : Int) ∧ ((doneF (List.range (rw3 k)) o).map fun (c : Nat) => (c : Int)).sum = ((dueN o : Nat) : Int) ∧
    ((((doneF (List.range (rw3 k)) r).map fun (c : Nat) => (c : Int)) = ((doneF (List.range (rw3 k)) o).map fun (c : Nat) => (c : Int))) ↔ ((dueN r : Nat) : Int) = ((dueN o : Nat) : Int)) := by
  have h := pair_ok hk hr ho
  unfold okPair at h
  simp only [Bool.and_eq_true, beq_iff_eq] at h
  obtain ⟨⟨h1, h2⟩, h3⟩ := h
  refine ⟨by rw [sum_cast, h1], by rw [sum_cast, h2], ?_⟩
  have hinj : ∀ a b : List Nat, (a.map fun (c : Nat) => (c : Int)) = (b.map fun (c : Nat) => (c : Int)) ↔ a = b := by
    intro a b
    constructor
    · intro e
      have := congrArg (List.map Int.toNat) e
      simpa [List.map_map, Function.comp_def] using this
    · intro e; rw [e]
  rw [hinj]
  have h4 : (doneF (List.range (rw3 k)) r = doneF (List.range (rw3 k)) o) ↔ dueN r = dueN o := by
    have := congrArg (· = true) h3
    simpa using this
  rw [h4]; omega
end Mine
end
section
open PySem PySem.W PyProof.Rows
namespace Mine
def numsOf3 (ns : List Int) : List Int := (ns.take 9).map (fun k' => k'.fmod 1000000) ++ [22, 314, 3, 65, 98, 151, 204, 270, 331].drop (min 9 ns.length)
theorem nums_eq3 (ns : List Int) : (List.map (fun k' => k'.fmod 1000000) (List.take 9 ns)) ++ (List.drop (((List.map (fun k' => k'.fmod 1000000) (List.take 9 ns)).length : Nat) : Int).toNat [22, 314, 3, 65, 98, 151, 204, 270, 331] : List Int) = numsOf3 ns := by
  unfold numsOf3
  rw [Int.toNat_natCast, List.length_map, List.length_take]
theorem numsOf3_len (ns : List Int) : (numsOf3 ns).length = 9 := by
  unfold numsOf3
  rw [List.length_append, List.length_map, List.length_take, List.length_drop]
  simp only [List.length_cons, List.length_nil]
  omega
theorem numsOf3_bd (ns : List Int) : ∀ n ∈ numsOf3 ns, 0 ≤ n ∧ n < 1000000 := by
  intro n h
  unfold numsOf3 at h
  rcases List.mem_append.mp h with h | h
  · obtain ⟨k, _, rfl⟩ := List.mem_map.mp h
    exact ⟨Int.fmod_nonneg_of_pos _ (by decide), Int.fmod_lt_of_pos _ (by decide)⟩
  · have h2 := List.mem_of_mem_drop h
    have : ∀ n ∈ ([22, 314, 3, 65, 98, 151, 204, 270, 331] : List Int), 0 ≤ n ∧ n < 1000000 := by decide
    exact this n h2
end Mine
end
section
open PySem PySem.W PyProof.Rows PySem.Calls
namespace Mine
section
variable {prog : Program} {w : World} {A : Around} {E : Value → Shared → Prop} {s : Shared} {h₀ : Heap} {L D : Addr} {m : PySem.Str → Option Value} {news : List (Addr × Obj)} {Q : Value → Shared → Prop}
theorem item_wd {value slice : Expr} {a : Addr} {t0 t1 t2 : Tok} {c k : Nat} {u : Tok} (hk : k < 3) (N : News h₀ L s.heap news)
    (hm : (a, ({ cls := .type "tuple", data := .seq #[.str (PySem.Str.ofString "htsss") t0, .str (PySem.Str.ofString "hhtss") t1, .str (PySem.Str.ofString "ttsss") t2] c } : Obj)) ∈ news)
    (h : ∀ t, Q (.str (T (wd3 k)) t) s)
    (hs : subscripted slice false (.ref a) (.int ((k : Nat) : Int) u) = operate [.ref a, .int ((k : Nat) : Int) u] (getItem (.ref a) (.int ((k : Nat) : Int) u)) := by with_unfolding_all rfl) :
    wpAny (model prog w) A (subscriptTail value slice (.ref a) (.int ((k : Nat) : Int) u)) Q E s := by
  refine item_tstrs N hm (.cons _ _ (.cons _ _ (.cons _ _ .nil))) (by omega) (by simp; omega) (by simp) (fun t => ?_) hs
  have e : [PySem.Str.ofString "htsss", PySem.Str.ofString "hhtss", PySem.Str.ofString "ttsss"].getD ((k : Nat) : Int).toNat ⟨#[]⟩ = T (wd3 k) := by
    have : k = 0 ∨ k = 1 ∨ k = 2 := by omega
    rcases this with e | e | e <;> subst e <;> decide +kernel
  rw [e]; exact h t
theorem item_rw {value slice : Expr} {a : Addr} {t0 t1 t2 : Tok} {c k : Nat} {u : Tok} (hk : k < 3) (N : News h₀ L s.heap news)
    (hm : (a, ({ cls := .type "tuple", data := .seq #[.int 6 t0, .int 12 t1, .int 9 t2] c } : Obj)) ∈ news)
    (h : ∀ t, Q (.int ((rw3 k : Nat) : Int) t) s)
    (hs : subscripted slice false (.ref a) (.int ((k : Nat) : Int) u) = operate [.ref a, .int ((k : Nat) : Int) u] (getItem (.ref a) (.int ((k : Nat) : Int) u)) := by with_unfolding_all rfl) :
    wpAny (model prog w) A (subscriptTail value slice (.ref a) (.int ((k : Nat) : Int) u)) Q E s := by
  have : ∃ t, (#[Value.int 6 t0, .int 12 t1, .int 9 t2] : Array Value)[k]? = some (.int ((rw3 k : Nat) : Int) t) := by
    have : k = 0 ∨ k = 1 ∨ k = 2 := by omega
    rcases this with e | e | e <;> subst e
    · exact ⟨t0, rfl⟩
    · exact ⟨t1, rfl⟩
    · exact ⟨t2, rfl⟩
  obtain ⟨t, e⟩ := this
  refine item_tupleT (l := [.int 6 t0, .int 12 t1, .int 9 t2]) (j := k) ⟨_, (N _ hm).1, rfl, _, rfl⟩ (by omega) (by omega) ?_ (by simpa using e) (h t) hs
  exact StrLaws.seqIndex_nonneg (by omega) (by simp; omega)
end
theorem use_nums3 {prog : Program} {w : World} {K : Frag} {p : Program} {loose : List PySem.Str} {mean : ExcName → Option Value} {mg mb : PySem.Str → Option Value} {f : Addr}
    (cc : ∀ (l : Addr) (vs : List Value) (ns : List Int), IntsAre vs ns → ns.length ≤ 63 → Con prog w K p loose mean mg mb 4 f [.ref l] (fun h => h.IsList l vs.toArray) (ListR fun xs => IntsAre xs (numsOf3 ns)))
    {dp un : Nat} {gd : Option (List Code)} {cn : PySem.Str} {cs : Scope} {a : Addr} {ccd : Value} {cl : List (PySem.Str × Addr)} {outer : List Env} {A₀ : Around} {base h₀ : Heap} {L : Addr} {m : PySem.Str → Option Value} {s : Shared} {Q E : Value → Shared → Prop} {news : List (Addr × Obj)} {l : Addr} {vs : List Value} {ns : List Int}
    (B : Below A₀ base outer h₀) (F : Fr h₀ L s.heap m) (X : K.In h₀) (TT : Top p loose mean mg mb h₀) (hk : cs.kind = .function) (hd : dp + 4 < recursionLimit) (hu : un + 30 * 4 < cLine) (N : News h₀ L s.heap news)
    (hl : h₀.IsList l vs.toArray) (hi : IntsAre vs ns) (hn : ¬ ((63 : Nat) : Int) < ((ns.length : Nat) : Int))
    (h : ∀ a xs c NS h' tk', IntsAre xs NS → NS.length = 9 → (∀ n ∈ NS, 0 ≤ n ∧ n < 1000000) → Fr h₀ L h' m → News h₀ L h' ((a, { cls := .type "list", data := .seq xs.toArray c }) :: news) → (∀ p ∈ news, @Ne Nat p.1 a) → Q (.ref a) { s with heap := h', toks := tk' }) :
    wpAny (model prog w) (ktrTop dp un gd cn cs L a ccd cl outer) (call (.ref f) [.ref l]) Q E s := by
  refine use_O (cc l vs ns hi (by omega)) B F X TT hk hd hu (F.lst hl) N fun v more h' tk' hR F' N' off => ?_
  obtain ⟨a, xs, c, rfl, hx, rfl⟩ := hR
  exact h a xs c _ h' tk' hx (numsOf3_len ns) (numsOf3_bd ns) F' N' fun q hq => off _ (List.mem_singleton_self _) q hq
/-- a contract that gives a text of a kind -/
theorem use_txt {prog : Program} {w : World} {K : Frag} {p : Program} {loose : List PySem.Str} {mean : ExcName → Option Value} {mg mb : PySem.Str → Option Value} {d : Nat} {f : Addr} {vs : List Value} {Pre : Heap → Prop} {P : List Nat → Prop}
    (c : Con prog w K p loose mean mg mb d f vs Pre (fun v more => more = [] ∧ ∃ r t, P r ∧ v = .str (T r) t)) {dp un : Nat} {gd : Option (List Code)} {cn : PySem.Str} {cs : Scope} {a : Addr} {ccd : Value} {cl : List (PySem.Str × Addr)} {outer : List Env} {A₀ : Around} {base h₀ : Heap} {L : Addr} {m : PySem.Str → Option Value} {s : Shared} {Q E : Value → Shared → Prop} {news : List (Addr × Obj)}
    (B : Below A₀ base outer h₀) (F : Fr h₀ L s.heap m) (X : K.In h₀) (TT : Top p loose mean mg mb h₀) (hk : cs.kind = .function) (hd : dp + d < recursionLimit) (hu : un + 30 * d < cLine) (hp : Pre s.heap) (N : News h₀ L s.heap news)
    (h : ∀ r t h' tk', P r → Fr h₀ L h' m → News h₀ L h' news → Q (.str (T r) t) { s with heap := h', toks := tk' }) :
    wpAny (model prog w) (ktrTop dp un gd cn cs L a ccd cl outer) (call (.ref f) vs) Q E s :=
  c dp un gd cn cs a ccd cl outer A₀ base h₀ L m s Q E B F X TT hk hd hu hp fun v more h' tk' hR _ k F' => by
    obtain ⟨_, r, t, hr, rfl⟩ := hR
    exact h r t h' tk' hr F' (news_over N k)
/-- a contract that gives a list of ints -/
theorem use_ints {prog : Program} {w : World} {K : Frag} {p : Program} {loose : List PySem.Str} {mean : ExcName → Option Value} {mg mb : PySem.Str → Option Value} {d : Nat} {f : Addr} {vs : List Value} {Pre : Heap → Prop} {ms : List Int}
    (c : Con prog w K p loose mean mg mb d f vs Pre (ListR fun xs => IntsAre xs ms)) {dp un : Nat} {gd : Option (List Code)} {cn : PySem.Str} {cs : Scope} {a : Addr} {ccd : Value} {cl : List (PySem.Str × Addr)} {outer : List Env} {A₀ : Around} {base h₀ : Heap} {L : Addr} {m : PySem.Str → Option Value} {s : Shared} {Q E : Value → Shared → Prop} {news : List (Addr × Obj)}
    (B : Below A₀ base outer h₀) (F : Fr h₀ L s.heap m) (X : K.In h₀) (TT : Top p loose mean mg mb h₀) (hk : cs.kind = .function) (hd : dp + d < recursionLimit) (hu : un + 30 * d < cLine) (hp : Pre s.heap) (N : News h₀ L s.heap news)
    (h : ∀ a xs c h' tk', IntsAre xs ms → Fr h₀ L h' m → News h₀ L h' ((a, { cls := .type "list", data := .seq xs.toArray c }) :: news) → (∀ p ∈ news, @Ne Nat p.1 a) → Q (.ref a) { s with heap := h', toks := tk' }) :
    wpAny (model prog w) (ktrTop dp un gd cn cs L a ccd cl outer) (call (.ref f) vs) Q E s := by
  refine use_O c B F X TT hk hd hu hp N fun v more h' tk' hR F' N' off => ?_
  obtain ⟨a, xs, c, rfl, hx, rfl⟩ := hR
  exact h a xs c h' tk' hx F' N' fun q hq => off _ (List.mem_singleton_self _) q hq
section
variable {prog : Program} {w : World} {A : Around} {E : Value → Shared → Prop} {s : Shared} {Q : Value → Shared → Prop}
theorem ne_false_K {a b : Int} {t u : Tok} (e : a = b) (h : Q (.bool false) s) : wpAny (model prog w) A (compareOp .NotEq (.int a t) (.int b u)) Q E s := by
  subst e
  refine IsLeap.wpAny_ne_int ?_
  rw [show (a != a) = false by simp]; exact h
theorem eq_int_b {a b : Int} {t u : Tok} {c : Bool} (e : (a == b) = c) (h : Q (.bool c) s) : wpAny (model prog w) A (compareOp .Eq (.int a t) (.int b u)) Q E s := by
  subst e
  exact IsLeap.wpAny_eq_int' h
theorem eq_list_b {a b : Addr} {vs us : List Value} {ns ms : List Int} {c : Bool} (e : decide (ns = ms) = c) (hl : s.heap.IsList a vs.toArray) (hi : IntsAre vs ns) (hl' : s.heap.IsList b us.toArray) (hi' : IntsAre us ms) (hu : A.units + 64 < cLine) (h : Q (.bool c) s) :
    wpAny (model prog w) A (compareOp .Eq (.ref a) (.ref b)) Q E s := by
  subst e; exact eq_intsK hl hi hl' hi' hu h
end
theorem mod3 (n : Int) : ∃ k : Nat, k < 3 ∧ n.fmod 3 = (k : Int) := by
  have h0 : 0 ≤ n.fmod 3 := Int.fmod_nonneg_of_pos _ (by decide)
  have h1 : n.fmod 3 < 3 := Int.fmod_lt_of_pos _ (by decide)
  exact ⟨(n.fmod 3).toNat, by omega, by omega⟩
end Mine
end
section
open PySem PySem.W PyProof.Rows
set_option maxHeartbeats 0
namespace Mine
def law_w.tw10865994627678966421 : Nat := 0
def law_w.tw12500106642314072766 : Nat := 0
def law_w.tw12962321754842523023 : Nat := 0
def law_w.tw10808640705706000975 : Nat := 0
def law_w.tw5623058902063733101 : Nat := 0
def law_w.tw16474628757505504559 : Nat := 0
def law_w.tw17372018072902172195 : Nat := 0
def law_w.tw3297981388653143095 : Nat := 0
def law_w.tw2917350989071455604 : Nat := 0
def law_w.tw12267280427803232062 : Nat := 0
def law_w.tw2799192635983554365 : Nat := 0
def law_w.tw14381254306319304586 : Nat := 0
def law_w.tw7607394664702357800 : Nat := 0
def law_w.tw6878772706024750070 : Nat := 0
def law_w.tw4117255708970894568 : Nat := 0
local macro_rules | `(tactic| walk_at "mine enter") => `(tactic| ((first | k_extra "in C1" | k_extra "in S5" | k_extra "in S6" | k_extra "in S7" | k_extra "in S14" | k_extra "in S11" | k_extra "in S12" | k_extra "in S13" | k_extra "in S15" | k_extra "in S16"); k_dflt (refine' Mine.enter_def ?k1 ?k2 ?k3 ?k5 ?kA ?kF ?kK ?k6 ?k7 ?k8 ?k9 ?kB ?_ ?c2 ?c3 ?c4 ?c5; (case kA => exact rfl); (case kF => exact rfl); (case kK => assumption); (case k1 => k_asm); (case k2 => k_asm); (case k3 => k_asm); (case k5 => k_asm); (case k6 => k_is); (case k7 => k_is); (case k8 => ktr_room); (case k9 => exact BindsTo.of_eq rfl); (case c5 => decide); (case kB => exact locs rfl); (case c2 => exact rfl); (case c3 => exact rfl); (case c4 => exact rfl); k_whole; intro L' h' F' N' B' X' T'; (try dsimp only); (try k_fold))))
local macro_rules | `(tactic| walk_at "mine enterC") => `(tactic| ((first | k_extra "in C1" | k_extra "in S5" | k_extra "in S6" | k_extra "in S7" | k_extra "in S14" | k_extra "in S11" | k_extra "in S12" | k_extra "in S13" | k_extra "in S15" | k_extra "in S16"); k_dflt (refine' Mine.enter_defC ?k1 ?k2 ?k3 ?k5 ?kA ?kF ?kK ?k6 ?k7 ?k8 ?k9 ?kB ?kD ?_ ?c2 ?c3 ?c4; (case kA => exact rfl); (case kF => exact rfl); (case kK => assumption); (case k1 => k_asm); (case k2 => k_asm); (case k3 => k_asm); (case k5 => k_asm); (case k6 => k_is); (case k7 => k_is); (case k8 => ktr_room); (case k9 => exact BindsTo.of_eq rfl); (case kB => exact rfl); (case kD => decide +kernel); (case c2 => exact rfl); (case c3 => exact rfl); (case c4 => exact rfl); k_whole; intro L' h' tk' cells' F' N' Y' B' X' T'; k_cells Y'; (try simp only [List.cons_append, List.nil_append] at N'); (try dsimp only); (try k_fold))))
local macro_rules | `(tactic| walk_at "eval ListComp") => `(tactic| ((first | k_extra "in S5"); (k_here; lct_look; (with_reducible show wpAny _ _ (eval (Expr.ListComp _ [⟨_, Expr.Tuple _ _ _, _, _⟩] _ _) _) _ _ _); lcg_calm; k_dflt (refine Mine.ListComp_TT (F₀ := by k_asm) (by with_unfolding_all rfl) (by decide) (by rfl) (by decide) (by rfl) ?_))))
local macro_rules | `(tactic| walk_at "SrcTT") => `(tactic| ((first | k_extra "in S5"); (k_here; k_dflt (refine Mine.SrcTT.of (by rfl) (by k_asm) (by k_asm) (by k_mem) (by first | size_fits | exact Nat.le_of_ble_eq_true rfl) ?_; intro g'; lct_lit))))
local macro_rules | `(tactic| walk_at "storeName int") => `(tactic| ((first | k_extra "in S5"); ((fail_if_success (with_reducible show wpAny _ _ (storeName _ _ (Value.int 3 _)) _ _ _)); (fail_if_success (with_reducible show wpAny _ _ (storeName _ _ (Value.int 1 _)) _ _ _)); first | refine Mine.st_known (j := 3) (by omega) ?_ | refine Mine.st_known (j := 1) (by omega) ?_)))
local macro_rules | `(tactic| walk_at "subscriptTail Name Subscript ref str") => `(tactic| ((first | k_extra "in S5"); (k_here; (simp only [Mine.sl_11, Mine.sl_12, Mine.sl_13, Mine.sl_21, Mine.sl_22, Mine.sl_23, Mine.sl_31, Mine.sl_32, Mine.sl_33]); k_dflt (refine' topItem_K ?F ?X ?l ?k ?e ?_; (case F => k_asm); (case X => k_asm); (case l => k_is); (case k => k_keys); (case e => k_is)))))
local macro_rules | `(tactic| walk_at "compareOp In str ref") => `(tactic| ((first | k_extra "in S5"); (k_here; (simp only [Mine.sl_11, Mine.sl_12, Mine.sl_13, Mine.sl_21, Mine.sl_22, Mine.sl_23, Mine.sl_31, Mine.sl_32, Mine.sl_33]); k_dflt (refine' topIn_K ?F ?X ?l ?k ?e ?o ?_; (case F => k_asm); (case X => k_asm); (case l => k_is); (case k => k_keys); (case e => k_is); (case o => decide)))))
local macro_rules | `(tactic| walk_at "getMethod ref") => `(tactic| ((first | k_extra "in S6"); (k_here; k_dflt (refine' Mine.getM_sub ?F ?X ?l ?_; (case F => k_asm); (case X => k_asm); (case l => k_is)))))
local macro_rules | `(tactic| walk_at "call builtin:re.Pattern.sub") => `(tactic| ((first | k_extra "in S6"); (k_here; (try dsimp only [List.cons_append, List.nil_append]); k_dflt (first | (refine' Mine.sub_crlf_K ?F ?N ?X ?p ?h5 ?h6 ?h2 ?c ?e ?x ?_; (case F => k_asm); (case N => k_asm); (case X => k_asm); (case p => k_is); (case h5 => rfl); (case h6 => rfl); (case h2 => rfl); (case c => k_is); (case e => decide +kernel); (case x => first | assumption | omega | (simp; omega)); intro h' tk' t' F' N') | (refine' Mine.sub_dots_K ?F ?N ?X ?p ?h5 ?h6 ?h2 ?c ?e ?x ?_; (case F => k_asm); (case N => k_asm); (case X => k_asm); (case p => k_is); (case h5 => rfl); (case h6 => rfl); (case h2 => rfl); (case c => k_is); (case e => decide +kernel); (case x => first | assumption | omega | (simp; omega)); intro h' tk' t' F' N')))))
local macro_rules | `(tactic| walk_at "call ref") => `(tactic| ((first | k_extra "in S7"); (k_here; (with_reducible show wpAny _ _ (call (Value.ref 80) _) _ _ _); k_dflt (refine' Mine.use_V ?yC ?yB ?yF ?yX ?yT ?yK ?yd ?yu ?yp ?yN ?_; (case yB => k_asm); (case yF => k_asm); (case yX => k_asm); (case yT => k_asm); (case yK => first | exact rfl | assumption); (case yC => k_extra "parse_c"); (case yd => ktr_room); (case yu => ktr_units); (case yp => trivial); (case yN => k_asm); intro t' h' tk' F' N'; (try dsimp only); (try k_fold)))))
local macro_rules | `(tactic| walk_at "exec For") => `(tactic| ((first | k_extra "in S7" | k_extra "in S11" | k_extra "in S12" | k_extra "in S13" | k_extra "in S16"); (k_here; (rename Fr _ _ _ _ => lF'); (with_unfolding_all refine' For_invVF lF' ?k1 ?k2 ?_; (case k1 => exact rfl); (case k2 => exact rfl); k_whole))))
local macro_rules | `(tactic| walk_at "exec For Name Name cons nil") => `(tactic| walk_at "exec For")
local macro_rules | `(tactic| walk_at "exec For Name Call cons nil") => `(tactic| walk_at "exec For")
local macro_rules | `(tactic| walk_at "subscriptTail Name Slice ref ref") => `(tactic| ((first | k_extra "in S14"); (k_here; (with_reducible show wpAny _ _ (subscriptTail _ (PySem.Expr.Slice none (some _) none _) (Value.ref _) (Value.ref _)) _ _ _); k_dflt (refine' kmk_slice_ints ?F ?N ?l ?p ?q ?i ?m ?c ?_ ?s ?t ?z; (case F => k_asm); (case N => k_asm); (case l => kmk_list); (case p => kmk_part); (case q => kmk_part); (case i => l_ints); (case m => exact kmk_upto (by l_ints) (by kmk_sign)); (case c => kmk_len); (case s => with_unfolding_all rfl); (case t => kmk_pure); (case z => kmk_size)); intro D' ws' h' F' N' l1 hI' hC' hL'; (try simp only [Int.reduceNeg, Int.neg_neg, Int.reduceToNat] at hI' hC' hL'); (try k_lt l1); (try k_sweep))))
local macro_rules | `(tactic| walk_at "subscriptTail Name Slice ref ref") => `(tactic| ((first | k_extra "in S14"); (k_here; (with_reducible show wpAny _ _ (subscriptTail _ (PySem.Expr.Slice (some _) none none _) (Value.ref _) (Value.ref _)) _ _ _); k_dflt (refine' kmk_slice_ints ?F ?N ?l ?p ?q ?i ?m ?c ?_ ?s ?t ?z; (case F => k_asm); (case N => k_asm); (case l => kmk_list); (case p => kmk_part); (case q => kmk_part); (case i => l_ints); (case m => exact kmk_from (by l_ints) (by kmk_sign)); (case c => kmk_len); (case s => with_unfolding_all rfl); (case t => kmk_pure); (case z => kmk_size)); intro D' ws' h' F' N' l1 hI' hC' hL'; (try simp only [Int.reduceNeg, Int.neg_neg, Int.reduceToNat] at hI' hC' hL'); (try k_lt l1); (try k_sweep))))
local macro_rules | `(tactic| walk_at "subscriptTail List Slice ref ref") => `(tactic| ((first | k_extra "in S14"); (k_here; k_dflt (refine kba_turn (value' := PySem.Expr.Name (PySem.Str.ofString "_") ⟨0, 0, 0, 0⟩) (fun _ => rfl) ?_))))
local macro_rules | `(tactic| walk_at "subscriptTail Tuple cons BinOp ref int") => `(tactic| ((first | k_extra "in S11"); (k_here; k_dflt (refine' Mine.item_end ?yN ?ym ?_; (case yN => k_asm); (case ym => k_mem); intro t' hl'))))
local macro_rules | `(tactic| walk_at "call ref") => `(tactic| ((first | k_extra "in S11" | k_extra "in S13"); (k_here; (with_reducible show wpAny _ _ (call (Value.ref 114) _) _ _ _); k_dflt (refine' Mine.use_V ?yC ?yB ?yF ?yX ?yT ?yK ?yd ?yu ?yp ?yN ?_; (case yB => k_asm); (case yF => k_asm); (case yX => k_asm); (case yT => k_asm); (case yK => first | exact rfl | assumption); (case yC => k_extra "sign_c"); (case yd => ktr_room); (case yu => ktr_units); (case yp => trivial); (case yN => k_asm); intro t' h' tk' F' N'; (try dsimp only); (try k_fold)))))
local macro_rules | `(tactic| walk_at "call ref") => `(tactic| ((first | k_extra "in S11"); (k_here; (with_reducible show wpAny _ _ (call (Value.ref 48) _) _ _ _); k_dflt (refine' Mine.use_V ?yC ?yB ?yF ?yX ?yT ?yK ?yd ?yu ?yp ?yN ?_; (case yB => k_asm); (case yF => k_asm); (case yX => k_asm); (case yT => k_asm); (case yK => first | exact rfl | assumption); (case yC => k_extra "quote_c"); (case yd => ktr_room); (case yu => ktr_units); (case yp => trivial); (case yN => k_asm); intro t' h' tk' F' N'; (try dsimp only); (try k_fold)))))
local macro_rules | `(tactic| walk_at "call builtin:str.split") => `(tactic| ((first | k_extra "in S11"); (k_here; k_dflt (refine' Mine.split_K1 ?yF ?yN ?yz ?_; (case yF => k_asm); (case yN => k_asm); (case yz => assumption); intro D' vs' h' tk' hS' F' N' l1; (try k_lt l1); (try k_sweep)))))
local macro_rules | `(tactic| walk_at "subscriptTail Name Slice ref ref") => `(tactic| ((first | k_extra "in S11"); (k_here; (with_reducible show wpAny _ _ (subscriptTail _ (PySem.Expr.Slice none (some (PySem.Expr.UnaryOp _ _ _)) none _) (Value.ref _) (Value.ref _)) _ _ _); k_dflt (refine' Mine.last_K ?yF ?yN ?ym ?yS ?yz ?yp ?_; (case yF => k_asm); (case yN => k_asm); (case ym => k_mem); (case yS => assumption); (case yz => (rw [List.length_map, List.length_range]; assumption)); (case yp => kmk_part); intro D' zs' h' hS' hL' F' N' l1; (try k_lt l1); (try k_sweep)))))
local macro_rules | `(tactic| walk_at "eval ListComp") => `(tactic| ((first | k_extra "in S11" | k_extra "in S13"); (k_here; lcg_calm; k_dflt (refine PyProof.Rows.LCg.ListComp_U (F₀ := by k_asm) (by with_unfolding_all rfl) (by decide) (by rfl) (by decide) (by rfl) ?_))))
local macro_rules | `(tactic| walk_at "call ref") => `(tactic| ((first | k_extra "in S13"); (k_here; (with_reducible show wpAny _ _ (call (Value.ref 126) _) _ _ _); k_dflt (refine' Mine.use_V ?yC ?yB ?yF ?yX ?yT ?yK ?yd ?yu ?yp ?yN ?_; (case yB => k_asm); (case yF => k_asm); (case yX => k_asm); (case yT => k_asm); (case yK => first | exact rfl | assumption); (case yC => k_extra "read_k"); (case yd => ktr_room); (case yu => ktr_units); (case yp => trivial); (case yN => k_asm); intro t' h' tk' F' N'; (try dsimp only); (try k_fold)))))
local macro_rules | `(tactic| walk_at "call ref") => `(tactic| ((first | k_extra "in S13"); (k_here; (with_reducible show wpAny _ _ (call (Value.ref 131) _) _ _ _); k_dflt (refine' Mine.use_V ?yC ?yB ?yF ?yX ?yT ?yK ?yd ?yu ?yp ?yN ?_; (case yB => k_asm); (case yF => k_asm); (case yX => k_asm); (case yT => k_asm); (case yK => first | exact rfl | assumption); (case yC => k_extra "cut_k"); (case yd => ktr_room); (case yu => ktr_units); (case yp => trivial); (case yN => k_asm); intro t' h' tk' F' N'; (try dsimp only); (try k_fold)))))
local macro_rules | `(tactic| walk_at "call type:list") => `(tactic| ((first | k_extra "in S15"); (k_here; k_dflt (refine' Mine.list_text_K ?yh ?yF ?yN ?yn ?_; (case yh => rfl); (case yF => k_asm); (case yN => k_asm); (case yn => assumption); intro D' us' c' h' tk' hS' F' N' l1; (try k_lt l1)))))
local macro_rules | `(tactic| walk_at "call builtin:len") => `(tactic| ((first | k_extra "in S15"); (k_here; k_dflt (refine' Mine.len_txt_K ?yN ?ym ?yS ?yz ?_; (case yN => k_asm); (case ym => k_mem); (case yS => with_reducible assumption); (case yz => assumption)))))
local macro_rules | `(tactic| walk_at "eval ListComp") => `(tactic| ((first | k_extra "in S16"); (k_here; lcg_calm; k_dflt (refine PyProof.Rows.LCt.ListComp_T (F₀ := by k_asm) (by with_unfolding_all rfl) (by decide) (by rfl) (by decide) (by rfl) ?_))))
local macro_rules | `(tactic| walk_at "exec Assign cons ListComp") => `(tactic| ((first | k_extra "in S16"); (k_here; lcg_calm; k_dflt (refine PyProof.Rows.LCt.Assign_ListComp_T (F₀ := by k_asm) (by rfl) (by with_unfolding_all rfl) (by with_unfolding_all rfl) (by decide) (by rfl) (by decide) (by rfl) (by rfl) (by rfl) ?_))))
local macro_rules | `(tactic| walk_at "getItem ref str") => `(tactic| ((first | k_extra "in S16"); (k_here; k_dflt (refine' Mine.getItem_str_K ?k1 ?k2 ?_; (case k1 => k_tabat); (case k2 => rfl)); intro u')))
local macro_rules | `(tactic| lcg_src) => `(tactic| ((k_extra "in S5"); exact ⟨_, by k_mem, rfl, _, rfl⟩))
theorem law_w : PySem.Challenge.rw_tp0010_03.Holds := by
  w_on
  o_law
  k_head
  (case hw => w_witness2)
  have parse_c : ∀ {w : World} {loose : List PySem.Str} {mean : ExcName → Option Value} {mg mb : PySem.Str → Option Value} (x : PySem.Str) (tk : Tok) (hx : Head257 x), ConV (PySem.Challenge.rw_tp0010_03.row.prog) w (Mine.law_w.heap_1_39 w.params) Mine.law_w.view_1_40 loose mean mg mb 2 80 [.str x tk] (fun _ => True) (fun t => .str (T (dirL (x.cps.toList.drop 5))) t) := by
    as_aux_lemma =>
      intro w loose mean mg mb x tk hx
      k_with "in C1" => skip
      w_on
      k_fill
      unfold ConV Con; intros; rename_i hret
      have hS1 := head_1 hx
      have hS2 := head_2 hx
      refine wpAny_call ?_
      walk_at "mine enter"
      k_with "state" => first | exact pinv_start hx | exact pinv_c (by assumption) (by assumption) (by assumption) | exact pinv_q (by assumption) (by assumption) (by assumption) (by assumption)
      k_with "exec While Compare cons nil" => k_while (fun (_ : List Int) (i : Int) (d : PySem.Str) => PAll x i d) (fun (_ : List Int) (i : Int) (d : PySem.Str) => (x.length - i).toNat) "i" "dirname"
      k_steps
      k_with_none
      all_goals (refine ret_S hret (by assumption) ?_ (by assumption); first | exact pend_0 (by assumption) (by assumption) | exact pend_1 (by assumption) (by assumption) (by assumption) (by assumption) | exact pend_2 (by assumption) (by assumption) (by assumption) (by assumption))
      k_with_none
  have sign_c : ∀ {w : World} {loose : List PySem.Str} {mean : ExcName → Option Value} {mg mb : PySem.Str → Option Value} (n : Int) (tk : Tok), ConV (PySem.Challenge.rw_tp0010_03.row.prog) w (Mine.law_w.heap_1_39 w.params) Mine.law_w.view_1_40 loose mean mg mb 2 114 [.int n tk] (fun _ => True) (fun t => .str (T [signN n]) t) := by
    as_aux_lemma =>
      intro w loose mean mg mb n tk
      k_with "in C1" => skip
      k_with "parse_c" => exact parse_c _ _ (by exact Mine.head_told (by omega))
      w_on
      k_fill
      unfold ConV Con; intros; rename_i hret
      refine wpAny_call ?_
      walk_at "mine enter"
      k_steps
      all_goals (refine ret_S hret (by assumption) ?_ (by assumption); first | exact sign_out (by assumption) | exact sign_in (by assumption))
      k_with_none
  have cut_c : ∀ {w : World} {loose : List PySem.Str} {mean : ExcName → Option Value} {mg mb : PySem.Str → Option Value} (n : Nat) (tk : Tok) (hn : n < 1000), ConV (PySem.Challenge.rw_tp0010_03.row.prog) w (Mine.law_w.heap_1_39 w.params) Mine.law_w.view_1_40 loose mean mg mb 2 131 [.int (n : Int) tk] (fun _ => True) (fun t => .int ((n / 3 : Nat) : Int) t) := by
    as_aux_lemma =>
      intro w loose mean mg mb n tk hn
      k_with "in S5" => skip
      k_with "parse_c" => exact parse_c _ _ (by exact Mine.head_told (by omega))
      k_with "sign_c" => exact sign_c _ _
      w_on
      k_fill
      unfold ConV Con; intros; rename_i hret
      refine wpAny_call ?_
      walk_at "mine enterC"
      repeat' ((fail_if_success (with_reducible show wpAny _ _ (exec (PySem.Stmt.While _ _ _ _) _) _ _ _)); first | (k_unfold; (try dsimp only)) | (k_end; wrow_close) | walk1 | (dsimp only; walk1) | (leave1; try dsimp only))
      (rename Fr _ _ _ _ => lF'); (rename News _ _ _ _ => lN'); (rename _ = Data.cell (some (Value.str (Txt.mul _ _) _)) => lD')
      rw [dots_mul] at lD'
      refine cut_while lF' lN' lD' rfl ?_
      clear lF' lN' lD'
      intro k t o f tf u h tk hd hf hk F' N'
      have hlen : (T (List.replicate k 46)).length ≤ 1000 := by rw [T_len, List.length_replicate]; omega
      rcases k with _ | _ | _ | k
      rotate_left 3
      have hne := ne_dots (k + 1 + 1)
      rotate_right 3
      repeat' ((fail_if_success (with_reducible show Mine.CutPost _ _ _ _ _ _ _ _ _ _ _)); first | (k_unfold; (try dsimp only)) | (k_end; wrow_close) | walk1 | (dsimp only; walk1) | (leave1; try dsimp only))
      · refine ret_I hret (by assumption) ?_ (by assumption); omega
      · (refine' cut_end ?aF ?aN ?ahm ?ahr ?ahd sl_f1 ?ahf ?ahl ?ah1 ?ah2; (case aF => assumption); (case aN => assumption); (case ahm => k_mem); (case ahr => exact List.forall_mem_nil _); (case ahd => assumption); (case ah1 => rfl); (case ahf => omega); (case ahl => omega); (case ah2 => intro z h1 h2; simp only [if_neg h1, if_neg h2]))
      · (refine' cut_end ?bF ?bN ?bhm ?bhr ?bhd sl_f2 ?bhf ?bhl ?bh1 ?bh2; (case bF => assumption); (case bN => assumption); (case bhm => k_mem); (case bhr => exact List.forall_mem_nil _); (case bhd => assumption); (case bh1 => rfl); (case bhf => omega); (case bhl => omega); (case bh2 => intro z h1 h2; simp only [if_neg h1, if_neg h2]))
      · (refine' cut_end ?cF ?cN ?chm ?chr ?chd (sl_f3 _) ?chf ?chl ?ch1 ?ch2; (case cF => assumption); (case cN => assumption); (case chm => k_mem); (case chr => exact List.forall_mem_nil _); (case chd => assumption); (case ch1 => rfl); (case chf => omega); (case chl => omega); (case ch2 => intro z h1 h2; simp only [if_neg h1, if_neg h2]))
      k_with_none
  have quote_c : ∀ {w : World} {loose : List PySem.Str} {mean : ExcName → Option Value} {mg mb : PySem.Str → Option Value} (l : List Nat) (tk : Tok) (hl : l.length ≤ 400000), ConV (PySem.Challenge.rw_tp0010_03.row.prog) w (Mine.law_w.heap_1_39 w.params) Mine.law_w.view_1_40 loose mean mg mb 2 48 [.str (T l) tk] (fun _ => True) (fun t => .str (T (quote l)) t) := by
    as_aux_lemma =>
      intro w loose mean mg mb l tk hl
      k_with "in S6" => skip
      k_with "parse_c" => exact parse_c _ _ (by exact Mine.head_told (by omega))
      k_with "sign_c" => exact sign_c _ _
      w_on
      k_fill
      unfold ConV Con; intros; rename_i hret
      have hl1 : l.length ≤ 1000000 := by omega
      have hl2 : (crlf l).length ≤ 1000000 := by have := crlf_len l; omega
      refine wpAny_call ?_
      walk_at "mine enter"
      k_steps
      all_goals (refine ret_S hret (by assumption) ?_ (by assumption); rfl)
      k_with_none
  have read_c : ∀ {w : World} {loose : List PySem.Str} {mean : ExcName → Option Value} {mg mb : PySem.Str → Option Value} (n c : Nat) (tk tk2 : Tok) (hn : n ≤ 1000) (hc : c ≠ 34), ConV (PySem.Challenge.rw_tp0010_03.row.prog) w (Mine.law_w.heap_1_39 w.params) Mine.law_w.view_1_40 loose mean mg mb 4 126 [.int (n : Int) tk, .str (T [c]) tk2] (fun _ => True) (fun t => .int ((n / 2 : Nat) : Int) t) := by
    as_aux_lemma =>
      intro w loose mean mg mb n c tk tk2 hn hc
      k_with "in S7" => skip
      k_with "parse_c" => exact parse_c _ _ (by exact Mine.head_told (by omega))
      k_with "sign_c" => exact sign_c _ _
      k_with "quote_c" => exact quote_c _ _ (by assumption)
      w_on
      k_fill
      unfold ConV Con; intros; rename_i hret
      have hl1 : (T [c]).length = 1 := rfl
      refine wpAny_call ?_
      walk_at "mine enter"
      k_steps
      all_goals exact ret_I hret (by assumption) (count_read hc) (by assumption)
      k_with_none
  have numbers_c : ∀ {w : World} {loose : List PySem.Str} {mean : ExcName → Option Value} {mg mb : PySem.Str → Option Value} (l : Addr) (vs : List Value) (ns : List Int) (hi : IntsAre vs ns) (hn : ns.length ≤ 63), Con (PySem.Challenge.rw_tp0010_03.row.prog) w (Mine.law_w.heap_1_39 w.params) Mine.law_w.view_1_40 loose mean mg mb 4 88 [.ref l] (fun h => h.IsList l vs.toArray) (ListR fun xs => IntsAre xs (numsOf3 ns)) := by
    as_aux_lemma =>
      intro w loose mean mg mb l vs ns hi hn
      k_with "in S14" => skip
      k_with "parse_c" => exact parse_c _ _ (by exact Mine.head_told (by omega))
      k_with "sign_c" => exact sign_c _ _
      k_with "quote_c" => exact quote_c _ _ (by assumption)
      w_on
      k_fill
      unfold Con; intros; rename_i hret
      refine wpAny_call ?_
      walk_at "mine enter"
      k_steps
      rename IntsAre _ (_ ++ _) => hz
      rw [nums_eq3] at hz
      exact ret_L hret (by assumption) (by assumption) (by k_mem) (by exact hz) (by assumption)
      k_with_none
  have sent_c : ∀ {w : World} {loose : List PySem.Str} {mean : ExcName → Option Value} {mg mb : PySem.Str → Option Value} (cs : List Nat) (ns : List Int) (lc ln : Addr) (vc vn : List Value) (hc : cs.length ≤ 12) (hcs : ∀ c ∈ cs, c ≤ 90) (hn : ns.length = 9) (hns : ∀ n ∈ ns, 0 ≤ n ∧ n < 1000000)
  (hic : IntsAre vc (cs.map fun (c : Nat) => (c : Int))) (hin : IntsAre vn ns), Con (PySem.Challenge.rw_tp0010_03.row.prog) w (Mine.law_w.heap_1_39 w.params) Mine.law_w.view_1_40 loose mean mg mb 6 119 [.ref lc, .ref ln] (fun h => h.IsList lc vc.toArray ∧ h.IsList ln vn.toArray) (ListR fun xs => IntsAre xs ((up cs).map fun (c : Nat) => (c : Int))) := by
    as_aux_lemma =>
      intro w loose mean mg mb cs ns lc ln vc vn hc hcs hn hns hic hin
      k_with "in S11" => skip
      k_with "parse_c" => exact parse_c _ _ (by exact Mine.head_told (by omega))
      k_with "sign_c" => exact sign_c _ _
      k_with "quote_c" => exact quote_c _ _ (by assumption)
      w_on
      k_fill
      unfold Con; intros; rename_i hpre hret
      obtain ⟨hlc, hln⟩ := hpre
      have hk9 : cs.length ≤ 1000 := Nat.le_trans hc (by decide)
      refine wpAny_call ?_
      walk_at "mine enter"
      k_with "state" => first | exact page_start | exact page3_turn (by assumption) (by assumption) (by assumption) (by assumption)
      repeat' ((fail_if_success (with_reducible show wpAny _ _ (pyIter _) _ _ _)); first | (k_unfold; (try dsimp only)) | (k_end; wrow_close) | walk1 | (dsimp only; walk1) | (leave1; try dsimp only))
      k_state (fun (pre : List Int) (page : PySem.Str) => page = T (pageL (up cs) ns pre.length) ∧ page.length ≤ 120 * pre.length) "page"
      · have hb := cnt_bd hcs kN.toNat
        have hk0 := (kn_lt kEq kLt).1; have hk1 := (kn_lt kEq kLt).2
        k_steps
      repeat' ((fail_if_success (with_reducible show wpAny _ _ (call (Value.ref _) _) _ _ _)); first | (k_unfold; (try dsimp only)) | (k_end; wrow_close) | walk1 | (dsimp only; walk1) | (leave1; try dsimp only))
      rename _ = T (pageL _ _ _) => hq
      have hq2 := page3_done hq
      clear hq
      subst hq2
      have hpl := page3_len (ns := ns) hcs hc
      have hz1 := pageQ_size (ns := ns) (x := 1) (by decide) (up_bd hcs) (by rw [up_len]; exact hc)
      rw [up_len] at hz1
      repeat' ((fail_if_success (with_reducible show PyProof.Rows.LCg.CompSrc _ _ _ _ _ _ _ _ _ _ _ _ _ _)); first | (k_unfold; (try dsimp only)) | (k_end; wrow_close) | walk1 | (dsimp only; walk1) | (leave1; try dsimp only))
      rename StrsAre _ (List.map _ _) => hS
      refine src_made (J := fun i ys => IntsAre ys (sentI cs i)) rfl (by k_asm) (by k_asm) (by k_mem) (by have := strsAre_len hS; rw [List.length_map, List.length_range] at this; omega) .nil ?_ ?_
      · intro i ys v I oI C oC D m₂ h tk E' hi hJ hv hC hx F N off ne
        (try simp only [LCg.Off3, and_true] at off)
        have hi2 : i < cs.length := by have := strsAre_len hS; rw [List.length_map, List.length_range] at this; omega
        obtain ⟨t, rfl⟩ := row_at hS hi2 hv
        have hrl := row3_le (ns := ns) hcs hi2
        k_steps
        exact ElEnd.intro (by assumption) (by assumption) (fun p hp => hp) (sent_step hi2 hJ)
      · intro g ys hJ
        have hJ2 : IntsAre ys ((up cs).map fun (c : Nat) => (c : Int)) := by
          have := strsAre_len hS; rw [List.length_map, List.length_range] at this
          rw [← sent_eq]; rwa [this] at hJ
        k_steps
        exact ret_L hret (by assumption) (by assumption) (List.mem_cons_self ..) hJ2 (by assumption)
      k_with_none
  have due_c : ∀ {w : World} {loose : List PySem.Str} {mean : ExcName → Option Value} {mg mb : PySem.Str → Option Value} (r : List Nat) (tk : Tok), ConV (PySem.Challenge.rw_tp0010_03.row.prog) w (Mine.law_w.heap_1_39 w.params) Mine.law_w.view_1_40 loose mean mg mb 2 107 [.str (T r) tk] (fun _ => True) (fun t => .int (((dueF (r.map fun (c : Nat) => (c : Int))).2 : Nat) : Int) t) := by
    as_aux_lemma =>
      intro w loose mean mg mb r tk
      k_with "in S12" => skip
      k_with "parse_c" => exact parse_c _ _ (by exact Mine.head_told (by omega))
      k_with "sign_c" => exact sign_c _ _
      k_with "quote_c" => exact quote_c _ _ (by assumption)
      w_on
      k_fill
      unfold ConV Con; intros; rename_i hret
      refine wpAny_call ?_
      walk_at "mine enter"
      k_with "state" => first | exact due_start | exact due_s (by assumption) (by assumption) (by assumption) | exact due_h (by assumption) (by assumption) (by assumption) (by assumption) | exact due_t (by assumption) (by assumption) (by assumption) (by assumption)
      k_with "pyIter str" => k_state (fun (pre : List Int) (w d : Int) => w = (((dueF pre).1 : Nat) : Int) ∧ d = (((dueF pre).2 : Nat) : Int)) "weight" "due"
      k_steps
      k_with_none
      all_goals (refine ret_I hret (by assumption) ?_ (by assumption))
      all_goals (rename _ = (((dueF _).2 : Nat) : Int) => hz; exact hz)
      k_with_none
  have read_k : ∀ {w : World} {loose : List PySem.Str} {mean : ExcName → Option Value} {mg mb : PySem.Str → Option Value} (k : Int) (n c : Nat) (tk tk2 : Tok) (hk : k = ((n : Nat) : Int)) (hn : n ≤ 80) (hc : c ≠ 34), ConV (PySem.Challenge.rw_tp0010_03.row.prog) w (Mine.law_w.heap_1_39 w.params) Mine.law_w.view_1_40 loose mean mg mb 4 126 [.int k tk, .str (T [c]) tk2] (fun _ => True) (fun t => .int ((n / 2 : Nat) : Int) t) := by
    as_aux_lemma =>
      intro w loose mean mg mb k n c tk tk2 hk hn hc
      k_with "in S13" => skip
      k_with "parse_c" => exact parse_c _ _ (by exact Mine.head_told (by omega))
      k_with "sign_c" => exact sign_c _ _
      k_with "quote_c" => exact quote_c _ _ (by assumption)
      subst hk; exact read_c n c tk tk2 (Nat.le_trans hn (by decide)) hc
      k_with_none
  have cut_k : ∀ {w : World} {loose : List PySem.Str} {mean : ExcName → Option Value} {mg mb : PySem.Str → Option Value} (k : Int) (n : Nat) (tk : Tok) (hk : k = ((n : Nat) : Int)) (hn : n ≤ 80), ConV (PySem.Challenge.rw_tp0010_03.row.prog) w (Mine.law_w.heap_1_39 w.params) Mine.law_w.view_1_40 loose mean mg mb 2 131 [.int k tk] (fun _ => True) (fun t => .int ((n / 3 : Nat) : Int) t) := by
    as_aux_lemma =>
      intro w loose mean mg mb k n tk hk hn
      k_with "in S13" => skip
      k_with "parse_c" => exact parse_c _ _ (by exact Mine.head_told (by omega))
      k_with "sign_c" => exact sign_c _ _
      k_with "quote_c" => exact quote_c _ _ (by assumption)
      k_with "read_k" => exact read_k _ _ _ _ _ (by exact Mine.getD_cast _ _) (by exact Mine.get_le (by assumption) _) (by exact Mine.sign34 _)
      subst hk; exact cut_c n tk (Nat.lt_of_le_of_lt hn (by decide))
      k_with_none
  have done_c : ∀ {w : World} {loose : List PySem.Str} {mean : ExcName → Option Value} {mg mb : PySem.Str → Option Value} (r : List Nat) (n : Nat) (ns : List Int) (ln : Addr) (vn : List Value) (tk tk2 : Tok) (hr : r.length ≤ 60) (hn12 : n ≤ 12) (hn : ns.length = 9) (hns : ∀ n ∈ ns, 0 ≤ n ∧ n < 1000000) (hin : IntsAre vn ns), Con (PySem.Challenge.rw_tp0010_03.row.prog) w (Mine.law_w.heap_1_39 w.params) Mine.law_w.view_1_40 loose mean mg mb 9 136 [.str (T r) tk, .int ((n : Nat) : Int) tk2, .ref ln] (fun h => h.IsList ln vn.toArray) (ListR fun xs => IntsAre xs ((doneF (List.range n) r).map fun (c : Nat) => (c : Int))) := by
    as_aux_lemma =>
      intro w loose mean mg mb r n ns ln vn tk tk2 hr hn12 hn hns hin
      k_with "in S13" => skip
      k_with "parse_c" => exact parse_c _ _ (by exact Mine.head_told (by omega))
      k_with "sign_c" => exact sign_c _ _
      k_with "quote_c" => exact quote_c _ _ (by assumption)
      k_with "read_k" => exact read_k _ _ _ _ _ (by exact Mine.getD_cast _ _) (by exact Mine.get_le (by assumption) _) (by exact Mine.sign34 _)
      k_with "cut_k" => exact cut_k _ _ _ (by rfl) (by exact Mine.get_le (by assumption) _)
      w_on
      k_fill
      unfold Con; intros; rename_i hln hret
      refine wpAny_call ?_
      walk_at "mine enterC"
      repeat' ((fail_if_success (with_reducible show wpAny _ _ (pyIter (Value.str _ _)) _ _ _)); first | (k_unfold; (try dsimp only)) | (k_end; wrow_close) | walk1 | (dsimp only; walk1) | (leave1; try dsimp only))
      rename IntsAre _ (rangeKs _ _) => hI0
      rename _ = Data.cell (some (Value.ref _)) => hd0
      rw [show ((n : Int) - 0).toNat = n by omega, range_ints] at hI0
      refine text_C (DJ _ _ _ n r) rfl (by k_asm) (by k_asm) _ (fun p hp => hp) ⟨_, _, _, _, rfl, hI0, hd0, by omega, by omega⟩ ?_ ?_
      · intro i c t nx I oI h tk hc hJ ho F N
        obtain ⟨a, vs, k, oc, rfl, hI, hd, n1, n2⟩ := hJ
        simp only [List.forall_mem_cons, List.forall_mem_nil, and_true] at ho
        have hbd := done_ok (i := i) (r := r) hn12 hr
        have hst := done_step (n := n) hc
        generalize doneF (List.range n) (r.take i) = cs at hI hbd hst
        obtain ⟨hcl, hcb⟩ := hbd
        repeat' ((fail_if_success (with_reducible show wpAny _ _ (call (Value.ref _) _) _ _ _)); (fail_if_success (with_reducible show PyProof.Rows.LCg.CompSrc _ _ _ _ _ _ _ _ _ _ _ _ _ _)); (fail_if_success (with_reducible show Mine.TurnC _ _ _ _ _ _ _ _ _ _ _)); first | (k_unfold; (try dsimp only)) | (k_end; wrow_close) | walk1 | (dsimp only; walk1) | (leave1; try dsimp only))
        · refine use_sent sent_c (by k_asm) (by k_asm) (by k_asm) (by k_asm) (by first | exact rfl | assumption) (by ktr_room) (by ktr_units) (by k_asm) (by k_mem) hln hI (by assumption) (by omega) hcb hn hns fun a2 xs2 c2 h2 tk2 hI2 F2 N2 o2 => ?_
          simp only [List.forall_mem_cons, List.forall_mem_nil, and_true] at o2
          dsimp only
          k_steps
          rename _ = Data.cell (some (Value.ref _)) => hd2
          exact DJ_end (by assumption) (by assumption) (by k_mem) (by k_mem) (by k_mem) (by k_mem) hI2 (hst.trans (st_s (by assumption))) hd2 (by omega) (by omega) (by omega) (by omega) (by omega)
        · refine src_range (n := cs.length) (J := fun i ys => IntsAre ys (halfI 2 cs i)) rfl (by k_asm) (by k_asm) (by assumption) (by simp) (by omega) .nil ?_ ?_
          · intro j ys t I oI C oC D m₂ h tk E' hi hJ hC hx F N off ne
            (try simp only [LCg.Off3, and_true] at off)
            k_steps
            exact ElEnd.intro (by assumption) (by assumption) (fun p hp => hp) (half_step hJ)
          · intro g ys hJ
            rw [half_eq] at hJ
            k_steps
            rename _ = Data.cell (some (Value.ref _)) => hd2
            exact DJ_end (by assumption) (by assumption) (by k_mem) (by k_mem) (by k_mem) (by k_mem) hJ (hst.trans (st_h (by assumption) (by assumption))) hd2 (by omega) (by omega) (by omega) (by omega) (by omega)
        · refine src_made (J := fun i ys => IntsAre ys (halfI 3 cs i)) rfl (by k_asm) (by k_asm) (by k_mem) (by have := IntsAre.length hI; rw [List.length_map] at this; omega) .nil ?_ ?_
          · intro j ys v I oI C oC D m₂ h tk E' hi hJ hv hC hx F N off ne
            (try simp only [LCg.Off3, and_true] at off)
            obtain ⟨t, rfl⟩ := int_at hI hv
            k_steps
            exact ElEnd.intro (by assumption) (by assumption) (fun p hp => hp) (half_step hJ)
          · intro g ys hJ
            rw [show vs.length = cs.length by have := IntsAre.length hI; rwa [List.length_map] at this, half_eq] at hJ
            k_steps
            rename _ = Data.cell (some (Value.ref _)) => hd2
            exact DJ_end (by assumption) (by assumption) (by k_mem) (by k_mem) (by k_mem) (by k_mem) hJ (hst.trans (st_t (by assumption) (by assumption))) hd2 (by omega) (by omega) (by omega) (by omega) (by omega)
      · intro u nx h tk hJ F N
        obtain ⟨a, vs, k, oc, rfl, hI, hd, n1, n2⟩ := hJ
        rw [T_len, List.take_length] at hI
        k_steps
        exact ret_L hret (by assumption) (by assumption) (by k_mem) hI (by assumption)
      k_with_none
  have run_c : ∀ {w : World} {loose : List PySem.Str} {mean : ExcName → Option Value} {mg mb : PySem.Str → Option Value} (W : List Nat) (q : Int) (tk tk2 : Tok) (hW : W.length ≤ 1000), Con (PySem.Challenge.rw_tp0010_03.row.prog) w (Mine.law_w.heap_1_39 w.params) Mine.law_w.view_1_40 loose mean mg mb 4 95 [.str (T W) tk, .int q tk2] (fun _ => True) (fun v more => more = [] ∧ ∃ r t, r ∈ pa W ∧ v = .str (T r) t) := by
    as_aux_lemma =>
      intro w loose mean mg mb W q tk tk2 hW
      k_with "in S15" => skip
      k_with "parse_c" => exact parse_c _ _ (by exact Mine.head_told (by omega))
      k_with "sign_c" => exact sign_c _ _
      k_with "quote_c" => exact quote_c _ _ (by assumption)
      k_with "read_k" => exact read_k _ _ _ _ _ (by exact Mine.getD_cast _ _) (by exact Mine.get_le (by assumption) _) (by exact Mine.sign34 _)
      k_with "cut_k" => exact cut_k _ _ _ (by rfl) (by exact Mine.get_le (by assumption) _)
      w_on
      k_fill
      unfold Con; intros; rename_i hret
      refine wpAny_call ?_
      walk_at "mine enter"
      repeat' ((fail_if_success (with_reducible show wpAny _ _ (exec (PySem.Stmt.While _ _ _ _) _) _ _ _)); first | (k_unfold; (try dsimp only)) | (k_end; wrow_close) | walk1 | (dsimp only; walk1) | (leave1; try dsimp only))
      rename _ + 30 * 4 < cLine => hun
      have hun2 := Nat.lt_of_le_of_lt (Nat.add_le_add_left (show 67 ≤ 30 * 4 by decide) _) hun
      rename StrsAre _ _ => hS0
      refine run_while (by k_asm) (by k_asm) hS0 nilS rfl rfl ?_
      intro us c l r t q tq u h tk hS hrl hi F N
      have hl1 : l.length ≤ 1000 := by omega
      have hr1 : (T r).length ≤ 1000 := by rw [T_len]; omega
      rcases l with _ | ⟨c0, l0⟩
      · cases hS
        have hr := pa_done hi
        repeat' ((fail_if_success (with_reducible show wpAny _ _ (compareOp _ _ _) _ _ _)); first | (k_unfold; (try dsimp only)) | (k_end; wrow_close) | walk1 | (dsimp only; walk1) | (leave1; try dsimp only))
        refine ne_nil_K (us := []) (by is_list) (by is_list) hun2 ?_
        dsimp only [List.isEmpty, Bool.not_true]
        k_steps
        exact hret _ [] _ _ ⟨rfl, r, _, hr, rfl⟩ (fun _ hp => nomatch hp) (Fr.keep (by assumption)) (by assumption)
      · have hS2 := hS
        cases hS2
        generalize hl : c0 :: l0 = l at *
        have hlp : 1 ≤ l.length := by rw [← hl]; simp
        repeat' ((fail_if_success (with_reducible show wpAny _ _ (compareOp _ _ _) _ _ _)); first | (k_unfold; (try dsimp only)) | (k_end; wrow_close) | walk1 | (dsimp only; walk1) | (leave1; try dsimp only))
        refine ne_nil_K (by is_list) (by is_list) hun2 ?_
        dsimp only [List.isEmpty, Bool.not_false]
        repeat' ((fail_if_success (with_reducible show wpAny _ _ (binaryOp PySem.Operator.Mod _ _) _ _ _)); first | (k_unfold; (try dsimp only)) | (k_end; wrow_close) | walk1 | (dsimp only; walk1) | (leave1; try dsimp only))
        refine mod_K3 hlp fun x hx => ?_
        repeat' ((fail_if_success (with_reducible show wpAny _ _ (call (Value.builtin "list.pop") _) _ _ _)); first | (k_unfold; (try dsimp only)) | (k_end; wrow_close) | walk1 | (dsimp only; walk1) | (leave1; try dsimp only))
        refine pop_K (us := _ :: _) (l := l) (by k_asm) (by k_asm) hS hx hl1 (by k_upd) fun t2 h2 hS3 F3 N3 => ?_
        repeat' ((fail_if_success (with_reducible show Mine.RunPost _ _ _ _ _ _ _ _ _ _)); first | (k_unfold; (try dsimp only)) | (k_end; wrow_close) | walk1 | (dsimp only; walk1) | (leave1; try dsimp only))
        exact run_end (by assumption) (by assumption) (by k_mem) hS3 (by rw [List.length_eraseIdx, if_pos hx]; omega) (by rw [List.length_eraseIdx, if_pos hx, List.length_append, List.length_singleton]; omega) (pa_step hx hi) (T_app _ _) rfl rfl (by intro z h1 h2 h3; simp only [if_neg h1, if_neg h2, if_neg h3])
      k_with_none
  have led_c : ∀ {w : World} {loose : List PySem.Str} {mean : ExcName → Option Value} {mg mb : PySem.Str → Option Value} (r : List Nat) (q : Int) (tk tk2 : Tok) (hr2 : 2 ≤ r.length) (hr : r.length ≤ 20), Con (PySem.Challenge.rw_tp0010_03.row.prog) w (Mine.law_w.heap_1_39 w.params) Mine.law_w.view_1_40 loose mean mg mb 4 100 [.str (T r) tk, .int q tk2] (fun _ => True) (fun v more => more = [] ∧ ∃ a t, a ∈ ledN 3 r ∧ v = .str (T a) t) := by
    as_aux_lemma =>
      intro w loose mean mg mb r q tk tk2 hr2 hr
      k_with "in S16" => skip
      k_with "parse_c" => exact parse_c _ _ (by exact Mine.head_told (by omega))
      k_with "sign_c" => exact sign_c _ _
      k_with "quote_c" => exact quote_c _ _ (by assumption)
      k_with "read_k" => exact read_k _ _ _ _ _ (by exact Mine.getD_cast _ _) (by exact Mine.get_le (by assumption) _) (by exact Mine.sign34 _)
      k_with "cut_k" => exact cut_k _ _ _ (by rfl) (by exact Mine.get_le (by assumption) _)
      w_on
      k_fill
      unfold Con; intros; rename_i hret
      refine wpAny_call ?_
      walk_at "mine enterC"
      repeat' ((fail_if_success (with_reducible show wpAny _ _ (pyIter _) _ _ _)); first | (k_unfold; (try dsimp only)) | (k_end; wrow_close) | walk1 | (dsimp only; walk1) | (leave1; try dsimp only))
      rename _ + 30 * 4 < cLine => hun
      have hun2 := Nat.lt_of_le_of_lt (Nat.add_le_add_left (show 67 ≤ 30 * 4 by decide) _) hun
      refine led_loop (r := r) rfl (by k_asm) (by k_asm) (by assumption) rfl (by assumption) rfl hr2 hr ?_ ?_
      · intro i a q tq t u1 u2 I oI oc ta h tk hi ha hl2 hl hd hCI F N
        have hlT : (T a).length ≤ 1000 := by rw [T_len]; omega
        repeat' ((fail_if_success (with_reducible show PyProof.Rows.LCt.CompSrcT _ _ _ _ _ _ _ _ _ _ _ _ _ _ _)); first | (k_unfold; (try dsimp only)) | (k_end; wrow_close) | walk1 | (dsimp only; walk1) | (leave1; try dsimp only))
        refine src_rangeT (n := a.length - 1) (J := fun i ys => IntsAre ys (plI a i)) rfl (by k_asm) (by k_asm) (by assumption) (by rw [T_len]; omega) (by omega) .nil ?_ ?_
        · intro j ys t I oI C oC D m₂ h tk E' hj hJ hC hx F N off ne
          (try simp only [LCg.Off3, and_true] at off)
          repeat' ((fail_if_success (with_reducible show wpAny _ _ (compareOp PySem.CmpOp.In _ _) _ _ _)); first | (k_unfold; (try dsimp only)) | (k_end; wrow_close) | walk1 | (dsimp only; walk1) | (leave1; try dsimp only))
          refine Or.elim (Bool.eq_false_or_eq_true (isP a j)) (fun hp => ?_) (fun hp => ?_)
          rotate_left
          · refine' in_pair_b hp ?pnN ?pnm ?_
            (case pnN => k_asm)
            (case pnm => k_mem)
            k_steps
            exact NoEnd.intro (by assumption) (by assumption) (by k_allIn) (pl_no hJ hp)
          · refine' in_pair_b hp ?pyN ?pym ?_
            (case pyN => k_asm)
            (case pym => k_mem)
            k_steps
            exact ElEnd.intro (by assumption) (by assumption) (by k_allIn) (pl_yes hJ hp)
        · intro g ys hJ
          repeat' ((fail_if_success (with_reducible show wpAny _ _ (compareOp _ _ _) _ _ _)); first | (k_unfold; (try dsimp only)) | (k_end; wrow_close) | walk1 | (dsimp only; walk1) | (leave1; try dsimp only))
          by_cases hpl : plI a (a.length - 1) = []
          · refine ne_none_b (b := false) (by rw [hpl]; rfl) (by is_list) hJ (by is_list) hun2 ?_
            k_steps
            exact led_end (by assumption) (by assumption) (by k_mem) (by k_mem) ha (led_stay hpl) (Nat.le_refl _) (by omega) hl2 hl hd rfl rfl (by intro z h1 h2 h3 h4; simp only [if_neg h1, if_neg h2, if_neg h3, if_neg h4])
          · refine ne_none_b (b := true) (by rw [decide_eq_false hpl]; rfl) (by is_list) hJ (by is_list) hun2 ?_
            have hpp : 1 ≤ (plI a (a.length - 1)).length := List.length_pos_iff.mpr hpl
            have hpz : (plI a (a.length - 1)).length ≤ 1000 := by
              have : (plI a (a.length - 1)).length ≤ a.length - 1 := by unfold plI plN; rw [List.length_map]; exact Nat.le_trans (List.length_filter_le _ _) (by rw [List.length_range]; exact Nat.le_refl _)
              omega
            repeat' ((fail_if_success (with_reducible show wpAny _ _ (binaryOp PySem.Operator.Mod _ _) _ _ _)); first | (k_unfold; (try dsimp only)) | (k_end; wrow_close) | walk1 | (dsimp only; walk1) | (leave1; try dsimp only))
            refine mod_K3 hpp fun x hx => ?_
            repeat' ((fail_if_success (with_reducible show wpAny _ _ (subscriptTail (PySem.Expr.Name _ _) (PySem.Expr.BinOp _ _ _ _) _ _) _ _ _)); first | (k_unfold; (try dsimp only)) | (k_end; wrow_close) | walk1 | (dsimp only; walk1) | (leave1; try dsimp only))
            refine pl_item_K (by k_asm) (by k_mem) hJ hx hpz fun k tk3 hk1 hk2 hk3 => ?_
            have hsl := swap_len (r := a) (k := k) (by omega)
            have hmv := led_move hk1
            repeat' ((fail_if_success (with_reducible show wpAny _ _ (subscriptTail (PySem.Expr.Dict _ _ _) _ _ _) _ _ _)); first | (k_unfold; (try dsimp only)) | (k_end; wrow_close) | walk1 | (dsimp only; walk1) | (leave1; try dsimp only))
            refine Or.elim (isP_cases hk3) (fun hpk => ?_) (fun hpk2 => Or.elim hpk2 (fun hpk => ?_) (fun hpk => ?_))
            · refine sub_key (slice_hs hpk) ?_
              k_steps
              exact led_end (by assumption) (by assumption) (by k_mem) (by k_mem) ha hmv hsl.1 hsl.2 hl2 hl (by assumption) (swap_hs hpk) rfl (by intro z h1 h2 h3 h4; simp only [if_neg h1, if_neg h2, if_neg h3, if_neg h4])
            · refine sub_key (slice_ts hpk) ?_
              k_steps
              exact led_end (by assumption) (by assumption) (by k_mem) (by k_mem) ha hmv hsl.1 hsl.2 hl2 hl (by assumption) (swap_ts hpk) rfl (by intro z h1 h2 h3 h4; simp only [if_neg h1, if_neg h2, if_neg h3, if_neg h4])
            · refine sub_key (slice_th hpk) ?_
              k_steps
              exact led_end (by assumption) (by assumption) (by k_mem) (by k_mem) ha hmv hsl.1 hsl.2 hl2 hl (by assumption) (swap_th hpk) rfl (by intro z h1 h2 h3 h4; simp only [if_neg h1, if_neg h2, if_neg h3, if_neg h4])
      · intro a oc ta q tq u0 u1 u2 h tk ha hd F N
        k_steps
        exact hret _ [] _ _ ⟨rfl, a, _, ha, rfl⟩ (fun _ hp => nomatch hp) (Fr.keep (by assumption)) (by assumption)
      k_with_none
  k_with "in L3.txt" => skip
  k_with "parse_c" => exact parse_c _ _ (by exact Mine.head_told (by omega))
  k_with "sign_c" => exact sign_c _ _
  k_with "quote_c" => exact quote_c _ _ (by assumption)
  k_with "read_k" => exact read_k _ _ _ _ _ (by exact Mine.getD_cast _ _) (by exact Mine.get_le (by assumption) _) (by exact Mine.sign34 _)
  k_with "cut_k" => exact cut_k _ _ _ (by rfl) (by exact Mine.get_le (by assumption) _)
  k_go0
  all_goals (try k_fold)
  repeat' ((fail_if_success (with_reducible show wpAny _ _ (call (Value.ref _) _) _ _ _)); first | (k_unfold; (try dsimp only)) | (k_end; wrow_close) | walk1 | (dsimp only; walk1) | (leave1; try dsimp only))
  refine use_nums3 numbers_c (by k_asm) (by k_asm) (by k_asm) (by k_asm) (by first | exact rfl | assumption) (by ktr_room) (by ktr_units) (by k_asm) (by assumption) (by assumption) (by assumption) fun aN xsN cN NS hN tkN hNI hNl hNb F0 N0 o0 => ?_
  dsimp only
  repeat' ((fail_if_success (with_reducible show wpAny _ _ (binaryOp PySem.Operator.Mod _ _) _ _ _)); first | (k_unfold; (try dsimp only)) | (k_end; wrow_close) | walk1 | (dsimp only; walk1) | (leave1; try dsimp only))
  refine mod_K3 (c := 3) (by decide) fun kd hkd => ?_
  repeat' ((fail_if_success (with_reducible show wpAny _ _ (subscriptTail (PySem.Expr.Tuple _ _ _) _ _ _) _ _ _)); first | (k_unfold; (try dsimp only)) | (k_end; wrow_close) | walk1 | (dsimp only; walk1) | (leave1; try dsimp only))
  refine item_wd hkd (by k_asm) (by k_mem) fun tW => ?_
  repeat' ((fail_if_success (with_reducible show wpAny _ _ (call (Value.ref _) _) _ _ _)); first | (k_unfold; (try dsimp only)) | (k_end; wrow_close) | walk1 | (dsimp only; walk1) | (leave1; try dsimp only))
  refine use_txt (run_c (wd3 kd) _ _ _ (by rw [wd_len]; decide)) (by k_asm) (by k_asm) (by k_asm) (by k_asm) (by first | exact rfl | assumption) (by ktr_room) (by ktr_units) trivial (by k_asm) fun r tr h1 tk1 hr F1 N1 => ?_
  have hrl := run_len hr
  dsimp only
  repeat' ((fail_if_success (with_reducible show wpAny _ _ (subscriptTail (PySem.Expr.Tuple _ _ _) _ _ _) _ _ _)); (fail_if_success (with_reducible show wpAny _ _ (call (Value.ref _) _) _ _ _)); first | (k_unfold; (try dsimp only)) | (k_end; wrow_close) | walk1 | (dsimp only; walk1) | (leave1; try dsimp only))
  · refine item_wd hkd (by k_asm) (by k_mem) fun tW2 => ?_
    repeat' ((fail_if_success (with_reducible show wpAny _ _ (call (Value.ref _) _) _ _ _)); first | (k_unfold; (try dsimp only)) | (k_end; wrow_close) | walk1 | (dsimp only; walk1) | (leave1; try dsimp only))
    refine use_txt (run_c (wd3 kd) _ _ _ (by rw [wd_len]; decide)) (by k_asm) (by k_asm) (by k_asm) (by k_asm) (by first | exact rfl | assumption) (by ktr_room) (by ktr_units) trivial (by k_asm) fun o to ho1 tko ho Fo No => ?_
    have hol := run_len ho
    dsimp only
    repeat' ((fail_if_success (with_reducible show wpAny _ _ (subscriptTail (PySem.Expr.Tuple _ _ _) _ _ _) _ _ _)); first | (k_unfold; (try dsimp only)) | (k_end; wrow_close) | walk1 | (dsimp only; walk1) | (leave1; try dsimp only))
    refine item_rw hkd (by k_asm) (by k_mem) fun tR => ?_
    have hrw : rw3 kd ≤ 12 := by unfold rw3; (split; decide; split <;> decide)
    have hfac := pair_facts hkd hr (.inl ho)
    repeat' ((fail_if_success (with_reducible show wpAny _ _ (call (Value.ref _) _) _ _ _)); first | (k_unfold; (try dsimp only)) | (k_end; wrow_close) | walk1 | (dsimp only; walk1) | (leave1; try dsimp only))
    refine use_ints (done_c r (rw3 kd) NS aN xsN _ _ (by omega) hrw hNl hNb hNI) (by k_asm) (by k_asm) (by k_asm) (by k_asm) (by first | exact rfl | assumption) (by ktr_room) (by ktr_units) (by is_list) (by k_asm) fun a1 xs1 c1 h1 tk1 hI1 F1 N1 o1 => ?_
    simp only [List.forall_mem_cons, List.forall_mem_nil, and_true] at o1
    dsimp only
    repeat' ((fail_if_success (with_reducible show wpAny _ _ (call (Value.ref _) _) _ _ _)); first | (k_unfold; (try dsimp only)) | (k_end; wrow_close) | walk1 | (dsimp only; walk1) | (leave1; try dsimp only))
    refine use_ints (done_c o (rw3 kd) NS aN xsN _ _ (by omega) hrw hNl hNb hNI) (by k_asm) (by k_asm) (by k_asm) (by k_asm) (by first | exact rfl | assumption) (by ktr_room) (by ktr_units) (by is_list) (by k_asm) fun a2 xs2 c2 h2 tk2 hI2 F2 N2 o2 => ?_
    simp only [List.forall_mem_cons, List.forall_mem_nil, and_true] at o2
    dsimp only
    repeat' ((fail_if_success (with_reducible show wpAny _ _ (call (Value.ref _) _) _ _ _)); first | (k_unfold; (try dsimp only)) | (k_end; wrow_close) | walk1 | (dsimp only; walk1) | (leave1; try dsimp only))
    refine use_V (due_c r _) (by k_asm) (by k_asm) (by k_asm) (by k_asm) (by first | exact rfl | assumption) (by ktr_room) (by ktr_units) trivial (by k_asm) fun t3 h3 tk3 F3 N3 => ?_
    dsimp only
    repeat' ((fail_if_success (with_reducible show wpAny _ _ (compareOp _ _ _) _ _ _)); first | (k_unfold; (try dsimp only)) | (k_end; wrow_close) | walk1 | (dsimp only; walk1) | (leave1; try dsimp only))
    refine ne_false_K hfac.1 ?_
    repeat' ((fail_if_success (with_reducible show wpAny _ _ (call (Value.ref _) _) _ _ _)); first | (k_unfold; (try dsimp only)) | (k_end; wrow_close) | walk1 | (dsimp only; walk1) | (leave1; try dsimp only))
    refine use_V (due_c o _) (by k_asm) (by k_asm) (by k_asm) (by k_asm) (by first | exact rfl | assumption) (by ktr_room) (by ktr_units) trivial (by k_asm) fun t3 h3 tk3 F3 N3 => ?_
    dsimp only
    repeat' ((fail_if_success (with_reducible show wpAny _ _ (compareOp _ _ _) _ _ _)); first | (k_unfold; (try dsimp only)) | (k_end; wrow_close) | walk1 | (dsimp only; walk1) | (leave1; try dsimp only))
    refine ne_false_K hfac.2.1 ?_
    repeat' ((fail_if_success (with_reducible show wpAny _ _ (compareOp _ _ _) _ _ _)); first | (k_unfold; (try dsimp only)) | (k_end; wrow_close) | walk1 | (dsimp only; walk1) | (leave1; try dsimp only))
    refine Or.elim (Decidable.em ((List.map (fun (c : Nat) => (c : Int)) (doneF (List.range (rw3 kd)) r)) = (List.map (fun (c : Nat) => (c : Int)) (doneF (List.range (rw3 kd)) o)))) (fun hAB => ?_) (fun hAB => ?_)
    · refine eq_list_b (c := true) (decide_eq_true hAB) (by is_list) hI1 (by is_list) hI2 (by units_room) ?_
      repeat' ((fail_if_success (with_reducible show wpAny _ _ (call (Value.ref _) _) _ _ _)); first | (k_unfold; (try dsimp only)) | (k_end; wrow_close) | walk1 | (dsimp only; walk1) | (leave1; try dsimp only))
      refine use_V (due_c r _) (by k_asm) (by k_asm) (by k_asm) (by k_asm) (by first | exact rfl | assumption) (by ktr_room) (by ktr_units) trivial (by k_asm) fun t3 h3 tk3 F3 N3 => ?_
      dsimp only
      repeat' ((fail_if_success (with_reducible show wpAny _ _ (call (Value.ref _) _) _ _ _)); first | (k_unfold; (try dsimp only)) | (k_end; wrow_close) | walk1 | (dsimp only; walk1) | (leave1; try dsimp only))
      refine use_V (due_c o _) (by k_asm) (by k_asm) (by k_asm) (by k_asm) (by first | exact rfl | assumption) (by ktr_room) (by ktr_units) trivial (by k_asm) fun t3 h3 tk3 F3 N3 => ?_
      dsimp only
      repeat' ((fail_if_success (with_reducible show wpAny _ _ (compareOp _ _ _) _ _ _)); first | (k_unfold; (try dsimp only)) | (k_end; wrow_close) | walk1 | (dsimp only; walk1) | (leave1; try dsimp only))
      refine eq_int_b (c := true) (by rw [beq_iff_eq]; exact hfac.2.2.mp hAB) ?_
      k_steps
    · refine eq_list_b (c := false) (decide_eq_false hAB) (by is_list) hI1 (by is_list) hI2 (by units_room) ?_
      repeat' ((fail_if_success (with_reducible show wpAny _ _ (call (Value.ref _) _) _ _ _)); first | (k_unfold; (try dsimp only)) | (k_end; wrow_close) | walk1 | (dsimp only; walk1) | (leave1; try dsimp only))
      refine use_V (due_c r _) (by k_asm) (by k_asm) (by k_asm) (by k_asm) (by first | exact rfl | assumption) (by ktr_room) (by ktr_units) trivial (by k_asm) fun t3 h3 tk3 F3 N3 => ?_
      dsimp only
      repeat' ((fail_if_success (with_reducible show wpAny _ _ (call (Value.ref _) _) _ _ _)); first | (k_unfold; (try dsimp only)) | (k_end; wrow_close) | walk1 | (dsimp only; walk1) | (leave1; try dsimp only))
      refine use_V (due_c o _) (by k_asm) (by k_asm) (by k_asm) (by k_asm) (by first | exact rfl | assumption) (by ktr_room) (by ktr_units) trivial (by k_asm) fun t3 h3 tk3 F3 N3 => ?_
      dsimp only
      repeat' ((fail_if_success (with_reducible show wpAny _ _ (compareOp _ _ _) _ _ _)); first | (k_unfold; (try dsimp only)) | (k_end; wrow_close) | walk1 | (dsimp only; walk1) | (leave1; try dsimp only))
      refine eq_int_b (c := false) (by rw [beq_eq_false_iff_ne]; exact fun e => hAB (hfac.2.2.mpr e)) ?_
      k_steps
  · refine use_txt (led_c r _ _ _ (by omega) (by omega)) (by k_asm) (by k_asm) (by k_asm) (by k_asm) (by first | exact rfl | assumption) (by ktr_room) (by ktr_units) trivial (by k_asm) fun o to ho1 tko ho Fo No => ?_
    have hol := ledN_len 3 ho
    dsimp only
    repeat' ((fail_if_success (with_reducible show wpAny _ _ (subscriptTail (PySem.Expr.Tuple _ _ _) _ _ _) _ _ _)); first | (k_unfold; (try dsimp only)) | (k_end; wrow_close) | walk1 | (dsimp only; walk1) | (leave1; try dsimp only))
    refine item_rw hkd (by k_asm) (by k_mem) fun tR => ?_
    have hrw : rw3 kd ≤ 12 := by unfold rw3; (split; decide; split <;> decide)
    have hfac := pair_facts hkd hr (.inr ho)
    repeat' ((fail_if_success (with_reducible show wpAny _ _ (call (Value.ref _) _) _ _ _)); first | (k_unfold; (try dsimp only)) | (k_end; wrow_close) | walk1 | (dsimp only; walk1) | (leave1; try dsimp only))
    refine use_ints (done_c r (rw3 kd) NS aN xsN _ _ (by omega) hrw hNl hNb hNI) (by k_asm) (by k_asm) (by k_asm) (by k_asm) (by first | exact rfl | assumption) (by ktr_room) (by ktr_units) (by is_list) (by k_asm) fun a1 xs1 c1 h1 tk1 hI1 F1 N1 o1 => ?_
    simp only [List.forall_mem_cons, List.forall_mem_nil, and_true] at o1
    dsimp only
    repeat' ((fail_if_success (with_reducible show wpAny _ _ (call (Value.ref _) _) _ _ _)); first | (k_unfold; (try dsimp only)) | (k_end; wrow_close) | walk1 | (dsimp only; walk1) | (leave1; try dsimp only))
    refine use_ints (done_c o (rw3 kd) NS aN xsN _ _ (by omega) hrw hNl hNb hNI) (by k_asm) (by k_asm) (by k_asm) (by k_asm) (by first | exact rfl | assumption) (by ktr_room) (by ktr_units) (by is_list) (by k_asm) fun a2 xs2 c2 h2 tk2 hI2 F2 N2 o2 => ?_
    simp only [List.forall_mem_cons, List.forall_mem_nil, and_true] at o2
    dsimp only
    repeat' ((fail_if_success (with_reducible show wpAny _ _ (call (Value.ref _) _) _ _ _)); first | (k_unfold; (try dsimp only)) | (k_end; wrow_close) | walk1 | (dsimp only; walk1) | (leave1; try dsimp only))
    refine use_V (due_c r _) (by k_asm) (by k_asm) (by k_asm) (by k_asm) (by first | exact rfl | assumption) (by ktr_room) (by ktr_units) trivial (by k_asm) fun t3 h3 tk3 F3 N3 => ?_
    dsimp only
    repeat' ((fail_if_success (with_reducible show wpAny _ _ (compareOp _ _ _) _ _ _)); first | (k_unfold; (try dsimp only)) | (k_end; wrow_close) | walk1 | (dsimp only; walk1) | (leave1; try dsimp only))
    refine ne_false_K hfac.1 ?_
    repeat' ((fail_if_success (with_reducible show wpAny _ _ (call (Value.ref _) _) _ _ _)); first | (k_unfold; (try dsimp only)) | (k_end; wrow_close) | walk1 | (dsimp only; walk1) | (leave1; try dsimp only))
    refine use_V (due_c o _) (by k_asm) (by k_asm) (by k_asm) (by k_asm) (by first | exact rfl | assumption) (by ktr_room) (by ktr_units) trivial (by k_asm) fun t3 h3 tk3 F3 N3 => ?_
    dsimp only
    repeat' ((fail_if_success (with_reducible show wpAny _ _ (compareOp _ _ _) _ _ _)); first | (k_unfold; (try dsimp only)) | (k_end; wrow_close) | walk1 | (dsimp only; walk1) | (leave1; try dsimp only))
    refine ne_false_K hfac.2.1 ?_
    repeat' ((fail_if_success (with_reducible show wpAny _ _ (compareOp _ _ _) _ _ _)); first | (k_unfold; (try dsimp only)) | (k_end; wrow_close) | walk1 | (dsimp only; walk1) | (leave1; try dsimp only))
    refine Or.elim (Decidable.em ((List.map (fun (c : Nat) => (c : Int)) (doneF (List.range (rw3 kd)) r)) = (List.map (fun (c : Nat) => (c : Int)) (doneF (List.range (rw3 kd)) o)))) (fun hAB => ?_) (fun hAB => ?_)
    · refine eq_list_b (c := true) (decide_eq_true hAB) (by is_list) hI1 (by is_list) hI2 (by units_room) ?_
      repeat' ((fail_if_success (with_reducible show wpAny _ _ (call (Value.ref _) _) _ _ _)); first | (k_unfold; (try dsimp only)) | (k_end; wrow_close) | walk1 | (dsimp only; walk1) | (leave1; try dsimp only))
      refine use_V (due_c r _) (by k_asm) (by k_asm) (by k_asm) (by k_asm) (by first | exact rfl | assumption) (by ktr_room) (by ktr_units) trivial (by k_asm) fun t3 h3 tk3 F3 N3 => ?_
      dsimp only
      repeat' ((fail_if_success (with_reducible show wpAny _ _ (call (Value.ref _) _) _ _ _)); first | (k_unfold; (try dsimp only)) | (k_end; wrow_close) | walk1 | (dsimp only; walk1) | (leave1; try dsimp only))
      refine use_V (due_c o _) (by k_asm) (by k_asm) (by k_asm) (by k_asm) (by first | exact rfl | assumption) (by ktr_room) (by ktr_units) trivial (by k_asm) fun t3 h3 tk3 F3 N3 => ?_
      dsimp only
      repeat' ((fail_if_success (with_reducible show wpAny _ _ (compareOp _ _ _) _ _ _)); first | (k_unfold; (try dsimp only)) | (k_end; wrow_close) | walk1 | (dsimp only; walk1) | (leave1; try dsimp only))
      refine eq_int_b (c := true) (by rw [beq_iff_eq]; exact hfac.2.2.mp hAB) ?_
      k_steps
    · refine eq_list_b (c := false) (decide_eq_false hAB) (by is_list) hI1 (by is_list) hI2 (by units_room) ?_
      repeat' ((fail_if_success (with_reducible show wpAny _ _ (call (Value.ref _) _) _ _ _)); first | (k_unfold; (try dsimp only)) | (k_end; wrow_close) | walk1 | (dsimp only; walk1) | (leave1; try dsimp only))
      refine use_V (due_c r _) (by k_asm) (by k_asm) (by k_asm) (by k_asm) (by first | exact rfl | assumption) (by ktr_room) (by ktr_units) trivial (by k_asm) fun t3 h3 tk3 F3 N3 => ?_
      dsimp only
      repeat' ((fail_if_success (with_reducible show wpAny _ _ (call (Value.ref _) _) _ _ _)); first | (k_unfold; (try dsimp only)) | (k_end; wrow_close) | walk1 | (dsimp only; walk1) | (leave1; try dsimp only))
      refine use_V (due_c o _) (by k_asm) (by k_asm) (by k_asm) (by k_asm) (by first | exact rfl | assumption) (by ktr_room) (by ktr_units) trivial (by k_asm) fun t3 h3 tk3 F3 N3 => ?_
      dsimp only
      repeat' ((fail_if_success (with_reducible show wpAny _ _ (compareOp _ _ _) _ _ _)); first | (k_unfold; (try dsimp only)) | (k_end; wrow_close) | walk1 | (dsimp only; walk1) | (leave1; try dsimp only))
      refine eq_int_b (c := false) (by rw [beq_eq_false_iff_ne]; exact fun e => hAB (hfac.2.2.mpr e)) ?_
      k_steps
  k_with_none
end Mine
end
theorem PySem.Challenge.cw_tp0010_03_holds : PySem.Challenge.rw_tp0010_03.Holds := by
  exact Mine.law_w

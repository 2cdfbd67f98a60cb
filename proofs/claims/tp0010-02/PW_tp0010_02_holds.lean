import PyProof.Rows.All
import Wide.All
import OpenK.AllK
import Wide.FinOn
import PySem.Challenge.RW_tp0010_02
set_option maxRecDepth 100000
section
open PySem PySem.W PyProof.Rows
namespace Mine
/-! texts as lists of codes -/
abbrev T (l : List Nat) : PySem.Str := ⟨l.toArray⟩
theorem T_len (l : List Nat) : (T l).length = l.length := by simp [T, PySem.Str.length]
theorem T_app (a b : List Nat) : T a ++ T b = T (a ++ b) := PySem.Str.ext' (by simp [T, PySem.Str.cps_append])
theorem T_inj {a b : List Nat} : (T a == T b) = decide (a = b) := by
  rw [Bool.eq_iff_iff]; simp [T]
theorem T_of (x : PySem.Str) : x = T x.cps.toList := PySem.Str.ext' (by simp [T])
theorem T_list (l : List Nat) : (T l).cps.toList = l := by simp [T]
theorem T_one {x : PySem.Str} {c : Nat} : (x == ⟨#[c]⟩) = decide (x.cps.toList = [c]) := by
  conv => lhs; rw [T_of x]
  exact T_inj
theorem item_T {x : PySem.Str} {i : Int} (h0 : 0 ≤ i) (h1 : i < x.length) : ∃ c, Txt.item x i = ⟨#[c]⟩ ∧ x.cps.toList.drop i.toNat = c :: x.cps.toList.drop (i.toNat + 1) := by
  have hn : i.toNat < x.cps.toList.length := by simp [PySem.Str.length] at h1 ⊢; omega
  refine ⟨x.cps.toList[i.toNat], ?_, List.drop_eq_getElem_cons hn⟩
  unfold Txt.item Txt.charAt
  rw [StrLaws.at_nonneg h0 (n := x.cps.toList[i.toNat]) (by simp at hn ⊢)]
  rfl
/-! parse257 behind its head -/
def dirL : List Nat → List Nat
  | [] => []
  | [c] => if c = 34 then [] else [c]
  | c :: d :: r => if c = 34 then (if d = 34 then 34 :: dirL r else []) else c :: dirL (d :: r)
theorem dirL_other {c : Nat} (hc : c ≠ 34) (r : List Nat) : dirL (c :: r) = c :: dirL r := by
  cases r with
  | nil => simp [dirL, hc]
  | cons d r => simp [dirL, hc]
theorem dirL_told (sg : Nat) (hs : sg ≠ 34) (r : List Nat) : ∀ n : Nat, dirL (List.replicate n 34 ++ sg :: 34 :: 32 :: r) = List.replicate (n / 2) 34 ++ (if n % 2 = 0 then [sg] else [])
  | 0 => by simp [dirL_other hs, dirL]
  | 1 => by simp [dirL, hs]
  | n + 2 => by
    have := dirL_told sg hs r n
    have h1 : (n + 2) / 2 = n / 2 + 1 := by omega
    have h2 : (n + 2) % 2 = n % 2 := by omega
    rw [h1, h2]
    simp only [List.replicate_succ, List.cons_append, dirL, if_true]
    rw [this]
structure PInv (x : PySem.Str) (i : Int) (d : PySem.Str) : Prop where
  lo : 5 ≤ i
  hi : i ≤ x.length
  ds : d.length + 5 ≤ i
  eq : d.cps.toList ++ dirL (x.cps.toList.drop i.toNat) = dirL (x.cps.toList.drop 5)
abbrev PAll (x : PySem.Str) (i : Int) (d : PySem.Str) : Prop := 5 ≤ i ∧ i ≤ x.length ∧ d.length + 5 ≤ i ∧ PInv x i d
theorem PInv.all {x : PySem.Str} {i : Int} {d : PySem.Str} (h : PInv x i d) : PAll x i d := ⟨h.lo, h.hi, h.ds, h⟩
theorem nilS : (PySem.Str.ofString "") = ⟨#[]⟩ := by decide +kernel
theorem quoS : (PySem.Str.ofString "\"") = ⟨#[34]⟩ := by decide +kernel
theorem pinv_start {x : PySem.Str} (h : x.length ≤ 100000 ∧ x.cps.toList.take 5 = [50, 53, 55, 32, 34]) : PAll x 5 (PySem.Str.ofString "") := by
  have hl := congrArg List.length h.2
  rw [nilS]
  simp only [List.length_take, Array.length_toList, List.length_cons, List.length_nil] at hl
  exact PInv.all ⟨by omega, by simp only [PySem.Str.length]; omega, by simp [PySem.Str.length], by simp⟩
theorem pinv_c {x : PySem.Str} {i : Int} {d : PySem.Str} (h : PInv x i d) (hi : i < x.length) (hc : (Txt.item x i == PySem.Str.ofString "\"") = false) : PAll x (i + 1) (d ++ Txt.item x i) := by
  obtain ⟨c, e, hd⟩ := item_T (by have := h.lo; omega) hi
  rw [e, quoS, T_one] at hc
  have hc' : c ≠ 34 := by simpa using hc
  have hn : (i + 1).toNat = i.toNat + 1 := by have := h.lo; omega
  refine PInv.all ⟨by have := h.lo; omega, by omega, ?_, ?_⟩
  · have := h.ds; rw [PySem.Str.length_append, e]; simp [PySem.Str.length] at this ⊢; omega
  · have := h.eq
    rw [hd, dirL_other hc'] at this
    rw [e, hn, ← this]; simp [PySem.Str.cps_append]
theorem pinv_q {x : PySem.Str} {i : Int} {d : PySem.Str} (h : PInv x i d) (hi : ¬ (x.length : Int) ≤ i + 1) (hc : (Txt.item x i == PySem.Str.ofString "\"") = true) (hq : (Txt.item x (i + 1) != PySem.Str.ofString "\"") = false) : PAll x (i + 1 + 1) (d ++ Txt.item x i) := by
  obtain ⟨c, e, hd⟩ := item_T (x := x) (i := i) (by have := h.lo; omega) (by omega)
  obtain ⟨c', e', hd'⟩ := item_T (x := x) (i := i + 1) (by have := h.lo; omega) (by omega)
  rw [e, quoS, T_one] at hc
  rw [bne, e', quoS, T_one] at hq
  have hc1 : c = 34 := by simpa using hc
  have hc2 : c' = 34 := by simpa using hq
  subst hc1; subst hc2
  have hn : (i + 1).toNat = i.toNat + 1 := by have := h.lo; omega
  have hn2 : (i + 1 + 1).toNat = i.toNat + 1 + 1 := by have := h.lo; omega
  rw [hn] at hd'
  refine PInv.all ⟨by have := h.lo; omega, by omega, ?_, ?_⟩
  · have := h.ds; rw [PySem.Str.length_append, e]; simp [PySem.Str.length] at this ⊢; omega
  · have := h.eq
    rw [hd, hd'] at this
    simp only [dirL, if_true] at this
    rw [e, hn2, ← this]; simp [PySem.Str.cps_append]
theorem pend {x d : PySem.Str} (h : d.cps.toList = dirL (x.cps.toList.drop 5)) : d = T (dirL (x.cps.toList.drop 5)) := by rw [← h, ← T_of]
theorem pend_0 {x : PySem.Str} {i : Int} {d : PySem.Str} (h : PInv x i d) (hi : ¬ i < x.length) : d = T (dirL (x.cps.toList.drop 5)) := by
  have := h.eq
  have h2 : x.cps.toList.length ≤ i.toNat := by simp [PySem.Str.length] at hi ⊢; omega
  rw [List.drop_eq_nil_of_le h2] at this
  exact pend (by simpa [dirL] using this)
theorem pend_1 {x : PySem.Str} {i : Int} {d : PySem.Str} (h : PInv x i d) (hi : i < x.length) (hj : (x.length : Int) ≤ i + 1) (hc : (Txt.item x i == PySem.Str.ofString "\"") = true) : d = T (dirL (x.cps.toList.drop 5)) := by
  obtain ⟨c, e, hd⟩ := item_T (x := x) (i := i) (by have := h.lo; omega) (by omega)
  rw [e, quoS, T_one] at hc
  have hc1 : c = 34 := by simpa using hc
  subst hc1
  have := h.eq
  have h2 : x.cps.toList.length ≤ i.toNat + 1 := by simp [PySem.Str.length] at hj ⊢; omega
  rw [hd, List.drop_eq_nil_of_le h2] at this
  exact pend (by simpa [dirL] using this)
theorem pend_2 {x : PySem.Str} {i : Int} {d : PySem.Str} (h : PInv x i d) (hi : ¬ (x.length : Int) ≤ i + 1) (hc : (Txt.item x i == PySem.Str.ofString "\"") = true) (hq : (Txt.item x (i + 1) != PySem.Str.ofString "\"") = true) : d = T (dirL (x.cps.toList.drop 5)) := by
  obtain ⟨c, e, hd⟩ := item_T (x := x) (i := i) (by have := h.lo; omega) (by omega)
  obtain ⟨c', e', hd'⟩ := item_T (x := x) (i := i + 1) (by have := h.lo; omega) (by omega)
  rw [e, quoS, T_one] at hc
  rw [bne, e', quoS, T_one] at hq
  have hc1 : c = 34 := by simpa using hc
  have hc2 : c' ≠ 34 := by simpa using hq
  subst hc1
  have hn : (i + 1).toNat = i.toNat + 1 := by have := h.lo; omega
  rw [hn] at hd'
  have := h.eq
  rw [hd, hd'] at this
  exact pend (by simpa [dirL, hc2] using this)
theorem slice_clip (a b n : Nat) : Builtin.Str.strSliceIndices (some (a : Int)) (some (b : Int)) 1 n = Builtin.Str.strSliceIndices (some ((min a n : Nat) : Int)) (some ((min b n : Nat) : Int)) 1 n := by
  have e1 : ¬ ((a : Int) < 0) := by omega
  have e2 : ¬ ((b : Int) < 0) := by omega
  have e3 : ¬ (((min a n : Nat) : Int) < 0) := by omega
  have e4 : ¬ (((min b n : Nat) : Int) < 0) := by omega
  simp only [Builtin.Str.strSliceIndices, e1, e2, e3, e4, if_false]
  have p1 : max 0 (min (a : Int) n) = max 0 (min ((min a n : Nat) : Int) n) := by omega
  have p2 : max 0 (min (b : Int) n) = max 0 (min ((min b n : Nat) : Int) n) := by omega
  simp only [p1, p2, show ((1 : Int) > 0) = True from by simp, if_true]
theorem slice_T (x : PySem.Str) {a b : Nat} (hab : a ≤ b) : Txt.slice x (some (a : Int)) (some (b : Int)) = T ((x.cps.toList.drop a).take (b - a)) := by
  have h : Txt.slice x (some (a : Int)) (some (b : Int)) = Txt.slice x (some ((min a x.length : Nat) : Int)) (some ((min b x.length : Nat) : Int)) := by
    unfold Txt.slice
    rw [slice_clip]
  rw [h]
  have h2 := StrLaws.sliceText_nat x (a := min a x.length) (b := min b x.length) (by omega) (by omega)
  refine Eq.trans (b := StrLaws.sliceText x (some ((min a x.length : Nat) : Int)) (some ((min b x.length : Nat) : Int))) rfl (h2.trans ?_)
  have hl : x.length = x.cps.toList.length := by simp [PySem.Str.length]
  congr 2
  rcases Nat.le_total a x.length with h3 | h3
  · rw [Nat.min_eq_left h3]
    rcases Nat.le_total b x.length with h4 | h4
    · rw [Nat.min_eq_left h4]
    · rw [Nat.min_eq_right h4, List.take_of_length_le (by rw [List.length_drop, ← hl]; omega), List.take_of_length_le (by rw [List.length_drop, ← hl]; omega)]
  · rw [Nat.min_eq_right h3, List.drop_eq_nil_of_le (by omega), List.drop_eq_nil_of_le (by omega)]; simp
theorem slice_to_T (x : PySem.Str) (b : Nat) : Txt.slice x none (some (b : Int)) = T (x.cps.toList.take b) := by
  have := slice_T x (a := 0) (b := b) (by omega)
  simp only [List.drop_zero, Nat.sub_zero] at this
  rw [← this]
  unfold Txt.slice
  rw [StrLaws.sliceIdx_none_lo]; rfl
theorem slice_from_T (x : PySem.Str) (a : Nat) : Txt.slice x (some (a : Int)) none = T (x.cps.toList.drop a) := by
  have hl : x.length = x.cps.toList.length := by simp [PySem.Str.length]
  have h : Txt.slice x (some (a : Int)) none = Txt.slice x (some (a : Int)) (some (x.length : Int)) := by
    unfold Txt.slice
    rw [StrLaws.sliceIdx_none_hi]
  rw [h]
  rcases Nat.le_total a x.length with h3 | h3
  · rw [slice_T x h3, List.take_of_length_le (by simp [PySem.Str.length])]
  · have h5 : Txt.slice x (some (a : Int)) (some (x.length : Int)) = Txt.slice x (some (x.length : Int)) (some (x.length : Int)) := by
      unfold Txt.slice
      rw [slice_clip, Nat.min_eq_right h3, Nat.min_self]
    have h6 : x.cps.toList.drop a = [] := List.drop_eq_nil_of_le (by rw [← hl]; exact h3)
    rw [h5, slice_T x (Nat.le_refl _), h6]; simp
theorem slice_lit (x : PySem.Str) {a b : Nat} {i j : Int} (hi : i = a) (hj : j = b) (hab : a ≤ b) : Txt.slice x (some i) (some j) = T ((x.cps.toList.drop a).take (b - a)) := by
  rw [hi, hj]; exact slice_T x hab
theorem slice_to_lit (x : PySem.Str) {b : Nat} {j : Int} (hj : j = b) : Txt.slice x none (some j) = T (x.cps.toList.take b) := by
  rw [hj]; exact slice_to_T x b
theorem slice_from_lit (x : PySem.Str) {a : Nat} {i : Int} (hi : i = a) : Txt.slice x (some i) none = T (x.cps.toList.drop a) := by
  rw [hi]; exact slice_from_T x a
abbrev Head257 (x : PySem.Str) : Prop := x.length ≤ 100000 ∧ x.cps.toList.take 5 = [50, 53, 55, 32, 34]
theorem head_1 {x : PySem.Str} (hx : Head257 x) : (Txt.slice x none (some 3) != PySem.Str.ofString "257") = false := by
  rw [slice_to_lit x (b := 3) (j := 3) rfl, show (PySem.Str.ofString "257") = T [50, 53, 55] from by decide +kernel, bne, T_inj]
  have := congrArg (List.take 3) hx.2
  simpa [List.take_take] using this
theorem head_2 {x : PySem.Str} (hx : Head257 x) : (Txt.slice x (some 3) (some 5) != PySem.Str.ofString " \"") = false := by
  rw [slice_lit x (a := 3) (b := 5) (i := 3) (j := 5) rfl rfl (by omega), show (PySem.Str.ofString " \"") = T [32, 34] from by decide +kernel, bne, T_inj]
  have := congrArg (List.drop 3) hx.2
  rw [List.drop_take] at this
  simpa using this
/-! the sign -/
def codeN (n : Int) : Nat := ((n.fdiv 3).fmod 55296).toNat
def signN (n : Int) : Nat := if codeN n ∈ [46, 34, 13, 10] then 97 else codeN n
theorem signN_ne (n : Int) : signN n ≠ 46 ∧ signN n ≠ 34 ∧ signN n ≠ 13 ∧ signN n ≠ 10 := by
  unfold signN
  split
  · decide
  · rename_i h
    simp only [List.mem_cons, List.not_mem_nil, or_false, not_or] at h
    exact h
theorem badS : (PySem.Str.ofString ".\"\r\n") = T [46, 34, 13, 10] := by decide +kernel
theorem sign_out {n : Int} (h : (Builtin.Str.occurrences (PySem.Str.ofString ".\"\r\n") { cps := #[((n.fdiv 3).fmod 55296).toNat] } 0 (PySem.Str.ofString ".\"\r\n").length 1).isEmpty = true) : ({ cps := #[((n.fdiv 3).fmod 55296).toNat] } : PySem.Str) = T [signN n] := by
  have h2 := StrLaws.found_one (PySem.Str.ofString ".\"\r\n") ((n.fdiv 3).fmod 55296).toNat
  rw [h, badS, T_list] at h2
  have h3 : ¬ codeN n ∈ [46, 34, 13, 10] := by simpa [codeN] using h2
  unfold signN
  rw [if_neg h3]; rfl
theorem sign_in {n : Int} (h : (Builtin.Str.occurrences (PySem.Str.ofString ".\"\r\n") { cps := #[((n.fdiv 3).fmod 55296).toNat] } 0 (PySem.Str.ofString ".\"\r\n").length 1).isEmpty = false) : PySem.Str.ofString "a" = T [signN n] := by
  have h2 := StrLaws.found_one (PySem.Str.ofString ".\"\r\n") ((n.fdiv 3).fmod 55296).toNat
  rw [h, badS, T_list] at h2
  have h3 : codeN n ∈ [46, 34, 13, 10] := by simpa [codeN] using h2
  unfold signN
  rw [if_pos h3]; decide +kernel
/-! dots -/
theorem mul_T (c n : Nat) : Txt.mul (T [c]) (n : Int) = T (List.replicate n c) := by
  have h : ∀ (k : Nat) (acc : Array Nat), ((List.replicate k #[c]).foldl (· ++ ·) acc) = (acc.toList ++ List.replicate k c).toArray := by
    intro k
    induction k with
    | zero => intro acc; simp
    | succ k ih => intro acc; rw [List.replicate_succ, List.foldl_cons, ih, List.replicate_succ]; simp
  unfold Txt.mul
  split
  · have : n = 0 := by omega
    subst this; rfl
  · split
    · rename_i h2
      simp only [Bool.or_eq_true, beq_iff_eq, T_len, List.length_cons, List.length_nil, Nat.zero_add, Nat.one_ne_zero, or_false] at h2
      have : n = 1 := by omega
      subst this; rfl
    · rw [show (T [c]).cps = #[c] from rfl, Int.toNat_natCast, h]; rfl
theorem dots_mul (n : Nat) : Txt.mul (PySem.Str.ofString ".") (n : Int) = T (List.replicate n 46) := by
  rw [show (PySem.Str.ofString ".") = T [46] from by decide +kernel]; exact mul_T 46 n
theorem sl_11 : Txt.slice (T (List.replicate (0 + 1) 46)) none (some 1) = T [46] := by decide +kernel
theorem sl_12 : Txt.slice (T (List.replicate (0 + 1) 46)) none (some 2) = T [46] := by decide +kernel
theorem sl_13 : Txt.slice (T (List.replicate (0 + 1) 46)) none (some 3) = T [46] := by decide +kernel
theorem sl_21 : Txt.slice (T (List.replicate (0 + 1 + 1) 46)) none (some 1) = T [46] := by decide +kernel
theorem sl_22 : Txt.slice (T (List.replicate (0 + 1 + 1) 46)) none (some 2) = T [46, 46] := by decide +kernel
theorem sl_23 : Txt.slice (T (List.replicate (0 + 1 + 1) 46)) none (some 3) = T [46, 46] := by decide +kernel
theorem sl_31 (k : Nat) : Txt.slice (T (List.replicate (k + 1 + 1 + 1) 46)) none (some 1) = T [46] := by
  rw [slice_to_lit _ (b := 1) (j := 1) rfl, T_list]; simp [List.replicate_succ]
theorem sl_32 (k : Nat) : Txt.slice (T (List.replicate (k + 1 + 1 + 1) 46)) none (some 2) = T [46, 46] := by
  rw [slice_to_lit _ (b := 2) (j := 2) rfl, T_list]; simp [List.replicate_succ]
theorem sl_33 (k : Nat) : Txt.slice (T (List.replicate (k + 1 + 1 + 1) 46)) none (some 3) = T [46, 46, 46] := by
  rw [slice_to_lit _ (b := 3) (j := 3) rfl, T_list]; simp [List.replicate_succ]
theorem sl_f1 : Txt.slice (T (List.replicate (0 + 1) 46)) (some 3) none = T (List.replicate 0 46) := by decide +kernel
theorem sl_f2 : Txt.slice (T (List.replicate (0 + 1 + 1) 46)) (some 1) none = T (List.replicate 1 46) := by decide +kernel
theorem sl_f3 (k : Nat) : Txt.slice (T (List.replicate (k + 1 + 1 + 1) 46)) (some 3) none = T (List.replicate k 46) := by
  rw [slice_from_lit _ (a := 3) (i := 3) rfl, T_list]; simp [List.replicate_succ]
theorem ne_dots (k : Nat) : (T (List.replicate (k + 1) 46) != PySem.Str.ofString "") = true := by
  rw [nilS, bne, show (⟨#[]⟩ : PySem.Str) = T [] from rfl, T_inj]; simp [List.replicate_succ]
/-! reading -/
theorem told_T (n c : Nat) : PySem.Str.ofString "257 \"" ++ Txt.mul (PySem.Str.ofString "\"") (n : Int) ++ T [c] ++ PySem.Str.ofString "\" is it" = T ([50, 53, 55, 32, 34] ++ (List.replicate n 34 ++ c :: [34, 32, 105, 115, 32, 105, 116])) := by
  rw [show (PySem.Str.ofString "257 \"") = T [50, 53, 55, 32, 34] from by decide +kernel, show (PySem.Str.ofString "\"") = T [34] from by decide +kernel, show (PySem.Str.ofString "\" is it") = T [34, 32, 105, 115, 32, 105, 116] from by decide +kernel, mul_T, T_app, T_app, T_app]
  simp
theorem head_told {n c : Nat} (hn : n ≤ 90000) : Head257 (PySem.Str.ofString "257 \"" ++ Txt.mul (PySem.Str.ofString "\"") (n : Int) ++ T [c] ++ PySem.Str.ofString "\" is it") := by
  rw [told_T]
  refine ⟨?_, by simp⟩
  rw [T_len]; simp; omega
theorem dir_told {n c : Nat} (hc : c ≠ 34) : dirL ((PySem.Str.ofString "257 \"" ++ Txt.mul (PySem.Str.ofString "\"") (n : Int) ++ T [c] ++ PySem.Str.ofString "\" is it").cps.toList.drop 5) = List.replicate (n / 2) 34 ++ (if n % 2 = 0 then [c] else []) := by
  rw [told_T, T_list, show (List.drop 5 ([50, 53, 55, 32, 34] ++ (List.replicate n 34 ++ c :: [34, 32, 105, 115, 32, 105, 116]))) = List.replicate n 34 ++ c :: 34 :: 32 :: [105, 115, 32, 105, 116] from by simp]
  exact dirL_told c hc _ n
theorem cnt_rep (n : Nat) : cnt 34 (List.replicate n 34) = (n : Nat) := by
  induction n with
  | zero => rfl
  | succ n ih => rw [List.replicate_succ, cnt_cons, ih, if_pos rfl]; omega
theorem count_told {n c : Nat} (hc : c ≠ 34) : Txt.count (T (List.replicate (n / 2) 34 ++ (if n % 2 = 0 then [c] else []))) (PySem.Str.ofString "\"") = ((n / 2 : Nat) : Int) := by
  rw [quoS, count_is, T_list]
  show cnt 34 _ = _
  rw [cnt_append, cnt_rep]
  split
  · rw [cnt_cons, if_neg hc, cnt_nil]; omega
  · rw [cnt_nil]; omega
end Mine
end
section
open PySem PySem.W PyProof.Rows PySem.Calls
namespace Mine
abbrev Keeps (h h' : Heap) : Prop := ∀ b o, h.get? b = some o → h'.get? b = some o
theorem news_over {h₀ h h' : Heap} {L : Addr} {news : List (Addr × Obj)} (N : News h₀ L h news) (k : Keeps h h') : News h₀ L h' news :=
  fun p hp => ⟨k _ _ (N p hp).1, (N p hp).2⟩
theorem news_more {h₀ h h' : Heap} {L : Addr} {m : PySem.Str → Option Value} {news more : List (Addr × Obj)} (F : Fr h₀ L h m) (N : News h₀ L h news) (k : Keeps h h')
    (hm : ∀ p ∈ more, h'.get? p.1 = some p.2 ∧ h.get? p.1 = none) : News h₀ L h' (more ++ news) := by
  intro p hp
  rcases List.mem_append.mp hp with hp | hp
  · refine ⟨(hm p hp).1, fun q => ?_, ?_⟩
    · obtain ⟨oL, _, _, hL, _⟩ := F.ns
      have := (hm p hp).2
      rw [q, hL] at this; cases this
    · cases e : h₀.get? p.1 with
      | none => rfl
      | some o => have := F.keep _ _ e; rw [(hm p hp).2] at this; cases this
  · exact news_over N k p hp
theorem leave_of {h₀ g : Heap} {L : Addr} {m : PySem.Str → Option Value} {R : Result → Shared → Prop} {v : Value} {s' : Shared} (F : Fr h₀ L g m) (hl : LeaveK h₀ L m g R v s') : R (.ok (.ret v)) s' := by
  obtain ⟨L', m', news', F', N', k⟩ := hl
  refine k (F.after F'.keep) ?_
  have := news_more (news := []) (more := news') F News.nil F'.keep fun p hp => ⟨(N' p hp).1, (N' p hp).2.2⟩
  simpa using this
section
variable {prog : Program} {w : World} {A A₀ : Around} {s : Shared} {K : Frag} {L : Addr} {h₀ base : Heap} {m mg mb : PySem.Str → Option Value} {p : Program} {loose : List PySem.Str} {mean : ExcName → Option Value}
  {env : Env} {outer : List Env} {R : Result → Shared → Prop} {name qual : PySem.Str} {params : Arguments} {body : List Stmt} {scope : Scope} {dV kV doc pm cdv ct oc : Value} {an od : Option Addr} {osl : Array (Option Value)} {f : Addr} {args : Args} {binds : List (PySem.Str × Value)}
theorem enter_def
    (B : Below A₀ base outer h₀) (F : Fr h₀ L s.heap m) (X₀ : K.In h₀) (T : Top p loose mean mg mb h₀) (hA : A.frames = some (env :: outer)) (hf : env.frame = some L) (hke : env.scope.kind = .function)
    (ho : K.lookup f = some ⟨oc, od, .func (fnOf name qual params body scope dV kV doc pm an cdv ct), osl⟩) (hcd : codeIn K cdv qual = true) (hroom : A.depth < recursionLimit)
    (hbind : BindsTo s (fnOf name qual params body scope dV kV doc pm an cdv ct) args binds) (hloc : ∀ y ∈ binds, scope.names.lookup y.1 = some .local)
    (h : ∀ L' h₁, Fr s.heap L' h₁ (fun y => binds.reverse.lookup y) → News s.heap L' h₁ [] → Below A base (env :: outer) s.heap → K.In s.heap → Top p loose mean mg mb s.heap →
      wpAny (model prog w) (A.deeper (envOf qual scope L' f cdv)) (execs body (envOf qual scope L' f cdv))
        (fun fl s' => LeaveK h₀ L m s.heap R (match fl with | .ret v => v | _ => .none) s')
        (fun e s' => wpAny (model prog w) (A.deeper (envOf qual scope L' f cdv)) (leaving (envOf qual scope L' f cdv) e) (fun _ s'' => R (.error e) s'') (fun e' s'' => R (.error e') s'') s')
        { s with heap := h₁, toks := s.toks + binds.length })
    (hco : scope.isCoroutine = false) (hgen : scope.isGenerator = false) (hk : scope.kind = .function)
    (hcell : ∀ x ∈ scope.names, x.2 ≠ .cell) : codeAny (model prog w) A (.call (.ref f) args) R s := by
  have B₁ := pushX B F hf hke
  have X₁ := X₀.keeps F.keep
  refine codeAny_call_def (fd := fnOf name qual params body scope dV kV doc pm an cdv ct) (body := body) (binds := binds) hroom (X₁ _ _ ho) rfl (T.nolimit.keeps F.keep) (codeRec_of X₁ hcd) rfl hbind hcell hloc (fun h₁ hns hk₁ => ?_) hco hgen hk
  exact wpAny_mono (h s.heap.objs.size h₁ ⟨hns, hk₁, Nat.le_refl _⟩ News.nil ⟨hA, B₁.stays, B₁.frames⟩ X₁ (T.keeps F.keep)) (fun fl s' hl => leave_of F hl) fun _ _ y => y
theorem enter_defC
    (B : Below A₀ base outer h₀) (F : Fr h₀ L s.heap m) (X₀ : K.In h₀) (T : Top p loose mean mg mb h₀) (hA : A.frames = some (env :: outer)) (hf : env.frame = some L) (hke : env.scope.kind = .function)
    (ho : K.lookup f = some ⟨oc, od, .func (fnOf name qual params body scope dV kV doc pm an cdv ct), osl⟩) (hcd : codeIn K cdv qual = true) (hroom : A.depth < recursionLimit)
    (hbind : BindsTo s (fnOf name qual params body scope dV kV doc pm an cdv ct) args binds) (hkind : (binds.all fun y => scope.names.lookup y.1 == some .local || scope.names.lookup y.1 == some .cell) = true)
    (hnd : ((cellsFrom 0 scope.names []).map (·.1)).Nodup)
    (h : ∀ L' h₁ tk cells, Fr s.heap L' h₁ (bindL (envOfC qual scope L' f cdv).kindOf binds fun _ => none) → News s.heap L' h₁ cells →
      CellsAre (bindC (envOfC qual scope L' f cdv).kindOf binds fun _ => none) (cellsFrom (L' + 1) scope.names []) cells → Below A base (env :: outer) s.heap → K.In s.heap → Top p loose mean mg mb s.heap →
      wpAny (model prog w) (A.deeper (envOfC qual scope L' f cdv)) (execs body (envOfC qual scope L' f cdv))
        (fun fl s' => LeaveK h₀ L m s.heap R (match fl with | .ret v => v | _ => .none) s')
        (fun e s' => wpAny (model prog w) (A.deeper (envOfC qual scope L' f cdv)) (leaving (envOfC qual scope L' f cdv) e) (fun _ s'' => R (.error e) s'') (fun e' s'' => R (.error e') s'') s')
        { s with heap := h₁, toks := tk })
    (hco : scope.isCoroutine = false) (hgen : scope.isGenerator = false) (hk : scope.kind = .function) : codeAny (model prog w) A (.call (.ref f) args) R s := by
  have B₁ := pushX B F hf hke
  have X₁ := X₀.keeps F.keep
  refine codeAny_call_function hroom (X₁ _ _ ho) rfl hco hgen rfl (codeRec_of X₁ hcd) (hbind _ _ _ _ ?_)
  refine wpAny_newFunctionEnv_cells hk (kindsX hkind _) fun env' he s' x => ?_
  subst he
  refine ⟨(T.nolimit.keeps F.keep).keeps x.toInCall.keep, codeAny_func ?_⟩
  obtain ⟨h₁, tk, rfl, _⟩ := x.done
  have hk₁ := x.toInCall.keep
  obtain ⟨cells, NC, Y⟩ := Cl.news (h₀ := s.heap) (Nat.le_refl _) fun n c hm => ⟨x.cell n c (lookup_of_mem_nodup (cellsFrom_names scope.names 0 (s.heap.objs.size + 1) [] [] rfl ▸ hnd) hm), x.above n c hm⟩
  exact wpAny_mono (h s.heap.objs.size h₁ tk cells ⟨x.toInCall.ns, hk₁, Nat.le_refl _⟩ NC Y ⟨hA, B₁.stays, B₁.frames⟩ X₁ (T.keeps F.keep)) (fun fl s' hl => leave_of F hl) fun _ _ y => y
end
/-- a call of the def at f with vs, whatever stands around it; d: how deep it may go; Pre: what it asks of the heap; R: its value and what it has made -/
def Con (prog : Program) (w : World) (K : Frag) (p : Program) (loose : List PySem.Str) (mean : ExcName → Option Value) (mg mb : PySem.Str → Option Value) (d : Nat) (f : Addr) (vs : List Value) (Pre : Heap → Prop) (R : Value → List (Addr × Obj) → Prop) : Prop :=
  ∀ (dp un : Nat) (gd : Option (List Code)) (cn : PySem.Str) (cs : Scope) (a : Addr) (ccd : Value) (cl : List (PySem.Str × Addr)) (outer : List Env) (A₀ : Around) (base h₀ : Heap) (L : Addr) (m : PySem.Str → Option Value) (s : Shared) (Q E : Value → Shared → Prop),
    Below A₀ base outer h₀ → Fr h₀ L s.heap m → K.In h₀ → Top p loose mean mg mb h₀ → cs.kind = .function →
    dp + d < recursionLimit → un + 30 * d < cLine → Pre s.heap →
    (∀ (v : Value) (more : List (Addr × Obj)) (h' : Heap) (tk' : Nat), R v more → (∀ p ∈ more, h'.get? p.1 = some p.2 ∧ s.heap.get? p.1 = none) → Keeps s.heap h' → Fr h₀ L h' m → Q v { s with heap := h', toks := tk' }) →
    wpAny (model prog w) (ktrTop dp un gd cn cs L a ccd cl outer) (call (.ref f) vs) Q E s
/-- one plain value back, nothing made -/
abbrev ConV (prog : Program) (w : World) (K : Frag) (p : Program) (loose : List PySem.Str) (mean : ExcName → Option Value) (mg mb : PySem.Str → Option Value) (d : Nat) (f : Addr) (vs : List Value) (Pre : Heap → Prop) (R : Tok → Value) : Prop :=
  Con prog w K p loose mean mg mb d f vs Pre (fun v more => more = [] ∧ ∃ t, v = R t)
section
variable {h₀ g h' : Heap} {L L' : Addr} {m m' : PySem.Str → Option Value} {s : Shared} {Q : Value → Shared → Prop} {R : Value → List (Addr × Obj) → Prop} {news' : List (Addr × Obj)} {v : Value} {tk' : Nat}
/-- the end of a body, behind its leave -/
theorem ret_more (hret : ∀ (v : Value) (more : List (Addr × Obj)) (h' : Heap) (tk' : Nat), R v more → (∀ p ∈ more, h'.get? p.1 = some p.2 ∧ s.heap.get? p.1 = none) → Keeps s.heap h' → Fr h₀ L h' m → Q v { s with heap := h', toks := tk' })
    (FC : Fr s.heap L' h' m') (NC : News s.heap L' h' news') (more : List (Addr × Obj)) (hsub : ∀ p ∈ more, p ∈ news') (hR : R v more) (F : Fr h₀ L h' m) : Q v { s with heap := h', toks := tk' } :=
  hret v more h' tk' hR (fun p hp => ⟨(NC p (hsub p hp)).1, (NC p (hsub p hp)).2.2⟩) FC.keep F
theorem ret_val {R : Tok → Value} (hret : ∀ (v : Value) (more : List (Addr × Obj)) (h' : Heap) (tk' : Nat), (more = [] ∧ ∃ t, v = R t) → (∀ p ∈ more, h'.get? p.1 = some p.2 ∧ s.heap.get? p.1 = none) → Keeps s.heap h' → Fr h₀ L h' m → Q v { s with heap := h', toks := tk' })
    (FC : Fr s.heap L' h' m') (hv : ∃ t, v = R t) (F : Fr h₀ L h' m) : Q v { s with heap := h', toks := tk' } :=
  hret v [] h' tk' ⟨rfl, hv⟩ (fun _ hp => nomatch hp) FC.keep F
theorem ret_S {x y : PySem.Str} {t : Tok} (hret : ∀ (v : Value) (more : List (Addr × Obj)) (h' : Heap) (tk' : Nat), (more = [] ∧ ∃ t, v = (fun t => Value.str x t) t) → (∀ p ∈ more, h'.get? p.1 = some p.2 ∧ s.heap.get? p.1 = none) → Keeps s.heap h' → Fr h₀ L h' m → Q v { s with heap := h', toks := tk' })
    (FC : Fr s.heap L' h' m') (e : y = x) (F : Fr h₀ L h' m) : Q (.str y t) { s with heap := h', toks := tk' } := by
  subst e; exact ret_val hret FC ⟨t, rfl⟩ F
theorem ret_I {x y : Int} {t : Tok} (hret : ∀ (v : Value) (more : List (Addr × Obj)) (h' : Heap) (tk' : Nat), (more = [] ∧ ∃ t, v = (fun t => Value.int x t) t) → (∀ p ∈ more, h'.get? p.1 = some p.2 ∧ s.heap.get? p.1 = none) → Keeps s.heap h' → Fr h₀ L h' m → Q v { s with heap := h', toks := tk' })
    (FC : Fr s.heap L' h' m') (e : y = x) (F : Fr h₀ L h' m) : Q (.int y t) { s with heap := h', toks := tk' } := by
  subst e; exact ret_val hret FC ⟨t, rfl⟩ F
end
theorem st_known {M : Model} {A : Around} {Q : Unit → Shared → Prop} {E : Value → Shared → Prop} {s : Shared} {env : Env} {x : PySem.Str} {i j : Int} {t : Tok} (e : i = j) (h : wpAny M A (storeName env x (.int j t)) Q E s) : wpAny M A (storeName env x (.int i t)) Q E s := by
  subst e; exact h
/-- a contract used within a walk: one plain value back -/
theorem use_V {prog : Program} {w : World} {K : Frag} {p : Program} {loose : List PySem.Str} {mean : ExcName → Option Value} {mg mb : PySem.Str → Option Value} {d : Nat} {f : Addr} {vs : List Value} {Pre : Heap → Prop} {R : Tok → Value}
    (c : ConV prog w K p loose mean mg mb d f vs Pre R) {dp un : Nat} {gd : Option (List Code)} {cn : PySem.Str} {cs : Scope} {a : Addr} {ccd : Value} {cl : List (PySem.Str × Addr)} {outer : List Env} {A₀ : Around} {base h₀ : Heap} {L : Addr} {m : PySem.Str → Option Value} {s : Shared} {Q E : Value → Shared → Prop} {news : List (Addr × Obj)}
    (B : Below A₀ base outer h₀) (F : Fr h₀ L s.heap m) (X : K.In h₀) (T : Top p loose mean mg mb h₀) (hk : cs.kind = .function) (hd : dp + d < recursionLimit) (hu : un + 30 * d < cLine) (hp : Pre s.heap) (N : News h₀ L s.heap news)
    (h : ∀ t h' tk', Fr h₀ L h' m → News h₀ L h' news → Q (R t) { s with heap := h', toks := tk' }) :
    wpAny (model prog w) (ktrTop dp un gd cn cs L a ccd cl outer) (call (.ref f) vs) Q E s :=
  c dp un gd cn cs a ccd cl outer A₀ base h₀ L m s Q E B F X T hk hd hu hp fun v more h' tk' hR _ k F' => by
    obtain ⟨_, t, rfl⟩ := hR
    exact h t h' tk' F' (news_over N k)
/-- the same: an object made -/
theorem use_O {prog : Program} {w : World} {K : Frag} {p : Program} {loose : List PySem.Str} {mean : ExcName → Option Value} {mg mb : PySem.Str → Option Value} {d : Nat} {f : Addr} {vs : List Value} {Pre : Heap → Prop} {R : Value → List (Addr × Obj) → Prop}
    (c : Con prog w K p loose mean mg mb d f vs Pre R) {dp un : Nat} {gd : Option (List Code)} {cn : PySem.Str} {cs : Scope} {a : Addr} {ccd : Value} {cl : List (PySem.Str × Addr)} {outer : List Env} {A₀ : Around} {base h₀ : Heap} {L : Addr} {m : PySem.Str → Option Value} {s : Shared} {Q E : Value → Shared → Prop} {news : List (Addr × Obj)}
    (B : Below A₀ base outer h₀) (F : Fr h₀ L s.heap m) (X : K.In h₀) (T : Top p loose mean mg mb h₀) (hk : cs.kind = .function) (hd : dp + d < recursionLimit) (hu : un + 30 * d < cLine) (hp : Pre s.heap) (N : News h₀ L s.heap news)
    (h : ∀ v more h' tk', R v more → Fr h₀ L h' m → News h₀ L h' (more ++ news) → (∀ p ∈ more, ∀ q ∈ news, q.1 ≠ p.1) → Q v { s with heap := h', toks := tk' }) :
    wpAny (model prog w) (ktrTop dp un gd cn cs L a ccd cl outer) (call (.ref f) vs) Q E s :=
  c dp un gd cn cs a ccd cl outer A₀ base h₀ L m s Q E B F X T hk hd hu hp fun v more h' tk' hR hm k F' =>
    h v more h' tk' hR F' (news_more F N k hm) fun p hp q hq e => by
      have h1 := (hm p hp).2
      rw [← e, (N q hq).1] at h1; cases h1
/-- a new list, told by its items -/
abbrev ListR (P : List Value → Prop) : Value → List (Addr × Obj) → Prop := fun v more => ∃ (a : Addr) (xs : List Value) (c : Nat), v = .ref a ∧ P xs ∧ more = [(a, { cls := .type "list", data := .seq xs.toArray c })]
theorem ret_L {h₀ h' : Heap} {L L' : Addr} {m m' : PySem.Str → Option Value} {s : Shared} {Q : Value → Shared → Prop} {P : List Value → Prop} {news' : List (Addr × Obj)} {a : Addr} {xs : List Value} {c : Nat} {tk' : Nat}
    (hret : ∀ (v : Value) (more : List (Addr × Obj)) (h' : Heap) (tk' : Nat), (∃ (a : Addr) (xs : List Value) (c : Nat), v = .ref a ∧ P xs ∧ more = [(a, { cls := .type "list", data := .seq xs.toArray c })]) → (∀ p ∈ more, h'.get? p.1 = some p.2 ∧ s.heap.get? p.1 = none) → Keeps s.heap h' → Fr h₀ L h' m → Q v { s with heap := h', toks := tk' })
    (FC : Fr s.heap L' h' m') (NC : News s.heap L' h' news') (hm : (a, ({ cls := .type "list", data := .seq xs.toArray c } : Obj)) ∈ news') (hP : P xs) (F : Fr h₀ L h' m) : Q (.ref a) { s with heap := h', toks := tk' } :=
  hret _ [(a, _)] h' tk' ⟨a, xs, c, rfl, hP, rfl⟩ (fun p hp => by rw [List.mem_singleton.mp hp]; exact ⟨(NC _ hm).1, (NC _ hm).2.2⟩) FC.keep F
end Mine
end
section
open PySem PySem.W PyProof.Rows PySem.Calls PyProof.Rows.LCg PyProof.Rows.LCt
namespace Mine
section
variable {prog : Program} {w : World} {A : Around} {E : Value → Shared → Prop} {s : Shared} {h₀ : Heap} {L : Addr} {m : PySem.Str → Option Value} {env : Env}
/-- a tuple that the call has made -/
def TupAt (ax : Addr) (its : Array Value) (news : List (Addr × Obj)) : Prop := ∃ o, (ax, o) ∈ news ∧ o.cls = .type "tuple" ∧ ∃ n, o.data = .seq its n
theorem TupAt.tup {h₀ h : Heap} {L ax : Addr} {its : Array Value} {news : List (Addr × Obj)} (x : TupAt ax its news) (N : News h₀ L h news) : h.IsTuple ax its := by
  obtain ⟨o, hm, hc, n, hd⟩ := x
  exact ⟨o, (N _ hm).1, hc, n, hd⟩
def SrcTT (prog : Program) (w : World) (A : Around) (h₀ : Heap) (L : Addr) (m : PySem.Str → Option Value) (env : Env) (ct elt : Expr) (x : PySem.Str) (scope : Scope) (cl : List (PySem.Str × Addr)) (Fin : Shared → List Value → List (Addr × Obj) → Prop) (xv : Value) (s₁ : Shared) : Prop :=
  ∃ ax its news, xv = .ref ax ∧ A.handled = none ∧ Fr h₀ L s₁.heap m ∧ News h₀ L s₁.heap news ∧ TupAt ax its news ∧ its.size ≤ sizeLine ∧
    ∀ s₂ : Shared, (∃ h, s₂ = { s₁ with heap := h }) → CompRestT prog w A h₀ L m env ct elt x scope cl s₂ (TupAt ax its) (fun i v => its[i]? = some v) (Fin s₂) its.size 0 [] news
theorem SrcTT.of {ct elt : Expr} {x : PySem.Str} {scope : Scope} {cl : List (PySem.Str × Addr)} {Fin : Shared → List Value → List (Addr × Obj) → Prop} {ax : Addr} {its : Array Value} {k : Nat} {news : List (Addr × Obj)} {s₁ : Shared}
    (hh : A.handled = none) (F : Fr h₀ L s₁.heap m) (N : News h₀ L s₁.heap news) (hm : (ax, ({ cls := .type "tuple", data := .seq its k } : Obj)) ∈ news) (hsz : its.size ≤ sizeLine)
    (h : ∀ g, CompRestT prog w A h₀ L m env ct elt x scope cl { s₁ with heap := g } (TupAt ax its) (fun i v => its[i]? = some v) (Fin { s₁ with heap := g }) its.size 0 [] news) :
    SrcTT prog w A h₀ L m env ct elt x scope cl Fin (.ref ax) s₁ := ⟨ax, its, news, rfl, hh, F, N, ⟨_, hm, rfl, _, rfl⟩, hsz, fun _ ⟨g, e⟩ => e ▸ h g⟩
theorem tup_st {ax I : Addr} {its : Array Value} : ∀ i (h h' : Heap) (o : Obj) (nw : List (Addr × Obj)), (h.IsTupleIter I ax i ∧ h.IsTuple ax its) → h.get? I = some o → h'.get? I = some o → (∀ b o, h₀.get? b = some o → h'.get? b = some o) → News h₀ L h' nw → TupAt ax its nw → (h'.IsTupleIter I ax i ∧ h'.IsTuple ax its) :=
  fun i h h' o nw st e e' _ N S => ⟨by obtain ⟨o', q, r⟩ := st.1; rw [e] at q; cases q; exact ⟨o, e', r⟩, S.tup N⟩
theorem ListComp_TT {ct elt iter : Expr} {x : PySem.Str} {px : Pos} {scope : Scope} {cl : List (PySem.Str × Addr)} {pos : Pos} {Q : Value → Shared → Prop} (F₀ : Fr h₀ L s.heap m)
    (hclos : closureFor scope env = pure cl) (hcell : ∀ y ∈ scope.names, y.2 ≠ .cell) (hkind : scope.kind = .function)
    (hnames : ∀ y ∈ scope.names, y.2 = .local → scope.names.lookup y.1 = some .local) (hx : scope.names.lookup x = some .local)
    (h : wpAny (model prog w) A (eval iter env) (SrcTT prog w A h₀ L m env ct elt x scope cl (fun s₂ => FinE h₀ L m s₂ Q)) E s)
    (hs : ∀ x, foldedSetIterable iter env x = pure x := by intro _; rfl) :
    wpAny (model prog w) A (eval (.ListComp elt [⟨.Name x px, iter, [ct], 0⟩] scope pos) env) Q E s := by
  rw [eval_ListComp]
  refine wpAny_comprehension_free (use := none) rfl hs hclos hkind hnames (wpAny_mono h (fun xv s₁ h₁ => ?_) fun _ _ e => e)
  obtain ⟨ax, its, news, rfl, hh, F, N, S, hsz, R⟩ := h₁
  have hl := S.tup N
  have hlt : ax < s₁.heap.objs.size := by obtain ⟨_, e, _⟩ := hl; exact Heap.lt_size e
  refine wpAny_pyIter_tuple hl ?_
  have up : ∀ b o, s₁.heap.get? b = some o → (s₁.heap.push { cls := .type "tuple_iterator", data := .fields #[.ref ax, .int 0 0] }).get? b = some o := fun b o e => Heap.get?_push_of_some _ e
  refine block_T (Walks.tuple hh s₁.heap.objs.size ax (Nat.ne_of_lt hlt) its) hsz (fun i h st => by obtain ⟨o, e, _⟩ := st.1; exact ⟨o, e⟩) tup_st hcell hkind hx ⟨⟨_, Heap.get?_push_size _ rfl, rfl, rfl⟩, hl.at fun o e => up _ o e⟩ (fun b hb => ?_)
    (F.keeps up) (N.grown up) (Nat.ne_of_lt F.ns.lt) (next_is_new F) (fun p hp => Nat.ne_of_lt (Heap.lt_size (N p hp).1)) S (R _ ⟨_, rfl⟩) ?_
  · show b < (s₁.heap.push _).objs.size
    rw [Heap.size_push]
    rcases List.mem_cons.mp hb with rfl | hb
    · exact Nat.lt_succ_self _
    · rw [List.mem_singleton.mp hb]; exact Nat.lt_succ_of_lt hlt
  · intro D C h tk m' ys news' F' N' o1 hn hC₀ hD₀ hCL hDL hCD offC fin
    refine ⟨m', hn, fun h'' hs'' => fin D h'' tk (F'.change hs'' hCL hC₀) (fun p hp => ?_) o1⟩
    refine ⟨hs''.extBut _ _ ?_ (N' p hp).1, (N' p hp).2⟩
    rcases List.mem_cons.mp hp with rfl | hp
    · exact Ne.symm hCD
    · exact offC p hp
/-- a turn's end: what stood stands, and one item more -/
def ElEnd (h₀ : Heap) (L : Addr) (m : PySem.Str → Option Value) (s₁ : Shared) (all : List (Addr × Obj)) (J : List Value → Prop) (ys : List Value) (y : Value) (s₂ : Shared) : Prop :=
  ∃ h' tk, s₂ = { s₁ with heap := h', toks := tk } ∧ Fr h₀ L h' m ∧ News h₀ L h' all ∧ J (ys ++ [y])
theorem strsAre_len {vs : List Value} {ys : List PySem.Str} (h : StrsAre vs ys) : vs.length = ys.length := by
  induction h with
  | nil => rfl
  | cons z u _ ih => simp [ih]
theorem strsAre_get {vs : List Value} {ys : List PySem.Str} (h : StrsAre vs ys) : ∀ {k : Nat}, k < ys.length → ∃ t, vs[k]? = some (.str (ys.getD k ⟨#[]⟩) t) := by
  induction h with
  | nil => intro k hk; simp at hk
  | cons z u _ ih =>
    intro k hk
    cases k with
    | zero => exact ⟨u, rfl⟩
    | succ k =>
      obtain ⟨t, e⟩ := ih (by simpa using hk)
      exact ⟨t, by simpa using e⟩
/-- an item of a tuple of texts that the call has made -/
theorem item_tstrs {value slice : Expr} {a : Addr} {vs : List Value} {ys : List PySem.Str} {c : Nat} {k : Int} {u : Tok} {news : List (Addr × Obj)} {Q : Value → Shared → Prop} (N : News h₀ L s.heap news) (hm : (a, ({ cls := .type "tuple", data := .seq vs.toArray c } : Obj)) ∈ news)
    (hS : StrsAre vs ys) (h0 : 0 ≤ k) (h1 : k < ys.length) (hz : ys.length ≤ 1000000) (h : ∀ t, Q (.str (ys.getD k.toNat ⟨#[]⟩) t) s)
    (hs : subscripted slice false (.ref a) (.int k u) = operate [.ref a, .int k u] (getItem (.ref a) (.int k u)) := by with_unfolding_all rfl) :
    wpAny (model prog w) A (subscriptTail value slice (.ref a) (.int k u)) Q E s := by
  obtain ⟨t, e⟩ := strsAre_get hS (k := k.toNat) (by omega)
  have hl := strsAre_len hS
  refine item_tupleT (l := vs) (j := k.toNat) ⟨_, (N _ hm).1, rfl, _, rfl⟩ (by omega) (by omega) ?_ e (h t) hs
  exact StrLaws.seqIndex_nonneg h0 (by omega)
end
end Mine
end
section
open PySem PySem.Sre
namespace Mine
theorem op_1 : ops[1]? = some Op.SUCCESS := rfl
theorem op_5 : ops[5]? = some Op.ASSERT_NOT := rfl
theorem op_6 : ops[6]? = some Op.AT := rfl
theorem op_7 : ops[7]? = some Op.BRANCH := rfl
theorem op_15 : ops[15]? = some Op.JUMP := rfl
theorem op_16 : ops[16]? = some Op.LITERAL := rfl
theorem exec_lit {m : M} (hw : m.code.getD m.pc 0 = 16) : m.exec =
    if m.pos ≥ m.lim then { m with seen := m.seen.add 16 }.say false else
    if m.text.getD m.pos 0 = m.code.getD (m.pc + 1) 0 then { m with seen := m.seen.add 16, pc := m.pc + 2, pos := m.pos + 1 } else { m with seen := m.seen.add 16 }.say false := by
  have h0 : m.word 0 = 16 := hw
  unfold M.exec
  rw [h0, op_16]
  dsimp only
  split
  · rfl
  · unfold accepts
    rw [hw, op_16]
    dsimp only
    by_cases hc : m.text.getD m.pos 0 = m.code.getD (m.pc + 1) 0
    · rw [if_pos hc]
      simp only [hc, beq_self_eq_true, itemWidth, hw, op_16]
    · rw [if_neg hc]
      have : (m.text.getD m.pos 0 == m.code.getD (m.pc + 1) 0) = false := by simpa using hc
      simp only [this]
theorem exec_at1 {m : M} (hw : m.code.getD m.pc 0 = 6) (hw1 : m.code.getD (m.pc + 1) 0 = 1) : m.exec =
    if m.pos = 0 ∨ m.text.getD (m.pos - 1) 0 = 10 then { m with seen := (m.seen.add 6).add 44, pc := m.pc + 2 } else { m with seen := (m.seen.add 6).add 44 }.say false := by
  have h0 : m.word 0 = 6 := hw
  have h1 : m.word 1 = 1 := hw1
  unfold M.exec
  rw [h0, op_6]
  have h2 : ({ m with seen := m.seen.add 6 } : M).isAt (({ m with seen := m.seen.add 6 } : M).word 1) = .ok (m.pos == 0 || m.text.getD (m.pos - 1) 0 == 10) := by
    rw [show ({ m with seen := m.seen.add 6 } : M).word 1 = 1 from h1]; rfl
  dsimp only
  rw [h2]
  dsimp only
  rw [show ({ m with seen := m.seen.add 6 } : M).word 1 = 1 from h1]
  by_cases hc : m.pos = 0 ∨ m.text.getD (m.pos - 1) 0 = 10
  · rw [if_pos hc]
    have : (m.pos == 0 || m.text.getD (m.pos - 1) 0 == 10) = true := by simpa using hc
    rw [this, if_pos rfl]
  · rw [if_neg hc]
    have : (m.pos == 0 || m.text.getD (m.pos - 1) 0 == 10) = false := by simpa using hc
    rw [this]; rfl
theorem exec_success {m : M} (hw : m.code.getD m.pc 0 = 1) (h : m.outermost = false ∨ (m.wholeText = false ∧ m.pos ≠ m.start)) : m.exec = { m with seen := m.seen.add 1, handed := m.pos }.say true := by
  have h0 : m.word 0 = 1 := hw
  unfold M.exec
  rw [h0, op_1]
  dsimp only
  have : (m.outermost && ((m.wholeText && m.pos != m.lim) || (m.mustAdvance && m.pos == m.start))) = false := by
    rcases h with h | ⟨h1, h2⟩
    · rw [h]; rfl
    · have : (m.pos == m.start) = false := by simpa using h2
      rw [h1, this]; simp
  rw [if_neg (by rw [this]; simp)]
theorem exec_jump {m : M} (hw : m.code.getD m.pc 0 = 15) : m.exec = { m with seen := m.seen.add 15, pc := m.pc + 1 + m.code.getD (m.pc + 1) 0 } := by
  have h0 : m.word 0 = 15 := hw
  unfold M.exec
  rw [h0, op_15]
  rfl
theorem exec_branch {m : M} (hw : m.code.getD m.pc 0 = 7) : m.exec = ({ m with seen := m.seen.add 7 } : M).alternative (m.pc + 1) (({ m with seen := m.seen.add 7 } : M).keep m.inner.isSome) := by
  have h0 : m.word 0 = 7 := hw
  unfold M.exec
  rw [h0, op_7]
theorem exec_assertNot {m : M} (hw : m.code.getD m.pc 0 = 5) (h2 : m.code.getD (m.pc + 2) 0 = 0) : m.exec =
    ({ m with seen := m.seen.add 5 } : M).attempt { ({ m with seen := m.seen.add 5 } : M).frame .lookNot with kept := ({ m with seen := m.seen.add 5 } : M).keep m.inner.isSome } (m.pc + 3) m.pos false := by
  have h0 : m.word 0 = 5 := hw
  unfold M.exec
  rw [h0, op_5]
  dsimp only
  rw [show ({ m with seen := m.seen.add 5 } : M).word 2 = 0 from h2]
  simp
theorem exec_lit_ok {m : M} (hw : m.code.getD m.pc 0 = 16) (hp : m.pos < m.lim) (hc : m.text.getD m.pos 0 = m.code.getD (m.pc + 1) 0) : m.exec = { m with seen := m.seen.add 16, pc := m.pc + 2, pos := m.pos + 1 } := by
  rw [exec_lit hw, if_neg (Nat.not_le.mpr hp), if_pos hc]
theorem exec_lit_no {m : M} (hw : m.code.getD m.pc 0 = 16) (h : m.lim ≤ m.pos ∨ m.text.getD m.pos 0 ≠ m.code.getD (m.pc + 1) 0) : m.exec = { m with seen := m.seen.add 16 }.say false := by
  rw [exec_lit hw]
  by_cases hp : m.pos ≥ m.lim
  · rw [if_pos hp]
  · rw [if_neg hp, if_neg (h.resolve_left hp)]
theorem exec_at1_ok {m : M} (hw : m.code.getD m.pc 0 = 6) (hw1 : m.code.getD (m.pc + 1) 0 = 1) (h : m.pos = 0 ∨ m.text.getD (m.pos - 1) 0 = 10) : m.exec = { m with seen := (m.seen.add 6).add 44, pc := m.pc + 2 } := by
  rw [exec_at1 hw hw1, if_pos h]
theorem exec_at1_no {m : M} (hw : m.code.getD m.pc 0 = 6) (hw1 : m.code.getD (m.pc + 1) 0 = 1) (h : ¬ (m.pos = 0 ∨ m.text.getD (m.pos - 1) 0 = 10)) : m.exec = { m with seen := (m.seen.add 6).add 44 }.say false := by
  rw [exec_at1 hw hw1, if_neg h]
/-! runs -/
def To (k : Nat) (m m' : M) : Prop := M.runFor k m = m'
theorem step_done {m : M} (h : m.outcome.isSome = true) : m.step = m := by unfold M.step; rw [if_pos h]
theorem runFor_done {m : M} (h : m.outcome.isSome = true) : ∀ k, M.runFor k m = m
  | 0 => rfl
  | k + 1 => by unfold M.runFor; rw [if_pos h]
theorem runFor_succ (k : Nat) (m : M) : M.runFor (k + 1) m = M.runFor k m.step := by
  show (if m.outcome.isSome then m else M.runFor k m.step) = _
  split
  · rename_i h; rw [step_done h, runFor_done h]
  · rfl
theorem runFor_add (b : Nat) : ∀ (a : Nat) (m : M), M.runFor (a + b) m = M.runFor b (M.runFor a m)
  | 0, m => by rw [Nat.zero_add]; rfl
  | a + 1, m => by rw [Nat.succ_add, runFor_succ, runFor_succ, runFor_add b a]
theorem To.trans {a b : Nat} {m m' m'' : M} (h : To a m m') (h' : To b m' m'') : To (a + b) m m'' := by
  unfold To at *; rw [runFor_add, h, h']
theorem To.one {m m' : M} (h : m.step = m') : To 1 m m' := by unfold To; rw [runFor_succ, h]; rfl
theorem step_exec {m : M} (ho : m.outcome = none) (ha : m.answer = none) (hp : m.pc < m.code.size) : m.step = m.exec := by
  unfold M.step
  rw [if_neg (by rw [ho]; simp), ha]
  cases m.frames <;> simp only [if_pos hp]
theorem step_nil {m : M} {yes : Bool} (ho : m.outcome = none) (ha : m.answer = some yes) (hf : m.frames = []) : m.step = { m with outcome := some (if yes then .matched else .failed) } := by
  unfold M.step
  rw [if_neg (by rw [ho]; simp), ha, hf]
theorem step_cons {m : M} {yes : Bool} {f : PySem.Sre.Frame} {rest : List PySem.Sre.Frame} (ho : m.outcome = none) (ha : m.answer = some yes) (hf : m.frames = f :: rest) :
    m.step = M.resume { m with answer := none, frames := rest, weight := m.weight - (1 + f.kept.marks.size), pc := f.pc, pos := f.pos, outermost := f.outermost } f yes := by
  unfold M.step
  rw [if_neg (by rw [ho]; simp), ha, hf]
def code1 : Array Nat := #[14, 4, 0, 1, 1, 6, 1, 16, 46, 1]
def code2 : Array Nat := #[14, 9, 4, 1, 2, 16, 10, 16, 13, 0, 7, 7, 16, 13, 16, 10, 15, 18, 5, 16, 10, 15, 13, 11, 16, 13, 5, 5, 0, 16, 10, 1, 15, 2, 0, 1]
/-- an attempt at s -/
def att (code : Array Nat) (body : Nat) (t : Array Nat) (n s : Nat) (ob md : Bool) (sn : Seen) : M :=
  { code, text := t, lim := n, start := s, lastStart := n, wholeText := false, mustAdvance := md, pc := body, pos := s, handed := s, outermost := ob, marks := #[], lastmark := -1, lastindex := -1, loops := #[], inner := none,
    frames := [{ wait := .nextStart, pc := body, pos := s, outermost := ob }], weight := 1, answer := none, seen := sn, outcome := none }
def Hit1 (t : Array Nat) (n q : Nat) : Prop := q < n ∧ (q = 0 ∨ t.getD (q - 1) 0 = 10) ∧ t.getD q 0 = 46
def ans (m : M) (b : Bool) (sn : Seen) : M := { m with answer := some b, seen := sn }
/-- an answer goes to the one frame: yes -/
theorem yes_up {m : M} {code : Array Nat} {body : Nat} {s : Nat} {ob : Bool} (ho : m.outcome = none) (ha : m.answer = some true) (hf : m.frames = [{ wait := .nextStart, pc := body, pos := s, outermost := ob }]) (_hc : m.code = code) :
    ∃ m', To 2 m m' ∧ m'.outcome = some .matched ∧ m'.start = m.start ∧ m'.handed = m.handed := by
  have e1 := step_cons ho ha hf
  refine ⟨_, (To.one e1).trans (To.one (step_nil (yes := true) ?_ ?_ ?_)), ?_, ?_, ?_⟩
  · exact ho
  · rfl
  · rfl
  · rfl
  · rfl
  · rfl
theorem att1_hit {t : Array Nat} {n s : Nat} {ob md : Bool} {sn : Seen} (h : Hit1 t n s) : ∃ m', To 5 (att code1 5 t n s ob md sn) m' ∧ m'.outcome = some .matched ∧ m'.start = s ∧ m'.handed = s + 1 := by
  obtain ⟨h1, h2, h3⟩ := h
  have e1 : (att code1 5 t n s ob md sn).step = { att code1 5 t n s ob md sn with seen := (sn.add 6).add 44, pc := 7 } := by
    rw [step_exec rfl rfl (show 5 < 10 by omega), exec_at1_ok rfl rfl h2]; rfl
  have e2 : ({ att code1 5 t n s ob md sn with seen := (sn.add 6).add 44, pc := 7 } : M).step = { att code1 5 t n s ob md sn with seen := ((sn.add 6).add 44).add 16, pc := 9, pos := s + 1 } := by
    rw [step_exec rfl rfl (show 7 < 10 by omega), exec_lit_ok rfl h1 h3]; rfl
  have e3 : ({ att code1 5 t n s ob md sn with seen := ((sn.add 6).add 44).add 16, pc := 9, pos := s + 1 } : M).step = { att code1 5 t n s ob md sn with seen := (((sn.add 6).add 44).add 16).add 1, pc := 9, pos := s + 1, handed := s + 1, answer := some true } := by
    rw [step_exec rfl rfl (show 9 < 10 by omega), exec_success rfl (.inr ⟨rfl, Nat.succ_ne_self s⟩)]; rfl
  obtain ⟨m', r, a, b, c⟩ := yes_up (m := { att code1 5 t n s ob md sn with seen := (((sn.add 6).add 44).add 16).add 1, pc := 9, pos := s + 1, handed := s + 1, answer := some true }) rfl rfl rfl rfl
  exact ⟨m', (((To.one e1).trans (To.one e2)).trans (To.one e3)).trans r, a, b, c⟩
theorem resume_next_on {m : M} {pc pos : Nat} {ob : Bool} (h : pos < m.lastStart) : M.resume m { wait := .nextStart, pc := pc, pos := pos, outermost := ob } false = ({ m with mustAdvance := false } : M).attemptFrom (pos + 1) false :=
  (show M.resume m { wait := .nextStart, pc := pc, pos := pos, outermost := ob } false = if pos < m.lastStart then ({ m with mustAdvance := false } : M).attemptFrom (pos + 1) false else m.say false from rfl).trans (if_pos h)
theorem resume_next_end {m : M} {pc pos : Nat} {ob : Bool} (h : ¬ pos < m.lastStart) : M.resume m { wait := .nextStart, pc := pc, pos := pos, outermost := ob } false = m.say false :=
  (show M.resume m { wait := .nextStart, pc := pc, pos := pos, outermost := ob } false = if pos < m.lastStart then ({ m with mustAdvance := false } : M).attemptFrom (pos + 1) false else m.say false from rfl).trans (if_neg h)
/-- an answer no at the one frame, code 1 -/
theorem no_up1 {t : Array Nat} {n s pos pc : Nat} {ob md : Bool} {sn : Seen} (h : s < n) : ∃ m', To 1 ({ att code1 5 t n s ob md sn with pc := pc, pos := pos, answer := some false } : M) m' ∧ m' = att code1 5 t n (s + 1) false false sn :=
  ⟨_, To.one (step_cons (yes := false) rfl rfl rfl), (resume_next_on h).trans rfl⟩
theorem no_last1 {t : Array Nat} {n pos pc : Nat} {ob md : Bool} {sn : Seen} : ∃ m', To 2 ({ att code1 5 t n n ob md sn with pc := pc, pos := pos, answer := some false } : M) m' ∧ m'.outcome = some .failed := by
  have e1 := (step_cons (m := ({ att code1 5 t n n ob md sn with pc := pc, pos := pos, answer := some false } : M)) (yes := false) rfl rfl rfl).trans (resume_next_end (Nat.lt_irrefl n))
  exact ⟨_, (To.one e1).trans (To.one (step_nil (yes := false) rfl rfl rfl)), rfl⟩
/-- no hit at s: the answer no, one or two steps on -/
theorem att1_no {t : Array Nat} {n s : Nat} {ob md : Bool} {sn : Seen} (h : ¬ Hit1 t n s) : ∃ k pc pos sn', k ≤ 2 ∧ To k (att code1 5 t n s ob md sn) { att code1 5 t n s ob md sn' with pc := pc, pos := pos, answer := some false } := by
  by_cases h2 : s = 0 ∨ t.getD (s - 1) 0 = 10
  · have e1 : (att code1 5 t n s ob md sn).step = { att code1 5 t n s ob md sn with seen := (sn.add 6).add 44, pc := 7 } := by
      rw [step_exec rfl rfl (show 5 < 10 by omega), exec_at1_ok rfl rfl h2]; rfl
    refine ⟨2, 7, s, ((sn.add 6).add 44).add 16, Nat.le_refl _, (To.one e1).trans (To.one ?_)⟩
    rw [step_exec rfl rfl (show 7 < 10 by omega), exec_lit_no rfl (show n ≤ s ∨ t.getD s 0 ≠ 46 from (Nat.lt_or_ge s n).elim (fun h1 => .inr fun h3 => h ⟨h1, h2, h3⟩) .inl)]; rfl
  · refine ⟨1, 5, s, (sn.add 6).add 44, by omega, To.one ?_⟩
    rw [step_exec rfl rfl (show 5 < 10 by omega), exec_at1_no rfl rfl h2]; rfl
/-- from an attempt at s on: the first hit, or none -/
theorem from1_hit {t : Array Nat} {n p : Nat} (hp : Hit1 t n p) : ∀ (d s : Nat) (ob md : Bool) (sn : Seen), s + d = p → (∀ q, s ≤ q → q < p → ¬ Hit1 t n q) →
    ∃ k m', k ≤ 3 * d + 5 ∧ To k (att code1 5 t n s ob md sn) m' ∧ m'.outcome = some .matched ∧ m'.start = p ∧ m'.handed = p + 1
  | 0, s, ob, md, sn, e, _ => by
    obtain rfl : s = p := by omega
    obtain ⟨m', r⟩ := att1_hit (ob := ob) (md := md) (sn := sn) hp
    exact ⟨5, m', by omega, r⟩
  | d + 1, s, ob, md, sn, e, hn => by
    obtain ⟨k, pc, pos, sn', hk, r⟩ := att1_no (ob := ob) (md := md) (sn := sn) (hn s (Nat.le_refl _) (by omega))
    obtain ⟨m₁, r₁, rfl⟩ := no_up1 (t := t) (n := n) (s := s) (pos := pos) (pc := pc) (ob := ob) (md := md) (sn := sn') (by have := hp.1; omega)
    obtain ⟨k', m', hk', r', o⟩ := from1_hit hp d (s + 1) false false sn' (by omega) (fun q a b => hn q (by omega) b)
    exact ⟨k + 1 + k', m', by omega, (r.trans r₁).trans r', o⟩
theorem from1_none {t : Array Nat} {n : Nat} : ∀ (d s : Nat) (ob md : Bool) (sn : Seen), s + d = n → (∀ q, s ≤ q → ¬ Hit1 t n q) →
    ∃ k m', k ≤ 3 * d + 5 ∧ To k (att code1 5 t n s ob md sn) m' ∧ m'.outcome = some .failed
  | 0, s, ob, md, sn, e, hn => by
    obtain rfl : s = n := by omega
    obtain ⟨k, pc, pos, sn', hk, r⟩ := att1_no (ob := ob) (md := md) (sn := sn) (hn s (Nat.le_refl _))
    obtain ⟨m', r', o⟩ := no_last1 (t := t) (n := s) (pos := pos) (pc := pc) (ob := ob) (md := md) (sn := sn')
    exact ⟨k + 2, m', by omega, r.trans r', o⟩
  | d + 1, s, ob, md, sn, e, hn => by
    obtain ⟨k, pc, pos, sn', hk, r⟩ := att1_no (ob := ob) (md := md) (sn := sn) (hn s (Nat.le_refl _))
    obtain ⟨m₁, r₁, rfl⟩ := no_up1 (t := t) (n := n) (s := s) (pos := pos) (pc := pc) (ob := ob) (md := md) (sn := sn') (by omega)
    obtain ⟨k', m', hk', r', o⟩ := from1_none d (s + 1) false false sn' (by omega) (fun q a => hn q (by omega))
    exact ⟨k + 1 + k', m', by omega, (r.trans r₁).trans r', o⟩
theorem search1_start {t : Array Nat} {n s : Nat} {must : Bool} (h : s < n) : ∃ sn, forSearch code1 t 0 s n must = att code1 5 t n s true must sn := by
  refine ⟨({} : Seen).add 14, ?_⟩
  unfold forSearch
  have e : header code1 = (1, 5) := rfl
  rw [e]
  dsimp only
  rw [if_neg (by simp; omega)]
  rfl
theorem search1_over {t : Array Nat} {n s : Nat} {must : Bool} (h : n ≤ s) : ∃ m', To 1 (forSearch code1 t 0 s n must) m' ∧ m'.outcome = some .failed := by
  unfold forSearch
  have e : header code1 = (1, 5) := rfl
  rw [e]
  dsimp only
  rw [if_pos (by simp; omega)]
  exact ⟨_, To.one rfl, rfl⟩
/-! the second pattern -/
def nbF (pc p : Nat) (ob : Bool) : PySem.Sre.Frame := { wait := .nextBranch, pc := pc, pos := p, outermost := ob }
def lnF (p : Nat) (ob : Bool) : PySem.Sre.Frame := { wait := .lookNot, pc := 26, pos := p, outermost := ob }
def nsF (p : Nat) (ob : Bool) : PySem.Sre.Frame := { wait := .nextStart, pc := 10, pos := p, outermost := ob }
/-- within an attempt at p -/
def inB (t : Array Nat) (n p : Nat) (ob : Bool) (sn : Seen) (pc pos hd : Nat) (oo : Bool) (fs : List PySem.Sre.Frame) (wt : Nat) (an : Option Bool) : M :=
  { att code2 10 t n p ob false sn with pc := pc, pos := pos, handed := hd, outermost := oo, frames := fs, weight := wt, answer := an }
section
variable {t : Array Nat} {n p : Nat} {ob : Bool} {sn : Seen}
theorem b_branch : ∃ sn', To 1 (att code2 10 t n p ob false sn) (inB t n p ob sn' 12 p p ob [nbF 11 p ob, nsF p ob] 2 none) :=
  ⟨sn.add 7, To.one (by rw [step_exec rfl rfl (show 10 < 36 by omega), exec_branch rfl]; rfl)⟩
theorem b_lit_ok {pc pos hd wt : Nat} {oo : Bool} {fs : List PySem.Sre.Frame} (hpc : pc < 36) (hw : code2.getD pc 0 = 16) (hp : pos < n) (hc : t.getD pos 0 = code2.getD (pc + 1) 0) :
    ∃ sn', To 1 (inB t n p ob sn pc pos hd oo fs wt none) (inB t n p ob sn' (pc + 2) (pos + 1) hd oo fs wt none) :=
  ⟨sn.add 16, To.one (by rw [step_exec rfl rfl hpc, exec_lit_ok hw hp hc]; rfl)⟩
theorem b_lit_no {pc pos hd wt : Nat} {oo : Bool} {fs : List PySem.Sre.Frame} (hpc : pc < 36) (hw : code2.getD pc 0 = 16) (h : n ≤ pos ∨ t.getD pos 0 ≠ code2.getD (pc + 1) 0) :
    ∃ sn', To 1 (inB t n p ob sn pc pos hd oo fs wt none) (inB t n p ob sn' pc pos hd oo fs wt (some false)) :=
  ⟨sn.add 16, To.one (by rw [step_exec rfl rfl hpc, exec_lit_no hw h]; rfl)⟩
theorem b_jump {pc pos hd wt : Nat} {oo : Bool} {fs : List PySem.Sre.Frame} (hpc : pc < 36) (hw : code2.getD pc 0 = 15) :
    ∃ sn', To 1 (inB t n p ob sn pc pos hd oo fs wt none) (inB t n p ob sn' (pc + 1 + code2.getD (pc + 1) 0) pos hd oo fs wt none) :=
  ⟨sn.add 15, To.one (by rw [step_exec rfl rfl hpc, exec_jump hw]; rfl)⟩
theorem b_success {pos hd wt : Nat} {oo : Bool} {fs : List PySem.Sre.Frame} (h : pos ≠ p) :
    ∃ sn', To 1 (inB t n p ob sn 35 pos hd oo fs wt none) (inB t n p ob sn' 35 pos pos oo fs wt (some true)) :=
  ⟨sn.add 1, To.one (by rw [step_exec rfl rfl (show 35 < 36 by omega), exec_success rfl (.inr ⟨rfl, h⟩)]; rfl)⟩
/-- the branch's next way -/
theorem b_next {pc pos hd : Nat} {oo : Bool} {k : Nat} (hk : k = 11 ∨ k = 18) :
    To 1 (inB t n p ob sn pc pos hd oo [nbF k p ob, nsF p ob] 2 (some false)) (inB t n p ob sn (k + code2.getD k 0 + 1) p p ob [nbF (k + code2.getD k 0) p ob, nsF p ob] 2 none) := by
  refine To.one ((step_cons (yes := false) rfl rfl rfl).trans ?_)
  rcases hk with rfl | rfl <;> rfl
theorem b_look {pos hd : Nat} {k : Nat} : ∃ sn', To 1 (inB t n p ob sn 26 pos hd ob [nbF k p ob, nsF p ob] 2 none) (inB t n p ob sn' 29 pos pos false [lnF pos ob, nbF k p ob, nsF p ob] 3 none) :=
  ⟨sn.add 5, To.one (by rw [step_exec rfl rfl (show 26 < 36 by omega), exec_assertNot rfl rfl]; rfl)⟩
theorem b_unlook {pc pos pos' hd : Nat} {k : Nat} : To 1 (inB t n p ob sn pc pos hd false [lnF pos' ob, nbF k p ob, nsF p ob] 3 (some false)) (inB t n p ob sn 32 pos' hd ob [nbF k p ob, nsF p ob] 2 none) :=
  To.one ((step_cons (yes := false) rfl rfl rfl).trans rfl)
theorem b_yes {pos hd k : Nat} {oo : Bool} : ∃ m', To 3 (inB t n p ob sn 35 pos hd oo [nbF k p ob, nsF p ob] 2 (some true)) m' ∧ m'.outcome = some .matched ∧ m'.start = p ∧ m'.handed = hd := by
  have e1 : (inB t n p ob sn 35 pos hd oo [nbF k p ob, nsF p ob] 2 (some true)).step = inB t n p ob sn k p hd ob [nsF p ob] 1 (some true) := (step_cons (yes := true) rfl rfl rfl).trans rfl
  have e2 : (inB t n p ob sn k p hd ob [nsF p ob] 1 (some true)).step = inB t n p ob sn 10 p hd ob [] 0 (some true) := (step_cons (yes := true) rfl rfl rfl).trans rfl
  exact ⟨_, ((To.one e1).trans (To.one e2)).trans (To.one (step_nil (yes := true) rfl rfl rfl)), rfl, rfl, rfl⟩
end
/-- the width of the line end at p: 0 if there is none -/
def wid (t : Array Nat) (n p : Nat) : Nat := if t.getD p 0 = 13 then (if p + 1 < n ∧ t.getD (p + 1) 0 = 10 then 2 else 1) else 1
def Hit2 (t : Array Nat) (n q : Nat) : Prop := q < n ∧ (t.getD q 0 = 10 ∨ t.getD q 0 = 13)
theorem att2_hit {t : Array Nat} {n p : Nat} {ob : Bool} {sn : Seen} (h : Hit2 t n p) : ∃ k m', k ≤ 20 ∧ To k (att code2 10 t n p ob false sn) m' ∧ m'.outcome = some .matched ∧ m'.start = p ∧ m'.handed = p + wid t n p := by
  obtain ⟨hp, hc⟩ := h
  obtain ⟨s1, r1⟩ := b_branch (t := t) (n := n) (p := p) (ob := ob) (sn := sn)
  by_cases h13 : t.getD p 0 = 13
  · obtain ⟨s2, r2⟩ := b_lit_ok (p := p) (ob := ob) (sn := s1) (hd := p) (wt := 2) (oo := ob) (fs := [nbF 11 p ob, nsF p ob]) (pc := 12) (by omega) rfl hp (show t.getD p 0 = 13 from h13)
    by_cases h10 : p + 1 < n ∧ t.getD (p + 1) 0 = 10
    · obtain ⟨s3, r3⟩ := b_lit_ok (p := p) (ob := ob) (sn := s2) (hd := p) (wt := 2) (oo := ob) (fs := [nbF 11 p ob, nsF p ob]) (pc := 14) (by omega) rfl h10.1 (show t.getD (p + 1) 0 = 10 from h10.2)
      obtain ⟨s4, r4⟩ := b_jump (t := t) (n := n) (p := p) (ob := ob) (sn := s3) (pos := p + 1 + 1) (hd := p) (wt := 2) (oo := ob) (fs := [nbF 11 p ob, nsF p ob]) (pc := 16) (by omega) rfl
      obtain ⟨s5, r5⟩ := b_success (t := t) (n := n) (p := p) (ob := ob) (sn := s4) (pos := p + 1 + 1) (hd := p) (wt := 2) (oo := ob) (fs := [nbF 11 p ob, nsF p ob]) (by omega)
      obtain ⟨m', r6, a, b, c⟩ := b_yes (t := t) (n := n) (p := p) (ob := ob) (sn := s5) (pos := p + 1 + 1) (hd := p + 1 + 1) (k := 11) (oo := ob)
      refine ⟨_, m', ?_, ((((r1.trans r2).trans r3).trans r4).trans r5).trans r6, a, b, ?_⟩
      · omega
      · rw [c]; unfold wid; rw [if_pos h13, if_pos h10]
    · obtain ⟨s3, r3⟩ := b_lit_no (t := t) (n := n) (p := p) (ob := ob) (sn := s2) (pos := p + 1) (hd := p) (wt := 2) (oo := ob) (fs := [nbF 11 p ob, nsF p ob]) (pc := 14) (by omega) rfl
        (show n ≤ p + 1 ∨ t.getD (p + 1) 0 ≠ 10 from (Nat.lt_or_ge (p + 1) n).elim (fun a => .inr fun b => h10 ⟨a, b⟩) .inl)
      have r4 := b_next (t := t) (n := n) (p := p) (ob := ob) (sn := s3) (pc := 14) (pos := p + 1) (hd := p) (oo := ob) (k := 11) (.inl rfl)
      obtain ⟨s5, r5⟩ := b_lit_no (t := t) (n := n) (p := p) (ob := ob) (sn := s3) (pos := p) (hd := p) (wt := 2) (oo := ob) (fs := [nbF 18 p ob, nsF p ob]) (pc := 19) (by omega) rfl
        (show n ≤ p ∨ t.getD p 0 ≠ 10 from .inr (by rw [h13]; decide))
      have r6 := b_next (t := t) (n := n) (p := p) (ob := ob) (sn := s5) (pc := 19) (pos := p) (hd := p) (oo := ob) (k := 18) (.inr rfl)
      obtain ⟨s7, r7⟩ := b_lit_ok (p := p) (ob := ob) (sn := s5) (hd := p) (wt := 2) (oo := ob) (fs := [nbF 23 p ob, nsF p ob]) (pc := 24) (by omega) rfl hp (show t.getD p 0 = 13 from h13)
      obtain ⟨s8, r8⟩ := b_look (t := t) (n := n) (p := p) (ob := ob) (sn := s7) (pos := p + 1) (hd := p) (k := 23)
      obtain ⟨s9, r9⟩ := b_lit_no (t := t) (n := n) (p := p) (ob := ob) (sn := s8) (pos := p + 1) (hd := p + 1) (wt := 3) (oo := false) (fs := [lnF (p + 1) ob, nbF 23 p ob, nsF p ob]) (pc := 29) (by omega) rfl
        (show n ≤ p + 1 ∨ t.getD (p + 1) 0 ≠ 10 from (Nat.lt_or_ge (p + 1) n).elim (fun a => .inr fun b => h10 ⟨a, b⟩) .inl)
      have r10 := b_unlook (t := t) (n := n) (p := p) (ob := ob) (sn := s9) (pc := 29) (pos := p + 1) (pos' := p + 1) (hd := p + 1) (k := 23)
      obtain ⟨s11, r11⟩ := b_jump (t := t) (n := n) (p := p) (ob := ob) (sn := s9) (pos := p + 1) (hd := p + 1) (wt := 2) (oo := ob) (fs := [nbF 23 p ob, nsF p ob]) (pc := 32) (by omega) rfl
      obtain ⟨s12, r12⟩ := b_success (t := t) (n := n) (p := p) (ob := ob) (sn := s11) (pos := p + 1) (hd := p + 1) (wt := 2) (oo := ob) (fs := [nbF 23 p ob, nsF p ob]) (by omega)
      obtain ⟨m', r13, a, b, c⟩ := b_yes (t := t) (n := n) (p := p) (ob := ob) (sn := s12) (pos := p + 1) (hd := p + 1) (k := 23) (oo := ob)
      refine ⟨_, m', ?_, (((((((((((r1.trans r2).trans r3).trans r4).trans r5).trans r6).trans r7).trans r8).trans r9).trans r10).trans r11).trans r12).trans r13, a, b, ?_⟩
      · omega
      · rw [c]; unfold wid; rw [if_pos h13, if_neg h10]
  · have hc10 : t.getD p 0 = 10 := hc.resolve_right h13
    obtain ⟨s2, r2⟩ := b_lit_no (t := t) (n := n) (p := p) (ob := ob) (sn := s1) (pos := p) (hd := p) (wt := 2) (oo := ob) (fs := [nbF 11 p ob, nsF p ob]) (pc := 12) (by omega) rfl (show n ≤ p ∨ t.getD p 0 ≠ 13 from .inr h13)
    have r3 := b_next (t := t) (n := n) (p := p) (ob := ob) (sn := s2) (pc := 12) (pos := p) (hd := p) (oo := ob) (k := 11) (.inl rfl)
    obtain ⟨s4, r4⟩ := b_lit_ok (p := p) (ob := ob) (sn := s2) (hd := p) (wt := 2) (oo := ob) (fs := [nbF 18 p ob, nsF p ob]) (pc := 19) (by omega) rfl hp (show t.getD p 0 = 10 from hc10)
    obtain ⟨s5, r5⟩ := b_jump (t := t) (n := n) (p := p) (ob := ob) (sn := s4) (pos := p + 1) (hd := p) (wt := 2) (oo := ob) (fs := [nbF 18 p ob, nsF p ob]) (pc := 21) (by omega) rfl
    obtain ⟨s6, r6⟩ := b_success (t := t) (n := n) (p := p) (ob := ob) (sn := s5) (pos := p + 1) (hd := p) (wt := 2) (oo := ob) (fs := [nbF 18 p ob, nsF p ob]) (by omega)
    obtain ⟨m', r7, a, b, c⟩ := b_yes (t := t) (n := n) (p := p) (ob := ob) (sn := s6) (pos := p + 1) (hd := p + 1) (k := 18) (oo := ob)
    refine ⟨_, m', ?_, (((((r1.trans r2).trans r3).trans r4).trans r5).trans r6).trans r7, a, b, ?_⟩
    · omega
    · rw [c]; unfold wid; rw [if_neg h13]
/-! the first set -/
theorem inSet2 (c : Nat) (sn : Seen) : ∃ sn', inSet code2 c code2.size 5 true sn = .ok (decide (c = 10 ∨ c = 13), sn') := by
  have e : inSet code2 c code2.size 5 true sn = if (c == 10) = true then .ok (true, sn.add 16) else if (c == 13) = true then .ok (true, (sn.add 16).add 16) else .ok (false, ((sn.add 16).add 16).add 0) := rfl
  by_cases h1 : c = 10
  · exact ⟨sn.add 16, by rw [e, if_pos (by simp [h1])]; simp [h1]⟩
  · by_cases h2 : c = 13
    · exact ⟨(sn.add 16).add 16, by rw [e, if_neg (by simpa using h1), if_pos (by simp [h2])]; simp [h2]⟩
    · exact ⟨((sn.add 16).add 16).add 0, by rw [e, if_neg (by simpa using h1), if_neg (by simpa using h2)]; simp [h1, h2]⟩
theorem admitted_hit {m : M} {t : Array Nat} {n p : Nat} (hc : m.code = code2) (ht : m.text = t) (hn : m.lim = n) (hp : Hit2 t n p) : ∀ (d s fuel : Nat) (sn : Seen), s + d = p → d < fuel → (∀ q, s ≤ q → q < p → ¬ Hit2 t n q) →
    ∃ sn', M.admitted m fuel s sn = .ok (some p, sn')
  | d, s, 0, sn, _, hf, _ => by omega
  | 0, s, fuel + 1, sn, e, _, _ => by
    obtain rfl : s = p := by omega
    obtain ⟨sn', e'⟩ := inSet2 (t.getD s 0) sn
    refine ⟨sn', ?_⟩
    unfold M.admitted
    rw [if_neg (by rw [hn]; exact Nat.not_le.mpr hp.1), hc, ht, e', decide_eq_true hp.2]
  | d + 1, s, fuel + 1, sn, e, hf, hno => by
    obtain ⟨sn₁, e₁⟩ := inSet2 (t.getD s 0) sn
    obtain ⟨sn', e'⟩ := admitted_hit hc ht hn hp d (s + 1) fuel sn₁ (by omega) (by omega) (fun q a b => hno q (by omega) b)
    refine ⟨sn', ?_⟩
    unfold M.admitted
    have hlt : s < n := by have := hp.1; omega
    rw [if_neg (by rw [hn]; exact Nat.not_le.mpr hlt), hc, ht, e₁, decide_eq_false (fun h => hno s (Nat.le_refl _) (by omega) ⟨hlt, h⟩)]
    exact e'
theorem admitted_none {m : M} {t : Array Nat} {n : Nat} (hc : m.code = code2) (ht : m.text = t) (hn : m.lim = n) : ∀ (fuel s : Nat) (sn : Seen), (∀ q, s ≤ q → ¬ Hit2 t n q) →
    ∃ sn', M.admitted m fuel s sn = .ok (none, sn')
  | 0, s, sn, _ => ⟨sn, rfl⟩
  | fuel + 1, s, sn, hno => by
    unfold M.admitted
    by_cases h : s ≥ m.lim
    · exact ⟨sn, by rw [if_pos h]⟩
    · obtain ⟨sn₁, e₁⟩ := inSet2 (t.getD s 0) sn
      obtain ⟨sn', e'⟩ := admitted_none hc ht hn fuel (s + 1) sn₁ (fun q a => hno q (by omega))
      refine ⟨sn', ?_⟩
      rw [if_neg h, hc, ht, e₁, decide_eq_false (fun h' => hno s (Nat.le_refl _) ⟨by omega, h'⟩)]
      exact e'
def m02 (t : Array Nat) (n s : Nat) (must : Bool) : M := { code := code2, text := t, lim := n, start := s, lastStart := n, pc := 10, pos := s, handed := s, marks := #[], mustAdvance := must, seen := ({} : Seen).add 14 }
theorem fs2 {t : Array Nat} {n s : Nat} {must : Bool} (h : s < n) : forSearch code2 t 0 s n must = M.attemptFrom (m02 t n s must) s true := by
  unfold forSearch
  rw [show header code2 = (1, 10) from rfl]
  dsimp only
  rw [if_neg (by simp; omega)]
  rfl
theorem af2 {t : Array Nat} {n s : Nat} {must : Bool} : M.attemptFrom (m02 t n s must) s true = (match M.admitted (m02 t n s must) (n + 1 - s) s (({} : Seen).add 14) with
    | .ok (some s', seen) => ({ m02 t n s must with mustAdvance := false, seen } : M).attemptAt s' true
    | .ok (none, seen) => ({ m02 t n s must with seen } : M).say false
    | .error why => (m02 t n s must).stick why) := by
  unfold M.attemptFrom
  rw [if_neg (by rw [show (m02 t n s must).hasFirstSet = true from rfl]; simp)]
  rfl
theorem search2_hit {t : Array Nat} {n s p : Nat} {must : Bool} (hp : Hit2 t n p) (hs : s ≤ p) (hno : ∀ q, s ≤ q → q < p → ¬ Hit2 t n q) :
    ∃ k m', k ≤ 20 ∧ To k (forSearch code2 t 0 s n must) m' ∧ m'.outcome = some .matched ∧ m'.start = p ∧ m'.handed = p + wid t n p := by
  have hlt := hp.1
  obtain ⟨sn', e'⟩ := admitted_hit (m := m02 t n s must) (t := t) (n := n) rfl rfl rfl hp (p - s) s (n + 1 - s) (({} : Seen).add 14) (by omega) (by omega) hno
  rw [fs2 (by omega), af2, e']
  exact att2_hit (ob := true) (sn := sn') hp
theorem search2_none {t : Array Nat} {n s : Nat} {must : Bool} (hno : ∀ q, s ≤ q → ¬ Hit2 t n q) :
    ∃ k m', k ≤ 20 ∧ To k (forSearch code2 t 0 s n must) m' ∧ m'.outcome = some .failed := by
  by_cases h : s < n
  · obtain ⟨sn', e'⟩ := admitted_none (m := m02 t n s must) (t := t) (n := n) rfl rfl rfl (n + 1 - s) s (({} : Seen).add 14) hno
    rw [fs2 h, af2, e']
    exact ⟨1, _, by omega, To.one (step_nil (yes := false) rfl rfl rfl), rfl⟩
  · unfold forSearch
    rw [show header code2 = (1, 10) from rfl]
    dsimp only
    rw [if_pos (by simp; omega)]
    exact ⟨1, _, by omega, To.one rfl, rfl⟩
theorem search1_hit {t : Array Nat} {n s p : Nat} {must : Bool} (hp : Hit1 t n p) (hs : s ≤ p) (hno : ∀ q, s ≤ q → q < p → ¬ Hit1 t n q) :
    ∃ k m', k ≤ 3 * n + 20 ∧ To k (forSearch code1 t 0 s n must) m' ∧ m'.outcome = some .matched ∧ m'.start = p ∧ m'.handed = p + 1 := by
  have hlt := hp.1
  obtain ⟨sn, e⟩ := search1_start (t := t) (n := n) (s := s) (must := must) (by omega)
  rw [e]
  obtain ⟨k, m', hk, r⟩ := from1_hit hp (p - s) s true must sn (by omega) hno
  exact ⟨k, m', by omega, r⟩
theorem search1_none {t : Array Nat} {n s : Nat} {must : Bool} (hno : ∀ q, s ≤ q → ¬ Hit1 t n q) :
    ∃ k m', k ≤ 3 * n + 20 ∧ To k (forSearch code1 t 0 s n must) m' ∧ m'.outcome = some .failed := by
  by_cases h : s < n
  · obtain ⟨sn, e⟩ := search1_start (t := t) (n := n) (s := s) (must := must) h
    rw [e]
    obtain ⟨k, m', hk, r⟩ := from1_none (n - s) s true must sn (by omega) hno
    exact ⟨k, m', by omega, r⟩
  · obtain ⟨m', r⟩ := search1_over (t := t) (n := n) (s := s) (must := must) (Nat.not_lt.mp h)
    exact ⟨1, m', by omega, r⟩
end Mine
end
section
open PySem PySem.W PyProof.Rows PySem.Calls PySem.Builtin PySem.Builtin.Re
namespace Mine
section
variable {M : Model} {A : Around} {E : Value → Shared → Prop} {s : Shared}
theorem wp_drive {m' : Sre.M} (ho : m'.outcome.isSome = true) {Q : Sre.M → Shared → Prop} (hQ : Q m' s) : ∀ (turns k : Nat) (m : Sre.M), To k m m' → k ≤ 4 * turns → 0 < turns → wpAny M A (reDrive turns m) Q E s
  | 0, _, _, _, _, h0 => by omega
  | turns + 1, k, m, r, hk, _ => by
    unfold reDrive
    have e4 : ∀ j, Sre.M.runFor (k + j) m = m' := fun j => by rw [runFor_add, r, runFor_done ho]
    by_cases h1 : (m.runFor reTurnSteps).outcome.isSome = true
    · have : m.runFor reTurnSteps = m' := by
        have a := runFor_done h1 k
        rw [← runFor_add, Nat.add_comm, e4] at a
        exact a.symm
      dsimp only
      rw [if_pos h1, this]
      exact wpAny_pure hQ
    · dsimp only
      rw [if_neg h1]
      refine wpAny_bind (wpAny_rule ?_)
      have hlt : 4 < k := by
        rcases Nat.lt_or_ge 4 k with h | h
        · exact h
        · exfalso
          apply h1
          have : m.runFor reTurnSteps = m' := by
            have a := e4 (4 - k)
            rwa [Nat.add_sub_cancel' h] at a
          rw [this]; exact ho
      refine wp_drive ho hQ turns (k - 4) _ ?_ (by omega) (by omega)
      unfold To
      rw [← runFor_add, show reTurnSteps + (k - 4) = k from by unfold reTurnSteps; omega]
      exact r
theorem wp_forNil {f : Nat → PUnit → Sem (ForInStep PUnit)} (hf : ∀ (i : Nat) (Q : ForInStep PUnit → Shared → Prop), Q (.yield PUnit.unit) s → wpAny M A (f i PUnit.unit) Q E s) {Q : PUnit → Shared → Prop} (hQ : Q PUnit.unit s) :
    ∀ l : List Nat, wpAny M A (forIn l PUnit.unit f) Q E s
  | [] => by rw [List.forIn_nil]; exact wpAny_pure hQ
  | i :: l => by
    rw [List.forIn_cons]
    refine wpAny_bind (hf i _ ?_)
    exact wp_forNil hf hQ l
theorem wp_runToEnd {m m' : Sre.M} {k : Nat} (r : To k m m') (hk : k ≤ 4 * 2 ^ 64) {Q : Option Sre.M → Shared → Prop} (ho : (m'.outcome = some .matched ∧ Q (some m') s) ∨ (m'.outcome = some .failed ∧ Q none s)) : wpAny M A (reRunToEnd m) Q E s := by
  unfold reRunToEnd
  refine wpAny_bind (wp_drive (m' := m') (by rcases ho with h | h <;> rw [h.1] <;> rfl) ?_ _ k m r hk (by omega))
  refine wpAny_bind (wp_forNil ?_ ?_ _)
  · intro i Q hQ
    split
    · exact wpAny_bind (wpAny_rule (wpAny_pure hQ))
    · exact wpAny_pure hQ
  · rcases ho with h | h
    · rw [h.1]; exact wpAny_pure h.2
    · rw [h.1]; exact wpAny_pure h.2
end
end Mine
end
section
open PySem PySem.W PyProof.Rows PySem.Calls PySem.Builtin PySem.Builtin.Re
namespace Mine
theorem entry_subloop : entryFor table "re.Pattern.sub.loop" = some Builtin.«re.Pattern.sub.loop» := entryFor_of_fast (by kernel_rfl)
theorem entry_sub : entryFor table "re.Pattern.sub" = some Builtin.«re.Pattern.sub» := entryFor_of_fast (by kernel_rfl)
theorem plain_subloop : plainId "re.Pattern.sub.loop" = true := by decide +kernel
theorem plain_sub : plainId "re.Pattern.sub" = true := by decide +kernel
theorem slot_sub : Slot "re.Pattern" "sub" "re.Pattern.sub" :=
  .of (owner := "re.Pattern") (n := "sub") (by rw [typeLookup_type, builtinLookup_eq_fast]; kernel_rfl) (by decide +kernel) (by decide +kernel) (by decide +kernel)
    (by first | exact .inl (by decide +kernel) | exact .inr (by decide +kernel)) (by rw [isSubtype_type]; kernel_rfl)
theorem type_sub : typeOf (.builtin "re.Pattern.sub") = pure (.type "method_descriptor") := by show builtinType _ = _; rw [builtinType_eq_fast]; kernel_rfl
/-- a compiled pattern of texts, its code written -/
structure PatAt (h : Heap) (pa ct : Addr) (code : Array Nat) : Prop where
  pat : ∃ o fs, h.get? pa = some o ∧ o.cls = .type "re.Pattern" ∧ o.dict = none ∧ o.data = .fields fs ∧ fs.getD 5 .none = .ref ct ∧ fs.getD 6 .none = .int 0 0 ∧ fs.getD 2 .none = .int 0 0
  code : ∃ o its n, h.get? ct = some o ∧ o.data = .seq its n ∧ (its.map reRawOf).map (·.toNat) = code
theorem PatAt.but {h h' : Heap} {pa ct l : Addr} {code : Array Nat} (P : PatAt h pa ct code) (hp : pa ≠ l) (hc : ct ≠ l) (k : ∀ b o, b ≠ l → h.get? b = some o → h'.get? b = some o) : PatAt h' pa ct code :=
  ⟨let ⟨o, fs, e, r⟩ := P.pat; ⟨o, fs, k _ _ hp e, r⟩, let ⟨o, its, n, e, r⟩ := P.code; ⟨o, its, n, k _ _ hc e, r⟩⟩
theorem PatAt.keeps {h h' : Heap} {pa ct : Addr} {code : Array Nat} (P : PatAt h pa ct code) (k : Keeps h h') : PatAt h' pa ct code :=
  ⟨let ⟨o, fs, e, r⟩ := P.pat; ⟨o, fs, k _ _ e, r⟩, let ⟨o, its, n, e, r⟩ := P.code; ⟨o, its, n, k _ _ e, r⟩⟩
section
variable {prog : Program} {w : World} {A : Around} {E : Value → Shared → Prop} {s : Shared}
theorem wp_wholeTarget {pa ct : Addr} {code : Array Nat} {x : PySem.Str} {t : Tok} (P : PatAt s.heap pa ct code) {Q : ReTarget → Shared → Prop}
    (hQ : Q { pattern := .ref pa, string := .str x t, code, text := x.cps, kind := 0, groups := 0, pos := 0, lim := x.cps.size } s) : wpAny (model prog w) A (reWholeTarget (.ref pa) (.str x t)) Q E s := by
  obtain ⟨o, fs, ho, _, _, hd, h5, h6, h2⟩ := P.pat
  obtain ⟨oc, its, n, hoc, hdc, hcode⟩ := P.code
  unfold reWholeTarget
  refine wpAny_bind (wpAny_fieldsOf ho hd ?_)
  refine wpAny_bind (show wpAny _ _ (reTextOf (.str x t)) _ _ _ from wpAny_pure ?_)
  dsimp only
  rw [h6, h2, h5]
  refine wpAny_bind (show wpAny _ _ (reNoCollectionInside _ 0) _ _ _ from wpAny_pure ?_)
  refine wpAny_bind (wpAny_bind (wpAny_seqItems hoc hdc (wpAny_pure ?_)))
  rw [show ((some its).getD #[]).map reRawOf = its.map reRawOf from rfl, hcode]
  exact wpAny_pure hQ
/-- the places that a pattern finds from start on -/
inductive Scan (code txt : Array Nat) : Nat → List (Nat × Nat) → Prop
  | nil {start : Nat} : (∀ must, ∃ k m', k ≤ 4 * 2 ^ 64 ∧ To k (Sre.forSearch code txt 0 start txt.size must) m' ∧ m'.outcome = some .failed) → Scan code txt start []
  | cons {start p e : Nat} {r : List (Nat × Nat)} : (∀ must, ∃ k m', k ≤ 4 * 2 ^ 64 ∧ To k (Sre.forSearch code txt 0 start txt.size must) m' ∧ m'.outcome = some .matched ∧ m'.start = p ∧ m'.handed = e) →
      start ≤ p → p ≤ e → e ≤ txt.size → Scan code txt e r → Scan code txt start ((p, e) :: r)
theorem wp_nextFound_none {T : ReTarget} {code txt : Array Nat} {start : Nat} {must : Bool} (h1 : T.code = code) (h2 : T.text = txt) (h3 : T.groups = 0) (h4 : T.lim = txt.size) (h : Scan code txt start []) {Q : Option Sre.M → Shared → Prop} (hQ : Q none s) :
    wpAny (model prog w) A (reNextFound T start must) Q E s := by
  cases h with
  | nil h =>
    obtain ⟨k, m', hk, r, o⟩ := h must
    unfold reNextFound
    rw [h1, h2, h3, h4]
    exact wp_runToEnd r hk (.inr ⟨o, hQ⟩)
theorem wp_nextFound_some {T : ReTarget} {code txt : Array Nat} {start p e : Nat} {r : List (Nat × Nat)} {must : Bool} (h1 : T.code = code) (h2 : T.text = txt) (h3 : T.groups = 0) (h4 : T.lim = txt.size) (h : Scan code txt start ((p, e) :: r)) {Q : Option Sre.M → Shared → Prop}
    (hQ : ∀ m' : Sre.M, m'.start = p → m'.handed = e → Q (some m') s) : wpAny (model prog w) A (reNextFound T start must) Q E s := by
  cases h with
  | cons h _ _ _ _ =>
    obtain ⟨k, m', hk, rr, o, a, b⟩ := h must
    unfold reNextFound
    rw [h1, h2, h3, h4]
    exact wp_runToEnd rr hk (.inl ⟨o, hQ m' a b⟩)
/-- what the substitution makes of the rest of the text -/
def subst (txt : List Nat) (rp : List Nat) : Nat → List (Nat × Nat) → List Nat
  | start, [] => txt.drop start
  | start, (p, e) :: r => (txt.drop start).take (p - start) ++ (rp ++ subst txt rp e r)
def glue (ys : List PySem.Str) : List Nat := (ys.map fun y => y.cps.toList).flatten
theorem glue_snoc (ys : List PySem.Str) (y : PySem.Str) : glue (ys ++ [y]) = glue ys ++ y.cps.toList := by simp [glue]
theorem join_nil (ys : List PySem.Str) : Txt.join ⟨#[]⟩ ys = T (glue ys) := by
  have h : ∀ (l : List PySem.Str) (acc : Array Nat), l.foldl (fun acc p => acc ++ (⟨#[]⟩ : PySem.Str).cps ++ p.cps) acc = (acc.toList ++ glue l).toArray := by
    intro l
    induction l with
    | nil => intro acc; simp [glue]
    | cons y l ih => intro acc; rw [List.foldl_cons, ih]; simp [glue]
  unfold Txt.join Builtin.Str.glued
  rw [h]
  cases ys with
  | nil => rfl
  | cons y l => simp [glue, T]
theorem glue_len (ys : List PySem.Str) : (ys.map (·.length)).sum = (glue ys).length := by
  induction ys with
  | nil => rfl
  | cons y l ih => simp only [List.map_cons, List.sum_cons, ih, glue, List.flatten_cons, List.length_append]; simp [PySem.Str.length]
abbrev lstObj (vs : List Value) (c : Nat) : Obj := { cls := .type "list", dict := none, data := .seq vs.toArray c, slots := #[] }
theorem push_obj (vs : List Value) (c : Nat) (v : Value) : Obj.mapSeq (·.push v) (lstObj vs c) = lstObj (vs ++ [v]) (c + 1) := by
  simp [Obj.mapSeq, lstObj]
theorem strsAre_snoc {vs : List Value} {ys : List PySem.Str} (h : StrsAre vs ys) (y : PySem.Str) (t : Tok) : StrsAre (vs ++ [.str y t]) (ys ++ [y]) := by
  induction h with
  | nil => exact .cons y t .nil
  | cons z u _ ih => exact .cons z u ih
theorem extract_T (txt : Array Nat) (a b : Nat) : (⟨txt.extract a b⟩ : PySem.Str) = T ((txt.toList.drop a).take (b - a)) := by
  refine PySem.Str.ext' ?_
  apply Array.toList_inj.mp
  simp [T]
theorem wp_slice {txt : Array Nat} {b e : Nat} (hz : txt.size ≤ 16777216) {Q : Value → Shared → Prop} (h : Q (.str (T ((txt.toList.drop b).take (e - b))) s.toks) { s with toks := s.toks + 1 }) : wpAny (model prog w) A (reSlice txt 0 b e) Q E s := by
  show wpAny _ _ (mkStr ⟨txt.extract b e⟩) _ _ _
  refine wpAny_mkStr (by rw [extract_T]; exact h) ?_
  rw [sizeLine_eq]
  simp only [PySem.Str.length, Array.size_extract]; omega
theorem sub_loop {R : Result → Shared → Prop} {pa ct l : Addr} {code : Array Nat} {x rp : PySem.Str} {tx tr : Tok} (hpl : pa ≠ l) (hcl : ct ≠ l) (hx : x.cps.size ≤ 1000000) :
    ∀ (ms : List (Nat × Nat)) (s : Shared) (cnt : Int) (start : Nat) (must : Bool) (vs : List Value) (ys : List PySem.Str) (c : Nat),
      PatAt s.heap pa ct code → s.heap.get? l = some (lstObj vs c) → StrsAre vs ys → Scan code x.cps start ms → vs.length + 2 * ms.length + 1 ≤ 10000000 → (glue ys).length + (subst x.cps.toList rp.cps.toList start ms).length ≤ 10000000 →
      (∀ h' tk t', (∀ b o, b ≠ l → s.heap.get? b = some o → h'.get? b = some o) → R (.ok (.ret (.str (T (glue ys ++ subst x.cps.toList rp.cps.toList start ms)) t'))) { s with heap := h', toks := tk }) →
      codeAny (model prog w) A (.builtin "re.Pattern.sub.loop" ⟨[.ref pa, .str x tx, .str rp tr, rawInt 0, rawInt 0, rawInt cnt, rawInt (start : Nat), rawInt (start : Nat), .bool must, .ref l, .bool false], []⟩) R s
  | [], s, cnt, start, must, vs, ys, c, P, hl, hy, hS, hn, hg, hR => by
    refine codeAny_builtin entry_subloop ?_
    rw [Around.under_plainId plain_subloop _]
    unfold «re.Pattern.sub.loop»
    dsimp only [rawInt]
    refine wpAny_bind (wp_wholeTarget P ?_)
    rw [if_pos (show ((0 : Int) == 0) = true from rfl)]
    refine wpAny_bind (show wpAny _ _ (reLiteralCannotBeTurned _) _ _ _ from wpAny_pure ?_)
    rw [if_neg (show ¬ ((0 : Int) != 0 && decide (cnt ≥ 0)) = true from by simp)]
    refine wpAny_bind (wp_nextFound_none rfl rfl rfl rfl (by simpa using hS) ?_)
    dsimp only
    have fin : ∀ (s₁ : Shared) (vs₁ : List Value) (ys₁ : List PySem.Str) (c₁ : Nat), (∃ h tk, s₁ = { s with heap := h, toks := tk }) → (∀ b o, b ≠ l → s.heap.get? b = some o → s₁.heap.get? b = some o) → s₁.heap.get? l = some (lstObj vs₁ c₁) → StrsAre vs₁ ys₁ → glue ys₁ = glue ys ++ subst x.cps.toList rp.cps.toList start [] →
        wpAny (model prog w) A.in1 (do
          let joiner ← reSlice x.cps 0 0 0
          let y ← seqItems? (Value.ref l)
          if (y.getD #[]).isEmpty = true then do
              let text ← pure joiner
              if false = true then do
                  let z ← holding [text] (do newTuple [text, ← mkInt cnt])
                  ret z
                else ret text
            else do
              let text ← call (Value.builtin (if (0 == 0) = true then "str.join" else "bytes.join")) [joiner, Value.ref l]
              if false = true then do
                  let z ← holding [text] (do newTuple [text, ← mkInt cnt])
                  ret z
                else ret text)
          (fun fin s' => match fin with | .done f => R (.ok f) s' | .again c' => c'.quiet = true ∧ codeAny (model prog w) A c' R s') (fun e s' => R (.error e) s') s₁ := by
      rintro s₁ vs₁ ys₁ c₁ ⟨h₁, tk₁, rfl⟩ hk hl₁ hy₁ hg₁
      refine wpAny_bind (wp_slice (by omega) ?_)
      refine wpAny_bind (wpAny_seqItems (o := lstObj vs₁ c₁) hl₁ rfl ?_)
      have e0 : ({ cps := x.cps.extract 0 0 } : PySem.Str) = ⟨#[]⟩ := by rw [extract_T]; simp [T]
      by_cases hv : vs₁ = []
      · subst hv
        cases hy₁
        rw [if_pos (show ((some (#[] : Array Value)).getD #[]).isEmpty = true from rfl)]
        refine wpAny_bind (wpAny_pure ?_)
        rw [if_neg (by simp)]
        have : T (List.take (0 - 0) (List.drop 0 x.cps.toList)) = T (glue ys ++ subst x.cps.toList rp.cps.toList start []) := by rw [← hg₁]; simp [glue]
        rw [this]
        exact wpAny_pure (hR _ _ _ hk)
      · rw [if_neg (by simpa using hv)]
        have hok : (ys₁.map (·.length)).sum + ys₁.length * (T (List.take (0 - 0) (List.drop 0 x.cps.toList))).length ≤ 16777216 := by
          rw [glue_len, hg₁, T_len]; simp at hg ⊢; omega
        refine wpAny_bind (join_list (x := T (List.take (0 - 0) (List.drop 0 x.cps.toList))) ⟨_, hl₁, rfl, _, rfl⟩ hy₁ hok fun t' k => ?_)
        rw [if_neg (by simp)]
        have : Txt.join (T (List.take (0 - 0) (List.drop 0 x.cps.toList))) ys₁ = T (glue ys ++ subst x.cps.toList rp.cps.toList start []) := by
          rw [show T (List.take (0 - 0) (List.drop 0 x.cps.toList)) = ⟨#[]⟩ from by simp [T], join_nil, hg₁]
        rw [this]
        exact wpAny_pure (hR _ _ _ hk)
    simp only [Int.toNat_natCast]
    by_cases hd : start < x.cps.size
    · rw [if_pos hd]
      refine wpAny_bind (wp_slice (by omega) ?_)
      refine wpAny_bind (wpAny_updateSeq hl rfl ?_ (by rw [sizeLine_eq]; simp; omega) (by rw [sizeLine_eq]; simp; omega))
      refine fin _ (vs ++ [.str (T ((x.cps.toList.drop start).take (x.cps.size - start))) s.toks]) (ys ++ [T ((x.cps.toList.drop start).take (x.cps.size - start))]) (c + 1) ⟨_, _, rfl⟩ (fun b o hb e => ?_) ?_ (strsAre_snoc hy _ _) ?_
      · exact (Heap.get?_update_other _ _ (Ne.symm hb)).trans e
      · rw [← push_obj]; exact Heap.get?_update_self _ hl rfl
      · rw [glue_snoc, T_list]
        congr 1
        simp only [subst]
        rw [List.take_of_length_le (by simp)]
    · rw [if_neg hd]
      refine fin _ vs ys c ⟨_, _, rfl⟩ (fun b o hb e => e) hl hy ?_
      simp only [subst]
      rw [List.drop_eq_nil_of_le (by simpa using Nat.not_lt.mp hd)]; simp
  | (p, e) :: r, s, cnt, start, must, vs, ys, c, P, hl, hy, hS, hn, hg, hR => by
    refine codeAny_builtin entry_subloop ?_
    rw [Around.under_plainId plain_subloop _]
    unfold «re.Pattern.sub.loop»
    dsimp only [rawInt]
    refine wpAny_bind (wp_wholeTarget P ?_)
    rw [if_pos (show ((0 : Int) == 0) = true from rfl)]
    refine wpAny_bind (show wpAny _ _ (reLiteralCannotBeTurned _) _ _ _ from wpAny_pure ?_)
    rw [if_neg (show ¬ ((0 : Int) != 0 && decide (cnt ≥ 0)) = true from by simp)]
    refine wpAny_bind (wp_nextFound_some rfl rfl rfl rfl (by simpa using hS) ?_)
    intro m' hm1 hm2
    dsimp only
    obtain ⟨h1, h2, h3, hS'⟩ : start ≤ p ∧ p ≤ e ∧ e ≤ x.cps.size ∧ Scan code x.cps e r := by cases hS; exact ⟨by assumption, by assumption, by assumption, by assumption⟩
    rw [hm1, hm2]
    have fin : ∀ (s₁ : Shared) (vs₁ : List Value) (ys₁ : List PySem.Str) (c₁ : Nat), (∃ h tk, s₁ = { s with heap := h, toks := tk }) → (∀ b o, b ≠ l → s.heap.get? b = some o → s₁.heap.get? b = some o) → s₁.heap.get? l = some (lstObj vs₁ c₁) → StrsAre vs₁ ys₁ → vs₁.length ≤ vs.length + 1 → glue ys₁ = glue ys ++ (x.cps.toList.drop start).take (p - start) →
        wpAny (model prog w) A.in1 (if ((0 : Int) == 0) = true then do
                    let item ← pure (Value.str rp tr)
                    if (item != Value.none) = true then do
                        updateSeq l fun x => x.push item
                        again
                            (Code.builtin "re.Pattern.sub.loop"
                              ⟨[Value.ref pa, Value.str x tx, Value.str rp tr, Value.int 0 0, Value.int 0 0,
                                    Value.int (cnt + 1) 0, Value.int (e : Nat) 0, Value.int (e : Nat) 0,
                                    Value.bool (e == p), Value.ref l, Value.bool false], []⟩)
                      else
                        again
                          (Code.builtin "re.Pattern.sub.loop"
                            ⟨[Value.ref pa, Value.str x tx, Value.str rp tr, Value.int 0 0, Value.int 0 0,
                                  Value.int (cnt + 1) 0, Value.int (e : Nat) 0, Value.int (e : Nat) 0,
                                  Value.bool (e == p), Value.ref l, Value.bool false], []⟩)
                  else do
                    let found ← reNewMatch (Value.ref pa) (Value.str x tx) 0 0 x.cps.size m'
                    let item ←
                      holding [found]
                          (if ((0 : Int) == 1) = true then call (Value.str rp tr) [found]
                          else do
                            let z ← reFound found
                            reExpand (Value.str rp tr) z)
                    if (item != Value.none) = true then do
                        updateSeq l fun x => x.push item
                        again
                            (Code.builtin "re.Pattern.sub.loop"
                              ⟨[Value.ref pa, Value.str x tx, Value.str rp tr, Value.int 0 0, Value.int 0 0,
                                    Value.int (cnt + 1) 0, Value.int (e : Nat) 0, Value.int (e : Nat) 0,
                                    Value.bool (e == p), Value.ref l, Value.bool false], []⟩)
                      else
                        again
                          (Code.builtin "re.Pattern.sub.loop"
                            ⟨[Value.ref pa, Value.str x tx, Value.str rp tr, Value.int 0 0, Value.int 0 0,
                                  Value.int (cnt + 1) 0, Value.int (e : Nat) 0, Value.int (e : Nat) 0,
                                  Value.bool (e == p), Value.ref l, Value.bool false], []⟩))
          (fun fin s' => match fin with | .done f => R (.ok f) s' | .again c' => c'.quiet = true ∧ codeAny (model prog w) A c' R s') (fun e s' => R (.error e) s') s₁ := by
      rintro s₁ vs₁ ys₁ c₁ ⟨h₁, tk₁, rfl⟩ hk hl₁ hy₁ hlen hg₁
      rw [if_pos (show ((0 : Int) == 0) = true from rfl)]
      refine wpAny_bind (wpAny_pure ?_)
      rw [if_pos (show (Value.str rp tr != Value.none) = true from by simp)]
      simp only [List.length_cons] at hn
      refine wpAny_bind (wpAny_updateSeq hl₁ rfl ?_ (by rw [sizeLine_eq]; simp; omega) (by rw [sizeLine_eq]; simp; omega))
      refine wpAny_pure ⟨plainId_quiet plain_subloop _, ?_⟩
      have hk' : ∀ b o, b ≠ l → s.heap.get? b = some o → (h₁.update l (Obj.mapSeq (·.push (.str rp tr)))).get? b = some o := fun b o hb e => (Heap.get?_update_other _ _ (Ne.symm hb)).trans (hk b o hb e)
      have hg₂ : glue (ys₁ ++ [rp]) ++ subst x.cps.toList rp.cps.toList e r = glue ys ++ subst x.cps.toList rp.cps.toList start ((p, e) :: r) := by
        rw [glue_snoc, hg₁]; simp [subst]
      refine sub_loop hpl hcl hx r _ (cnt + 1) e (e == p) (vs₁ ++ [.str rp tr]) (ys₁ ++ [rp]) (c₁ + 1) (P.but hpl hcl hk') ?_ (strsAre_snoc hy₁ _ _) hS' (by simp; omega) ?_ fun h' tk t' hk'' => ?_
      · show (h₁.update l _).get? l = _
        rw [Heap.get?_update_self _ hl₁ rfl, push_obj]
      · have := congrArg List.length hg₂
        simp only [List.length_append] at this
        omega
      · rw [hg₂]
        exact hR h' tk t' fun b o hb e => hk'' b o hb (hk' b o hb e)
    simp only [Int.toNat_natCast]
    by_cases hd : start < p
    · rw [if_pos hd]
      refine wpAny_bind (wp_slice (by omega) ?_)
      refine wpAny_bind (wpAny_updateSeq hl rfl ?_ (by rw [sizeLine_eq]; simp; omega) (by rw [sizeLine_eq]; simp; omega))
      refine fin _ (vs ++ [.str (T ((x.cps.toList.drop start).take (p - start))) s.toks]) (ys ++ [T ((x.cps.toList.drop start).take (p - start))]) (c + 1) ⟨_, _, rfl⟩ (fun b o hb e => ?_) ?_ (strsAre_snoc hy _ _) (by simp) ?_
      · exact (Heap.get?_update_other _ _ (Ne.symm hb)).trans e
      · rw [← push_obj]; exact Heap.get?_update_self _ hl rfl
      · rw [glue_snoc, T_list]
    · rw [if_neg hd]
      refine fin _ vs ys c ⟨_, _, rfl⟩ (fun b o hb e => e) hl hy (by omega) ?_
      have : p - start = 0 := by omega
      rw [this]; simp
end
end Mine
end
section
open PySem PySem.W PyProof.Rows PySem.Calls PySem.Builtin PySem.Builtin.Re
namespace Mine
theorem args_sub (a b c : Value) : argsOk "re.Pattern.sub" ⟨[a, b, c], []⟩ := by
  unfold argsOk; kernel_rfl
theorem named_sub (a b : Value) : reNamed "re.Pattern.sub" "sub" ["repl", "string", "count"] 2 [a, b] [] = pure [some a, some b, none] := by rfl
theorem str_nocall : typeLookup (.type "str") "__call__" = pure none := by rw [typeLookup_type, builtinLookup_eq_fast]; kernel_rfl
theorem pa_pattern : PlainAttrs "re.Pattern" where
  ga := ⟨"object.__getattribute__", by rw [typeLookup_type, builtinLookup_eq_fast]; kernel_rfl, by decide +kernel⟩
  noGetattr := by rw [typeLookup_type, builtinLookup_eq_fast]; kernel_rfl
section
variable {prog : Program} {w : World} {A : Around} {E : Value → Shared → Prop} {s : Shared}
theorem call_sub {pa ct : Addr} {code : Array Nat} {x rp : PySem.Str} {tx tr : Tok} {ms : List (Nat × Nat)} {Q : Value → Shared → Prop} (P : PatAt s.heap pa ct code) (hrp : rp.cps.contains 92 = false) (hx : x.cps.size ≤ 1000000) (hS : Scan code x.cps 0 ms)
    (hn : ms.length ≤ 1000000) (hg : (subst x.cps.toList rp.cps.toList 0 ms).length ≤ 10000000)
    (hQ : ∀ h' tk t', Keeps s.heap h' → Q (.str (T (subst x.cps.toList rp.cps.toList 0 ms)) t') { s with heap := h', toks := tk }) :
    wpAny (model prog w) A (call (.builtin "re.Pattern.sub") [.ref pa, .str rp tr, .str x tx]) Q E s := by
  obtain ⟨o, fs, ho, hc, _⟩ := P.pat
  have hT : s.TypeIs (.ref pa) "re.Pattern" := ⟨o, ho, hc⟩
  refine wpAny_call (codeAny_call_builtin plain_sub entry_sub (slot_sub.check _ _ _ _ _ _ _ _ hT (args_sub _ _ _) ?_))
  unfold «re.Pattern.sub» reSubstitute
  dsimp only
  rw [named_sub]
  refine wpAny_bind (wpAny_pure ?_)
  refine wpAny_bind (wpAny_pure ?_)
  refine wpAny_bind (wpAny_specialOf (T := "str") (typeIs_str _ _ _) str_nocall ?_)
  rw [show (none : Option Value).isSome = false from rfl]
  rw [if_neg (show ¬ (false = true) from by simp)]
  refine wpAny_bind (show wpAny _ _ (asStr? (.str rp tr)) _ _ _ from wpAny_pure ?_)
  dsimp only
  refine wpAny_bind (wpAny_pure ?_)
  rw [if_neg (show ¬ (false = true) from by simp), if_pos (show (!rp.cps.contains 92) = true from by rw [hrp]; rfl)]
  refine wpAny_bind (wpAny_pure ?_)
  dsimp only
  refine wpAny_bind (wpAny_holding (wp_wholeTarget P ?_))
  rw [if_neg (show ¬ ((0 : Int) == 1) = true from by simp)]
  refine wpAny_bind (wpAny_newObj_type ?_ (by size_fits))
  refine wpAny_pure ⟨plainId_quiet plain_subloop _, ?_⟩
  have hplt : pa < s.heap.objs.size := Heap.lt_size ho
  obtain ⟨oc, its, nc, hoc, _⟩ := id P.code
  have hclt : ct < s.heap.objs.size := Heap.lt_size hoc
  have hkp : Keeps s.heap (s.heap.push { cls := .type "list", dict := none, data := .seq ([] : List Value).toArray }) := fun b o e => Heap.get?_push_of_some _ e
  refine sub_loop (Nat.ne_of_lt hplt) (Nat.ne_of_lt hclt) hx ms { s with heap := s.heap.push { cls := .type "list", dict := none, data := .seq ([] : List Value).toArray } } 0 0 false [] [] 0 (P.keeps hkp) (Heap.get?_push_size _ rfl) .nil hS (by simp; omega) (by simpa [glue] using hg) fun h' tk t' hk => ?_
  rw [show glue [] ++ subst x.cps.toList rp.cps.toList 0 ms = subst x.cps.toList rp.cps.toList 0 ms from by simp [glue]]
  exact hQ h' tk t' fun b o e => hk b o (Nat.ne_of_lt (Heap.lt_size e)) (hkp b o e)
end
/-! the places, and what comes of them -/
inductive HS (hit : Nat → Prop) (wd : Nat → Nat) : Nat → List (Nat × Nat) → Prop
  | nil {start : Nat} : (∀ q, start ≤ q → ¬ hit q) → HS hit wd start []
  | cons {start p : Nat} {r : List (Nat × Nat)} : hit p → start ≤ p → (∀ q, start ≤ q → q < p → ¬ hit q) → HS hit wd (p + wd p) r → HS hit wd start ((p, p + wd p) :: r)
theorem HS.back {hit : Nat → Prop} {wd : Nat → Nat} {start : Nat} {ms : List (Nat × Nat)} (h : HS hit wd (start + 1) ms) (hn : ¬ hit start) : HS hit wd start ms := by
  have all : ∀ q, start ≤ q → ¬ (start + 1 ≤ q) → ¬ hit q := fun q a b => by
    have : q = start := by omega
    rw [this]; exact hn
  cases h with
  | nil h => exact .nil fun q a => if b : start + 1 ≤ q then h q b else all q a b
  | cons h1 h2 h3 h4 => exact .cons h1 (by omega) (fun q a c => if b : start + 1 ≤ q then h3 q b c else all q a b) h4
theorem subst_back {hit : Nat → Prop} {wd : Nat → Nat} {txt rp : List Nat} {start c : Nat} {ms : List (Nat × Nat)} (h : HS hit wd (start + 1) ms) (hc : txt.drop start = c :: txt.drop (start + 1)) : subst txt rp start ms = c :: subst txt rp (start + 1) ms := by
  cases h with
  | nil h => simp only [subst]; exact hc
  | cons h1 h2 h3 h4 =>
    rename_i p r
    simp only [subst]
    rw [hc, show p - start = (p - (start + 1)) + 1 by omega, List.take_succ_cons]; simp
theorem subst_here {txt rp : List Nat} {p e : Nat} {r : List (Nat × Nat)} : subst txt rp p ((p, e) :: r) = rp ++ subst txt rp e r := by
  simp [subst]
def crlf : List Nat → List Nat
  | [] => []
  | [c] => if c = 13 ∨ c = 10 then [13, 10] else [c]
  | c :: d :: r => if c = 13 ∧ d = 10 then 13 :: 10 :: crlf r else if c = 13 ∨ c = 10 then 13 :: 10 :: crlf (d :: r) else c :: crlf (d :: r)
theorem crlf_other {c : Nat} (h : ¬ (c = 13 ∨ c = 10)) (r : List Nat) : crlf (c :: r) = c :: crlf r := by
  cases r with
  | nil => simp [crlf, h]
  | cons d r => simp only [crlf]; rw [if_neg (by omega), if_neg h]
theorem crlf_two (r : List Nat) : crlf (13 :: 10 :: r) = 13 :: 10 :: crlf r := by simp [crlf]
theorem crlf_ten (r : List Nat) : crlf (10 :: r) = 13 :: 10 :: crlf r := by
  cases r with
  | nil => simp [crlf]
  | cons d r => simp [crlf]
theorem crlf_one {r : List Nat} (h : ∀ d t, r = d :: t → d ≠ 10) : crlf (13 :: r) = 13 :: 10 :: crlf r := by
  cases r with
  | nil => simp [crlf]
  | cons d r => simp only [crlf]; rw [if_neg (by have := h d r rfl; omega)]; simp
/-- dots at a line's start, doubled -/
def dd : Bool → List Nat → List Nat
  | _, [] => []
  | b, c :: r => if b = true ∧ c = 46 then 46 :: 46 :: dd false r else c :: dd (decide (c = 10)) r
theorem drop_at {txt : Array Nat} {start : Nat} (h : start < txt.size) : txt.toList.drop start = txt.getD start 0 :: txt.toList.drop (start + 1) := by
  rw [List.drop_eq_getElem_cons (by simpa using h)]
  congr 1
  simp [Array.getD, h]
theorem wid_pos (t : Array Nat) (n p : Nat) : 1 ≤ wid t n p := by
  unfold wid
  by_cases h : t.getD p 0 = 13
  · rw [if_pos h]
    by_cases h2 : p + 1 < n ∧ t.getD (p + 1) 0 = 10
    · rw [if_pos h2]; omega
    · rw [if_neg h2]; omega
  · rw [if_neg h]; omega
theorem wid_le {t : Array Nat} {n p : Nat} (hp : p < n) : p + wid t n p ≤ n := by
  unfold wid
  by_cases h : t.getD p 0 = 13
  · rw [if_pos h]
    by_cases h2 : p + 1 < n ∧ t.getD (p + 1) 0 = 10
    · rw [if_pos h2]; omega
    · rw [if_neg h2]; omega
  · rw [if_neg h]; omega
theorem ex2 (txt : Array Nat) : ∀ (n start : Nat), txt.size - start = n → ∃ ms, HS (Hit2 txt txt.size) (wid txt txt.size) start ms ∧ subst txt.toList [13, 10] start ms = crlf (txt.toList.drop start) ∧ ms.length ≤ n := by
  intro n
  induction n using Nat.strongRecOn with
  | ind n ih =>
    intro start hn
    by_cases hlt : start < txt.size
    · have hd := drop_at hlt
      by_cases hit : Hit2 txt txt.size start
      · have hw := wid_pos txt txt.size start
        obtain ⟨ms, h1, h2, h3⟩ := ih (txt.size - (start + wid txt txt.size start)) (by omega) _ rfl
        refine ⟨(start, start + wid txt txt.size start) :: ms, .cons hit (Nat.le_refl _) (fun q a b => by omega) h1, ?_, by simp; omega⟩
        rw [subst_here, h2, hd]
        unfold wid
        by_cases h13 : txt.getD start 0 = 13
        · rw [if_pos h13, h13]
          by_cases h10 : start + 1 < txt.size ∧ txt.getD (start + 1) 0 = 10
          · rw [if_pos h10, drop_at h10.1, h10.2, crlf_two]; rfl
          · rw [if_neg h10, crlf_one]
            · rfl
            · intro d t e
              by_cases hl : start + 1 < txt.size
              · rw [drop_at hl] at e
                injection e with e1 e2
                intro hd10
                exact h10 ⟨hl, by rw [e1, hd10]⟩
              · rw [List.drop_eq_nil_of_le (by simpa using hl)] at e; cases e
        · rw [if_neg h13, hit.2.resolve_right h13, crlf_ten]; rfl
      · obtain ⟨ms, h1, h2, h3⟩ := ih (txt.size - (start + 1)) (by omega) _ rfl
        refine ⟨ms, h1.back hit, ?_, by omega⟩
        rw [subst_back h1 hd, h2, hd, crlf_other]
        intro h
        exact hit ⟨hlt, h.symm⟩
    · refine ⟨[], .nil fun q a h => by have := h.1; omega, ?_, by simp⟩
      have : txt.toList.drop start = [] := List.drop_eq_nil_of_le (by simpa using hlt)
      simp only [subst, this, crlf]
theorem ex1 (txt : Array Nat) : ∀ (n start : Nat), txt.size - start = n → ∃ ms, HS (Hit1 txt txt.size) (fun _ => 1) start ms ∧ subst txt.toList [46, 46] start ms = dd (decide (start = 0 ∨ txt.getD (start - 1) 0 = 10)) (txt.toList.drop start) ∧ ms.length ≤ n := by
  intro n
  induction n with
  | zero =>
    intro start hn
    refine ⟨[], .nil fun q a h => by have := h.1; omega, ?_, by simp⟩
    have : txt.toList.drop start = [] := List.drop_eq_nil_of_le (by simp; omega)
    simp only [subst, this, dd]
  | succ n ih =>
    intro start hn
    have hlt : start < txt.size := by omega
    have hd := drop_at hlt
    obtain ⟨ms, h1, h2, h3⟩ := ih (start + 1) (by omega)
    have hb : decide (start + 1 = 0 ∨ txt.getD (start + 1 - 1) 0 = 10) = decide (txt.getD start 0 = 10) := by simp
    rw [hb] at h2
    by_cases hit : Hit1 txt txt.size start
    · refine ⟨(start, start + 1) :: ms, .cons hit (Nat.le_refl _) (fun q a b => by omega) h1, ?_, by simp; omega⟩
      have h46 := hit.2.2
      rw [subst_here, h2, hd, h46, decide_eq_true hit.2.1]
      simp [dd]
    · refine ⟨ms, h1.back hit, ?_, by omega⟩
      rw [subst_back h1 hd, h2, hd]
      by_cases hbol : start = 0 ∨ txt.getD (start - 1) 0 = 10
      · have h46 : txt.getD start 0 ≠ 46 := fun h => hit ⟨hlt, hbol, h⟩
        simp only [dd]
        rw [if_neg (fun h => h46 h.2)]
      · rw [decide_eq_false hbol]
        simp only [dd]
        rw [if_neg (by simp)]
theorem scan2 {txt : Array Nat} {start : Nat} {ms : List (Nat × Nat)} (h : HS (Hit2 txt txt.size) (wid txt txt.size) start ms) : Scan code2 txt start ms := by
  induction h with
  | nil h => exact .nil fun must => by obtain ⟨k, m', hk, r⟩ := search2_none (must := must) h; exact ⟨k, m', by omega, r⟩
  | cons h1 h2 h3 _ ih =>
    refine .cons (fun must => ?_) h2 (Nat.le_add_right _ _) ?_ ih
    · obtain ⟨k, m', hk, r⟩ := search2_hit (must := must) h1 h2 h3; exact ⟨k, m', by omega, r⟩
    · exact wid_le h1.1
theorem scan1 {txt : Array Nat} {start : Nat} {ms : List (Nat × Nat)} (hz : txt.size ≤ 16777216) (h : HS (Hit1 txt txt.size) (fun _ => 1) start ms) : Scan code1 txt start ms := by
  induction h with
  | nil h => exact .nil fun must => by obtain ⟨k, m', hk, r⟩ := search1_none (must := must) h; exact ⟨k, m', by omega, r⟩
  | cons h1 h2 h3 _ ih =>
    refine .cons (fun must => ?_) h2 (by omega) ?_ ih
    · obtain ⟨k, m', hk, r⟩ := search1_hit (must := must) h1 h2 h3; exact ⟨k, m', by omega, r⟩
    · have := h1.1; omega
theorem crlf_len : ∀ l : List Nat, (crlf l).length ≤ 2 * l.length
  | [] => by simp [crlf]
  | [c] => by simp only [crlf]; split <;> simp
  | c :: d :: r => by
    have h1 := crlf_len r
    have h2 := crlf_len (d :: r)
    simp only [crlf]
    split
    · simp; omega
    · split <;> (simp only [List.length_cons] at h2 ⊢; omega)
theorem dd_len : ∀ (l : List Nat) (b : Bool), (dd b l).length ≤ 2 * l.length
  | [], _ => by simp [dd]
  | c :: r, b => by
    have h1 := dd_len r false
    have h2 := dd_len r (decide (c = 10))
    simp only [dd]
    split <;> (simp only [List.length_cons]; omega)
def quote (l : List Nat) : List Nat := dd true (crlf l)
section
variable {prog : Program} {w : World} {A : Around} {E : Value → Shared → Prop} {s : Shared}
theorem call_crlf {pa ct : Addr} {l : List Nat} {tx tr : Tok} {Q : Value → Shared → Prop} (P : PatAt s.heap pa ct code2) (hx : l.length ≤ 1000000)
    (hQ : ∀ h' tk t', Keeps s.heap h' → Q (.str (T (crlf l)) t') { s with heap := h', toks := tk }) :
    wpAny (model prog w) A (call (.builtin "re.Pattern.sub") [.ref pa, .str (PySem.Str.ofString "\r\n") tr, .str (T l) tx]) Q E s := by
  obtain ⟨ms, h1, h2, h3⟩ := ex2 l.toArray l.toArray.size 0 rfl
  have hr : (PySem.Str.ofString "\r\n").cps.toList = [13, 10] := by decide +kernel
  rw [List.drop_zero] at h2
  have hl := crlf_len l
  refine call_sub P (by decide +kernel) (by simpa using hx) (scan2 h1) (by simp at h3; omega) ?_ fun h' tk t' k => ?_
  · rw [hr, show (T l).cps.toList = l from by simp]
    have : subst l [13, 10] 0 ms = crlf l := by simpa using h2
    rw [this]; omega
  · rw [hr]
    have : subst (T l).cps.toList [13, 10] 0 ms = crlf l := by simpa using h2
    rw [this]; exact hQ h' tk t' k
theorem call_dots {pa ct : Addr} {l : List Nat} {tx tr : Tok} {Q : Value → Shared → Prop} (P : PatAt s.heap pa ct code1) (hx : l.length ≤ 1000000)
    (hQ : ∀ h' tk t', Keeps s.heap h' → Q (.str (T (dd true l)) t') { s with heap := h', toks := tk }) :
    wpAny (model prog w) A (call (.builtin "re.Pattern.sub") [.ref pa, .str (PySem.Str.ofString "..") tr, .str (T l) tx]) Q E s := by
  obtain ⟨ms, h1, h2, h3⟩ := ex1 l.toArray l.toArray.size 0 rfl
  have hr : (PySem.Str.ofString "..").cps.toList = [46, 46] := by decide +kernel
  rw [List.drop_zero] at h2
  have hl := dd_len l true
  have h2' : subst l [46, 46] 0 ms = dd true l := by simpa using h2
  refine call_sub P (by decide +kernel) (by simpa using hx) (scan1 (by simp; omega) h1) (by simp at h3; omega) ?_ fun h' tk t' k => ?_
  · rw [hr, show (T l).cps.toList = l from by simp, h2']; omega
  · rw [hr, show (T l).cps.toList = l from by simp, h2']; exact hQ h' tk t' k
end
end Mine
end
section
open PySem PySem.W PyProof.Rows PySem.Calls PySem.Builtin PySem.Builtin.Re
namespace Mine
section
variable {prog : Program} {w : World} {A : Around} {E : Value → Shared → Prop} {s : Shared} {K : Frag} {h₀ : Heap} {L : Addr} {m : PySem.Str → Option Value} {news : List (Addr × Obj)} {pa ct : Addr} {fs : Array Value} {its : Array Value} {n : Nat} {sl sl' : Array (Option Value)} {c' : Value} {d' : Option Addr}
theorem patAt_K {h : Heap} {code : Array Nat} (X : K.In h) (hp : K.lookup pa = some ⟨.type "re.Pattern", none, .fields fs, sl⟩) (h5 : fs.getD 5 .none = .ref ct) (h6 : fs.getD 6 .none = .int 0 0) (h2 : fs.getD 2 .none = .int 0 0)
    (hc : K.lookup ct = some ⟨c', d', .seq its n, sl'⟩) (he : (its.map reRawOf).map (·.toNat) = code) : PatAt h pa ct code :=
  ⟨⟨_, fs, X _ _ hp, rfl, rfl, rfl, h5, h6, h2⟩, ⟨_, its, n, X _ _ hc, rfl, he⟩⟩
theorem getM_sub {pl : Sem Bool} {Q : Value × List Value → Shared → Prop} (F : Fr h₀ L s.heap m) (X : K.In h₀) (hp : K.lookup pa = some ⟨.type "re.Pattern", none, .fields fs, sl⟩)
    (h : Q (.builtin "re.Pattern.sub", [.ref pa]) s) : wpAny (model prog w) A (getMethod (.ref pa) "sub" pl) Q E s :=
  have ho := (X.keeps F.keep) _ _ hp
  getMethod_builtin (T := "re.Pattern") ⟨_, ho, rfl⟩ pa_pattern slot_sub type_sub (fun a e => by cases e; exact ⟨_, ho, rfl⟩) h
theorem sub_crlf_K {l : List Nat} {tx tr : Tok} {Q : Value → Shared → Prop} (F : Fr h₀ L s.heap m) (N : News h₀ L s.heap news) (X : K.In h₀) (hp : K.lookup pa = some ⟨.type "re.Pattern", none, .fields fs, sl⟩) (h5 : fs.getD 5 .none = .ref ct) (h6 : fs.getD 6 .none = .int 0 0) (h2 : fs.getD 2 .none = .int 0 0)
    (hc : K.lookup ct = some ⟨c', d', .seq its n, sl'⟩) (he : (its.map reRawOf).map (·.toNat) = code2) (hx : l.length ≤ 1000000)
    (h : ∀ h' tk t', Fr h₀ L h' m → News h₀ L h' news → Q (.str (T (crlf l)) t') { s with heap := h', toks := tk }) :
    wpAny (model prog w) A (call (.builtin "re.Pattern.sub") [.ref pa, .str (PySem.Str.ofString "\r\n") tr, .str (T l) tx]) Q E s :=
  call_crlf (patAt_K (X.keeps F.keep) hp h5 h6 h2 hc he) hx fun h' tk t' k => h h' tk t' (F.after k) (news_over N k)
theorem sub_dots_K {l : List Nat} {tx tr : Tok} {Q : Value → Shared → Prop} (F : Fr h₀ L s.heap m) (N : News h₀ L s.heap news) (X : K.In h₀) (hp : K.lookup pa = some ⟨.type "re.Pattern", none, .fields fs, sl⟩) (h5 : fs.getD 5 .none = .ref ct) (h6 : fs.getD 6 .none = .int 0 0) (h2 : fs.getD 2 .none = .int 0 0)
    (hc : K.lookup ct = some ⟨c', d', .seq its n, sl'⟩) (he : (its.map reRawOf).map (·.toNat) = code1) (hx : l.length ≤ 1000000)
    (h : ∀ h' tk t', Fr h₀ L h' m → News h₀ L h' news → Q (.str (T (dd true l)) t') { s with heap := h', toks := tk }) :
    wpAny (model prog w) A (call (.builtin "re.Pattern.sub") [.ref pa, .str (PySem.Str.ofString "..") tr, .str (T l) tx]) Q E s :=
  call_dots (patAt_K (X.keeps F.keep) hp h5 h6 h2 hc he) hx fun h' tk t' k => h h' tk t' (F.after k) (news_over N k)
end
end Mine
end
section
open PySem PySem.W PyProof.Rows PySem.Calls PyProof.Rows.LCg PyProof.Rows.LCt
namespace Mine
section
variable {prog : Program} {w : World} {A : Around} {E : Value → Shared → Prop} {s : Shared} {h₀ : Heap} {L : Addr} {m : PySem.Str → Option Value} {env : Env}
/-- a turn that the test leaves out -/
def NoEnd (h₀ : Heap) (L : Addr) (m : PySem.Str → Option Value) (s₁ : Shared) (all : List (Addr × Obj)) (J : List Value → Prop) (ys : List Value) (s₂ : Shared) : Prop :=
  ∃ h' tk, s₂ = { s₁ with heap := h', toks := tk } ∧ Fr h₀ L h' m ∧ News h₀ L h' all ∧ J ys
end
section
variable {prog : Program} {w : World} {A : Around} {E : Value → Shared → Prop} {s : Shared} {env : Env} {h₀ : Heap} {x : PySem.Str} {body : List Stmt} {Q : Flow → Shared → Prop}
/-- a turn's end of a loop: what J says of the frame and the ledger, whatever the ledger's places -/
def EndJ (h₀ : Heap) (L : Addr) (J : (PySem.Str → Option Value) → List (Addr × Obj) → Prop) (I : Addr) (oI : Obj) (s₁ s₂ : Shared) : Prop :=
  ∃ h' tk m' nx, s₂ = { s₁ with heap := h', toks := tk } ∧ Fr h₀ L h' m' ∧ News h₀ L h' ((I, oI) :: nx) ∧ (∀ p ∈ nx, @Ne Nat p.1 I) ∧ J m' nx
def TurnJ (h₀ : Heap) (L : Addr) (J : (PySem.Str → Option Value) → List (Addr × Obj) → Prop) (I : Addr) (oI : Obj) (s₁ : Shared) (Q : Flow → Shared → Prop) (f : Flow) (s₂ : Shared) : Prop :=
  match f with
  | .ret v => Q (.ret v) s₂
  | .brk => Q .next s₂
  | _ => EndJ h₀ L J I oI s₁ s₂
theorem loop_J {I : Addr} {n : Nat} {P : Nat → Value → Prop} {St : Nat → Heap → Prop} {m₀ : PySem.Str → Option Value} {news : List (Addr × Obj)} (J : Nat → (PySem.Str → Option Value) → List (Addr × Obj) → Prop)
    (W : Walks prog w A I [I] [I] n P St) (hLf : env.locals ≠ I) (hI : h₀.get? I = none) (hnw : ∀ p ∈ news, p.1 ≠ I) (hIo : ∀ i h, St i h → ∃ o, h.get? I = some o) (hst : St 0 s.heap) (F : Fr h₀ env.locals s.heap m₀) (N : News h₀ env.locals s.heap news) (hj : J 0 m₀ news)
    (turn : ∀ i v m₁ nx oI h tk, i < n → P i v → J i m₁ nx → (∀ p ∈ nx, @Ne Nat p.1 I) → Fr h₀ env.locals h (fun y => if y = x then some v else m₁ y) → News h₀ env.locals h ((I, oI) :: nx) →
      wpAny (model prog w) A (execs body env) (TurnJ h₀ env.locals (J (i + 1)) I oI { s with heap := h, toks := tk } Q) E { s with heap := h, toks := tk })
    (done : ∀ m₁ nx h tk, J n m₁ nx → Fr h₀ env.locals h m₁ → News h₀ env.locals h nx → Q .next { s with heap := h, toks := tk }) :
    LoopAtV prog w A h₀ env x body Q E (.ref I) s := by
  refine ⟨I, [I], [I], n, P, St, m₀, news, J, rfl, W, by simpa using hLf, by simpa using hI, fun p hp => by simpa using hnw p hp, hst, F, N, hj, ?_, ?_⟩
  · rintro i v m₁ nx s₁ own ⟨hh', tk', rfl⟩ hin hP hJ hoff hown hget hall hst₁ F₁ N₁
    obtain ⟨oI, heI⟩ := hIo _ _ hst₁
    have hmI : (I, oI) ∈ own := hall I (List.mem_singleton_self _) hI oI heI
    have hsub : ∀ p ∈ own, p = (I, oI) := by
      intro p hp
      have h1 : p.1 = I := List.mem_singleton.mp (hown p hp)
      have h2 := hget p hp
      rw [h1] at h2
      have h3 : p.2 = oI := Option.some.inj (h2.symm.trans heI)
      exact Prod.ext h1 h3
    have N₂ : News h₀ env.locals hh' ((I, oI) :: nx) := fun p hp => by
      rcases List.mem_cons.mp hp with rfl | hp
      · exact N₁ _ (List.mem_append_left _ hmI)
      · exact N₁ _ (List.mem_append_right _ hp)
    refine wpAny_mono (turn i v m₁ nx oI hh' tk' hin hP hJ (fun p hp => by simpa using hoff p hp) F₁ N₂) (fun f s₂ p => ?_) fun _ _ e => e
    have fin : EndJ h₀ env.locals (J (i + 1)) I oI { s with heap := hh', toks := tk' } s₂ → LoopStepU h₀ env.locals [I] own (J (i + 1)) { s with heap := hh', toks := tk' } .next s₂ := by
      rintro ⟨h', tk, m', nx', e, F', N', ho, hm⟩
      refine ⟨rfl, h', tk, m', nx', e, F', fun p hp => ?_, fun p hp => by simpa using ho p hp, hm⟩
      rcases List.mem_append.mp hp with hp | hp
      · rw [hsub p hp]; exact N' _ List.mem_cons_self
      · exact N' _ (List.mem_cons_of_mem _ hp)
    cases f with
    | ret v => exact .ret p
    | brk => exact .brk p
    | next => exact .next (fin p)
    | cont => exact .cont (fin p)
  · rintro h' tk m' nx F' N' _ hJ
    exact done m' nx h' tk hJ F' N'
/-- a loop over a text -/
theorem text_J {xt : PySem.Str} {tx : Tok} {m₀ : PySem.Str → Option Value} {news : List (Addr × Obj)} (J : Nat → (PySem.Str → Option Value) → List (Addr × Obj) → Prop)
    (hh : A.handled = none) (F : Fr h₀ env.locals s.heap m₀) (N : News h₀ env.locals s.heap news) (hj : J 0 m₀ news)
    (turn : ∀ i c t m₁ nx I oI h tk, xt.cps[i]? = some c → J i m₁ nx → (∀ p ∈ nx, @Ne Nat p.1 I) → Fr h₀ env.locals h (fun y => if y = x then some (.str ⟨#[c]⟩ t) else m₁ y) → News h₀ env.locals h ((I, oI) :: nx) →
      wpAny (model prog w) A (execs body env) (TurnJ h₀ env.locals (J (i + 1)) I oI { s with heap := h, toks := tk } Q) E { s with heap := h, toks := tk })
    (done : ∀ m₁ nx h tk, J xt.length m₁ nx → Fr h₀ env.locals h m₁ → News h₀ env.locals h nx → Q .next { s with heap := h, toks := tk }) :
    wpAny (model prog w) A (pyIter (.str xt tx)) (fun it s₂ => LoopAtV prog w A h₀ env x body Q E it s₂) E s := by
  have go : ∀ (T : String) (o : Obj), Walks prog w A s.heap.objs.size [s.heap.objs.size] [s.heap.objs.size] xt.cps.size (SignAt xt) (fun i h => h.IsStrIter s.heap.objs.size T xt tx i) → (s.heap.push o).IsStrIter s.heap.objs.size T xt tx 0 →
      LoopAtV prog w A h₀ env x body Q E (.ref s.heap.objs.size) { s with heap := s.heap.push o } := by
    intro T o W hst
    refine loop_J J W (Nat.ne_of_lt F.ns.lt) (next_is_new F) (fun p hp => Nat.ne_of_lt (Heap.lt_size (N p hp).1)) ?_ hst (F.push _) (fun p hp => ⟨Heap.get?_push_of_some _ (N p hp).1, (N p hp).2⟩) hj ?_ done
    · intro i h hs
      obtain ⟨o, e, _⟩ := hs
      exact ⟨o, e⟩
    · rintro i v m₁ nx oI h tk _ ⟨c, t, hn, rfl⟩ hJ ho F₁ N₁
      exact turn i c t m₁ nx _ oI h tk hn hJ ho F₁ N₁
  cases ha : xt.cps.all (· < 128)
  · exact wpAny_pyIter_wide ha (go _ _ (Walks.strWide hh _ xt tx) ⟨_, Heap.get?_push_size _ rfl, rfl, rfl⟩)
  · exact wpAny_pyIter_ascii ha (go _ _ (Walks.strAscii hh _ xt tx) ⟨_, Heap.get?_push_size _ rfl, rfl, rfl⟩)
end
end Mine
end
section
open PySem PySem.W PyProof.Rows PySem.Calls PyProof.Rows.LCg PyProof.Rows.LCt
namespace Mine
section
variable {prog : Program} {w : World} {A : Around} {E : Value → Shared → Prop} {s : Shared} {env : Env} {h₀ : Heap} {x : PySem.Str} {body : List Stmt} {Q : Flow → Shared → Prop}
/-- a turn's end of a loop that stores no local but its own letter -/
def EndC (h₀ : Heap) (L : Addr) (x : PySem.Str) (m₀ : PySem.Str → Option Value) (J : List (Addr × Obj) → Prop) (I : Addr) (oI : Obj) (s₁ s₂ : Shared) : Prop :=
  ∃ h' tk m' nx, s₂ = { s₁ with heap := h', toks := tk } ∧ Fr h₀ L h' m' ∧ (∀ y, y ≠ x → m' y = m₀ y) ∧ News h₀ L h' ((I, oI) :: nx) ∧ (∀ p ∈ nx, @Ne Nat p.1 I) ∧ J nx
def TurnC (h₀ : Heap) (L : Addr) (x : PySem.Str) (m₀ : PySem.Str → Option Value) (J : List (Addr × Obj) → Prop) (I : Addr) (oI : Obj) (s₁ : Shared) (Q : Flow → Shared → Prop) (f : Flow) (s₂ : Shared) : Prop :=
  match f with
  | .ret v => Q (.ret v) s₂
  | .brk => Q .next s₂
  | _ => EndC h₀ L x m₀ J I oI s₁ s₂
end
end Mine
end
section
open PySem PySem.W PyProof.Rows PySem.Calls
namespace Mine
/-! law 1: the page -/
def sgn (ns : List Int) (j : Nat) : Nat := signN (ns.getD (3 + j % 9) 0)
def endN (ns : List Int) (j : Nat) : Nat := ((ns.getD (3 + j % 9) 0).fmod 3).toNat
def endL (k : Nat) : List Nat := if k = 0 then [10] else if k = 1 then [13] else [13, 10]
theorem endL_len (k : Nat) : (T (endL k)).length ≤ 2 := by
  rw [T_len]; unfold endL; split
  · simp
  · split <;> simp
section
variable {prog : Program} {w : World} {A : Around} {E : Value → Shared → Prop} {s : Shared} {h₀ : Heap} {L : Addr} {news : List (Addr × Obj)}
theorem item_end {value slice : Expr} {a : Addr} {t0 t1 t2 : Tok} {c : Nat} {n : Int} {u : Tok} {Q : Value → Shared → Prop} (N : News h₀ L s.heap news)
    (hm : (a, ({ cls := .type "tuple", data := .seq #[.str (PySem.Str.ofString "\n") t0, .str (PySem.Str.ofString "\r") t1, .str (PySem.Str.ofString "\r\n") t2] c } : Obj)) ∈ news)
    (h : ∀ t, (T (endL (n.fmod 3).toNat)).length ≤ 2 → Q (.str (T (endL (n.fmod 3).toNat)) t) s)
    (hs : subscripted slice false (.ref a) (.int (n.fmod 3) u) = operate [.ref a, .int (n.fmod 3) u] (getItem (.ref a) (.int (n.fmod 3) u)) := by with_unfolding_all rfl) :
    wpAny (model prog w) A (subscriptTail value slice (.ref a) (.int (n.fmod 3) u)) Q E s := by
  have h0 : 0 ≤ n.fmod 3 := Int.fmod_nonneg_of_pos _ (by decide)
  have h1 : n.fmod 3 < 3 := Int.fmod_lt_of_pos _ (by decide)
  refine item_tstrs N hm (.cons _ _ (.cons _ _ (.cons _ _ .nil))) h0 (by simpa using h1) (by simp) (fun t => ?_) hs
  have e : [PySem.Str.ofString "\n", PySem.Str.ofString "\r", PySem.Str.ofString "\r\n"].getD (n.fmod 3).toNat ⟨#[]⟩ = T (endL (n.fmod 3).toNat) := by
    have : (n.fmod 3).toNat = 0 ∨ (n.fmod 3).toNat = 1 ∨ (n.fmod 3).toNat = 2 := by omega
    rcases this with e | e | e <;> rw [e] <;> decide +kernel
  rw [e]; exact h t (endL_len _)
end
def rowL (cs : List Nat) (ns : List Int) (j : Nat) : List Nat := List.replicate (cs.getD j 0) 46 ++ (sgn ns j :: endL (endN ns j))
def pageL (cs : List Nat) (ns : List Int) (i : Nat) : List Nat := ((List.range i).map (rowL cs ns)).flatten
end Mine
end
section
open PySem PySem.W PyProof.Rows PySem.Calls
namespace Mine
/-! law 1: quoting the page -/
def qN : Nat → List Nat → List Nat
  | 0, l => l
  | k + 1, l => quote (qN k l)
def rowQ (cs : List Nat) (ns : List Int) (t j : Nat) : List Nat := List.replicate (cs.getD j 0 + if cs.getD j 0 = 0 then 0 else t) 46 ++ [sgn ns j, 13, 10]
def pageQ (cs : List Nat) (ns : List Int) (t i : Nat) : List Nat := ((List.range i).map (rowQ cs ns t)).flatten
theorem sgn_no (ns : List Int) (j : Nat) : sgn ns j ≠ 13 ∧ sgn ns j ≠ 10 ∧ sgn ns j ≠ 46 ∧ sgn ns j ≠ 34 := by
  have h := signN_ne (ns.getD (3 + j % 9) 0)
  exact ⟨h.2.2.1, h.2.2.2, h.1, h.2.1⟩
theorem crlf_dots (c : Nat) (r : List Nat) : crlf (List.replicate c 46 ++ r) = List.replicate c 46 ++ crlf r := by
  induction c with
  | zero => rfl
  | succ c ih => rw [List.replicate_succ, List.cons_append, crlf_other (by decide), ih]; rfl
theorem crlf_end {k : Nat} {r : List Nat} (h : ∀ x, r.head? = some x → x ≠ 10) : crlf (endL k ++ r) = 13 :: 10 :: crlf r := by
  unfold endL
  split
  · cases r with
    | nil => simp [crlf]
    | cons d r => simp [crlf]
  · split
    · cases r with
      | nil => simp [crlf]
      | cons d r =>
        have : d ≠ 10 := h d rfl
        simp [crlf, this]
    · exact crlf_two r
theorem rows_head {cs : List Nat} {ns : List Int} {f : Nat → List Nat} (hf : ∀ j, ∃ c r, f j = List.replicate c 46 ++ sgn ns j :: r) (l : List Nat) : ∀ x, ((l.map f).flatten).head? = some x → x ≠ 10 := by
  intro x hx
  cases l with
  | nil => simp at hx
  | cons j l =>
    obtain ⟨c, r, e⟩ := hf j
    rw [List.map_cons, List.flatten_cons, e] at hx
    cases c with
    | zero =>
      simp at hx
      rw [← hx]; exact (sgn_no _ _).2.1
    | succ c =>
      simp [List.replicate_succ] at hx
      omega
theorem crlf_rows (cs : List Nat) (ns : List Int) (g : Nat → List Nat) (hg : ∀ j, ∃ c k, g j = List.replicate c 46 ++ (sgn ns j :: endL k)) : ∀ l : List Nat,
    crlf ((l.map g).flatten) = (l.map fun j => List.replicate ((g j).takeWhile (· == 46)).length 46 ++ [sgn ns j, 13, 10]).flatten
  | [] => rfl
  | j :: l => by
    obtain ⟨c, k, e⟩ := hg j
    have hh := rows_head (cs := cs) (ns := ns) (f := g) (fun j => by obtain ⟨c, k, e⟩ := hg j; exact ⟨c, endL k, e⟩) l
    have hs := sgn_no ns j
    have e2 : ((g j).takeWhile (· == 46)).length = c := by
      rw [e, List.takeWhile_append_of_pos (by intro a ha; simp [List.eq_of_mem_replicate ha])]
      simp [hs.2.2.1]
    rw [List.map_cons, List.flatten_cons, List.map_cons, List.flatten_cons, e2, e, List.append_assoc, crlf_dots, List.cons_append]
    rw [crlf_other (by omega), crlf_end hh, crlf_rows cs ns g hg l]
    simp
theorem dd_dots (c : Nat) (r : List Nat) : dd false (List.replicate c 46 ++ r) = List.replicate c 46 ++ dd false r := by
  induction c with
  | zero => rfl
  | succ c ih =>
    rw [List.replicate_succ, List.cons_append, dd]
    simp [ih]
theorem dd_row {c s : Nat} {r : List Nat} (h1 : s ≠ 46) (h2 : s ≠ 10) : dd true (List.replicate c 46 ++ ([s, 13, 10] ++ r)) = List.replicate (c + if c = 0 then 0 else 1) 46 ++ ([s, 13, 10] ++ dd true r) := by
  cases c with
  | zero => simp [dd, h1, h2]
  | succ c =>
    rw [List.replicate_succ, List.cons_append, dd, if_pos ⟨rfl, rfl⟩, dd_dots]
    simp [dd, h1, h2, List.replicate_succ]
theorem dd_rows (ns : List Int) (h : Nat → Nat) : ∀ l : List Nat,
    dd true ((l.map fun j => List.replicate (h j) 46 ++ [sgn ns j, 13, 10]).flatten) = (l.map fun j => List.replicate (h j + if h j = 0 then 0 else 1) 46 ++ [sgn ns j, 13, 10]).flatten
  | [] => rfl
  | j :: l => by
    have hs := sgn_no ns j
    rw [List.map_cons, List.flatten_cons, List.map_cons, List.flatten_cons, List.append_assoc, dd_row hs.2.2.1 hs.2.1, dd_rows ns h l, List.append_assoc]
theorem quote_rows (cs : List Nat) (ns : List Int) (g : Nat → List Nat) (h : Nat → Nat) (hg : ∀ j, ∃ k, g j = List.replicate (h j) 46 ++ (sgn ns j :: endL k)) (l : List Nat) :
    quote ((l.map g).flatten) = (l.map fun j => List.replicate (h j + if h j = 0 then 0 else 1) 46 ++ [sgn ns j, 13, 10]).flatten := by
  unfold quote
  rw [crlf_rows cs ns g (fun j => by obtain ⟨k, e⟩ := hg j; exact ⟨h j, k, e⟩)]
  have e : (fun j => List.replicate ((g j).takeWhile (· == 46)).length 46 ++ [sgn ns j, 13, 10]) = fun j => List.replicate (h j) 46 ++ [sgn ns j, 13, 10] := by
    funext j
    obtain ⟨k, e⟩ := hg j
    have hs := sgn_no ns j
    have e2 : ((g j).takeWhile (· == 46)).length = h j := by
      rw [e, List.takeWhile_append_of_pos (by intro a ha; simp [List.eq_of_mem_replicate ha])]
      simp [hs.2.2.1]
    rw [e2]
  rw [e, dd_rows]
theorem qN_page (cs : List Nat) (ns : List Int) (i : Nat) : ∀ t, qN (t + 1) (pageL cs ns i) = pageQ cs ns (t + 1) i
  | 0 => by
    rw [qN, qN, pageL, quote_rows cs ns (rowL cs ns) (fun j => cs.getD j 0) (fun j => ⟨endN ns j, rfl⟩)]
    rfl
  | t + 1 => by
    rw [qN, qN_page cs ns i t, pageQ, quote_rows cs ns (rowQ cs ns (t + 1)) (fun j => cs.getD j 0 + if cs.getD j 0 = 0 then 0 else t + 1) (fun j => ⟨2, rfl⟩), pageQ]
    congr 2
    funext j
    simp only [rowQ]
    generalize cs.getD j 0 = c
    congr 2
    by_cases h : c = 0
    · subst h; rfl
    · simp only [h, if_false]
      rw [if_neg (by omega)]; omega
end Mine
end
section
open PySem PySem.W PyProof.Rows PySem.Calls
namespace Mine
/-! law 2: what is told, what is sent -/
def told2 (n c : Nat) : List Nat := List.replicate (n / 2) 34 ++ (if n % 2 = 0 then [c] else [])
theorem told2_eq {n c : Nat} (hc : c ≠ 34) : T (dirL ((PySem.Str.ofString "257 \"" ++ Txt.mul (PySem.Str.ofString "\"") (n : Int) ++ T [c] ++ PySem.Str.ofString "\" is it").cps.toList.drop 5)) = T (told2 n c) := by
  rw [dir_told hc]; rfl
def one2 (n : Nat) (q : Int) : List Nat := List.replicate n 46 ++ (signN q :: endL (q.fmod 3).toNat)
theorem one2_page (n : Nat) (q : Int) : one2 n q = pageL [n] (List.replicate 12 q) 1 := by
  simp [pageL, rowL, one2, sgn, endN]
theorem one2_eq (n : Nat) (q : Int) : Txt.mul (PySem.Str.ofString ".") (n : Int) ++ T [signN q] ++ T (endL (q.fmod 3).toNat) = T (one2 n q) := by
  rw [dots_mul, T_app, T_app, one2]; simp
theorem one2_len (n : Nat) (q : Int) (hn : n ≤ 1000) : (one2 n q).length ≤ 1003 := by
  have h := endL_len (q.fmod 3).toNat
  rw [T_len] at h
  simp only [one2, List.length_append, List.length_replicate, List.length_cons]
  omega
theorem one2_quote {n : Nat} (q : Int) (hn : 1 ≤ n) : (quote (one2 n q)).length = n + 4 := by
  have h := qN_page [n] (List.replicate 12 q) 1 0
  have e : quote (one2 n q) = pageQ [n] (List.replicate 12 q) 1 1 := by
    rw [one2_page]; exact h
  rw [e]
  simp [pageQ, rowQ]
  omega
theorem sent2_eq {n : Nat} (q : Int) (hn : 1 ≤ n) : ((T (quote (one2 n q))).length : Int) - ((T [signN q] ++ PySem.Str.ofString "\r\n").length : Int) = ((n + 1 : Nat) : Int) := by
  rw [T_len, one2_quote q hn, show PySem.Str.ofString "\r\n" = T [13, 10] by decide +kernel, T_app, T_len]
  simp
  omega
end Mine
end
section
open PySem PySem.W PyProof.Rows PySem.Calls
namespace Mine
def cutL (k : Nat) : List Int := List.replicate (k / 3) 52 ++ List.replicate (k % 3) 23
theorem cutL_0 : cutL 0 = [] := rfl
theorem cutL_1 : cutL 1 = 23 :: cutL 0 := rfl
theorem cutL_2 : cutL 2 = 23 :: cutL 1 := rfl
theorem cutL_3 (k : Nat) : cutL (k + 1 + 1 + 1) = 52 :: cutL k := by
  unfold cutL
  rw [show (k + 1 + 1 + 1) / 3 = k / 3 + 1 by omega, show (k + 1 + 1 + 1) % 3 = k % 3 by omega, List.replicate_succ, List.cons_append]
def Cut2Next (h₀ : Heap) (L : Addr) (s : Shared) (m₀ : PySem.Str → Option Value) (ca D : Addr) (n : Nat) (k : Nat) (s₂ : Shared) : Prop :=
  ∃ (k' : Nat) (t : Tok) (o : Obj) (us : List Value) (c : Nat) (fl : List Int) (h' : Heap) (tk : Nat) (m' : PySem.Str → Option Value), s₂ = { s with heap := h', toks := tk } ∧ Fr h₀ L h' m' ∧ News h₀ L h' [(D, listOf us.toArray c), (ca, o)] ∧
      o.data = .cell (some (.str (T (List.replicate k' 46)) t)) ∧ IntsAre us fl ∧ fl ++ cutL k' = cutL n ∧ k' < k ∧ (∀ z : PySem.Str, z ≠ "width" → m' z = m₀ z)
def Cut2Post (h₀ : Heap) (L : Addr) (s : Shared) (m₀ : PySem.Str → Option Value) (ca D : Addr) (n : Nat) (Q : Flow → Shared → Prop) (k : Nat) (fl : Flow) (s₂ : Shared) : Prop :=
  match fl with
  | .ret v => Q (.ret v) s₂
  | .brk => Q .next s₂
  | _ => Cut2Next h₀ L s m₀ ca D n k s₂
theorem cut2_while {prog : Program} {w : World} {A : Around} {E : Value → Shared → Prop} {Q : Flow → Shared → Prop} {s : Shared} {env : Env} {h₀ : Heap} {L : Addr}
    {test : Expr} {body : List Stmt} {pos : Pos} {m₀ : PySem.Str → Option Value} {ca D : Addr} {o : Obj} {n c : Nat} {t : Tok}
    (F : Fr h₀ L s.heap m₀) (N : News h₀ L s.heap [(D, listOf ([] : List Value).toArray c), (ca, o)]) (hd : o.data = .cell (some (.str (T (List.replicate n 46)) t)))
    (turn : ∀ (k : Nat) (t : Tok) (o : Obj) (us : List Value) (c : Nat) (fl : List Int) (u : Option Value) h tk, o.data = .cell (some (.str (T (List.replicate k 46)) t)) → IntsAre us fl → fl ++ cutL k = cutL n → k ≤ n →
      Fr h₀ L h (fun (z : PySem.Str) => if z = "width" then u else m₀ z) → News h₀ L h [(D, listOf us.toArray c), (ca, o)] →
      wpAny (model prog w) A (isTrue test env (eval test env)) (fun b s₂ =>
        if b = true then wpAny (model prog w) A (execs body env) (Cut2Post h₀ L s m₀ ca D n Q k) E s₂ else Q .next s₂) E { s with heap := h, toks := tk })
    (hE : PassesOwn (model prog w) A env E := by passes_own) :
    wpAny (model prog w) A (exec (.While test body [] pos) env) Q E s := by
  refine While_inv2 (fun k m nx => ∃ (t : Tok) (o : Obj) (us : List Value) (c : Nat) (fl : List Int), nx = [(D, listOf us.toArray c), (ca, o)] ∧ o.data = .cell (some (.str (T (List.replicate k 46)) t)) ∧ IntsAre us fl ∧ fl ++ cutL k = cutL n ∧ k ≤ n ∧ (∀ z : PySem.Str, z ≠ "width" → m z = m₀ z)) (n₀ := n) F N ⟨t, o, [], c, [], rfl, hd, .nil, rfl, Nat.le_refl _, fun _ _ => rfl⟩ ?_ hE
  rintro k m₁ nx h tk F₁ N₁ ⟨t, o, us, c, fl, rfl, hd, hi, hf, hkn, h2⟩
  have em : (fun (z : PySem.Str) => if z = "width" then m₁ "width" else m₀ z) = m₁ := by
    funext z
    by_cases e2 : z = "width"
    · subst e2; simp
    · simp only [if_neg e2]; exact (h2 z e2).symm
  refine wpAny_mono (turn k t o us c fl (m₁ "width") h tk hd hi hf hkn (by rw [em]; exact F₁) N₁) (fun b s₂ p => ?_) fun _ _ x => x
  cases b with
  | false => simpa using p
  | true =>
    simp only [if_true] at p ⊢
    refine wpAny_mono p (fun fl s₃ q => ?_) fun _ _ x => x
    cases fl with
    | ret v => exact q
    | brk => exact q
    | next =>
      obtain ⟨k', t', o', us', c', fl', h', tk', m', e, F', N', d', i', f', lt, g⟩ := q
      exact ⟨h', tk', m', _, k', e, F', N', lt, t', o', us', c', fl', rfl, d', i', f', by omega, g⟩
    | cont =>
      obtain ⟨k', t', o', us', c', fl', h', tk', m', e, F', N', d', i', f', lt, g⟩ := q
      exact ⟨h', tk', m', _, k', e, F', N', lt, t', o', us', c', fl', rfl, d', i', f', by omega, g⟩
theorem ints_snoc2 {vs : List Value} {ys : List Int} (h : IntsAre vs ys) (y : Int) (t : Tok) : IntsAre (vs ++ [.int y t]) (ys ++ [y]) := by
  induction h with
  | nil => exact .cons y t .nil
  | cons z u _ ih => exact .cons z u ih
theorem cut2_end {h₀ : Heap} {L : Addr} {s : Shared} {m₀ m' : PySem.Str → Option Value} {ca D : Addr} {all : List (Addr × Obj)} {n k k' c : Nat} {Q : Flow → Shared → Prop} {o : Obj} {x : PySem.Str} {t u : Tok} {us : List Value} {fl : List Int} {y : Int} {h' : Heap} {tk : Nat}
    (F : Fr h₀ L h' m') (N : News h₀ L h' all) (hm : (ca, o) ∈ all) (hD : (D, listOf (us ++ [Value.int y u]).toArray c) ∈ all) (hd : o.data = .cell (some (.str x t))) (hx : x = T (List.replicate k' 46)) (hi : IntsAre us fl) (hf : fl ++ cutL k = cutL n) (hk : cutL k = y :: cutL k') (hlt : k' < k)
    (h2 : ∀ z : PySem.Str, z ≠ "width" → m' z = m₀ z) : Cut2Post h₀ L s m₀ ca D n Q k .next { s with heap := h', toks := tk } := by
  refine ⟨k', t, o, us ++ [Value.int y u], c, fl ++ [y], h', tk, m', rfl, F, fun p hp => ?_, by rw [hd, hx], ints_snoc2 hi _ _, by rw [List.append_assoc, List.singleton_append, ← hk]; exact hf, hlt, h2⟩
  rcases List.mem_cons.mp hp with rfl | hp
  · exact N _ hD
  · rw [List.mem_singleton.mp hp]; exact N _ hm
end Mine
end
section
open PySem PySem.W PyProof.Rows PySem.Calls
namespace Mine
def LetOk (l : List Nat) : Prop := ∀ c ∈ l, c ∈ [99, 112, 109]
def LetS (x : PySem.Str) (n : Nat) : Prop := ∃ l, x = T l ∧ l.length = n ∧ LetOk l
theorem cpm_item {i : Int} (h0 : 0 ≤ i) (h3 : i < 3) : ∃ c, c ∈ [99, 112, 109] ∧ Txt.item (PySem.Str.ofString "cpm") i = T [c] := by
  have : i = 0 ∨ i = 1 ∨ i = 2 := by omega
  rcases this with e | e | e <;> subst e
  · exact ⟨99, by decide, by decide +kernel⟩
  · exact ⟨112, by decide, by decide +kernel⟩
  · exact ⟨109, by decide, by decide +kernel⟩
theorem let_all (a b c d : Int) : ∃ l : List Nat, (l.length = 4 ∧ LetOk l) ∧ PySem.Str.ofString "" ++ Txt.item (PySem.Str.ofString "cpm") (a.fmod 3) ++ Txt.item (PySem.Str.ofString "cpm") (b.fmod 3) ++ Txt.item (PySem.Str.ofString "cpm") (c.fmod 3) ++ Txt.item (PySem.Str.ofString "cpm") (d.fmod 3) = T l := by
  have hi : ∀ x : Int, ∃ c, c ∈ [99, 112, 109] ∧ Txt.item (PySem.Str.ofString "cpm") (x.fmod 3) = T [c] := fun x => cpm_item (Int.fmod_nonneg_of_pos _ (by decide)) (Int.fmod_lt_of_pos _ (by decide))
  obtain ⟨p, hp, e1⟩ := hi a
  obtain ⟨q, hq, e2⟩ := hi b
  obtain ⟨r, hr, e3⟩ := hi c
  obtain ⟨t, ht, e4⟩ := hi d
  refine ⟨[p, q, r, t], ⟨rfl, ?_⟩, ?_⟩
  · intro x hx
    simp only [List.mem_cons, List.not_mem_nil, or_false] at hx
    rcases hx with rfl | rfl | rfl | rfl <;> assumption
  · rw [e1, e2, e3, e4, show PySem.Str.ofString "" = T [] from nilS, T_app, T_app, T_app, T_app]; rfl
theorem txt_val {P : List Nat → Prop} {x : PySem.Str} {u : Tok} (h : ∃ l, P l ∧ x = T l) : ∃ l t, P l ∧ Value.str x u = .str (T l) t := by
  obtain ⟨l, hl, rfl⟩ := h
  exact ⟨l, u, hl, rfl⟩
end Mine
end
section
open PySem PySem.W PyProof.Rows PySem.Calls
namespace Mine
/-! law 2: a load's weights -/
theorem cut_23 (n : Nat) : (cutL n).count 23 = n % 3 := by
  unfold cutL
  rw [List.count_append, List.count_replicate, List.count_replicate]
  simp
theorem cut_52 (n : Nat) : (cutL n).count 52 = n / 3 := by
  unfold cutL
  rw [List.count_append, List.count_replicate, List.count_replicate]
  simp
def wStep (c n : Nat) : Int × Nat :=
  if c = 99 then (if n % 3 = 1 then (1, n / 3) else if n % 3 = 2 then (-1, (n + 1) / 3) else (0, n / 3))
  else if n % 2 = 0 then (0, n / 2) else if c = 109 then (-1, (n + 1) / 2) else (1, n / 2)
def weighF (n : Nat) (l : List Nat) : List Int × Nat := l.foldl (fun s c => (s.1 ++ [(wStep c s.2).1], (wStep c s.2).2)) ([], n)
theorem weigh_snoc (n : Nat) (l : List Nat) (c : Nat) : weighF n (l ++ [c]) = ((weighF n l).1 ++ [(wStep c (weighF n l).2).1], (wStep c (weighF n l).2).2) := by
  unfold weighF; rw [List.foldl_append, List.foldl_cons, List.foldl_nil]
theorem wStep_le (c n : Nat) : (wStep c n).2 ≤ n := by
  unfold wStep
  split
  · split
    · show n / 3 ≤ n; omega
    · split
      · show (n + 1) / 3 ≤ n; omega
      · show n / 3 ≤ n; omega
  · split
    · show n / 2 ≤ n; omega
    · split
      · show (n + 1) / 2 ≤ n; omega
      · show n / 2 ≤ n; omega
theorem weigh_le (n : Nat) : ∀ (l : List Nat), (weighF n l).2 ≤ n := by
  intro l
  have h : ∀ (l : List Nat) (s : List Int × Nat), (l.foldl (fun s c => (s.1 ++ [(wStep c s.2).1], (wStep c s.2).2)) s).2 ≤ s.2 := by
    intro l
    induction l with
    | nil => intro s; exact Nat.le_refl _
    | cons c l ih =>
      intro s
      rw [List.foldl_cons]
      exact Nat.le_trans (ih _) (wStep_le c s.2)
  exact h l _
theorem weigh_len (n : Nat) : ∀ (l : List Nat), (weighF n l).1.length = l.length := by
  intro l
  have h : ∀ (l : List Nat) (s : List Int × Nat), (l.foldl (fun s c => (s.1 ++ [(wStep c s.2).1], (wStep c s.2).2)) s).1.length = s.1.length + l.length := by
    intro l
    induction l with
    | nil => intro s; rfl
    | cons c l ih =>
      intro s
      rw [List.foldl_cons, ih, List.length_append, List.length_singleton, List.length_cons]; omega
  have := h l ([], n)
  simpa [weighF] using this
end Mine
end
section
open PySem PySem.W PyProof.Rows PySem.Calls
namespace Mine
theorem ends_told {n c : Nat} (hc : c ≠ 34) : PySem.Txt.endswith (T (told2 n c)) (T [c]) = decide (n % 2 = 0) := by
  unfold PySem.Txt.endswith
  rw [StrLaws.subAt_eq, T_len, T_len, T_list, T_list]
  by_cases h : n % 2 = 0
  · rw [decide_eq_true h]
    have e : told2 n c = List.replicate (n / 2) 34 ++ [c] := by unfold told2; rw [if_pos h]
    rw [e]
    simp
  · rw [decide_eq_false h]
    have e : told2 n c = List.replicate (n / 2) 34 := by unfold told2; rw [if_neg h, List.append_nil]
    rw [e, Bool.and_eq_false_iff]
    rcases Nat.eq_zero_or_pos (n / 2) with h0 | h0
    · left; rw [h0]; rfl
    · right
      obtain ⟨m, hm⟩ : ∃ m, n / 2 = m + 1 := ⟨n / 2 - 1, by omega⟩
      rw [hm, List.length_replicate, List.drop_replicate]
      simp [Ne.symm hc]
theorem count_told2 {n c : Nat} (hc : c ≠ 34) : Txt.count (T (told2 n c)) (PySem.Str.ofString "\"") = ((n / 2 : Nat) : Int) := count_told hc
end Mine
end
section
open PySem PySem.W PyProof.Rows PySem.Calls
namespace Mine
def WOff (m' m₀ : PySem.Str → Option Value) : Prop := ∀ z : PySem.Str, z ≠ "letter" → z ≠ "load" → z ≠ "pan" → z ≠ "found" → z ≠ "told" → m' z = m₀ z
def WNext (h₀ : Heap) (L : Addr) (m₀ : PySem.Str → Option Value) (D : Addr) (n : Nat) (l : List Nat) (i : Nat) (I : Addr) (oI : Obj) (s s₂ : Shared) : Prop :=
  ∃ (us : List Value) (c : Nat) (t : Tok) (h' : Heap) (tk : Nat) (m' : PySem.Str → Option Value), s₂ = { s with heap := h', toks := tk } ∧ Fr h₀ L h' m' ∧ News h₀ L h' [(I, oI), (D, listOf us.toArray c)] ∧
    IntsAre us (weighF n (l.take (i + 1))).1 ∧ m' "load" = some (.int (((weighF n (l.take (i + 1))).2 : Nat) : Int) t) ∧ WOff m' m₀
def WPost (h₀ : Heap) (L : Addr) (m₀ : PySem.Str → Option Value) (D : Addr) (n : Nat) (l : List Nat) (i : Nat) (I : Addr) (oI : Obj) (s : Shared) (Q : Flow → Shared → Prop) (fl : Flow) (s₂ : Shared) : Prop :=
  match fl with
  | .ret v => Q (.ret v) s₂
  | .brk => Q .next s₂
  | _ => WNext h₀ L m₀ D n l i I oI s s₂
theorem w_loop {prog : Program} {w : World} {A : Around} {E : Value → Shared → Prop} {Q : Flow → Shared → Prop} {s : Shared} {env : Env} {h₀ : Heap} {body : List Stmt} {m₀ : PySem.Str → Option Value} {D : Addr} {k n : Nat} {l : List Nat} {tx tq : Tok} {x : PySem.Str}
    (hh : A.handled = none) (F : Fr h₀ env.locals s.heap m₀) (N : News h₀ env.locals s.heap [(D, listOf ([] : List Value).toArray k)]) (hxx : x = "letter") (hq : m₀ "load" = some (.int ((n : Nat) : Int) tq))
    (turn : ∀ (i c : Nat) (us : List Value) (k : Nat) (t tl : Tok) (u1 u2 u3 : Option Value) (I : Addr) (oI : Obj) h tk, l[i]? = some c → IntsAre us (weighF n (l.take i)).1 → (@Ne Nat D I) →
      Fr h₀ env.locals h (fun (z : PySem.Str) => if z = "letter" then some (.str ⟨#[c]⟩ t) else if z = "load" then some (.int (((weighF n (l.take i)).2 : Nat) : Int) tl) else if z = "pan" then u1 else if z = "found" then u2 else if z = "told" then u3 else m₀ z) → News h₀ env.locals h [(I, oI), (D, listOf us.toArray k)] →
      wpAny (model prog w) A (execs body env) (WPost h₀ env.locals m₀ D n l i I oI { s with heap := h, toks := tk } Q) E { s with heap := h, toks := tk })
    (done : ∀ (us : List Value) (k : Nat) (tl : Tok) (u0 u1 u2 u3 : Option Value) h tk, IntsAre us (weighF n l).1 →
      Fr h₀ env.locals h (fun (z : PySem.Str) => if z = "letter" then u0 else if z = "load" then some (.int (((weighF n l).2 : Nat) : Int) tl) else if z = "pan" then u1 else if z = "found" then u2 else if z = "told" then u3 else m₀ z) → News h₀ env.locals h [(D, listOf us.toArray k)] → Q .next { s with heap := h, toks := tk }) :
    wpAny (model prog w) A (pyIter (.str (T l) tx)) (fun it s₂ => LoopAtV prog w A h₀ env x body Q E it s₂) E s := by
  subst hxx
  have em : ∀ (m₁ : PySem.Str → Option Value) (u0 : Option Value) (q : Int) (tq : Tok), m₁ "load" = some (.int q tq) → WOff m₁ m₀ → (fun y : PySem.Str => if y = "letter" then u0 else m₁ y) = (fun (z : PySem.Str) => if z = "letter" then u0 else if z = "load" then some (.int q tq) else if z = "pan" then m₁ "pan" else if z = "found" then m₁ "found" else if z = "told" then m₁ "told" else m₀ z) := by
    intro m₁ u0 q tq h1 h2
    funext z
    by_cases e0 : z = "letter"
    · subst e0; simp
    · by_cases e1 : z = "load"
      · subst e1; simp [e0, h1]
      · by_cases e2 : z = "pan"
        · subst e2; simp [e0, e1]
        · by_cases e3 : z = "found"
          · subst e3; simp [e0, e1, e2]
          · by_cases e4 : z = "told"
            · subst e4; simp [e0, e1, e2, e3]
            · simp only [if_neg e0, if_neg e1, if_neg e2, if_neg e3, if_neg e4]; exact h2 z e0 e1 e2 e3 e4
  refine text_J (xt := T l) (fun i m nx => ∃ (us : List Value) (k : Nat) (t : Tok), nx = [(D, listOf us.toArray k)] ∧ IntsAre us (weighF n (l.take i)).1 ∧ m "load" = some (.int (((weighF n (l.take i)).2 : Nat) : Int) t) ∧ WOff m m₀)
    hh F N ⟨[], k, tq, rfl, .nil, hq, fun _ _ _ _ _ _ => rfl⟩ ?_ ?_
  · rintro i c t m₁ nx I oI h tk hc ⟨us, k', tl, rfl, hi, hq, ho⟩ hI F₁ N₁
    rw [em m₁ _ _ tl hq ho] at F₁
    have hc' : l[i]? = some c := by simpa [T] using hc
    have hDI : @Ne Nat D I := hI (D, listOf us.toArray k') (List.mem_singleton_self _)
    refine wpAny_mono (turn i c us k' t tl _ _ _ I oI h tk hc' hi hDI F₁ N₁) (fun f s₂ p => ?_) fun _ _ e => e
    have fin : WNext h₀ env.locals m₀ D n l i I oI { s with heap := h, toks := tk } s₂ → EndJ h₀ env.locals (fun m nx => ∃ (us : List Value) (k : Nat) (t : Tok), nx = [(D, listOf us.toArray k)] ∧ IntsAre us (weighF n (l.take (i + 1))).1 ∧ m "load" = some (.int (((weighF n (l.take (i + 1))).2 : Nat) : Int) t) ∧ WOff m m₀) I oI { s with heap := h, toks := tk } s₂ := by
      rintro ⟨us', c', t', h', tk', m', e, F', N', g1, g2, g3⟩
      refine ⟨h', tk', m', [(D, listOf us'.toArray c')], e, F', N', fun p hp => ?_, us', c', t', rfl, g1, g2, g3⟩
      rw [List.mem_singleton.mp hp]; exact hDI
    cases f with
    | ret v => exact p
    | brk => exact p
    | next => exact fin p
    | cont => exact fin p
  · rintro m₁ nx h tk ⟨us, k', tl, rfl, hi, hq, ho⟩ F₁ N₁
    rw [T_len, List.take_length] at hi hq
    refine done us k' tl (m₁ "letter") (m₁ "pan") (m₁ "found") (m₁ "told") h tk hi ?_ N₁
    rw [← em m₁ (m₁ "letter") _ tl hq ho]
    have : (fun y : PySem.Str => if y = "letter" then m₁ "letter" else m₁ y) = m₁ := by
      funext y
      by_cases e : y = "letter"
      · simp [e]
      · simp [e]
    rw [this]; exact F₁
end Mine
end
section
open PySem PySem.W PyProof.Rows PySem.Calls
namespace Mine
/-- a contract that gives a text of a kind -/
theorem use_txt2 {prog : Program} {w : World} {K : Frag} {p : Program} {loose : List PySem.Str} {mean : ExcName → Option Value} {mg mb : PySem.Str → Option Value} {d : Nat} {f : Addr} {vs : List Value} {Pre : Heap → Prop} {P : List Nat → Prop}
    (c : Con prog w K p loose mean mg mb d f vs Pre (fun v more => more = [] ∧ ∃ r t, P r ∧ v = .str (T r) t)) {dp un : Nat} {gd : Option (List Code)} {cn : PySem.Str} {cs : Scope} {a : Addr} {ccd : Value} {cl : List (PySem.Str × Addr)} {outer : List Env} {A₀ : Around} {base h₀ : Heap} {L : Addr} {m : PySem.Str → Option Value} {s : Shared} {Q E : Value → Shared → Prop} {news : List (Addr × Obj)}
    (B : Below A₀ base outer h₀) (F : Fr h₀ L s.heap m) (X : K.In h₀) (TT : Top p loose mean mg mb h₀) (hk : cs.kind = .function) (hd : dp + d < recursionLimit) (hu : un + 30 * d < cLine) (hp : Pre s.heap) (N : News h₀ L s.heap news)
    (h : ∀ r t h' tk', P r → Fr h₀ L h' m → News h₀ L h' news → Q (.str (T r) t) { s with heap := h', toks := tk' }) :
    wpAny (model prog w) (ktrTop dp un gd cn cs L a ccd cl outer) (call (.ref f) vs) Q E s :=
  c dp un gd cn cs a ccd cl outer A₀ base h₀ L m s Q E B F X TT hk hd hu hp fun v more h' tk' hR _ k F' => by
    obtain ⟨_, r, t, hr, rfl⟩ := hR
    exact h r t h' tk' hr F' (news_over N k)
/-- a contract that gives a list of ints -/
theorem use_ints2 {prog : Program} {w : World} {K : Frag} {p : Program} {loose : List PySem.Str} {mean : ExcName → Option Value} {mg mb : PySem.Str → Option Value} {d : Nat} {f : Addr} {vs : List Value} {Pre : Heap → Prop} {ms : List Int}
    (c : Con prog w K p loose mean mg mb d f vs Pre (ListR fun xs => IntsAre xs ms)) {dp un : Nat} {gd : Option (List Code)} {cn : PySem.Str} {cs : Scope} {a : Addr} {ccd : Value} {cl : List (PySem.Str × Addr)} {outer : List Env} {A₀ : Around} {base h₀ : Heap} {L : Addr} {m : PySem.Str → Option Value} {s : Shared} {Q E : Value → Shared → Prop} {news : List (Addr × Obj)}
    (B : Below A₀ base outer h₀) (F : Fr h₀ L s.heap m) (X : K.In h₀) (TT : Top p loose mean mg mb h₀) (hk : cs.kind = .function) (hd : dp + d < recursionLimit) (hu : un + 30 * d < cLine) (hp : Pre s.heap) (N : News h₀ L s.heap news)
    (h : ∀ a xs c h' tk', IntsAre xs ms → Fr h₀ L h' m → News h₀ L h' ((a, { cls := .type "list", data := .seq xs.toArray c }) :: news) → (∀ p ∈ news, @Ne Nat p.1 a) → Q (.ref a) { s with heap := h', toks := tk' }) :
    wpAny (model prog w) (ktrTop dp un gd cn cs L a ccd cl outer) (call (.ref f) vs) Q E s := by
  refine use_O c B F X TT hk hd hu hp N fun v more h' tk' hR F' N' off => ?_
  obtain ⟨a, xs, c, rfl, hx, rfl⟩ := hR
  exact h a xs c h' tk' hx F' N' fun q hq => off _ (List.mem_singleton_self _) q hq
end Mine
end
section
open PySem PySem.W PyProof.Rows PySem.Calls
namespace Mine
theorem step_c1 {c n : Nat} (hc : c = 99) (h : n % 3 = 1) : wStep c n = (1, n / 3) := by unfold wStep; rw [if_pos hc, if_pos h]
theorem step_c2 {c n : Nat} (hc : c = 99) (h : n % 3 = 2) : wStep c n = (-1, (n + 1) / 3) := by unfold wStep; rw [if_pos hc, if_neg (by omega), if_pos h]
theorem step_c0 {c n : Nat} (hc : c = 99) (h : n % 3 = 0) : wStep c n = (0, n / 3) := by unfold wStep; rw [if_pos hc, if_neg (by omega), if_neg (by omega)]
theorem step_e {c n : Nat} (hc : c ≠ 99) (h : n % 2 = 0) : wStep c n = (0, n / 2) := by unfold wStep; rw [if_neg hc, if_pos h]
theorem step_m {c n : Nat} (hc : c = 109) (h : n % 2 = 1) : wStep c n = (-1, (n + 1) / 2) := by unfold wStep; rw [if_neg (by omega), if_neg (by omega), if_pos hc]
theorem step_p {c n : Nat} (hc : c ≠ 99) (hm : c ≠ 109) (h : n % 2 = 1) : wStep c n = (1, n / 2) := by unfold wStep; rw [if_neg hc, if_neg (by omega), if_neg hm]
theorem one_c {c : Nat} (h : (({ cps := #[c] } : PySem.Str) == PySem.Str.ofString "c") = true) : c = 99 := by
  rw [show PySem.Str.ofString "c" = (⟨#[99]⟩ : PySem.Str) by decide +kernel, T_one, decide_eq_true_eq] at h
  simpa using h
theorem not_c {c : Nat} (h : (({ cps := #[c] } : PySem.Str) == PySem.Str.ofString "c") = false) : c ≠ 99 := by
  rw [show PySem.Str.ofString "c" = (⟨#[99]⟩ : PySem.Str) by decide +kernel, T_one, decide_eq_false_iff_not] at h
  simpa using h
theorem one_m {c : Nat} (h : (({ cps := #[c] } : PySem.Str) == PySem.Str.ofString "m") = true) : c = 109 := by
  rw [show PySem.Str.ofString "m" = (⟨#[109]⟩ : PySem.Str) by decide +kernel, T_one, decide_eq_true_eq] at h
  simpa using h
theorem not_m {c : Nat} (h : (({ cps := #[c] } : PySem.Str) == PySem.Str.ofString "m") = false) : c ≠ 109 := by
  rw [show PySem.Str.ofString "m" = (⟨#[109]⟩ : PySem.Str) by decide +kernel, T_one, decide_eq_false_iff_not] at h
  simpa using h
theorem cnt23_b {n k : Nat} {b : Bool} (h : decide (n % 3 = k) = b) : ((((cutL n).count 23 : Nat) : Int) == (k : Int)) = b := by
  subst h
  rw [cut_23, Bool.eq_iff_iff, beq_iff_eq, decide_eq_true_eq]
  omega
theorem ints_snoc3 {vs : List Value} {ys : List Int} (h : IntsAre vs ys) (y : Int) (t : Tok) : IntsAre (vs ++ [Value.int y t]) (ys ++ [y]) := by
  induction h with
  | nil => exact .cons y t .nil
  | cons z u _ ih => exact .cons z u ih
theorem w_end {h₀ : Heap} {L : Addr} {m₀ m' : PySem.Str → Option Value} {D I : Addr} {oI : Obj} {n : Nat} {l : List Nat} {i : Nat} {us : List Value} {k c x : Nat} {pan y : Int} {tp t : Tok} {s : Shared} {Q : Flow → Shared → Prop} {h' : Heap} {tk : Nat} {all : List (Addr × Obj)}
    (F : Fr h₀ L h' m') (N : News h₀ L h' all) (hI : (I, oI) ∈ all) (hD : (D, listOf (us ++ [Value.int pan tp] : List Value).toArray (k + 1)) ∈ all) (hi : IntsAre us (weighF n (l.take i)).1) (hc : l[i]? = some c)
    (hs : wStep c (weighF n (l.take i)).2 = (pan, x)) (hq : m' "load" = some (.int y t)) (hy : y = ((x : Nat) : Int)) (ho : WOff m' m₀) :
    WPost h₀ L m₀ D n l i I oI s Q .next { s with heap := h', toks := tk } := by
  subst hy
  have e : weighF n (l.take (i + 1)) = ((weighF n (l.take i)).1 ++ [pan], x) := by
    rw [List.take_add_one, hc, Option.toList_some, weigh_snoc, hs]
  refine ⟨us ++ [Value.int pan tp], k + 1, t, h', tk, m', rfl, F, fun p hp => ?_, ?_, ?_, ho⟩
  · rcases List.mem_cons.mp hp with rfl | hp
    · exact N _ hI
    · rw [List.mem_singleton.mp hp]; exact N _ hD
  · rw [e]; exact ints_snoc3 hi pan tp
  · rw [hq, e]
section
variable {prog : Program} {w : World} {A : Around} {E : Value → Shared → Prop} {s : Shared} {Q : Value → Shared → Prop}
theorem eq_int_b2 {a b : Int} {t u : Tok} {c : Bool} (e : (a == b) = c) (h : Q (.bool c) s) : wpAny (model prog w) A (compareOp .Eq (.int a t) (.int b u)) Q E s := by
  subst e
  exact IsLeap.wpAny_eq_int' h
theorem ends_b {x y : PySem.Str} {t u : Tok} {b : Bool} (e : PySem.Txt.endswith x y = b) (h : Q (.bool b) s) : wpAny (model prog w) A (call (.builtin "str.endswith") [.str x t, .str y u]) Q E s :=
  SC.endswith (by rw [e]; exact h)
end
end Mine
end
section
open PySem PySem.W PyProof.Rows PySem.Calls PyProof.Rows.LCg
namespace Mine
/-! law 2: a comprehension of two clauses, the first over a list of pairs, the second over a tuple of ints -/
abbrev two (elt iter iter2 : Expr) (a b c : PySem.Str) (pa pb pc tp : Pos) (kk : Nat) (scope : Scope) (pos : Pos) : Expr :=
  .ListComp elt [⟨.Tuple [.Name a pa, .Name b pb] kk tp, iter, [], 0⟩, ⟨.Name c pc, iter2, [], 0⟩] scope pos
section
variable {elt iter iter2 : Expr} {a b c : PySem.Str} {pa pb pc tp : Pos} {kk : Nat} {scope : Scope} {pos : Pos}
theorem turn2_0 (it acc : Value) (env : Env) :
    compTurn (two elt iter iter2 a b c pa pb pc tp kk scope pos) 0 it acc env = (do
      standAt iter.pos
      match ← pyNext it with
      | none => pure (.done .next)
      | some v =>
        letOwnedTupleGo (.Tuple [.Name a pa, .Name b pb] kk tp) it v
        assign (.Tuple [.Name a pa, .Name b pb] kk tp) env v
        let mut ok := true
        for c in ([] : List Expr) do
          if ok then ok ← isTrue c env (eval c env)
        if ok then
          let x ← eval iter2 env
          standAt iter2.pos
          let x ← foldedSetIterable iter2 env x
          let _ ← runOwn (.compStart (two elt iter iter2 a b c pa pb pc tp kk scope pos) 1 (← holding [x] (pyIter x)) acc env) env
        again (.compLoop (two elt iter iter2 a b c pa pb pc tp kk scope pos) 0 it acc env)) := by rfl
theorem turn2_1 (it acc : Value) (env : Env) :
    compTurn (two elt iter iter2 a b c pa pb pc tp kk scope pos) 1 it acc env = (do
      standAt iter2.pos
      match ← pyNext it with
      | none => pure (.done .next)
      | some v =>
        letOwnedTupleGo (.Name c pc) it v
        assign (.Name c pc) env v
        let mut ok := true
        for c in ([] : List Expr) do
          if ok then ok ← isTrue c env (eval c env)
        if ok then
          (do let _ ← call (.builtin "list.append") [acc, ← eval elt env])
        again (.compLoop (two elt iter iter2 a b c pa pb pc tp kk scope pos) 1 it acc env)) := by rfl
end
section
variable {prog : Program} {w : World} {A : Around} {s : Shared} {env : Env} {elt iter iter2 : Expr} {a b c : PySem.Str} {pa pb pc tp : Pos} {kk : Nat} {scope : Scope} {pos : Pos} {it acc : Value} {R : Result → Shared → Prop}
theorem loop2_1 (I : Nat → Shared → Prop)
    (turn : ∀ n s, I n s → wpAny (model prog w) A (pyNext it) (fun r s₁ => match r with
      | none => R (.ok .next) s₁
      | some v => wpAny (model prog w) A (assign (.Name c pc) env v) (fun _ s₂ => wpAny (model prog w) A (eval elt env) (fun x s₄ =>
              wpAny (model prog w) A (call (.builtin "list.append") [acc, x]) (fun _ s₅ => ∃ m, m < n ∧ I m s₅) (notedBy (model prog w) A env fun e s' => R (.error e) s') s₄)
          (notedBy (model prog w) A env fun e s' => R (.error e) s') s₂) (notedBy (model prog w) A env fun e s' => R (.error e) s') s₁) (notedBy (model prog w) A env fun e s' => R (.error e) s') s)
    (n : Nat) (h : I n s) : codeAny (model prog w) A (.compLoop (two elt iter iter2 a b c pa pb pc tp kk scope pos) 1 it acc env) R s := by
  refine codeAny_loop rfl I (fun n s hI => ?_) n h
  show wpAny _ A ((compTurn (two elt iter iter2 a b c pa pb pc tp kk scope pos) 1 it acc env).onRaise (fun x => do noteFrame x env; theTreesLotGoes x)) _ _ s
  refine wpAny_noted ?_
  rw [turn2_1]
  refine wpAny_bind (wpAny_standAt (wpAny_bind (wpAny_mono (turn n s hI) (fun r s₁ h₁ => ?_) fun _ _ e => e)))
  cases r with
  | none => exact wpAny_pure h₁
  | some v =>
    refine wpAny_bind (wpAny_of_eq (show letOwnedTupleGo (.Name c pc) it v = pure () from rfl) ?_)
    refine wpAny_bind (wpAny_mono h₁ (fun _ s₂ h₂ => wpAny_bind (wpAny_tests_nil ?_)) fun _ _ e => e)
    exact wpAny_bind (wpAny_bind (wpAny_mono h₂ (fun x s₄ h₄ => wpAny_bind (wpAny_mono h₄ (fun _ s₅ h₅ => wpAny_pure (wpAny_pure ⟨rfl, h₅⟩)) fun _ _ e => e)) fun _ _ e => e))
theorem loop2_0 (I : Nat → Shared → Prop)
    (turn : ∀ n s, I n s → wpAny (model prog w) A (pyNext it) (fun r s₁ => match r with
      | none => R (.ok .next) s₁
      | some v => wpAny (model prog w) A (letOwnedTupleGo (.Tuple [.Name a pa, .Name b pb] kk tp) it v) (fun _ s₀ => wpAny (model prog w) A (assign (.Tuple [.Name a pa, .Name b pb] kk tp) env v) (fun _ s₂ =>
          wpAny (model prog w) A (eval iter2 env) (fun x s₃ => wpAny (model prog w) A (foldedSetIterable iter2 env x) (fun x s₄ => wpAny (model prog w) A (pyIter x) (fun i2 s₅ =>
            codeAny (model prog w) A (.compStart (two elt iter iter2 a b c pa pb pc tp kk scope pos) 1 i2 acc env) (fun r s' => match r with | .ok _ => ∃ m, m < n ∧ I m s' | .error _ => False) s₅)
              (notedBy (model prog w) A env fun e s' => R (.error e) s') s₄) (notedBy (model prog w) A env fun e s' => R (.error e) s') s₃) (notedBy (model prog w) A env fun e s' => R (.error e) s') s₂)
          (notedBy (model prog w) A env fun e s' => R (.error e) s') s₀) (notedBy (model prog w) A env fun e s' => R (.error e) s') s₁) (notedBy (model prog w) A env fun e s' => R (.error e) s') s)
    (n : Nat) (h : I n s) : codeAny (model prog w) A (.compLoop (two elt iter iter2 a b c pa pb pc tp kk scope pos) 0 it acc env) R s := by
  refine codeAny_loop rfl I (fun n s hI => ?_) n h
  show wpAny _ A ((compTurn (two elt iter iter2 a b c pa pb pc tp kk scope pos) 0 it acc env).onRaise (fun x => do noteFrame x env; theTreesLotGoes x)) _ _ s
  refine wpAny_noted ?_
  rw [turn2_0]
  refine wpAny_bind (wpAny_standAt (wpAny_bind (wpAny_mono (turn n s hI) (fun r s₁ h₁ => ?_) fun _ _ e => e)))
  cases r with
  | none => exact wpAny_pure h₁
  | some v =>
    refine wpAny_bind (wpAny_mono h₁ (fun _ s₀ h₀ => ?_) fun _ _ e => e)
    refine wpAny_bind (wpAny_mono h₀ (fun _ s₂ h₂ => wpAny_bind (wpAny_tests_nil ?_)) fun _ _ e => e)
    refine wpAny_bind (wpAny_mono h₂ (fun x s₃ h₃ => wpAny_bind (wpAny_standAt (wpAny_bind (wpAny_mono h₃ (fun x s₄ h₄ => wpAny_bind (wpAny_holding (wpAny_mono h₄ (fun i2 s₅ h₅ => ?_) fun _ _ e => e))) fun _ _ e => e)))) fun _ _ e => e)
    refine wpAny_bind (wpAny_runOwn (codeAny_mono h₅ fun r s' q => ?_))
    cases r with
    | ok f => exact wpAny_pure ⟨rfl, q⟩
    | error e => exact q.elim
theorem start2_1 (h0 : codeAny (model prog w) A (.compLoop (two elt iter iter2 a b c pa pb pc tp kk scope pos) 1 it acc env) R s)
    (h : wpAny (model prog w) A (pyIter it) (fun it' s' => codeAny (model prog w) A (.compLoop (two elt iter iter2 a b c pa pb pc tp kk scope pos) 1 it' acc env) R s')
      (notedBy (model prog w) A env fun x s' => R (.error x) s') s) :
    codeAny (model prog w) A (.compStart (two elt iter iter2 a b c pa pb pc tp kk scope pos) 1 it acc env) R s := by
  refine codeAny_of_tree ?_
  show wpAny _ _ ((compStart (two elt iter iter2 a b c pa pb pc tp kk scope pos) 1 it acc env).onRaise (fun x => do noteFrame x env; standAt theWindowsPlace)) _ _ s
  refine wpAny_notedAt ?_
  unfold compStart
  show wpAny _ _ (ask >>= _) _ _ s
  refine wpAny_bind (wpAny_askSetting (wpAny_ite ?_))
  split
  · first
      | exact wpAny_bind (wpAny_pure (wpAny_pure (And.intro rfl h0)))
      | exact wpAny_pure (And.intro rfl h0)
  · first
      | exact wpAny_bind (wpAny_rule (wpAny_bind (wpAny_standAt (wpAny_bind (wpAny_mono h (fun it' s' h' => wpAny_pure (And.intro rfl h')) fun _ _ x => x)))))
      | (refine wpAny_bind (wpAny_rule ?_); show wpAny _ _ (standAt iter2.pos >>= _) _ _ s; exact wpAny_bind (wpAny_standAt (wpAny_bind (wpAny_mono h (fun it' s' h' => wpAny_pure (And.intro rfl h')) fun _ _ x => x))))
end
end Mine
end
section
open PySem PySem.W PyProof.Rows PySem.Calls PyProof.Rows.LCg
namespace Mine
/-- a way: a pair of a list of ints and an int, made by the call -/
def WayAt (news : List (Addr × Obj)) (v : Value) (d : List Int × Int) : Prop :=
  ∃ (t p : Addr) (us : List Value) (c k : Nat) (tk : Tok), v = .ref t ∧ (t, ({ cls := .type "tuple", data := .seq #[.ref p, .int d.2 tk] k } : Obj)) ∈ news ∧ (p, ({ cls := .type "list", data := .seq us.toArray c } : Obj)) ∈ news ∧ IntsAre us d.1
theorem WayAt.mono {n1 n2 : List (Addr × Obj)} (h : ∀ p ∈ n1, p ∈ n2) {v : Value} {d : List Int × Int} : WayAt n1 v d → WayAt n2 v d := by
  rintro ⟨t, p, us, c, k, tk, e, h1, h2, hi⟩
  exact ⟨t, p, us, c, k, tk, e, h _ h1, h _ h2, hi⟩
abbrev WaysAt (news : List (Addr × Obj)) (vs : List Value) (ds : List (List Int × Int)) : Prop := PySem.Paired (WayAt news) vs ds
def genW (d : List Int × Int) (chs : List Int) (wt : Int) : List (List Int × Int) := chs.map fun x => (d.1 ++ [x], d.2 + x * wt)
def ways1 (ds : List (List Int × Int)) (chs : List Int) (wt : Int) : List (List Int × Int) := ds.flatMap fun d => genW d chs wt
theorem paired_at {α β : Type} {F : α → β → Prop} : ∀ {l₁ : List α} {l₂ : List β}, PySem.Paired F l₁ l₂ → ∀ (i : Nat) (v : α), l₁[i]? = some v → ∃ d, l₂[i]? = some d ∧ F v d
  | _, _, .nil, i, v, h => by simp at h
  | _, _, .cons (a := a) (b := b) f t, 0, v, h => by
    have : a = v := by simpa using h
    exact ⟨b, rfl, this ▸ f⟩
  | _, _, .cons f t, i + 1, v, h => by
    obtain ⟨d, hd, hf⟩ := paired_at t i v (by simpa using h)
    exact ⟨d, by simpa using hd, hf⟩
theorem take_get {α : Type} {l : List α} {i : Nat} {x : α} (h : l[i]? = some x) : l.take (i + 1) = l.take i ++ [x] := by
  rw [List.take_add_one, h, Option.toList_some]
theorem genW_take {d : List Int × Int} {chs : List Int} {wt : Int} {j : Nat} {x : Int} (h : chs[j]? = some x) : genW d (chs.take (j + 1)) wt = genW d (chs.take j) wt ++ [(d.1 ++ [x], d.2 + x * wt)] := by
  unfold genW; rw [take_get h, List.map_append]; rfl
theorem ways1_take {ds : List (List Int × Int)} {chs : List Int} {wt : Int} {i : Nat} {d : List Int × Int} (h : ds[i]? = some d) : ways1 (ds.take (i + 1)) chs wt = ways1 (ds.take i) chs wt ++ genW d chs wt := by
  unfold ways1; rw [take_get h, List.flatMap_append]; simp
theorem ways1_len (ds : List (List Int × Int)) (chs : List Int) (wt : Int) : (ways1 ds chs wt).length = ds.length * chs.length := by
  unfold ways1
  induction ds with
  | nil => simp
  | cons d r ih => rw [List.flatMap_cons, List.length_append, ih]; simp [genW, Nat.add_mul, Nat.add_comm]
section
variable {prog : Program} {w : World} {A : Around} {E : Value → Shared → Prop} {s : Shared} {h₀ : Heap} {L : Addr} {m : PySem.Str → Option Value} {env : Env}
/-- what an element's evaluation leaves -/
def EltPost (h₀ : Heap) (L : Addr) (m : PySem.Str → Option Value) (s : Shared) (rest : List (Addr × Obj)) (d : List Int × Int) (y : Value) (s' : Shared) : Prop :=
  ∃ h' tk nn, s' = { s with heap := h', toks := tk } ∧ Fr h₀ L h' m ∧ News h₀ L h' (nn ++ rest) ∧ (∀ p ∈ nn, ∀ q ∈ rest, @Ne Nat q.1 p.1) ∧ WayAt nn y d
def EltOk (prog : Program) (w : World) (A : Around) (h₀ : Heap) (L : Addr) (m : PySem.Str → Option Value) (env : Env) (elt : Expr) (scope : Scope) (cl : List (PySem.Str × Addr)) (a b c : PySem.Str) (W : Addr) (oW : Obj) (wt : Int) (chs : List Int) (ds : List (List Int × Int)) : Prop :=
  ∀ (C : Addr) (oC : Obj) (m₂ : PySem.Str → Option Value) (s : Shared) (d : List Int × Int) (x : Int) (p : Addr) (us : List Value) (k : Nat) (tt tx : Tok) (rest : List (Addr × Obj)) (E' : Value → Shared → Prop),
    d ∈ ds → x ∈ chs → IntsAre us d.1 → NsObj oC m₂ → m₂ a = some (.ref p) → m₂ b = some (.int d.2 tt) → m₂ c = some (.int x tx) → Fr h₀ L s.heap m →
    News h₀ L s.heap ((p, ({ cls := .type "list", data := .seq us.toArray k } : Obj)) :: (W, oW) :: (C, oC) :: rest) →
    wpAny (model prog w) A (eval elt (compEnvC scope cl C env)) (EltPost h₀ L m s ((p, ({ cls := .type "list", data := .seq us.toArray k } : Obj)) :: (W, oW) :: (C, oC) :: rest) (d.1 ++ [x], d.2 + x * wt)) E' s
/-- the second clause's source -/
def SrcOk (prog : Program) (w : World) (A : Around) (h₀ : Heap) (L : Addr) (m : PySem.Str → Option Value) (env : Env) (iter2 : Expr) (scope : Scope) (cl : List (PySem.Str × Addr)) (X : Addr) (oX : Obj) (T : Addr) : Prop :=
  ∀ (C : Addr) (oC : Obj) (m₂ : PySem.Str → Option Value) (s : Shared) (rest : List (Addr × Obj)) (E' : Value → Shared → Prop), NsObj oC m₂ → Fr h₀ L s.heap m → News h₀ L s.heap ((X, oX) :: (C, oC) :: rest) →
    wpAny (model prog w) A (eval iter2 (compEnvC scope cl C env)) (fun v s' => v = .ref T ∧ s' = s) E' s
/-- what stays of the places of the two loops -/
structure Fix (h₀ : Heap) (L I C D : Addr) : Prop where
  IC : @Ne Nat I C
  ID : @Ne Nat I D
  CD : @Ne Nat C D
  IL : @Ne Nat I L
  CL : @Ne Nat C L
  DL : @Ne Nat D L
  hI : h₀.get? I = none
  hC : h₀.get? C = none
  hD : h₀.get? D = none
structure NS (h₀ : Heap) (L : Addr) (m : PySem.Str → Option Value) (I C D : Addr) (news : List (Addr × Obj)) (h : Heap) (mC : PySem.Str → Option Value) (ys : List Value) (nn : List (Addr × Obj)) : Prop where
  F : Fr h₀ L h m
  nsC : h.Ns C mC
  N : News h₀ L h ((D, lst ys) :: (nn ++ news))
  off : ∀ p ∈ nn ++ news, (@Ne Nat p.1 I) ∧ (@Ne Nat p.1 C) ∧ (@Ne Nat p.1 D)
  dis : ∀ p ∈ nn, ∀ q ∈ news, @Ne Nat q.1 p.1
theorem NS.keep {I C D : Addr} {news nn : List (Addr × Obj)} {h h' : Heap} {mC : PySem.Str → Option Value} {ys : List Value} (x : NS h₀ L m I C D news h mC ys nn) (fx : Fix h₀ L I C D)
    (k : ∀ b o, (@Ne Nat b I) → h.get? b = some o → h'.get? b = some o) : NS h₀ L m I C D news h' mC ys nn where
  F := ⟨x.F.ns.at' fun o e => k _ o (Ne.symm fx.IL) e, fun b o e => k b o (fun q => by have q' : b = I := q; rw [q', fx.hI] at e; cases e) (x.F.keep b o e), x.F.above⟩
  nsC := x.nsC.at' fun o e => k _ o (Ne.symm fx.IC) e
  N := fun p hp => ⟨k _ _ (by
    rcases List.mem_cons.mp hp with rfl | hp
    · exact Ne.symm fx.ID
    · exact (x.off p hp).1) (x.N p hp).1, (x.N p hp).2⟩
  off := x.off
  dis := x.dis
theorem NS.set {I C D : Addr} {news nn : List (Addr × Obj)} {h h' : Heap} {mC mC' : PySem.Str → Option Value} {ys : List Value} (x : NS h₀ L m I C D news h mC ys nn) (fx : Fix h₀ L I C D)
    (hn : h'.Ns C mC') (k : ∀ b o, (@Ne Nat b C) → h.get? b = some o → h'.get? b = some o) : NS h₀ L m I C D news h' mC' ys nn where
  F := ⟨x.F.ns.at' fun o e => k _ o (Ne.symm fx.CL) e, fun b o e => k b o (fun q => by have q' : b = C := q; rw [q', fx.hC] at e; cases e) (x.F.keep b o e), x.F.above⟩
  nsC := hn
  N := fun p hp => ⟨k _ _ (by
    rcases List.mem_cons.mp hp with rfl | hp
    · exact Ne.symm fx.CD
    · exact (x.off p hp).2.1) (x.N p hp).1, (x.N p hp).2⟩
  off := x.off
  dis := x.dis
variable {elt iter iter2 : Expr} {a b c : PySem.Str} {pa pb pc tp : Pos} {kk : Nat} {scope : Scope} {pos : Pos} {cl : List (PySem.Str × Addr)} {W X CT : Addr} {oW oX : Obj} {wt : Int} {chs : List Int} {ds : List (List Int × Int)} {js : List Value} {kj : Nat}
theorem nest_inner {I C D : Addr} {news nn : List (Addr × Obj)} {mC : PySem.Str → Option Value} {ys : List Value} {R : Result → Shared → Prop} {d : List Int × Int} {p : Addr} {us : List Value} {k : Nat} {tt : Tok} {acc : List (List Int × Int)}
    (hh : A.handled = none) (hkind : scope.kind = .function) (hxc : scope.names.lookup c = some .local) (hac : a ≠ c) (hbc : b ≠ c)
    (fx : Fix h₀ L I C D) (x : NS h₀ L m I C D news s.heap mC ys nn) (hit : s.heap.IsTupleIter I CT 0) (hct : (CT, ({ cls := .type "tuple", data := .seq js.toArray kj } : Obj)) ∈ news) (hj : IntsAre js chs)
    (ha : mC a = some (.ref p)) (hb : mC b = some (.int d.2 tt)) (hp : (p, ({ cls := .type "list", data := .seq us.toArray k } : Obj)) ∈ nn ++ news) (hus : IntsAre us d.1) (hd : d ∈ ds) (hW : (W, oW) ∈ news)
    (he : EltOk prog w A h₀ L m env elt scope cl a b c W oW wt chs ds) (hys : WaysAt nn ys acc) (hsz : acc.length + js.length ≤ sizeLine)
    (hR : ∀ h tk mC' ys' nn', NS h₀ L m I C D news h mC' ys' nn' → (∀ q ∈ nn, q ∈ nn') → WaysAt nn' ys' (acc ++ genW d chs wt) → R (.ok .next) { s with heap := h, toks := tk }) :
    codeAny (model prog w) A (.compLoop (two elt iter iter2 a b c pa pb pc tp kk scope pos) 1 (.ref I) (.ref D) (compEnvC scope cl C env)) R s := by
  have hlen := hj.length
  have hCTI : @Ne Nat CT I := (x.off _ (List.mem_append_right _ hct)).1
  have Wk := Walks.tuple (prog := prog) (w := w) (A := A) hh I CT hCTI js.toArray
  refine loop2_1 (fun q s' => ∃ h tk j mC ys nn', s' = { s with heap := h, toks := tk } ∧ j ≤ js.length ∧ q = js.length + 1 - j ∧ NS h₀ L m I C D news h mC ys nn' ∧ h.IsTupleIter I CT j ∧ mC a = some (.ref p) ∧ mC b = some (.int d.2 tt) ∧ (∀ q ∈ nn, q ∈ nn') ∧ ys.length = acc.length + j ∧ WaysAt nn' ys (acc ++ genW d (chs.take j) wt))
    ?_ (js.length + 1) ⟨s.heap, s.toks, 0, mC, ys, nn, rfl, Nat.zero_le _, rfl, x, hit, ha, hb, fun _ h => h, by rw [hys.length]; rfl, by simpa [genW] using hys⟩
  rintro q s' ⟨h, tk, j, mC, ys, nn', rfl, hjl, rfl, x, hit, ha, hb, hsub, hyl, hys⟩
  have htup : h.IsTuple CT js.toArray := ⟨_, (x.N _ (List.mem_cons_of_mem _ (List.mem_append_right _ hct))).1, rfl, _, rfl⟩
  by_cases hlt : j < js.length
  · refine Wk.item j _ _ _ (by simpa using hlt) ⟨hit, htup⟩ fun v h₂ tk₂ hv hst hk => ?_
    obtain ⟨z, tz, rfl, hz⟩ := hj.at j v (by simpa using hv)
    have x₂ := x.keep fx (h' := h₂) fun b o hb e => hk b o (by simpa using hb) e
    refine wpAny_assign_Name (wpAny_storeName_local (lookup_relabel_local hxc) x₂.nsC (fun h₃ hn₃ hs₃ => ?_) (by simp [compEnvC, relabel, hkind]))
    have x₃ := x₂.set fx hn₃ fun b o hb e => hs₃.extBut b o hb e
    obtain ⟨oI, heI, hcI⟩ : ∃ oI, h₃.get? I = some oI ∧ ∀ g : Heap, g.get? I = some oI → g.IsTupleIter I CT (j + 1) := by
      obtain ⟨o, e, r⟩ := hst.1
      exact ⟨o, hs₃.extBut _ _ fx.IC e, fun g e' => ⟨o, e', r⟩⟩
    obtain ⟨oC, heC, hoC⟩ := ns_obj hn₃
    have Nall : News h₀ L h₃ ((p, ({ cls := .type "list", data := .seq us.toArray k } : Obj)) :: (W, oW) :: (C, oC) :: (I, oI) :: (D, lst ys) :: (nn' ++ news)) := by
      intro r hr
      rcases List.mem_cons.mp hr with rfl | hr
      · rcases List.mem_append.mp hp with hp | hp
        · exact x₃.N _ (List.mem_cons_of_mem _ (List.mem_append_left _ (hsub _ hp)))
        · exact x₃.N _ (List.mem_cons_of_mem _ (List.mem_append_right _ hp))
      · rcases List.mem_cons.mp hr with rfl | hr
        · exact x₃.N _ (List.mem_cons_of_mem _ (List.mem_append_right _ hW))
        · rcases List.mem_cons.mp hr with rfl | hr
          · exact ⟨heC, fx.CL, fx.hC⟩
          · rcases List.mem_cons.mp hr with rfl | hr
            · exact ⟨heI, fx.IL, fx.hI⟩
            · exact x₃.N _ hr
    refine wpAny_mono (he C oC _ { s with heap := h₃, toks := _ } d z p us k tt tz _ _ hd (List.mem_of_getElem? hz) hus hoC (by simp [hac, ha]) (by simp [hbc, hb]) (by simp) x₃.F Nall) (fun y s₄ q => ?_) fun _ _ e => e
    obtain ⟨h₄, tk₄, nn₁, rfl, F₄, N₄, dis, hway⟩ := q
    have zD : h₄.get? D = some (lst ys) := (N₄ (D, lst ys) (List.mem_append_right _ (by simp))).1
    have hyz : ys.toArray.size ≤ sizeLine := by rw [List.size_toArray, hyl]; omega
    refine append_at (hsz := hyz) zD fun h₅ hs₅ hD₅ => ?_
    have nD : ∀ r ∈ nn₁ ++ (nn' ++ news), @Ne Nat r.1 D := fun r hr => by
      rcases List.mem_append.mp hr with hr | hr
      · exact Ne.symm (dis r hr (D, lst ys) (by simp))
      · exact (x.off r hr).2.2
    have nC : ∀ r ∈ nn₁ ++ (nn' ++ news), @Ne Nat r.1 C := fun r hr => by
      rcases List.mem_append.mp hr with hr | hr
      · exact Ne.symm (dis r hr (C, oC) (by simp))
      · exact (x.off r hr).2.1
    have nI : ∀ r ∈ nn₁ ++ (nn' ++ news), @Ne Nat r.1 I := fun r hr => by
      rcases List.mem_append.mp hr with hr | hr
      · exact Ne.symm (dis r hr (I, oI) (by simp))
      · exact (x.off r hr).1
    have sub : ∀ r ∈ nn₁ ++ (nn' ++ news), r ∈ nn₁ ++ ((p, ({ cls := .type "list", data := .seq us.toArray k } : Obj)) :: (W, oW) :: (C, oC) :: (I, oI) :: (D, lst ys) :: (nn' ++ news)) := fun r hr => by
      rcases List.mem_append.mp hr with hr | hr
      · exact List.mem_append_left _ hr
      · exact List.mem_append_right _ (List.mem_cons_of_mem _ (List.mem_cons_of_mem _ (List.mem_cons_of_mem _ (List.mem_cons_of_mem _ (List.mem_cons_of_mem _ hr)))))
    have x₅ : NS h₀ L m I C D news h₅ (fun y => if y = c then some (.int z tz) else mC y) (ys ++ [y]) (nn₁ ++ nn') := by
      refine ⟨F₄.change hs₅ fx.DL fx.hD, (hoC.ns (N₄ (C, oC) (List.mem_append_right _ (by simp))).1).sameBut hs₅ fx.CD, ?_, ?_, ?_⟩
      · rw [List.append_assoc]
        intro r hr
        rcases List.mem_cons.mp hr with rfl | hr
        · exact ⟨hD₅.trans (congrArg some (lst_snoc ys y)), fx.DL, fx.hD⟩
        · exact ⟨hs₅.extBut _ _ (nD r hr) (N₄ r (sub r hr)).1, (N₄ r (sub r hr)).2⟩
      · rw [List.append_assoc]
        exact fun r hr => ⟨nI r hr, nC r hr, nD r hr⟩
      · intro r hr u hu
        rcases List.mem_append.mp hr with hr | hr
        · exact dis r hr u (by simp [hu])
        · exact x.dis r hr u hu
    refine ⟨js.length + 1 - (j + 1), by omega, h₅, tk₄, j + 1, _, ys ++ [y], nn₁ ++ nn', rfl, hlt, rfl, x₅, hcI h₅ (hs₅.extBut _ _ fx.ID (N₄ (I, oI) (List.mem_append_right _ (by simp))).1), by simp [hac, ha], by simp [hbc, hb], fun r hr => List.mem_append_right _ (hsub r hr), by rw [List.length_append, hyl]; simp; omega, ?_⟩
    rw [genW_take hz, ← List.append_assoc]
    exact (hys.mono fun _ _ q => q.mono fun r hr => List.mem_append_right _ hr).snoc (hway.mono fun r hr => List.mem_append_left _ hr)
  · have ej : j = js.length := Nat.le_antisymm hjl (Nat.not_lt.mp hlt)
    subst ej
    refine Wk.done _ _ _ ⟨by simpa using hit, htup⟩ fun h₂ tk₂ hk => ?_
    refine hR h₂ tk₂ mC ys nn' (x.keep fx fun b o hb e => hk b o (by simpa using hb) e) hsub ?_
    rw [hlen, List.take_length] at hys
    exact hys
theorem nest_outer {I C D Ws : Addr} {news : List (Addr × Obj)} {mC : PySem.Str → Option Value} {R : Result → Shared → Prop} {its : List Value} {kW : Nat}
    (hh : A.handled = none) (hkind : scope.kind = .function) (hxa : scope.names.lookup a = some .local) (hxb : scope.names.lookup b = some .local) (hxc : scope.names.lookup c = some .local) (hab : a ≠ b) (hac : a ≠ c) (hbc : b ≠ c)
    (hs2 : ∀ (env : Env) x, foldedSetIterable iter2 env x = pure x)
    (fx : Fix h₀ L I C D) (x : NS h₀ L m I C D news s.heap mC [] []) (hit : s.heap.IsListIter I Ws 0) (hWs : (Ws, ({ cls := .type "list", data := .seq its.toArray kW } : Obj)) ∈ news) (hds : WaysAt news its ds)
    (hct : (CT, ({ cls := .type "tuple", data := .seq js.toArray kj } : Obj)) ∈ news) (hj : IntsAre js chs) (hW : (W, oW) ∈ news) (hX : (X, oX) ∈ news)
    (he : EltOk prog w A h₀ L m env elt scope cl a b c W oW wt chs ds) (hi2 : SrcOk prog w A h₀ L m env iter2 scope cl X oX CT) (hsz : (ds.length + 1) * chs.length ≤ sizeLine)
    (hR : ∀ h tk mC' ys' nn', NS h₀ L m I C D news h mC' ys' nn' → WaysAt nn' ys' (ways1 ds chs wt) → R (.ok .next) { s with heap := h, toks := tk }) :
    codeAny (model prog w) A (.compLoop (two elt iter iter2 a b c pa pb pc tp kk scope pos) 0 (.ref I) (.ref D) (compEnvC scope cl C env)) R s := by
  have hlen := hj.length
  have hlds := hds.length
  have hWI : @Ne Nat Ws I := (x.off _ (List.mem_append_right _ hWs)).1
  have Wk := Walks.list (prog := prog) (w := w) (A := A) hh I Ws hWI its.toArray
  refine loop2_0 (fun q s' => ∃ h tk i mC ys nn, s' = { s with heap := h, toks := tk } ∧ i ≤ its.length ∧ q = its.length + 1 - i ∧ NS h₀ L m I C D news h mC ys nn ∧ h.IsListIter I Ws i ∧ WaysAt nn ys (ways1 (ds.take i) chs wt))
    ?_ (its.length + 1) ⟨s.heap, s.toks, 0, mC, [], [], rfl, Nat.zero_le _, rfl, x, hit, by rw [List.take_zero]; exact .nil⟩
  rintro q s' ⟨h, tk, i, mC, ys, nn, rfl, hil, rfl, x, hit, hys⟩
  have hlst : h.IsList Ws its.toArray := ⟨_, (x.N _ (List.mem_cons_of_mem _ (List.mem_append_right _ hWs))).1, rfl, _, rfl⟩
  by_cases hlt : i < its.length
  · refine Wk.item i _ _ _ (by simpa using hlt) ⟨hit, hlst⟩ fun v h₂ tk₂ hv hst hk => ?_
    obtain ⟨d, hd, t, p, us, k, kt, tt, rfl, ht, hp, hus⟩ := paired_at hds i v (by simpa using hv)
    have x₂ := x.keep fx (h' := h₂) fun b o hb e => hk b o (by simpa using hb) e
    refine wpAny_letOwnedTupleGo_listiter hst.1 ?_
    have htup : h₂.IsTuple t #[.ref p, .int d.2 tt] := ⟨_, (x₂.N _ (List.mem_cons_of_mem _ (List.mem_append_right _ ht))).1, rfl, _, rfl⟩
    refine kcp_assign (env := compEnvC scope cl C env) hh htup (lookup_relabel_local hxa) (lookup_relabel_local hxb) (by simp [compEnvC, relabel, hkind]) x₂.nsC fun h₃ tk₃ hn₃ hs₃ => ?_
    have x₃ := x₂.set fx hn₃ fun b o hb e => hs₃ b o hb e
    obtain ⟨oI, heI, hcI⟩ : ∃ oI, h₃.get? I = some oI ∧ ∀ g : Heap, g.get? I = some oI → g.IsListIter I Ws (i + 1) := by
      obtain ⟨o, e, r⟩ := hst.1
      exact ⟨o, hs₃ _ _ fx.IC e, fun g e' => ⟨o, e', r⟩⟩
    obtain ⟨oC, heC, hoC⟩ := ns_obj hn₃
    have Nx : News h₀ L h₃ ((X, oX) :: (C, oC) :: []) := by
      intro r hr
      rcases List.mem_cons.mp hr with rfl | hr
      · exact x₃.N _ (List.mem_cons_of_mem _ (List.mem_append_right _ hX))
      · rw [List.mem_singleton.mp hr]; exact ⟨heC, fx.CL, fx.hC⟩
    refine wpAny_mono (hi2 C oC _ { s with heap := h₃, toks := tk₃ } [] _ hoC x₃.F Nx) (fun v s₄ q => ?_) fun _ _ e => e
    obtain ⟨rfl, rfl⟩ := q
    refine wpAny_of_eq (hs2 _ _) ?_
    have hctup : h₃.IsTuple CT js.toArray := ⟨_, (x₃.N _ (List.mem_cons_of_mem _ (List.mem_append_right _ hct))).1, rfl, _, rfl⟩
    refine wpAny_pyIter_tuple hctup ?_
    have up : ∀ b o, h₃.get? b = some o → (h₃.push { cls := .type "tuple_iterator", data := .fields #[.ref CT, .int 0 0] }).get? b = some o := fun b o e => Heap.get?_push_of_some _ e
    have lt : ∀ b o, h₃.get? b = some o → @Ne Nat b h₃.objs.size := fun b o e => Nat.ne_of_lt (Heap.lt_size e)
    have lC := lt _ _ heC
    have lD := lt _ _ (x₃.N _ List.mem_cons_self).1
    have lL : @Ne Nat L h₃.objs.size := Nat.ne_of_lt x₃.F.ns.lt
    have fx' : Fix h₀ L h₃.objs.size C D := ⟨Ne.symm lC, Ne.symm lD, fx.CD, Ne.symm lL, fx.CL, fx.DL, next_is_new x₃.F, fx.hC, fx.hD⟩
    have x₄ : NS h₀ L m h₃.objs.size C D ((I, oI) :: news) (h₃.push { cls := .type "tuple_iterator", data := .fields #[.ref CT, .int 0 0] }) (fun z => if z = b then some (.int d.2 tt) else if z = a then some (.ref p) else mC z) ys nn := by
      have nw : ∀ r ∈ (D, lst ys) :: (nn ++ (I, oI) :: news), h₃.get? r.1 = some r.2 ∧ r.1 ≠ L ∧ h₀.get? r.1 = none := by
        intro r hr
        rcases List.mem_cons.mp hr with rfl | hr
        · exact x₃.N _ List.mem_cons_self
        · rcases List.mem_append.mp hr with hr | hr
          · exact x₃.N _ (List.mem_cons_of_mem _ (List.mem_append_left _ hr))
          · rcases List.mem_cons.mp hr with rfl | hr
            · exact ⟨heI, fx.IL, fx.hI⟩
            · exact x₃.N _ (List.mem_cons_of_mem _ (List.mem_append_right _ hr))
      refine ⟨x₃.F.keeps up, x₃.nsC.at' fun o e => up _ o e, fun r hr => ⟨up _ _ (nw r hr).1, (nw r hr).2⟩, fun r hr => ⟨lt _ _ (nw r (List.mem_cons_of_mem _ hr)).1, ?_⟩, fun r hr u hu => ?_⟩
      · rcases List.mem_append.mp hr with hr | hr
        · exact (x₃.off r (List.mem_append_left _ hr)).2
        · rcases List.mem_cons.mp hr with rfl | hr
          · exact ⟨fx.IC, fx.ID⟩
          · exact (x₃.off r (List.mem_append_right _ hr)).2
      · rcases List.mem_cons.mp hu with rfl | hu
        · exact Ne.symm (x₃.off r (List.mem_append_left _ hr)).1
        · exact x₃.dis r hr u hu
    have hit₄ : (h₃.push { cls := .type "tuple_iterator", data := .fields #[.ref CT, .int 0 0] }).IsTupleIter h₃.objs.size CT 0 := ⟨_, Heap.get?_push_size _ rfl, rfl, rfl⟩
    have hctup₄ : (h₃.push { cls := .type "tuple_iterator", data := .fields #[.ref CT, .int 0 0] }).IsTuple CT js.toArray := hctup.push _
    have hil' : i < ds.length := by omega
    have hlc : (ways1 (ds.take i) chs wt).length + js.length ≤ sizeLine := by
      rw [ways1_len, List.length_take, hlen]
      have h1 : (min i ds.length) * chs.length ≤ ds.length * chs.length := Nat.mul_le_mul_right _ (Nat.min_le_right _ _)
      have h2 : (ds.length + 1) * chs.length = ds.length * chs.length + chs.length := by rw [Nat.add_mul, Nat.one_mul]
      omega
    have inner : codeAny (model prog w) A (.compLoop (two elt iter iter2 a b c pa pb pc tp kk scope pos) 1 (.ref h₃.objs.size) (.ref D) (compEnvC scope cl C env))
        (fun r s' => match r with | .ok _ => ∃ m_1, m_1 < its.length + 1 - i ∧ (∃ h tk i mC ys nn, s' = { s with heap := h, toks := tk } ∧ i ≤ its.length ∧ m_1 = its.length + 1 - i ∧ NS h₀ L m I C D news h mC ys nn ∧ h.IsListIter I Ws i ∧ WaysAt nn ys (ways1 (ds.take i) chs wt)) | .error _ => False)
        { s with heap := h₃.push { cls := .type "tuple_iterator", data := .fields #[.ref CT, .int 0 0] }, toks := tk₃ } := by
      refine nest_inner (d := d) (p := p) (us := us) (k := k) (tt := tt) (acc := ways1 (ds.take i) chs wt) hh hkind hxc hac hbc fx' x₄ hit₄ (List.mem_cons_of_mem _ hct) hj (by simp [hab]) (by simp) (List.mem_append_right _ (List.mem_cons_of_mem _ hp)) hus (List.mem_of_getElem? hd) (List.mem_cons_of_mem _ hW) he hys hlc ?_
      intro h₅ tk₅ mC₅ ys₅ nn₅ x₅ _ hw₅
      refine ⟨its.length + 1 - (i + 1), by omega, h₅, tk₅, i + 1, mC₅, ys₅, nn₅, rfl, hlt, rfl, ⟨x₅.F, x₅.nsC, fun r hr => x₅.N r ?_, fun r hr => ⟨?_, ?_⟩, fun r hr u hu => x₅.dis r hr u (List.mem_cons_of_mem _ hu)⟩, hcI h₅ (x₅.N (I, oI) (by simp)).1, ?_⟩
      · rcases List.mem_cons.mp hr with rfl | hr
        · exact List.mem_cons_self
        · rcases List.mem_append.mp hr with hr | hr
          · exact List.mem_cons_of_mem _ (List.mem_append_left _ hr)
          · exact List.mem_cons_of_mem _ (List.mem_append_right _ (List.mem_cons_of_mem _ hr))
      · rcases List.mem_append.mp hr with hr | hr
        · exact Ne.symm (x₅.dis r hr (I, oI) List.mem_cons_self)
        · exact (x₃.off r (List.mem_append_right _ hr)).1
      · rcases List.mem_append.mp hr with hr | hr
        · exact (x₅.off r (List.mem_append_left _ hr)).2
        · exact (x₅.off r (List.mem_append_right _ (List.mem_cons_of_mem _ hr))).2
      · rw [ways1_take hd]; exact hw₅
    exact start2_1 inner ((Walks.tuple hh h₃.objs.size CT (lt _ _ (x₃.N _ (List.mem_cons_of_mem _ (List.mem_append_right _ hct))).1) js.toArray).self 0 _ _ _ ⟨hit₄, hctup₄⟩ inner)
  · have ej : i = its.length := Nat.le_antisymm hil (Nat.not_lt.mp hlt)
    subst ej
    refine Wk.done _ _ _ ⟨by simpa using hit, hlst⟩ fun h₂ tk₂ hk => ?_
    refine hR h₂ tk₂ mC ys nn (x.keep fx fun b o hb e => hk b o (by simpa using hb) e) ?_
    rw [hlds, List.take_length] at hys
    exact hys
end
end Mine
end
section
open PySem PySem.W PyProof.Rows PySem.Calls PyProof.Rows.LCg
namespace Mine
section
variable {prog : Program} {w : World} {A : Around} {E : Value → Shared → Prop} {s : Shared} {h₀ : Heap} {L : Addr} {m : PySem.Str → Option Value} {env : Env}
variable {elt iter iter2 : Expr} {a b c y : PySem.Str} {pa pb pc tp py : Pos} {kk : Nat} {scope : Scope} {pos spos : Pos} {cl : List (PySem.Str × Addr)} {wt : Int} {chs : List Int} {ds : List (List Int × Int)}
theorem ne_up {p n q k : Nat} (h : p < n) (e : q = n + k) : @Ne Nat p q := by omega
theorem ne_succ {n q : Nat} (e : q = n + 1) : @Ne Nat n q := by omega
/-- a comprehension's own places, newly laid over a list's iterator -/
theorem lay_comp {e : Expr} {Ws : Addr} {news : List (Addr × Obj)} {its : List Value} {kW : Nat} {RR : Value → Addr → Result → Shared → Prop}
    (hcell : ∀ z ∈ scope.names, z.2 ≠ .cell) (hkind : scope.kind = .function) (F : Fr h₀ L s.heap m) (N : News h₀ L s.heap news) (hWs : (Ws, ({ cls := .type "list", data := .seq its.toArray kW } : Obj)) ∈ news)
    (h : ∀ (I C D : Addr) (h₁ : Heap) (tk : Nat), Fix h₀ L I C D → NS h₀ L m I C D news h₁ (fun _ => none) [] [] → h₁.IsListIter I Ws 0 →
      codeAny (model prog w) A (.compStart e 0 (.ref I) (.ref D) (compEnvC scope cl C env)) (RR (.ref D) C) { s with heap := h₁, toks := tk }) :
    wpAny (model prog w) A (pyIter (.ref Ws)) (fun it s₂ => wpAny (model prog w) A (newList []) (fun acc s₃ => wpAny (model prog w) A (newFunctionEnv scope env.globals cl [] env.qual none .none (some env)) (fun cenv s₄ =>
      codeAny (model prog w) A (.compStart e 0 it acc { cenv with scope := relabel scope env }) (RR acc cenv.locals) s₄) E s₃) E s₂) E s := by
  have hl : s.heap.IsList Ws its.toArray := ⟨_, (N _ hWs).1, rfl, _, rfl⟩
  refine wpAny_pyIter_list hl ?_
  refine wpAny_newObj_type ?_
  generalize hg : s.heap.push { cls := .type "list_iterator", data := .fields #[.ref Ws, .int 0 0] } = g
  refine wpAny_newFunctionEnv hcell (by intro z hz; simp at hz) (fun h₁ hns₁ hsb₁ => ?_) hkind
  dsimp only at hns₁ hsb₁ ⊢
  generalize hg2 : g.push { cls := .type "list", dict := none, data := .seq ([] : List Value).toArray } = g2 at hns₁ hsb₁ ⊢
  have zI : g.objs.size = s.heap.objs.size + 1 := by rw [← hg, Heap.size_push]
  have zC : g2.objs.size = s.heap.objs.size + 2 := by rw [← hg2, Heap.size_push, zI]
  have lo : ∀ p o, s.heap.get? p = some o → p < s.heap.objs.size := fun p o e => Heap.lt_size e
  have lL : L < s.heap.objs.size := F.ns.lt
  have nI : @Ne Nat s.heap.objs.size g2.objs.size := by rw [zC]; omega
  have nD : @Ne Nat g.objs.size g2.objs.size := by rw [zI, zC]; omega
  have up : ∀ p o, s.heap.get? p = some o → h₁.get? p = some o := fun p o e => by
    have := lo p o e
    exact hsb₁.extBut p o (ne_up this zC) (Heap.get?_push_of_some _ (hg2 ▸ Heap.get?_push_of_some _ (hg ▸ Heap.get?_push_of_some _ e)))
  have atI : h₁.get? s.heap.objs.size = some { cls := .type "list_iterator", data := .fields #[.ref Ws, .int 0 0] } :=
    hsb₁.extBut _ _ nI (Heap.get?_push_of_some _ (hg2 ▸ Heap.get?_push_of_some _ (hg ▸ Heap.get?_push_size _ rfl)))
  have atD : h₁.get? g.objs.size = some (lst []) := hsb₁.extBut _ _ nD (Heap.get?_push_of_some _ (hg2 ▸ Heap.get?_push_size _ rfl))
  have free : ∀ p, s.heap.objs.size ≤ p → h₀.get? p = none := fun p hp => by
    cases e : h₀.get? p with
    | none => rfl
    | some o => exact absurd (lo p o (F.keep p o e)) (Nat.not_lt.mpr hp)
  have fx : Fix h₀ L s.heap.objs.size g2.objs.size g.objs.size :=
    ⟨nI, ne_succ zI, Ne.symm nD, Nat.ne_of_gt lL, Ne.symm (ne_up lL zC), Ne.symm (ne_up lL zI), free _ (Nat.le_refl _), free _ (by rw [zC]; omega), free _ (by rw [zI]; omega)⟩
  refine h _ _ _ h₁ _ fx ⟨F.keeps up, hns₁, fun p hp => ?_, fun p hp => ?_, fun p hp => nomatch hp⟩ ⟨_, atI, rfl, rfl⟩
  · rcases List.mem_cons.mp hp with rfl | hp
    · exact ⟨atD, fx.DL, fx.hD⟩
    · exact ⟨up _ _ (N p hp).1, (N p hp).2⟩
  · have := lo _ _ (N p hp).1
    refine ⟨Nat.ne_of_lt this, ?_, ?_⟩
    · exact ne_up this zC
    · exact ne_up this zI
/-- what the first clause's source must be -/
def SrcTwo (prog : Program) (w : World) (A : Around) (h₀ : Heap) (L : Addr) (m : PySem.Str → Option Value) (env : Env) (elt iter2 : Expr) (a b c y : PySem.Str) (scope : Scope) (cl : List (PySem.Str × Addr)) (wt : Int) (chs : List Int) (ds : List (List Int × Int)) (Q : Flow → Shared → Prop) (xv : Value) (s₁ : Shared) : Prop :=
  ∃ (Ws W X CT : Addr) (oW oX : Obj) (its js : List Value) (kW kj : Nat) (news : List (Addr × Obj)), xv = .ref Ws ∧ A.handled = none ∧ Fr h₀ L s₁.heap m ∧ News h₀ L s₁.heap news ∧
    (Ws, ({ cls := .type "list", data := .seq its.toArray kW } : Obj)) ∈ news ∧ WaysAt news its ds ∧ (CT, ({ cls := .type "tuple", data := .seq js.toArray kj } : Obj)) ∈ news ∧ IntsAre js chs ∧ (W, oW) ∈ news ∧ (X, oX) ∈ news ∧
    (ds.length + 1) * chs.length ≤ sizeLine ∧ EltOk prog w A h₀ L m env elt scope cl a b c W oW wt chs ds ∧ SrcOk prog w A h₀ L m env iter2 scope cl X oX CT ∧
    ∀ (D : Addr) (h : Heap) (tk : Nat) (ys : List Value) (nn : List (Addr × Obj)), Fr h₀ L h (fun z => if z = y then some (.ref D) else m z) → News h₀ L h ((D, lst ys) :: (nn ++ news)) → (∀ p ∈ nn ++ news, @Ne Nat p.1 D) → (∀ p ∈ nn, ∀ q ∈ news, @Ne Nat q.1 p.1) →
      WaysAt nn ys (ways1 ds chs wt) → Q .next { s₁ with heap := h, toks := tk }
theorem Assign_two {Q : Flow → Shared → Prop} (wt : Int) (chs : List Int) (ds : List (List Int × Int)) (F₀ : Fr h₀ L s.heap m) (hLe : env.locals = L)
    (hsw : swapsWith (two elt iter iter2 a b c pa pb pc tp kk scope pos) (some (.Name y py)) spos.line env = pure true)
    (hclos : closureFor scope env = pure cl) (hcell : ∀ z ∈ scope.names, z.2 ≠ .cell) (hkind : scope.kind = .function)
    (hnames : ∀ z ∈ scope.names, z.2 = .local → scope.names.lookup z.1 = some .local) (hxa : scope.names.lookup a = some .local) (hxb : scope.names.lookup b = some .local) (hxc : scope.names.lookup c = some .local) (hab : a ≠ b) (hac : a ≠ c) (hbc : b ≠ c)
    (hy : env.kindOf y = some .local) (hp : (env.scope.kind == .class || (env.scope.kind == .module && env.locals != env.globals)) = false)
    (h : wpAny (model prog w) A (eval iter env) (SrcTwo prog w A h₀ L m env elt iter2 a b c y scope cl wt chs ds Q) E s)
    (hs : ∀ x, foldedSetIterable iter env x = pure x := by intro _; rfl) (hs2 : ∀ (env : Env) x, foldedSetIterable iter2 env x = pure x := by intro _ _; rfl) :
    wpAny (model prog w) A (exec (.Assign [.Name y py] (two elt iter iter2 a b c pa pb pc tp kk scope pos) spos) env) Q E s := by
  subst hLe
  rw [exec_Assign_Name_used _ _ _ _ hsw]
  refine wpAny_bind (wpAny_standAt (wpAny_bind ?_))
  show wpAny _ A (do let _ ← comprehension (two elt iter iter2 a b c pa pb pc tp kk scope pos) scope env _ (newList []) false (eval iter env) (some (assign (.Name y py) env))) _ _ s
  refine wpAny_bind (wpAny_mono (wpAny_comprehension_free (use := some (assign (.Name y py) env)) (Q := fun _ s' => Q .next s') rfl hs hclos hkind hnames
    (wpAny_mono h (fun xv s₁ h₁ => ?_) fun _ _ e => e)) (fun _ s' hq => wpAny_pure (wpAny_pure hq)) fun _ _ e => e)
  obtain ⟨Ws, W, X, CT, oW, oX, its, js, kW, kj, news, rfl, hh, F, N, hWs, hds, hct, hj, hW, hX, hsz, he, hi2, fin⟩ := h₁
  refine lay_comp hcell hkind F N hWs fun I C D h₁ tk fx x hit => ?_
  have loop : codeAny (model prog w) A (.compLoop (two elt iter iter2 a b c pa pb pc tp kk scope pos) 0 (.ref I) (.ref D) (compEnvC scope cl C env)) (compPost (model prog w) A E (some (assign (.Name y py) env)) (fun _ s' => Q .next s') (.ref D) C) { s₁ with heap := h₁, toks := tk } := by
    refine nest_outer hh hkind hxa hxb hxc hab hac hbc hs2 fx x hit hWs hds hct hj hW hX he hi2 hsz fun h₂ tk₂ mC ys nn x₂ hw => ?_
    show wpAny _ A (assign (.Name y py) env (.ref D)) _ _ _
    refine wpAny_assign_Name (wpAny_storeName_local hy x₂.F.ns (fun h₃ hn₃ hs₃ => ?_) hp)
    have x₃F : Fr h₀ env.locals h₃ (fun z => if z = y then some (.ref D) else m z) := x₂.F.set hn₃ hs₃
    have keep : ∀ p o, (@Ne Nat p env.locals) → h₂.get? p = some o → h₃.get? p = some o := fun p o hp e => hs₃.extBut p o hp e
    refine ⟨mC, x₂.nsC.sameBut hs₃ fx.CL, fun h₄ hs₄ => ?_⟩
    refine fin D h₄ _ ys nn (x₃F.change hs₄ fx.CL fx.hC) (fun p hp => ⟨?_, (x₂.N p hp).2⟩) (fun p hp => (x₂.off p hp).2.2) x₂.dis hw
    refine hs₄.extBut _ _ ?_ (keep _ _ (x₂.N p hp).2.1 (x₂.N p hp).1)
    rcases List.mem_cons.mp hp with rfl | hp
    · exact Ne.symm fx.CD
    · exact (x₂.off p hp).2.1
  exact codeAny_compStart_list loop ((Walks.list hh I Ws (x.off _ (List.mem_append_right _ hWs)).1 its.toArray).self 0 _ _ _ ⟨hit, ⟨_, (x.N _ (List.mem_cons_of_mem _ (List.mem_append_right _ hWs))).1, rfl, _, rfl⟩⟩ loop)
end
end Mine
end
section
open PySem PySem.W PyProof.Rows PySem.Calls PyProof.Rows.LCg
namespace Mine
/-! law 2: all ways to lay the weights -/
def chO (c : Nat) : List Int := if c = 99 then [-1, 0, 1] else if c = 112 then [0, 1] else [-1, 0]
def facO (c : Nat) : Int := if c = 99 then 3 else 2
def waysF (l : List Nat) : List (List Int × Int) × Int := l.foldl (fun s c => (ways1 s.1 (chO c) s.2, s.2 * facO c)) ([([], 0)], 1)
theorem waysF_snoc (l : List Nat) (c : Nat) : waysF (l ++ [c]) = (ways1 (waysF l).1 (chO c) (waysF l).2, (waysF l).2 * facO c) := by
  unfold waysF; rw [List.foldl_append, List.foldl_cons, List.foldl_nil]
theorem waysF_take {l : List Nat} {i c : Nat} (h : l[i]? = some c) : waysF (l.take (i + 1)) = (ways1 (waysF (l.take i)).1 (chO c) (waysF (l.take i)).2, (waysF (l.take i)).2 * facO c) := by
  rw [take_get h, waysF_snoc]
def WaysOff (m' m₀ : PySem.Str → Option Value) : Prop := ∀ z : PySem.Str, z ≠ "letter" → z ≠ "ways" → m' z = m₀ z
def WaysNext (h₀ : Heap) (L : Addr) (m₀ : PySem.Str → Option Value) (W X : Addr) (l : List Nat) (i : Nat) (I : Addr) (oI : Obj) (s s₂ : Shared) : Prop :=
  ∃ (D : Addr) (xs : List Value) (k : Nat) (oW oX : Obj) (rest : List (Addr × Obj)) (t : Tok) (h' : Heap) (tk : Nat) (m' : PySem.Str → Option Value), s₂ = { s with heap := h', toks := tk } ∧ Fr h₀ L h' m' ∧
    News h₀ L h' ((I, oI) :: (D, listOf xs.toArray k) :: (W, oW) :: (X, oX) :: rest) ∧ ((@Ne Nat D I) ∧ (@Ne Nat W I) ∧ (@Ne Nat X I) ∧ (@Ne Nat D W) ∧ (@Ne Nat D X)) ∧
    (∀ p ∈ rest, (@Ne Nat p.1 I) ∧ (@Ne Nat p.1 W) ∧ (@Ne Nat p.1 X) ∧ (@Ne Nat p.1 D)) ∧
    WaysAt rest xs (waysF (l.take (i + 1))).1 ∧ oW.data = .cell (some (.int (waysF (l.take (i + 1))).2 t)) ∧ (∃ v, oX.data = .cell v) ∧ m' "ways" = some (.ref D) ∧ WaysOff m' m₀
def WaysPost (h₀ : Heap) (L : Addr) (m₀ : PySem.Str → Option Value) (W X : Addr) (l : List Nat) (i : Nat) (I : Addr) (oI : Obj) (s : Shared) (Q : Flow → Shared → Prop) (fl : Flow) (s₂ : Shared) : Prop :=
  match fl with
  | .ret v => Q (.ret v) s₂
  | .brk => Q .next s₂
  | _ => WaysNext h₀ L m₀ W X l i I oI s s₂
theorem ways_loop {prog : Program} {w : World} {A : Around} {E : Value → Shared → Prop} {Q : Flow → Shared → Prop} {s : Shared} {env : Env} {h₀ : Heap} {body : List Stmt} {m₀ : PySem.Str → Option Value} {W X D₀ t₀ p₀ : Addr} {oW oX : Obj} {k₀ k₁ k₂ : Nat} {l : List Nat} {tx tw tz : Tok} {x : PySem.Str} {vX : Option Value}
    (hh : A.handled = none) (F : Fr h₀ env.locals s.heap m₀) (N : News h₀ env.locals s.heap [(D₀, listOf ([.ref t₀] : List Value).toArray k₀), (W, oW), (X, oX), (t₀, ({ cls := .type "tuple", data := .seq #[.ref p₀, .int 0 tz] k₁ } : Obj)), (p₀, listOf ([] : List Value).toArray k₂)])
    (hxx : x = "letter") (hd : (@Ne Nat D₀ W) ∧ (@Ne Nat D₀ X) ∧ (@Ne Nat t₀ W) ∧ (@Ne Nat t₀ X) ∧ (@Ne Nat t₀ D₀) ∧ (@Ne Nat p₀ W) ∧ (@Ne Nat p₀ X) ∧ (@Ne Nat p₀ D₀)) (hw : oW.data = .cell (some (.int 1 tw))) (hx : oX.data = .cell vX) (hm : m₀ "ways" = some (.ref D₀))
    (turn : ∀ (i c : Nat) (D : Addr) (xs : List Value) (k : Nat) (oW oX : Obj) (rest : List (Addr × Obj)) (t tl : Tok) (vX : Option Value) (I : Addr) (oI : Obj) h tk, l[i]? = some c → WaysAt rest xs (waysF (l.take i)).1 → oW.data = .cell (some (.int (waysF (l.take i)).2 t)) → oX.data = .cell vX →
      ((@Ne Nat D I) ∧ (@Ne Nat W I) ∧ (@Ne Nat X I) ∧ (@Ne Nat D W) ∧ (@Ne Nat D X)) → (∀ p ∈ rest, p.1 ≠ I) → (∀ p ∈ rest, p.1 ≠ W) → (∀ p ∈ rest, p.1 ≠ X) → (∀ p ∈ rest, p.1 ≠ D) →
      Fr h₀ env.locals h (fun (z : PySem.Str) => if z = "letter" then some (.str ⟨#[c]⟩ tl) else if z = "ways" then some (.ref D) else m₀ z) → News h₀ env.locals h ((I, oI) :: (D, listOf xs.toArray k) :: (W, oW) :: (X, oX) :: rest) →
      wpAny (model prog w) A (execs body env) (WaysPost h₀ env.locals m₀ W X l i I oI { s with heap := h, toks := tk } Q) E { s with heap := h, toks := tk })
    (done : ∀ (D : Addr) (xs : List Value) (k : Nat) (oW oX : Obj) (rest : List (Addr × Obj)) (t : Tok) (u0 : Option Value) h tk, WaysAt rest xs (waysF l).1 → oW.data = .cell (some (.int (waysF l).2 t)) →
      Fr h₀ env.locals h (fun (z : PySem.Str) => if z = "letter" then u0 else if z = "ways" then some (.ref D) else m₀ z) → News h₀ env.locals h ((D, listOf xs.toArray k) :: (W, oW) :: (X, oX) :: rest) → Q .next { s with heap := h, toks := tk }) :
    wpAny (model prog w) A (pyIter (.str (T l) tx)) (fun it s₂ => LoopAtV prog w A h₀ env x body Q E it s₂) E s := by
  subst hxx
  have em : ∀ (m₁ : PySem.Str → Option Value) (u0 : Option Value) (D : Addr), m₁ "ways" = some (.ref D) → WaysOff m₁ m₀ → (fun y : PySem.Str => if y = "letter" then u0 else m₁ y) = (fun (z : PySem.Str) => if z = "letter" then u0 else if z = "ways" then some (.ref D) else m₀ z) := by
    intro m₁ u0 D h1 h2
    funext z
    by_cases e0 : z = "letter"
    · subst e0; simp
    · by_cases e1 : z = "ways"
      · subst e1; simp [e0, h1]
      · simp only [if_neg e0, if_neg e1]; exact h2 z e0 e1
  refine text_J (xt := T l) (news := [(D₀, listOf ([.ref t₀] : List Value).toArray k₀), (W, oW), (X, oX), (t₀, ({ cls := .type "tuple", data := .seq #[.ref p₀, .int 0 tz] k₁ } : Obj)), (p₀, listOf ([] : List Value).toArray k₂)])
    (fun i m nx => ∃ (D : Addr) (xs : List Value) (k : Nat) (oW oX : Obj) (rest : List (Addr × Obj)) (t : Tok), nx = (D, listOf xs.toArray k) :: (W, oW) :: (X, oX) :: rest ∧ ((@Ne Nat D W) ∧ (@Ne Nat D X)) ∧ (∀ p ∈ rest, (@Ne Nat p.1 W) ∧ (@Ne Nat p.1 X) ∧ (@Ne Nat p.1 D)) ∧
      WaysAt rest xs (waysF (l.take i)).1 ∧ oW.data = .cell (some (.int (waysF (l.take i)).2 t)) ∧ (∃ v, oX.data = .cell v) ∧ m "ways" = some (.ref D) ∧ WaysOff m m₀)
    hh F N ⟨D₀, [.ref t₀], k₀, oW, oX, [(t₀, ({ cls := .type "tuple", data := .seq #[.ref p₀, .int 0 tz] k₁ } : Obj)), (p₀, listOf ([] : List Value).toArray k₂)], tw, rfl, ⟨hd.1, hd.2.1⟩, ?_, ?_, hw, ⟨_, hx⟩, hm, fun _ _ _ => rfl⟩ ?_ ?_
  · intro p hp
    rcases List.mem_cons.mp hp with rfl | hp
    · exact ⟨hd.2.2.1, hd.2.2.2.1, hd.2.2.2.2.1⟩
    · rw [List.mem_singleton.mp hp]; exact ⟨hd.2.2.2.2.2.1, hd.2.2.2.2.2.2.1, hd.2.2.2.2.2.2.2⟩
  · exact .cons ⟨t₀, p₀, [], k₂, k₁, tz, rfl, List.mem_cons_self, List.mem_cons_of_mem _ List.mem_cons_self, .nil⟩ .nil
  · rintro i c t m₁ nx I oI h tk hc ⟨D, xs, k, oW, oX, rest, tw, rfl, hdd, hr, hw, hcw, ⟨vX, hx⟩, hm, ho⟩ hI F₁ N₁
    rw [em m₁ _ D hm ho] at F₁
    have hc' : l[i]? = some c := by simpa [T] using hc
    have hDI : @Ne Nat D I := hI _ List.mem_cons_self
    have hWI : @Ne Nat W I := hI _ (List.mem_cons_of_mem _ List.mem_cons_self)
    have hXI : @Ne Nat X I := hI _ (List.mem_cons_of_mem _ (List.mem_cons_of_mem _ List.mem_cons_self))
    refine wpAny_mono (turn i c D xs k oW oX rest tw t vX I oI h tk hc' hw hcw hx ⟨hDI, hWI, hXI, hdd.1, hdd.2⟩ (fun p hp => hI p (List.mem_cons_of_mem _ (List.mem_cons_of_mem _ (List.mem_cons_of_mem _ hp)))) (fun p hp => (hr p hp).1) (fun p hp => (hr p hp).2.1) (fun p hp => (hr p hp).2.2) F₁ N₁) (fun f s₂ p => ?_) fun _ _ e => e
    have fin : WaysNext h₀ env.locals m₀ W X l i I oI { s with heap := h, toks := tk } s₂ → EndJ h₀ env.locals (fun m nx => ∃ (D : Addr) (xs : List Value) (k : Nat) (oW oX : Obj) (rest : List (Addr × Obj)) (t : Tok), nx = (D, listOf xs.toArray k) :: (W, oW) :: (X, oX) :: rest ∧ ((@Ne Nat D W) ∧ (@Ne Nat D X)) ∧ (∀ p ∈ rest, (@Ne Nat p.1 W) ∧ (@Ne Nat p.1 X) ∧ (@Ne Nat p.1 D)) ∧
      WaysAt rest xs (waysF (l.take (i + 1))).1 ∧ oW.data = .cell (some (.int (waysF (l.take (i + 1))).2 t)) ∧ (∃ v, oX.data = .cell v) ∧ m "ways" = some (.ref D) ∧ WaysOff m m₀) I oI { s with heap := h, toks := tk } s₂ := by
      rintro ⟨D', xs', k', oW', oX', rest', t', h', tk', m', e, F', N', g1, g2, g3, g4, g5, g6, g7⟩
      refine ⟨h', tk', m', (D', listOf xs'.toArray k') :: (W, oW') :: (X, oX') :: rest', e, F', N', fun p hp => ?_, D', xs', k', oW', oX', rest', t', rfl, g1.2.2.2, fun p hp => (g2 p hp).2, g3, g4, g5, g6, g7⟩
      rcases List.mem_cons.mp hp with rfl | hp
      · exact g1.1
      · rcases List.mem_cons.mp hp with rfl | hp
        · exact g1.2.1
        · rcases List.mem_cons.mp hp with rfl | hp
          · exact g1.2.2.1
          · exact (g2 p hp).1
    cases f with
    | ret v => exact p
    | brk => exact p
    | next => exact fin p
    | cont => exact fin p
  · rintro m₁ nx h tk ⟨D, xs, k, oW, oX, rest, tw, rfl, _, _, hw, hcw, _, hm, ho⟩ F₁ N₁
    rw [T_len, List.take_length] at hw hcw
    refine done D xs k oW oX rest tw (m₁ "letter") h tk hw hcw ?_ N₁
    rw [← em m₁ (m₁ "letter") D hm ho]
    have : (fun y : PySem.Str => if y = "letter" then m₁ "letter" else m₁ y) = m₁ := by
      funext y
      by_cases e : y = "letter"
      · simp [e]
      · simp [e]
    rw [this]; exact F₁
theorem SrcTwo.intro {prog : Program} {w : World} {A : Around} {h₀ : Heap} {L : Addr} {m : PySem.Str → Option Value} {env : Env} {elt iter2 : Expr} {a b c y : PySem.Str} {scope : Scope} {cl : List (PySem.Str × Addr)} {wt : Int} {chs : List Int} {ds : List (List Int × Int)} {Q : Flow → Shared → Prop} {s₁ : Shared}
    {Ws W X CT : Addr} {oW oX : Obj} {its js : List Value} {kW kj : Nat} {news rest : List (Addr × Obj)} {tw : Tok}
    (hh : A.handled = none) (F : Fr h₀ L s₁.heap m) (N : News h₀ L s₁.heap news) (hWs : (Ws, listOf its.toArray kW) ∈ news) (hds : WaysAt rest its ds) (hsub : ∀ p ∈ rest, p ∈ news)
    (hdX : oX.data = .cell (some (.ref CT))) (hX : (X, oX) ∈ news) (hct : (CT, ({ cls := .type "tuple", data := .seq js.toArray kj } : Obj)) ∈ news) (hj : IntsAre js chs) (hdW : oW.data = .cell (some (.int wt tw))) (hW : (W, oW) ∈ news) (hsz : (ds.length + 1) * chs.length ≤ 100000)
    (he : EltOk prog w A h₀ L m env elt scope cl a b c W oW wt chs ds) (hi2 : SrcOk prog w A h₀ L m env iter2 scope cl X oX CT)
    (fin : ∀ (D : Addr) (h : Heap) (tk : Nat) (ys : List Value) (nn : List (Addr × Obj)), Fr h₀ L h (fun z => if z = y then some (.ref D) else m z) → News h₀ L h ((D, lst ys) :: (nn ++ news)) → (∀ p ∈ nn ++ news, @Ne Nat p.1 D) → (∀ p ∈ nn, ∀ q ∈ news, @Ne Nat q.1 p.1) →
      WaysAt nn ys (ways1 ds chs wt) → Q .next { s₁ with heap := h, toks := tk }) :
    SrcTwo prog w A h₀ L m env elt iter2 a b c y scope cl wt chs ds Q (.ref Ws) s₁ :=
  ⟨Ws, W, X, CT, oW, oX, its, js, kW, kj, news, rfl, hh, F, N, hWs, hds.mono fun _ _ q => q.mono hsub, hct, hj, hW, hX, by rw [sizeLine_eq]; omega, he, hi2, fin⟩
theorem waysF_bd : ∀ (l : List Nat), (waysF l).1.length ≤ 3 ^ l.length ∧ 0 ≤ (waysF l).2 ∧ (waysF l).2 ≤ ((3 ^ l.length : Nat) : Int) ∧ ∀ d ∈ (waysF l).1, d.1.length = l.length ∧ -((3 ^ l.length : Nat) : Int) ≤ d.2 ∧ d.2 ≤ ((3 ^ l.length : Nat) : Int) := by
  intro l
  induction h : l.length generalizing l with
  | zero =>
    have : l = [] := List.length_eq_zero_iff.mp h
    subst this
    refine ⟨by decide, by decide, by decide, fun d hd => ?_⟩
    have : d = ([], 0) := by simpa [waysF] using hd
    subst this; decide
  | succ n ih =>
    obtain ⟨l', c, rfl⟩ : ∃ l' c, l = l' ++ [c] := ⟨l.dropLast, l.getLast (by intro e; rw [e] at h; cases h), (List.dropLast_concat_getLast _).symm⟩
    have hn : l'.length = n := by simpa using h
    obtain ⟨h1, h2, h3, h4⟩ := ih l' hn
    have hch : (chO c).length ≤ 3 ∧ ∀ x ∈ chO c, -1 ≤ x ∧ x ≤ 1 := by
      unfold chO; split
      · decide
      · split <;> decide
    have hf : 2 ≤ facO c ∧ facO c ≤ 3 := by unfold facO; split <;> decide
    have hp : ((3 ^ (n + 1) : Nat) : Int) = 3 * ((3 ^ n : Nat) : Int) := by rw [Nat.pow_succ]; omega
    rw [waysF_snoc]
    refine ⟨?_, ?_, ?_, fun d hd => ?_⟩
    · show (ways1 _ _ _).length ≤ _
      rw [ways1_len, Nat.pow_succ]
      exact Nat.mul_le_mul h1 hch.1
    · exact Int.mul_nonneg h2 (by omega)
    · show (waysF l').2 * facO c ≤ _
      rw [hp]
      have : (waysF l').2 * facO c ≤ (waysF l').2 * 3 := Int.mul_le_mul_of_nonneg_left hf.2 h2
      omega
    · obtain ⟨d', hd', hd⟩ := List.mem_flatMap.mp hd
      obtain ⟨x, hx, rfl⟩ := List.mem_map.mp hd
      have := h4 d' hd'
      have hx := hch.2 x hx
      refine ⟨by rw [List.length_append, this.1]; rfl, ?_, ?_⟩
      · have : -(waysF l').2 ≤ x * (waysF l').2 := by
          have := Int.mul_le_mul_of_nonneg_right hx.1 h2; omega
        show _ ≤ d'.2 + x * (waysF l').2
        omega
      · have : x * (waysF l').2 ≤ (waysF l').2 := by
          have := Int.mul_le_mul_of_nonneg_right hx.2 h2; omega
        show d'.2 + x * (waysF l').2 ≤ _
        omega
theorem ways_sz {l : List Nat} {chs : List Int} (hl : l.length ≤ 3) (hc : chs.length ≤ 3) : ((waysF l).1.length + 1) * chs.length ≤ 100000 := by
  have h1 := (waysF_bd l).1
  have h2 : 3 ^ l.length ≤ 3 ^ 3 := Nat.pow_le_pow_right (by decide) hl
  have h3 : ((waysF l).1.length + 1) * chs.length ≤ 28 * 3 := Nat.mul_le_mul (by omega) hc
  omega
theorem mul_ok1 {x b : Int} (h : x ∈ [-1, 0, 1]) : IntMulOk x b := by
  refine IntMulOk.of_left ?_
  have : x = -1 ∨ x = 0 ∨ x = 1 := by simpa using h
  rcases this with e | e | e <;> subst e <;> decide
theorem chO_in {c : Nat} {x : Int} (h : x ∈ chO c) : x ∈ [-1, 0, 1] := by
  unfold chO at h
  split at h
  · exact h
  · split at h
    · exact List.mem_cons_of_mem _ h
    · simp at h ⊢; omega
theorem way_sz {l : List Nat} {d : List Int × Int} (hl : l.length ≤ 3) (h : d ∈ (waysF l).1) : d.1.length ≤ 3 := by
  have := (waysF_bd l).2.2.2 d h; omega
theorem allLt_ne {a : Addr} : ∀ {l : List (Addr × Obj)}, AllLt a l → ∀ q ∈ l, @Ne Nat q.1 a
  | [], _, q, h => nomatch h
  | p :: r, x, q, h => by
    rcases List.mem_cons.mp h with rfl | h
    · exact Nat.ne_of_lt x.1
    · exact allLt_ne x.2 q h
theorem elt_end {h₀ h' : Heap} {L T P Q' : Addr} {m : PySem.Str → Option Value} {s : Shared} {base : List (Addr × Obj)} {d : List Int × Int} {oQ : Obj} {ws : List Value} {k1 k2 tk : Nat} {y : Int} {ty : Tok}
    (F : Fr h₀ L h' m) (N : News h₀ L h' ((T, ({ cls := .type "tuple", data := .seq #[.ref P, .int y ty] k1 } : Obj)) :: (P, listOf ws.toArray k2) :: (Q', oQ) :: base)) (hi : IntsAre ws d.1) (hy : y = d.2)
    (lP : AllLt P ((Q', oQ) :: base)) (lT : AllLt T ((P, listOf ws.toArray k2) :: (Q', oQ) :: base)) : EltPost h₀ L m s base d (.ref T) { s with heap := h', toks := tk } := by
  subst hy
  refine ⟨h', tk, [(T, ({ cls := .type "tuple", data := .seq #[.ref P, .int d.2 ty] k1 } : Obj)), (P, listOf ws.toArray k2)], rfl, F, fun p hp => N p ?_, fun p hp q hq => ?_, T, P, ws, k2, k1, ty, rfl, List.mem_cons_self, List.mem_cons_of_mem _ List.mem_cons_self, hi⟩
  · rcases List.mem_cons.mp hp with rfl | hp
    · exact List.mem_cons_self
    · rcases List.mem_cons.mp hp with rfl | hp
      · exact List.mem_cons_of_mem _ List.mem_cons_self
      · exact List.mem_cons_of_mem _ (List.mem_cons_of_mem _ (List.mem_cons_of_mem _ hp))
  · rcases List.mem_cons.mp hp with rfl | hp
    · exact allLt_ne lT q (List.mem_cons_of_mem _ (List.mem_cons_of_mem _ hq))
    · rw [List.mem_singleton.mp hp]
      exact allLt_ne lP q (List.mem_cons_of_mem _ hq)
theorem ways_mid {h₀ h : Heap} {L D I W X CT : Addr} {oI oW oX : Obj} {ys : List Value} {nn news : List (Addr × Obj)} (N : News h₀ L h ((D, lst ys) :: (nn ++ news))) (hoff : ∀ p ∈ nn ++ news, @Ne Nat p.1 D) (hdis : ∀ p ∈ nn, ∀ q ∈ news, @Ne Nat q.1 p.1)
    (hI : (I, oI) ∈ news) (hW : (W, oW) ∈ news) (_hdX : oX.data = .cell (some (.ref CT))) (hX : (X, oX) ∈ news) :
    News h₀ L h ((I, oI) :: (D, lst ys) :: (W, oW) :: (X, oX) :: nn) ∧ ((@Ne Nat D I) ∧ (@Ne Nat D W) ∧ (@Ne Nat D X)) ∧ (∀ p ∈ nn, p.1 ≠ I) ∧ (∀ p ∈ nn, p.1 ≠ W) ∧ (∀ p ∈ nn, p.1 ≠ X) ∧ (∀ p ∈ nn, p.1 ≠ D) := by
  refine ⟨fun p hp => ?_, ⟨Ne.symm (hoff _ (List.mem_append_right _ hI)), Ne.symm (hoff _ (List.mem_append_right _ hW)), Ne.symm (hoff _ (List.mem_append_right _ hX))⟩, fun p hp => Ne.symm (hdis p hp _ hI), fun p hp => Ne.symm (hdis p hp _ hW), fun p hp => Ne.symm (hdis p hp _ hX), fun p hp => hoff p (List.mem_append_left _ hp)⟩
  rcases List.mem_cons.mp hp with rfl | hp
  · exact N _ (List.mem_cons_of_mem _ (List.mem_append_right _ hI))
  · rcases List.mem_cons.mp hp with rfl | hp
    · exact N _ List.mem_cons_self
    · rcases List.mem_cons.mp hp with rfl | hp
      · exact N _ (List.mem_cons_of_mem _ (List.mem_append_right _ hW))
      · rcases List.mem_cons.mp hp with rfl | hp
        · exact N _ (List.mem_cons_of_mem _ (List.mem_append_right _ hX))
        · exact N _ (List.mem_cons_of_mem _ (List.mem_append_left _ hp))
theorem ways_end {h₀ h' : Heap} {L : Addr} {m₀ m' : PySem.Str → Option Value} {W X D I : Addr} {oI oW oX : Obj} {l : List Nat} {i c : Nat} {ys : List Value} {rest all : List (Addr × Obj)} {s : Shared} {Q : Flow → Shared → Prop} {tk : Nat} {y : Int} {t : Tok} {v : Option Value}
    (F : Fr h₀ L h' m') (N : News h₀ L h' all) (hI : (I, oI) ∈ all) (hD : (D, lst ys) ∈ all) (hW : (W, oW) ∈ all) (hX : (X, oX) ∈ all) (hs : ∀ p ∈ rest, p ∈ all)
    (hd : (@Ne Nat D I) ∧ (@Ne Nat D W) ∧ (@Ne Nat D X)) (hWI : @Ne Nat W I) (hXI : @Ne Nat X I) (nI : ∀ p ∈ rest, p.1 ≠ I) (nW : ∀ p ∈ rest, p.1 ≠ W) (nX : ∀ p ∈ rest, p.1 ≠ X) (nD : ∀ p ∈ rest, p.1 ≠ D)
    (hc : l[i]? = some c) (hw : WaysAt rest ys (ways1 (waysF (l.take i)).1 (chO c) (waysF (l.take i)).2)) (hdW : oW.data = .cell (some (.int y t))) (hy : y = (waysF (l.take i)).2 * facO c) (hdX : oX.data = .cell v) (hm : m' "ways" = some (.ref D)) (ho : WaysOff m' m₀) :
    WaysPost h₀ L m₀ W X l i I oI s Q .next { s with heap := h', toks := tk } := by
  subst hy
  refine ⟨D, ys, ys.length, oW, oX, rest, t, h', tk, m', rfl, F, fun p hp => ?_, ⟨hd.1, hWI, hXI, hd.2.1, hd.2.2⟩, fun p hp => ⟨nI p hp, nW p hp, nX p hp, nD p hp⟩, ?_, ?_, ⟨v, hdX⟩, hm, ho⟩
  · rcases List.mem_cons.mp hp with rfl | hp
    · exact N _ hI
    · rcases List.mem_cons.mp hp with rfl | hp
      · exact N _ hD
      · rcases List.mem_cons.mp hp with rfl | hp
        · exact N _ hW
        · rcases List.mem_cons.mp hp with rfl | hp
          · exact N _ hX
          · exact N _ (hs _ hp)
  · rw [waysF_take hc]; exact hw
  · rw [hdW, waysF_take hc]
theorem let_cases {c : Nat} (h : c ∈ [99, 112, 109]) : c = 99 ∨ (c = 112 ∨ c = 109) := by simpa using h
theorem one_S99 {c : Nat} (h : c = 99) : (⟨#[c]⟩ : PySem.Str) = PySem.Str.ofString "c" := by subst h; decide +kernel
theorem one_S112 {c : Nat} (h : c = 112) : (⟨#[c]⟩ : PySem.Str) = PySem.Str.ofString "p" := by subst h; decide +kernel
theorem one_S109 {c : Nat} (h : c = 109) : (⟨#[c]⟩ : PySem.Str) = PySem.Str.ofString "m" := by subst h; decide +kernel
section
variable {M : Model} {A : Around} {E : Value → Shared → Prop} {s : Shared} {Q : Value → Shared → Prop}
theorem sub_key2 {value slice : Expr} {v : Value} {x y : PySem.Str} {t : Tok} (e : x = y) (h : wpAny M A (subscriptTail value slice v (.str y t)) Q E s) : wpAny M A (subscriptTail value slice v (.str x t)) Q E s := by
  subst e; exact h
end
end Mine
end
section
open PySem PySem.W PyProof.Rows PySem.Calls
namespace Mine
/-! law 2, the plain part: of all ways just one weighs a load, and it is the one that the weighing finds -/
def fitT (q b : Int) (d : List Int × Int) : Bool := (q - d.2).fmod b == 0
def fitD (q b : Int) (d : List Int × Int) : List Int × Int := (d.1, (q - d.2).fdiv b)
def fitsF (q b : Int) (ds : List (List Int × Int)) : List (List Int × Int) := (ds.filter (fitT q b)).map (fitD q b)
def comb (w : Int) (d e : List Int × Int) : List Int × Int := (d.1 ++ e.1, d.2 + w * e.2)
theorem ways_from (ds : List (List Int × Int)) (w : Int) : ∀ l : List Nat, l.foldl (fun s c => (ways1 s.1 (chO c) s.2, s.2 * facO c)) (ds, w) = (ds.flatMap fun d => (waysF l).1.map (comb w d), w * (waysF l).2) := by
  intro l
  induction h : l.length generalizing l with
  | zero =>
    have : l = [] := List.length_eq_zero_iff.mp h
    subst this
    simp [waysF, comb]
  | succ n ih =>
    obtain ⟨l', c, rfl⟩ : ∃ l' c, l = l' ++ [c] := ⟨l.dropLast, l.getLast (by intro e; rw [e] at h; cases h), (List.dropLast_concat_getLast _).symm⟩
    have hn : l'.length = n := by simpa using h
    rw [List.foldl_append, List.foldl_cons, List.foldl_nil, ih l' hn, waysF_snoc]
    refine Prod.ext ?_ ?_
    · show ways1 _ _ _ = _
      unfold ways1
      rw [List.flatMap_assoc]
      congr 1; funext d
      rw [List.flatMap_map, List.map_flatMap]
      congr 1; funext e
      unfold genW
      rw [List.map_map]
      congr 1; funext x
      simp only [comb, Function.comp, List.append_assoc, Prod.mk.injEq, true_and]
      rw [Int.mul_add, Int.mul_left_comm, Int.add_assoc]
    · show w * (waysF l').2 * facO c = w * ((waysF l').2 * facO c)
      rw [Int.mul_assoc]
theorem waysF_cons (c : Nat) (l : List Nat) : waysF (c :: l) = ((chO c).flatMap fun x => (waysF l).1.map fun e => (x :: e.1, x + facO c * e.2), facO c * (waysF l).2) := by
  have h := ways_from (ways1 [([], 0)] (chO c) 1) (1 * facO c) l
  rw [Int.one_mul] at h
  show l.foldl _ (ways1 [([], 0)] (chO c) 1, 1 * facO c) = _
  rw [Int.one_mul, h]
  refine Prod.ext ?_ rfl
  show List.flatMap _ (ways1 [([], 0)] (chO c) 1) = _
  unfold ways1 genW
  simp only [List.flatMap_cons, List.flatMap_nil, List.append_nil, List.flatMap_map]
  congr 1; funext x
  congr 1; funext e
  simp [comb]
theorem weigh_from (acc : List Int) : ∀ (l : List Nat) (n : Nat), l.foldl (fun s c => (s.1 ++ [(wStep c s.2).1], (wStep c s.2).2)) (acc, n) = (acc ++ (weighF n l).1, (weighF n l).2) := by
  intro l
  induction h : l.length generalizing l with
  | zero =>
    intro n
    have : l = [] := List.length_eq_zero_iff.mp h
    subst this
    simp [weighF]
  | succ k ih =>
    intro n
    obtain ⟨l', c, rfl⟩ : ∃ l' c, l = l' ++ [c] := ⟨l.dropLast, l.getLast (by intro e; rw [e] at h; cases h), (List.dropLast_concat_getLast _).symm⟩
    have hn : l'.length = k := by simpa using h
    rw [List.foldl_append, List.foldl_cons, List.foldl_nil, ih l' hn n, weigh_snoc]
    simp
theorem weighF_cons (n c : Nat) (l : List Nat) : weighF n (c :: l) = ((wStep c n).1 :: (weighF (wStep c n).2 l).1, (weighF (wStep c n).2 l).2) := by
  have h := weigh_from [(wStep c n).1] l (wStep c n).2
  show l.foldl _ ([] ++ [(wStep c n).1], (wStep c n).2) = _
  rw [List.nil_append, h]; rfl
theorem waysF_pos : ∀ l : List Nat, 1 ≤ (waysF l).2 := by
  intro l
  induction l with
  | nil => decide
  | cons c l ih =>
    rw [waysF_cons]
    show 1 ≤ facO c * (waysF l).2
    have hf : 2 ≤ facO c := by unfold facO; split <;> decide
    have : 2 * (waysF l).2 ≤ facO c * (waysF l).2 := Int.mul_le_mul_of_nonneg_right hf (by omega)
    omega
/-- a first pan that does not fit -/
theorem fits_no {f b n x : Int} (hf : 2 ≤ f) (hb : 1 ≤ b) (hx : (n - x).fmod f ≠ 0) (ds : List (List Int × Int)) : ((ds.map fun e => (x :: e.1, x + f * e.2)).filter (fitT n (f * b))) = [] := by
  rw [List.filter_eq_nil_iff]
  intro d hd
  obtain ⟨e, _, rfl⟩ := List.mem_map.mp hd
  unfold fitT
  intro h
  have h0 : (n - (x + f * e.2)).fmod (f * b) = 0 := by simpa using h
  have hfb : f * b ≠ 0 := by
    have : 2 * b ≤ f * b := Int.mul_le_mul_of_nonneg_right hf (by omega)
    omega
  have h1 : f * b ∣ n - (x + f * e.2) := Int.dvd_of_fmod_eq_zero h0
  have h2 : f ∣ n - (x + f * e.2) := Int.dvd_trans (Int.dvd_mul_right f b) h1
  have h3 : f ∣ n - x := by
    have : n - x = (n - (x + f * e.2)) + f * e.2 := by omega
    rw [this]; exact Int.dvd_add h2 (Int.dvd_mul_right f e.2)
  exact hx (Int.fmod_eq_zero_of_dvd h3)
/-- the one that fits -/
theorem fits_yes {f b n x n' : Int} (hf : 2 ≤ f) (hb : 1 ≤ b) (hx : n = x + f * n') (ds : List (List Int × Int)) : fitsF n (f * b) (ds.map fun e => (x :: e.1, x + f * e.2)) = (fitsF n' b ds).map fun e => (x :: e.1, e.2) := by
  subst hx
  have e1 : ∀ e : List Int × Int, x + f * n' - (x + f * e.2) = f * (n' - e.2) := fun e => by rw [Int.mul_sub]; omega
  have hfb : 0 ≤ f * b := Int.mul_nonneg (by omega) (by omega)
  have e2 : ∀ z : Int, (f * z).fmod (f * b) = f * z.fmod b := fun z => by
    rw [Int.fmod_eq_emod_of_nonneg _ hfb, Int.fmod_eq_emod_of_nonneg _ (by omega), Int.mul_emod_mul_of_pos _ _ (by omega)]
  have e3 : ∀ z : Int, (f * z).fdiv (f * b) = z.fdiv b := fun z => by
    rw [Int.fdiv_eq_ediv_of_nonneg _ hfb, Int.fdiv_eq_ediv_of_nonneg _ (by omega), Int.mul_ediv_mul_of_pos _ _ (by omega)]
  unfold fitsF
  rw [List.filter_map, List.map_map, List.map_map]
  have hp : (fitT (x + f * n') (f * b) ∘ fun e : List Int × Int => (x :: e.1, x + f * e.2)) = fitT n' b := by
    funext e
    show ((x + f * n' - (x + f * e.2)).fmod (f * b) == 0) = ((n' - e.2).fmod b == 0)
    rw [e1, e2, Bool.eq_iff_iff, beq_iff_eq, beq_iff_eq, Int.mul_eq_zero]
    omega
  rw [hp]
  congr 1
  funext e
  show (x :: e.1, (x + f * n' - (x + f * e.2)).fdiv (f * b)) = (x :: e.1, (n' - e.2).fdiv b)
  rw [e1, e3]
theorem fits_app (q b : Int) (a c : List (List Int × Int)) : fitsF q b (a ++ c) = fitsF q b a ++ fitsF q b c := by
  unfold fitsF; rw [List.filter_append, List.map_append]
theorem fits_none {q b : Int} {ds : List (List Int × Int)} (h : ds.filter (fitT q b) = []) : fitsF q b ds = [] := by unfold fitsF; rw [h]; rfl
theorem law_fits : ∀ (l : List Nat), LetOk l → ∀ n : Nat, fitsF (n : Int) (waysF l).2 (waysF l).1 = [((weighF n l).1, (((weighF n l).2 : Nat) : Int))] := by
  intro l
  induction l with
  | nil =>
    intro _ n
    simp [waysF, weighF, fitsF, fitT, fitD]
  | cons c l ih =>
    intro hl n
    have ih := ih (fun c hc => hl c (List.mem_cons_of_mem _ hc))
    have hb := waysF_pos l
    rw [waysF_cons, weighF_cons]
    show fitsF (n : Int) (facO c * (waysF l).2) ((chO c).flatMap fun x => (waysF l).1.map fun e => (x :: e.1, x + facO c * e.2)) = _
    have yes : ∀ {f x : Int} {n' : Nat}, 2 ≤ f → (n : Int) = x + f * (n' : Int) → fitsF (n : Int) (f * (waysF l).2) ((waysF l).1.map fun e => (x :: e.1, x + f * e.2)) = [(x :: (weighF n' l).1, (((weighF n' l).2 : Nat) : Int))] := fun hf hx => by
      rw [fits_yes hf hb hx, ih]; rfl
    have no : ∀ {f x : Int}, 2 ≤ f → ((n : Int) - x).fmod f ≠ 0 → fitsF (n : Int) (f * (waysF l).2) ((waysF l).1.map fun e => (x :: e.1, x + f * e.2)) = [] := fun hf hx => fits_none (fits_no hf hb hx _)
    rcases let_cases (hl c List.mem_cons_self) with hc | hc | hc <;> subst hc
    · rw [show chO 99 = [-1, 0, 1] from rfl, show facO 99 = 3 from rfl]
      simp only [List.flatMap_cons, List.flatMap_nil, List.append_nil, fits_app]
      have h3 : n % 3 = 0 ∨ n % 3 = 1 ∨ n % 3 = 2 := by omega
      have fm : ∀ z : Int, z.fmod 3 = z % 3 := fun z => Int.fmod_eq_emod_of_nonneg _ (by decide)
      rcases h3 with h | h | h
      · rw [step_c0 rfl h, no (x := -1) (by decide) (by rw [fm]; omega), yes (x := 0) (n' := n / 3) (by decide) (by omega), no (x := 1) (by decide) (by rw [fm]; omega)]; rfl
      · rw [step_c1 rfl h, no (x := -1) (by decide) (by rw [fm]; omega), no (x := 0) (by decide) (by rw [fm]; omega), yes (x := 1) (n' := n / 3) (by decide) (by omega)]; rfl
      · rw [step_c2 rfl h, yes (x := -1) (n' := (n + 1) / 3) (by decide) (by omega), no (x := 0) (by decide) (by rw [fm]; omega), no (x := 1) (by decide) (by rw [fm]; omega)]; rfl
    · rw [show chO 112 = [0, 1] from rfl, show facO 112 = 2 from rfl]
      simp only [List.flatMap_cons, List.flatMap_nil, List.append_nil, fits_app]
      have fm : ∀ z : Int, z.fmod 2 = z % 2 := fun z => Int.fmod_eq_emod_of_nonneg _ (by decide)
      rcases (by omega : n % 2 = 0 ∨ n % 2 = 1) with h | h
      · rw [step_e (by decide) h, yes (x := 0) (n' := n / 2) (by decide) (by omega), no (x := 1) (by decide) (by rw [fm]; omega)]; rfl
      · rw [step_p (by decide) (by decide) h, no (x := 0) (by decide) (by rw [fm]; omega), yes (x := 1) (n' := n / 2) (by decide) (by omega)]; rfl
    · rw [show chO 109 = [-1, 0] from rfl, show facO 109 = 2 from rfl]
      simp only [List.flatMap_cons, List.flatMap_nil, List.append_nil, fits_app]
      have fm : ∀ z : Int, z.fmod 2 = z % 2 := fun z => Int.fmod_eq_emod_of_nonneg _ (by decide)
      rcases (by omega : n % 2 = 0 ∨ n % 2 = 1) with h | h
      · rw [step_e (by decide) h, no (x := -1) (by decide) (by rw [fm]; omega), yes (x := 0) (n' := n / 2) (by decide) (by omega)]; rfl
      · rw [step_m rfl h, yes (x := -1) (n' := (n + 1) / 2) (by decide) (by omega), no (x := 0) (by decide) (by rw [fm]; omega)]; rfl
end Mine
end
section
open PySem PySem.W PyProof.Rows PySem.Calls PyProof.Rows.LCg
namespace Mine
abbrev onePT (elt iter ct : Expr) (a b : PySem.Str) (pa pb tp : Pos) (kk : Nat) (scope : Scope) (pos : Pos) : Expr :=
  .ListComp elt [⟨.Tuple [.Name a pa, .Name b pb] kk tp, iter, [ct], 0⟩] scope pos
section
variable {prog : Program} {w : World} {A : Around} {E : Value → Shared → Prop} {s : Shared} {h₀ : Heap} {L : Addr} {m : PySem.Str → Option Value} {env : Env}
abbrev pansO (us : List Value) (k : Nat) : Obj := { cls := .type "list", data := .seq us.toArray k }
/-- the test of a pair -/
def TstOk (prog : Program) (w : World) (A : Around) (h₀ : Heap) (L : Addr) (m : PySem.Str → Option Value) (env : Env) (ct : Expr) (scope : Scope) (cl : List (PySem.Str × Addr)) (a b : PySem.Str) (B X : Addr) (oB oX : Obj) (tst : List Int × Int → Bool) (ds : List (List Int × Int)) : Prop :=
  ∀ (C : Addr) (oC : Obj) (m₂ : PySem.Str → Option Value) (s : Shared) (d : List Int × Int) (p : Addr) (us : List Value) (k : Nat) (tt : Tok) (rest : List (Addr × Obj)) (E' : Value → Shared → Prop),
    d ∈ ds → IntsAre us d.1 → NsObj oC m₂ → m₂ a = some (.ref p) → m₂ b = some (.int d.2 tt) → Fr h₀ L s.heap m → News h₀ L s.heap ((p, pansO us k) :: (B, oB) :: (X, oX) :: (C, oC) :: rest) →
    wpAny (model prog w) A (isTrue ct (compEnvC scope cl C env) (eval ct (compEnvC scope cl C env))) (fun ok s' => ok = tst d ∧ ∃ tk, s' = { s with toks := tk }) E' s
/-- what a chosen pair's element leaves: a pair of the same pans -/
def EltP (h₀ : Heap) (L : Addr) (m : PySem.Str → Option Value) (s : Shared) (p : Addr) (rest : List (Addr × Obj)) (z : Int) (y : Value) (s' : Shared) : Prop :=
  ∃ h' tk t k tz, s' = { s with heap := h', toks := tk } ∧ Fr h₀ L h' m ∧ News h₀ L h' ((t, ({ cls := .type "tuple", data := .seq #[.ref p, .int z tz] k } : Obj)) :: rest) ∧ (∀ q ∈ rest, @Ne Nat q.1 t) ∧ y = .ref t
def EltPOk (prog : Program) (w : World) (A : Around) (h₀ : Heap) (L : Addr) (m : PySem.Str → Option Value) (env : Env) (elt : Expr) (scope : Scope) (cl : List (PySem.Str × Addr)) (a b : PySem.Str) (B X : Addr) (oB oX : Obj) (tst : List Int × Int → Bool) (res : List Int × Int → List Int × Int) (ds : List (List Int × Int)) : Prop :=
  ∀ (C : Addr) (oC : Obj) (m₂ : PySem.Str → Option Value) (s : Shared) (d : List Int × Int) (p : Addr) (us : List Value) (k : Nat) (tt : Tok) (rest : List (Addr × Obj)) (E' : Value → Shared → Prop),
    d ∈ ds → tst d = true → IntsAre us d.1 → NsObj oC m₂ → m₂ a = some (.ref p) → m₂ b = some (.int d.2 tt) → Fr h₀ L s.heap m → News h₀ L s.heap ((p, pansO us k) :: (B, oB) :: (X, oX) :: (C, oC) :: rest) →
    wpAny (model prog w) A (eval elt (compEnvC scope cl C env)) (EltP h₀ L m s p ((p, pansO us k) :: (B, oB) :: (X, oX) :: (C, oC) :: rest) (res d).2) E' s
variable {elt iter ct : Expr} {a b y : PySem.Str} {pa pb tp py : Pos} {kk : Nat} {scope : Scope} {pos spos : Pos} {cl : List (PySem.Str × Addr)} {B X : Addr} {oB oX : Obj} {tst : List Int × Int → Bool} {res : List Int × Int → List Int × Int} {ds : List (List Int × Int)}
theorem pt_outer {I C D Ws : Addr} {news : List (Addr × Obj)} {mC : PySem.Str → Option Value} {R : Result → Shared → Prop} {its : List Value} {kW : Nat}
    (hh : A.handled = none) (hkind : scope.kind = .function) (hxa : scope.names.lookup a = some .local) (hxb : scope.names.lookup b = some .local) (hab : a ≠ b)
    (fx : Fix h₀ L I C D) (x : NS h₀ L m I C D news s.heap mC [] []) (hit : s.heap.IsListIter I Ws 0) (hWs : (Ws, ({ cls := .type "list", data := .seq its.toArray kW } : Obj)) ∈ news) (hds : WaysAt news its ds)
    (hB : (B, oB) ∈ news) (hX : (X, oX) ∈ news) (ht : TstOk prog w A h₀ L m env ct scope cl a b B X oB oX tst ds) (he : EltPOk prog w A h₀ L m env elt scope cl a b B X oB oX tst res ds) (hr : ∀ d, (res d).1 = d.1) (hsz : ds.length ≤ sizeLine)
    (hR : ∀ h tk mC' ys' nn', NS h₀ L m I C D news h mC' ys' nn' → WaysAt (nn' ++ news) ys' ((ds.filter tst).map res) → R (.ok .next) { s with heap := h, toks := tk }) :
    codeAny (model prog w) A (.compLoop (onePT elt iter ct a b pa pb tp kk scope pos) 0 (.ref I) (.ref D) (compEnvC scope cl C env)) R s := by
  have hlds := hds.length
  have hWI : @Ne Nat Ws I := (x.off _ (List.mem_append_right _ hWs)).1
  have Wk := Walks.list (prog := prog) (w := w) (A := A) hh I Ws hWI its.toArray
  refine kct_loop (fun q s' => ∃ h tk i mC ys nn, s' = { s with heap := h, toks := tk } ∧ i ≤ its.length ∧ q = its.length + 1 - i ∧ NS h₀ L m I C D news h mC ys nn ∧ h.IsListIter I Ws i ∧ ys.length ≤ i ∧ WaysAt (nn ++ news) ys (((ds.take i).filter tst).map res))
    ?_ (its.length + 1) ⟨s.heap, s.toks, 0, mC, [], [], rfl, Nat.zero_le _, rfl, x, hit, Nat.le_refl _, by rw [List.take_zero]; exact .nil⟩
  rintro q s' ⟨h, tk, i, mC, ys, nn, rfl, hil, rfl, x, hit, hyl, hys⟩
  have hlst : h.IsList Ws its.toArray := ⟨_, (x.N _ (List.mem_cons_of_mem _ (List.mem_append_right _ hWs))).1, rfl, _, rfl⟩
  by_cases hlt : i < its.length
  · refine Wk.item i _ _ _ (by simpa using hlt) ⟨hit, hlst⟩ fun v h₂ tk₂ hv hst hk => ?_
    obtain ⟨d, hd, t, p, us, k, kt, tt, rfl, htm, hp, hus⟩ := paired_at hds i v (by simpa using hv)
    have x₂ := x.keep fx (h' := h₂) fun b o hb e => hk b o (by simpa using hb) e
    refine wpAny_letOwnedTupleGo_listiter hst.1 ?_
    have htup : h₂.IsTuple t #[.ref p, .int d.2 tt] := ⟨_, (x₂.N _ (List.mem_cons_of_mem _ (List.mem_append_right _ htm))).1, rfl, _, rfl⟩
    refine kcp_assign (env := compEnvC scope cl C env) hh htup (lookup_relabel_local hxa) (lookup_relabel_local hxb) (by simp [compEnvC, relabel, hkind]) x₂.nsC fun h₃ tk₃ hn₃ hs₃ => ?_
    have x₃ := x₂.set fx hn₃ fun b o hb e => hs₃ b o hb e
    obtain ⟨oI, heI, hcI⟩ : ∃ oI, h₃.get? I = some oI ∧ ∀ g : Heap, g.get? I = some oI → g.IsListIter I Ws (i + 1) := by
      obtain ⟨o, e, r⟩ := hst.1
      exact ⟨o, hs₃ _ _ fx.IC e, fun g e' => ⟨o, e', r⟩⟩
    obtain ⟨oC, heC, hoC⟩ := ns_obj hn₃
    have Nall : News h₀ L h₃ ((p, pansO us k) :: (B, oB) :: (X, oX) :: (C, oC) :: (I, oI) :: (D, lst ys) :: (nn ++ news)) := by
      intro r hr
      rcases List.mem_cons.mp hr with rfl | hr
      · exact x₃.N _ (List.mem_cons_of_mem _ (List.mem_append_right _ hp))
      · rcases List.mem_cons.mp hr with rfl | hr
        · exact x₃.N _ (List.mem_cons_of_mem _ (List.mem_append_right _ hB))
        · rcases List.mem_cons.mp hr with rfl | hr
          · exact x₃.N _ (List.mem_cons_of_mem _ (List.mem_append_right _ hX))
          · rcases List.mem_cons.mp hr with rfl | hr
            · exact ⟨heC, fx.CL, fx.hC⟩
            · rcases List.mem_cons.mp hr with rfl | hr
              · exact ⟨heI, fx.IL, fx.hI⟩
              · exact x₃.N _ hr
    have hdm := List.mem_of_getElem? hd
    have ma : (fun z => if z = b then some (Value.int d.2 tt) else if z = a then some (Value.ref p) else mC z) a = some (.ref p) := by simp [hab]
    have mb : (fun z => if z = b then some (Value.int d.2 tt) else if z = a then some (Value.ref p) else mC z) b = some (.int d.2 tt) := by simp
    refine wpAny_mono (ht C oC _ { s with heap := h₃, toks := tk₃ } d p us k tt _ _ hdm hus hoC ma mb x₃.F Nall) (fun ok s₄ q => ?_) fun _ _ e => e
    obtain ⟨rfl, tk₄, rfl⟩ := q
    cases htd : tst d with
    | false =>
      simp only [Bool.false_eq_true, if_false]
      refine ⟨its.length + 1 - (i + 1), by omega, h₃, tk₄, i + 1, _, ys, nn, rfl, hlt, rfl, x₃, hcI h₃ heI, Nat.le_succ_of_le hyl, ?_⟩
      rw [take_get hd, List.filter_append, List.filter_cons_of_neg (by rw [htd]; decide), List.filter_nil, List.append_nil]
      exact hys
    | true =>
      simp only [if_true]
      refine wpAny_mono (he C oC _ { s with heap := h₃, toks := tk₄ } d p us k tt _ _ hdm htd hus hoC ma mb x₃.F Nall) (fun y s₅ q => ?_) fun _ _ e => e
      obtain ⟨h₅, tk₅, t', k', tz, rfl, F₅, N₅, dis, rfl⟩ := q
      have zD : h₅.get? D = some (lst ys) := (N₅ (D, lst ys) (by simp)).1
      have hyz : ys.toArray.size ≤ sizeLine := by rw [List.size_toArray]; omega
      refine append_at (hsz := hyz) zD fun h₆ hs₆ hD₆ => ?_
      have tD : @Ne Nat t' D := Ne.symm (dis (D, lst ys) (by simp))
      have tC : @Ne Nat t' C := Ne.symm (dis (C, oC) (by simp))
      have tI : @Ne Nat t' I := Ne.symm (dis (I, oI) (by simp))
      have x₆ : NS h₀ L m I C D news h₆ (fun z => if z = b then some (Value.int d.2 tt) else if z = a then some (Value.ref p) else mC z) (ys ++ [.ref t']) ((t', ({ cls := .type "tuple", data := .seq #[.ref p, .int (res d).2 tz] k' } : Obj)) :: nn) := by
        refine ⟨F₅.change hs₆ fx.DL fx.hD, (hoC.ns (N₅ (C, oC) (by simp)).1).sameBut hs₆ fx.CD, fun r hr => ?_, fun r hr => ?_, fun r hr u hu => ?_⟩
        · rcases List.mem_cons.mp hr with rfl | hr
          · exact ⟨hD₆.trans (congrArg some (lst_snoc ys _)), fx.DL, fx.hD⟩
          · rcases List.mem_cons.mp hr with rfl | hr
            · exact ⟨hs₆.extBut _ _ tD (N₅ _ List.mem_cons_self).1, (N₅ _ List.mem_cons_self).2⟩
            · have z := N₅ r (by simp only [List.mem_cons]; exact .inr (.inr (.inr (.inr (.inr (.inr (.inr hr)))))))
              exact ⟨hs₆.extBut _ _ (x.off r hr).2.2 z.1, z.2⟩
        · rcases List.mem_cons.mp hr with rfl | hr
          · exact ⟨tI, tC, tD⟩
          · exact x.off r hr
        · rcases List.mem_cons.mp hr with rfl | hr
          · exact dis u (by simp only [List.mem_cons]; exact .inr (.inr (.inr (.inr (.inr (.inr (List.mem_append_right _ hu)))))))
          · exact x.dis r hr u hu
      refine ⟨its.length + 1 - (i + 1), by omega, h₆, tk₅, i + 1, _, _, _, rfl, hlt, rfl, x₆, hcI h₆ (hs₆.extBut _ _ fx.ID (N₅ (I, oI) (by simp)).1), by rw [List.length_append]; exact Nat.succ_le_succ hyl, ?_⟩
      rw [take_get hd, List.filter_append, List.filter_cons_of_pos htd, List.filter_nil, List.map_append, List.map_singleton]
      refine (hys.mono fun _ _ q => q.mono fun r hr => List.mem_cons_of_mem _ hr).snoc ?_
      exact ⟨t', p, us, k, k', tz, rfl, List.mem_cons_self, List.mem_cons_of_mem _ (List.mem_append_right _ hp), by rw [hr]; exact hus⟩
  · have ej : i = its.length := Nat.le_antisymm hil (Nat.not_lt.mp hlt)
    subst ej
    refine Wk.done _ _ _ ⟨by simpa using hit, hlst⟩ fun h₂ tk₂ hk => ?_
    refine hR h₂ tk₂ mC ys nn (x.keep fx fun b o hb e => hk b o (by simpa using hb) e) ?_
    rw [hlds, List.take_length] at hys
    exact hys
/-- what the source must be -/
def SrcPT (prog : Program) (w : World) (A : Around) (h₀ : Heap) (L : Addr) (m : PySem.Str → Option Value) (env : Env) (elt ct : Expr) (a b y : PySem.Str) (scope : Scope) (cl : List (PySem.Str × Addr)) (tst : List Int × Int → Bool) (res : List Int × Int → List Int × Int) (ds : List (List Int × Int)) (Q : Flow → Shared → Prop) (xv : Value) (s₁ : Shared) : Prop :=
  ∃ (Ws B X : Addr) (oB oX : Obj) (its : List Value) (kW : Nat) (news : List (Addr × Obj)), xv = .ref Ws ∧ A.handled = none ∧ Fr h₀ L s₁.heap m ∧ News h₀ L s₁.heap news ∧
    (Ws, ({ cls := .type "list", data := .seq its.toArray kW } : Obj)) ∈ news ∧ WaysAt news its ds ∧ (B, oB) ∈ news ∧ (X, oX) ∈ news ∧ ds.length ≤ sizeLine ∧
    TstOk prog w A h₀ L m env ct scope cl a b B X oB oX tst ds ∧ EltPOk prog w A h₀ L m env elt scope cl a b B X oB oX tst res ds ∧ (∀ d, (res d).1 = d.1) ∧
    ∀ (D : Addr) (h : Heap) (tk : Nat) (ys : List Value) (nn : List (Addr × Obj)), Fr h₀ L h (fun z => if z = y then some (.ref D) else m z) → News h₀ L h ((D, lst ys) :: (nn ++ news)) → (∀ p ∈ nn ++ news, @Ne Nat p.1 D) → (∀ p ∈ nn, ∀ q ∈ news, @Ne Nat q.1 p.1) →
      WaysAt (nn ++ news) ys ((ds.filter tst).map res) → Q .next { s₁ with heap := h, toks := tk }
theorem Assign_PT {Q : Flow → Shared → Prop} (tst : List Int × Int → Bool) (res : List Int × Int → List Int × Int) (ds : List (List Int × Int)) (F₀ : Fr h₀ L s.heap m) (hLe : env.locals = L)
    (hsw : swapsWith (onePT elt iter ct a b pa pb tp kk scope pos) (some (.Name y py)) spos.line env = pure true)
    (hclos : closureFor scope env = pure cl) (hcell : ∀ z ∈ scope.names, z.2 ≠ .cell) (hkind : scope.kind = .function)
    (hnames : ∀ z ∈ scope.names, z.2 = .local → scope.names.lookup z.1 = some .local) (hxa : scope.names.lookup a = some .local) (hxb : scope.names.lookup b = some .local) (hab : a ≠ b)
    (hy : env.kindOf y = some .local) (hp : (env.scope.kind == .class || (env.scope.kind == .module && env.locals != env.globals)) = false)
    (h : wpAny (model prog w) A (eval iter env) (SrcPT prog w A h₀ L m env elt ct a b y scope cl tst res ds Q) E s)
    (hs : ∀ x, foldedSetIterable iter env x = pure x := by intro _; rfl) :
    wpAny (model prog w) A (exec (.Assign [.Name y py] (onePT elt iter ct a b pa pb tp kk scope pos) spos) env) Q E s := by
  subst hLe
  rw [exec_Assign_Name_used _ _ _ _ hsw]
  refine wpAny_bind (wpAny_standAt (wpAny_bind ?_))
  show wpAny _ A (do let _ ← comprehension (onePT elt iter ct a b pa pb tp kk scope pos) scope env _ (newList []) false (eval iter env) (some (assign (.Name y py) env))) _ _ s
  refine wpAny_bind (wpAny_mono (wpAny_comprehension_free (use := some (assign (.Name y py) env)) (Q := fun _ s' => Q .next s') rfl hs hclos hkind hnames
    (wpAny_mono h (fun xv s₁ h₁ => ?_) fun _ _ e => e)) (fun _ s' hq => wpAny_pure (wpAny_pure hq)) fun _ _ e => e)
  obtain ⟨Ws, B, X, oB, oX, its, kW, news, rfl, hh, F, N, hWs, hds, hB, hX, hsz, ht, he, hr, fin⟩ := h₁
  refine lay_comp hcell hkind F N hWs fun I C D h₁ tk fx x hit => ?_
  have loop : codeAny (model prog w) A (.compLoop (onePT elt iter ct a b pa pb tp kk scope pos) 0 (.ref I) (.ref D) (compEnvC scope cl C env)) (compPost (model prog w) A E (some (assign (.Name y py) env)) (fun _ s' => Q .next s') (.ref D) C) { s₁ with heap := h₁, toks := tk } := by
    refine pt_outer hh hkind hxa hxb hab fx x hit hWs hds hB hX ht he hr hsz fun h₂ tk₂ mC ys nn x₂ hw => ?_
    show wpAny _ A (assign (.Name y py) env (.ref D)) _ _ _
    refine wpAny_assign_Name (wpAny_storeName_local hy x₂.F.ns (fun h₃ hn₃ hs₃ => ?_) hp)
    have x₃F : Fr h₀ env.locals h₃ (fun z => if z = y then some (.ref D) else m z) := x₂.F.set hn₃ hs₃
    have keep : ∀ p o, (@Ne Nat p env.locals) → h₂.get? p = some o → h₃.get? p = some o := fun p o hp e => hs₃.extBut p o hp e
    refine ⟨mC, x₂.nsC.sameBut hs₃ fx.CL, fun h₄ hs₄ => ?_⟩
    refine fin D h₄ _ ys nn (x₃F.change hs₄ fx.CL fx.hC) (fun p hp => ⟨?_, (x₂.N p hp).2⟩) (fun p hp => (x₂.off p hp).2.2) x₂.dis hw
    refine hs₄.extBut _ _ ?_ (keep _ _ (x₂.N p hp).2.1 (x₂.N p hp).1)
    rcases List.mem_cons.mp hp with rfl | hp
    · exact Ne.symm fx.CD
    · exact (x₂.off p hp).2.1
  exact codeAny_compStart_list loop ((Walks.list hh I Ws (x.off _ (List.mem_append_right _ hWs)).1 its.toArray).self 0 _ _ _ ⟨hit, ⟨_, (x.N _ (List.mem_cons_of_mem _ (List.mem_append_right _ hWs))).1, rfl, _, rfl⟩⟩ loop)
end
end Mine
end
section
open PySem PySem.W PyProof.Rows
namespace Mine
theorem call_text {prog : Program} {w : World} {A : Around} {E : Value → Shared → Prop} {s : Shared} {Q : Value → Shared → Prop} {f : Addr} {x y : PySem.Str} {t : Tok} (e : x = y) (h : wpAny (model prog w) A (call (.ref f) [.str y t]) Q E s) : wpAny (model prog w) A (call (.ref f) [.str x t]) Q E s := by
  subst e; exact h
end Mine
end
section
open PySem PySem.W PyProof.Rows
namespace Mine
def numsOf2 (ns : List Int) : List Int := (ns.take 4).map (fun k' => k'.fmod 1000000) ++ [33, 31, 48, 295].drop (min 4 ns.length)
theorem nums_eq2 (ns : List Int) : (List.map (fun k' => k'.fmod 1000000) (List.take 4 ns)) ++ (List.drop (((List.map (fun k' => k'.fmod 1000000) (List.take 4 ns)).length : Nat) : Int).toNat [33, 31, 48, 295] : List Int) = numsOf2 ns := by
  unfold numsOf2
  rw [Int.toNat_natCast, List.length_map, List.length_take]
theorem numsOf2_len (ns : List Int) : (numsOf2 ns).length = 4 := by
  unfold numsOf2
  rw [List.length_append, List.length_map, List.length_take, List.length_drop]
  simp only [List.length_cons, List.length_nil]
  omega
theorem numsOf2_bd (ns : List Int) : ∀ n ∈ numsOf2 ns, 0 ≤ n ∧ n < 1000000 := by
  intro n h
  unfold numsOf2 at h
  rcases List.mem_append.mp h with h | h
  · obtain ⟨k, _, rfl⟩ := List.mem_map.mp h
    exact ⟨Int.fmod_nonneg_of_pos _ (by decide), Int.fmod_lt_of_pos _ (by decide)⟩
  · have h2 := List.mem_of_mem_drop h
    have : ∀ n ∈ ([33, 31, 48, 295] : List Int), 0 ≤ n ∧ n < 1000000 := by decide
    exact this n h2
end Mine
end
section
open PySem PySem.W PyProof.Rows
namespace Mine
theorem re5 {h₀ h : Heap} {L : Addr} {a b c d e : Addr × Obj} (N : News h₀ L h [a, b, c, d, e]) : News h₀ L h [a, e, d, b, c] := fun p hp => N p (by simp at hp ⊢; rcases hp with q | q | q | q | q <;> simp [q])
theorem sub_end {a b c d : Addr × Obj} {r : List (Addr × Obj)} : ∀ p ∈ a :: b :: r, p ∈ a :: b :: c :: d :: r := fun p hp => by simp at hp ⊢; rcases hp with q | q | q <;> simp [q]
end Mine
end
section
open PySem PySem.W PyProof.Rows PySem.Calls PyProof.V PySem.Spec
namespace Mine
theorem use_nums2 {prog : Program} {w : World} {K : Frag} {p : Program} {loose : List PySem.Str} {mean : ExcName → Option Value} {mg mb : PySem.Str → Option Value} {f : Addr}
    (cc : ∀ (l : Addr) (vs : List Value) (ns : List Int), IntsAre vs ns → ns.length ≤ 63 → Con prog w K p loose mean mg mb 4 f [.ref l] (fun h => h.IsList l vs.toArray) (ListR fun xs => IntsAre xs (numsOf2 ns)))
    {dp un : Nat} {gd : Option (List Code)} {cn : PySem.Str} {cs : Scope} {a : Addr} {ccd : Value} {cl : List (PySem.Str × Addr)} {outer : List Env} {A₀ : Around} {base h₀ : Heap} {L : Addr} {m : PySem.Str → Option Value} {s : Shared} {Q E : Value → Shared → Prop} {news : List (Addr × Obj)} {l : Addr} {vs : List Value} {ns : List Int}
    (B : Below A₀ base outer h₀) (F : Fr h₀ L s.heap m) (X : K.In h₀) (TT : Top p loose mean mg mb h₀) (hk : cs.kind = .function) (hd : dp + 4 < recursionLimit) (hu : un + 30 * 4 < cLine) (N : News h₀ L s.heap news)
    (hl : h₀.IsList l vs.toArray) (hi : IntsAre vs ns) (hn : ¬ ((63 : Nat) : Int) < ((ns.length : Nat) : Int))
    (h : ∀ a xs c NS h' tk', IntsAre xs NS → NS.length = 4 → (∀ n ∈ NS, 0 ≤ n ∧ n < 1000000) → Fr h₀ L h' m → News h₀ L h' ((a, { cls := .type "list", data := .seq xs.toArray c }) :: news) → (∀ p ∈ news, @Ne Nat p.1 a) → Q (.ref a) { s with heap := h', toks := tk' }) :
    wpAny (model prog w) (ktrTop dp un gd cn cs L a ccd cl outer) (call (.ref f) [.ref l]) Q E s := by
  refine use_O (cc l vs ns hi (by omega)) B F X TT hk hd hu (F.lst hl) N fun v more h' tk' hR F' N' off => ?_
  obtain ⟨a, xs, c, rfl, hx, rfl⟩ := hR
  exact h a xs c _ h' tk' hx (numsOf2_len ns) (numsOf2_bd ns) F' N' fun q hq => off _ (List.mem_singleton_self _) q hq
end Mine
namespace Mine
theorem num_nn {NS : List Int} (hb : ∀ n ∈ NS, 0 ≤ n ∧ n < 1000000) (i : Nat) : 0 ≤ NS.getD i 0 := by
  by_cases h : i < NS.length
  · rw [List.getD_eq_getElem?_getD, List.getElem?_eq_getElem h]; exact (hb _ (List.getElem_mem h)).1
  · rw [List.getD_eq_getElem?_getD, List.getElem?_eq_none (Nat.le_of_not_lt h)]; decide
theorem off_ne {nx news : List (Addr × Obj)} {d : Addr} {o : Obj} (h : ∀ p ∈ nx, ∀ q ∈ news, @Ne Nat q.1 p.1) (hm : (d, o) ∈ news) : ∀ p ∈ nx, p.1 ≠ d := fun p hp => Ne.symm (h p hp _ hm)
theorem use_ways {prog : Program} {w : World} {K : Frag} {p : Program} {loose : List PySem.Str} {mean : ExcName → Option Value} {mg mb : PySem.Str → Option Value} {d : Nat} {f : Addr} {vs : List Value} {ds : List (List Int × Int)} {bd : Int}
    (c : Con prog w K p loose mean mg mb d f vs (fun _ => True) (fun v more => ∃ (a D : Addr) (xs : List Value) (c k : Nat) (t : Tok) (nx : List (Addr × Obj)), v = .ref a ∧ WaysAt nx xs ds ∧ more = (a, { cls := .type "tuple", data := .seq #[.ref D, .int bd t] c }) :: (D, { cls := .type "list", data := .seq xs.toArray k }) :: nx))
    {dp un : Nat} {gd : Option (List Code)} {cn : PySem.Str} {cs : Scope} {a : Addr} {ccd : Value} {cl : List (PySem.Str × Addr)} {outer : List Env} {A₀ : Around} {base h₀ : Heap} {L : Addr} {m : PySem.Str → Option Value} {s : Shared} {Q E : Value → Shared → Prop} {news : List (Addr × Obj)}
    (B : Below A₀ base outer h₀) (F : Fr h₀ L s.heap m) (X : K.In h₀) (TT : Top p loose mean mg mb h₀) (hk : cs.kind = .function) (hd : dp + d < recursionLimit) (hu : un + 30 * d < cLine) (N : News h₀ L s.heap news)
    (h : ∀ (a D : Addr) (xs : List Value) (c k : Nat) (t : Tok) (nx : List (Addr × Obj)) h' tk', WaysAt nx xs ds → Fr h₀ L h' m → News h₀ L h' ((a, { cls := .type "tuple", data := .seq #[.ref D, .int bd t] c }) :: (D, { cls := .type "list", data := .seq xs.toArray k }) :: (news ++ nx)) →
      (∀ q ∈ news, @Ne Nat q.1 a) → (∀ q ∈ news, @Ne Nat q.1 D) → (∀ p ∈ nx, ∀ q ∈ news, @Ne Nat q.1 p.1) → Q (.ref a) { s with heap := h', toks := tk' }) :
    wpAny (model prog w) (ktrTop dp un gd cn cs L a ccd cl outer) (call (.ref f) vs) Q E s := by
  refine use_O c B F X TT hk hd hu trivial N fun v more h' tk' hR F' N' off => ?_
  obtain ⟨a, D, xs, c, k, t, nx, rfl, hw, rfl⟩ := hR
  refine h a D xs c k t nx h' tk' hw F' (fun p hp => N' p ?_) (fun q hq => off _ List.mem_cons_self q hq) (fun q hq => off _ (List.mem_cons_of_mem _ List.mem_cons_self) q hq) (fun p hp q hq => off p (List.mem_cons_of_mem _ (List.mem_cons_of_mem _ hp)) q hq)
  simp only [List.mem_cons, List.mem_append, List.cons_append] at hp ⊢
  rcases hp with h | h | h | h
  · exact .inl h
  · exact .inr (.inl h)
  · exact .inr (.inr (.inr h))
  · exact .inr (.inr (.inl h))
end Mine
namespace Mine
open PyProof.Rows.LCg
/-- a loop over a list that the call has made -/
theorem list_J {prog : Program} {w : World} {A : Around} {E : Value → Shared → Prop} {s : Shared} {env : Env} {h₀ : Heap} {x : PySem.Str} {body : List Stmt} {Q : Flow → Shared → Prop} {ax : Addr} {vs : List Value} {k : Nat} {m₀ : PySem.Str → Option Value} {news : List (Addr × Obj)} (J : Nat → (PySem.Str → Option Value) → List (Addr × Obj) → Prop)
    (hh : A.handled = none) (F : Fr h₀ env.locals s.heap m₀) (N : News h₀ env.locals s.heap news) (hJm : ∀ i m nx, J i m nx → (ax, listOf vs.toArray k) ∈ nx) (hj : J 0 m₀ news)
    (turn : ∀ i v m₁ nx I oI h tk, vs[i]? = some v → J i m₁ nx → (∀ p ∈ nx, @Ne Nat p.1 I) → Fr h₀ env.locals h (fun y => if y = x then some v else m₁ y) → News h₀ env.locals h ((I, oI) :: nx) →
      wpAny (model prog w) A (execs body env) (TurnJ h₀ env.locals (J (i + 1)) I oI { s with heap := h, toks := tk } Q) E { s with heap := h, toks := tk })
    (done : ∀ m₁ nx h tk, J vs.length m₁ nx → Fr h₀ env.locals h m₁ → News h₀ env.locals h nx → Q .next { s with heap := h, toks := tk }) :
    wpAny (model prog w) A (pyIter (.ref ax)) (fun it s₂ => LoopAtV prog w A h₀ env x body Q E it s₂) E s := by
  have hax := N _ (hJm 0 m₀ news hj)
  have hl : s.heap.IsList ax vs.toArray := ⟨_, hax.1, rfl, _, rfl⟩
  have hlt : ax < s.heap.objs.size := Heap.lt_size hax.1
  refine wpAny_pyIter_list hl ?_
  have up : ∀ b o, s.heap.get? b = some o → (s.heap.push { cls := .type "list_iterator", data := .fields #[.ref ax, .int 0 0] }).get? b = some o := fun b o e => Heap.get?_push_of_some _ e
  have hLI : env.locals ≠ s.heap.objs.size := Nat.ne_of_lt F.ns.lt
  refine ⟨s.heap.objs.size, [s.heap.objs.size, ax], [s.heap.objs.size], vs.toArray.size, fun i v => vs.toArray[i]? = some v, fun i h => h.IsListIter s.heap.objs.size ax i ∧ h.IsList ax vs.toArray, m₀, news, J, rfl,
    Walks.list hh _ ax (Nat.ne_of_lt hlt) vs.toArray, ?_, ?_, ?_, ⟨⟨_, Heap.get?_push_size _ rfl, rfl, rfl⟩, hl.push _⟩, F.keeps up, fun p hp => ⟨up _ _ (N p hp).1, (N p hp).2⟩, hj, ?_, ?_⟩
  · intro hm
    rcases List.mem_cons.mp hm with e | hm
    · exact hLI e
    · exact hax.2.1 (List.mem_singleton.mp hm).symm
  · intro b hb
    rw [List.mem_singleton.mp hb]; exact next_is_new F
  · intro p hp hm
    exact Nat.ne_of_lt (Heap.lt_size (N p hp).1) (List.mem_singleton.mp hm)
  · rintro i v m₁ nx s₁ own ⟨hh', tk', rfl⟩ hin hP hJ hoff hown hget hall hst₁ F₁ N₁
    obtain ⟨oI, heI, _⟩ := hst₁.1
    have hmI : (s.heap.objs.size, oI) ∈ own := hall _ List.mem_cons_self (next_is_new F) oI heI
    have hnx := hJm i m₁ nx hJ
    have hsub : ∀ p ∈ own, p ∈ (s.heap.objs.size, oI) :: nx := by
      intro p hp
      have h2 := hget p hp
      rcases List.mem_cons.mp (hown p hp) with e | e
      · rw [e] at h2
        have h3 : p.2 = oI := Option.some.inj (h2.symm.trans heI)
        rw [show p = (s.heap.objs.size, oI) from Prod.ext e h3]; exact List.mem_cons_self
      · have e := List.mem_singleton.mp e
        rw [e] at h2
        have h4 := (N₁ _ (List.mem_append_right _ hnx)).1
        have h3 : p.2 = listOf vs.toArray k := Option.some.inj (h2.symm.trans h4)
        rw [show p = (ax, listOf vs.toArray k) from Prod.ext e h3]; exact List.mem_cons_of_mem _ hnx
    have hne : ∀ p ∈ nx, @Ne Nat p.1 s.heap.objs.size := fun p hp e => hoff p hp (List.mem_singleton.mpr e)
    have N₂ : News h₀ env.locals hh' ((s.heap.objs.size, oI) :: nx) := fun p hp => by
      rcases List.mem_cons.mp hp with rfl | hp
      · exact N₁ _ (List.mem_append_left _ hmI)
      · exact N₁ _ (List.mem_append_right _ hp)
    refine wpAny_mono (turn i v m₁ nx _ oI hh' tk' (by simpa using hP) hJ hne F₁ N₂) (fun f s₂ p => ?_) fun _ _ e => e
    have fin : EndJ h₀ env.locals (J (i + 1)) s.heap.objs.size oI { s with heap := hh', toks := tk' } s₂ → LoopStepU h₀ env.locals [s.heap.objs.size] own (J (i + 1)) { s with heap := hh', toks := tk' } .next s₂ := by
      rintro ⟨h', tk, m', nx', e, F', N', ho, hm⟩
      refine ⟨rfl, h', tk, m', nx', e, F', fun p hp => ?_, fun p hp hq => ho p hp (List.mem_singleton.mp hq), hm⟩
      rcases List.mem_append.mp hp with hp | hp
      · have hp2 := hown p hp
        rcases List.mem_cons.mp (hsub p hp) with e | e
        · rw [e]; exact N' _ List.mem_cons_self
        · rcases List.mem_cons.mp hp2 with e2 | e2
          · exact absurd e2 (hne p e)
          · have e2 := List.mem_singleton.mp e2
            have h2 := hget p hp
            rw [e2] at h2
            have h3 : p.2 = listOf vs.toArray k := Option.some.inj (h2.symm.trans (N₁ _ (List.mem_append_right _ hnx)).1)
            rw [show p = (ax, listOf vs.toArray k) from Prod.ext e2 h3]
            exact N' _ (List.mem_cons_of_mem _ (hJm _ _ _ hm))
      · exact N' _ (List.mem_cons_of_mem _ hp)
    cases f with
    | ret v => exact .ret p
    | brk => exact .brk p
    | next => exact .next (fin p)
    | cont => exact .cont (fin p)
  · rintro h' tk m' nx F' N' _ hJ
    exact done m' nx h' tk (by simpa using hJ) F' N'
def LawOff (m' m₀ : PySem.Str → Option Value) : Prop := ∀ z : PySem.Str, z ≠ "number" → z ≠ "fits" → m' z = m₀ z
def LawNext (h₀ : Heap) (L : Addr) (m₀ : PySem.Str → Option Value) (X : Addr) (base : List (Addr × Obj)) (I : Addr) (oI : Obj) (s s₂ : Shared) : Prop :=
  ∃ (oX : Obj) (v : Option Value) (h' : Heap) (tk : Nat) (m' : PySem.Str → Option Value), s₂ = { s with heap := h', toks := tk } ∧ Fr h₀ L h' m' ∧ News h₀ L h' ((I, oI) :: (X, oX) :: base) ∧ oX.data = .cell v ∧ LawOff m' m₀
def LawPost (h₀ : Heap) (L : Addr) (m₀ : PySem.Str → Option Value) (X : Addr) (base : List (Addr × Obj)) (I : Addr) (oI : Obj) (s : Shared) (Q : Flow → Shared → Prop) (fl : Flow) (s₂ : Shared) : Prop :=
  match fl with
  | .ret v => Q (.ret v) s₂
  | .brk => Q .next s₂
  | _ => LawNext h₀ L m₀ X base I oI s s₂
theorem law_loop {prog : Program} {w : World} {A : Around} {E : Value → Shared → Prop} {s : Shared} {env : Env} {h₀ : Heap} {x : PySem.Str} {body : List Stmt} {Q : Flow → Shared → Prop} {Ds X : Addr} {ws : List Value} {ns : List Int} {k : Nat} {m₀ : PySem.Str → Option Value} {all base : List (Addr × Obj)} {oX : Obj} {v : Option Value}
    (hh : A.handled = none) (F : Fr h₀ env.locals s.heap m₀) (N : News h₀ env.locals s.heap all) (hi : IntsAre ws ns) (hx : oX.data = .cell v) (hm : (Ds, listOf ws.toArray k) ∈ base) (hsub : ∀ p ∈ (X, oX) :: base, p ∈ all) (hxx : x = "number") (hne : ∀ p ∈ base, p.1 ≠ X)
    (turn : ∀ (i : Nat) (n : Int) (t : Tok) (u : Option Value) (oX : Obj) (v : Option Value) I oI h tk, ns[i]? = some n → oX.data = .cell v → (@Ne Nat X I) → (∀ p ∈ base, p.1 ≠ I) →
      Fr h₀ env.locals h (fun (z : PySem.Str) => if z = "number" then some (.int n t) else if z = "fits" then u else m₀ z) → News h₀ env.locals h ((I, oI) :: (X, oX) :: base) →
      wpAny (model prog w) A (execs body env) (LawPost h₀ env.locals m₀ X base I oI { s with heap := h, toks := tk } Q) E { s with heap := h, toks := tk })
    (done : ∀ (u0 u1 : Option Value) (oX : Obj) h tk, Fr h₀ env.locals h (fun (z : PySem.Str) => if z = "number" then u0 else if z = "fits" then u1 else m₀ z) → News h₀ env.locals h ((X, oX) :: base) → Q .next { s with heap := h, toks := tk }) :
    wpAny (model prog w) A (pyIter (.ref Ds)) (fun it s₂ => LoopAtV prog w A h₀ env x body Q E it s₂) E s := by
  subst hxx
  have em : ∀ (m₁ : PySem.Str → Option Value) (u0 : Option Value), LawOff m₁ m₀ → (fun y : PySem.Str => if y = "number" then u0 else m₁ y) = (fun (z : PySem.Str) => if z = "number" then u0 else if z = "fits" then m₁ "fits" else m₀ z) := by
    intro m₁ u0 h2
    funext z
    by_cases e0 : z = "number"
    · subst e0; simp
    · by_cases e1 : z = "fits"
      · subst e1; simp [e0]
      · simp only [if_neg e0, if_neg e1]; exact h2 z e0 e1
  refine list_J (vs := ws) (k := k) (news := (X, oX) :: base) (fun i m nx => ∃ (oX : Obj) (v : Option Value), nx = (X, oX) :: base ∧ oX.data = .cell v ∧ LawOff m m₀)
    hh F (fun p hp => N p (hsub p hp)) ?_ ⟨oX, v, rfl, hx, fun _ _ _ => rfl⟩ ?_ ?_
  · rintro i m nx ⟨oX, v, rfl, _, _⟩
    exact List.mem_cons_of_mem _ hm
  · rintro i val m₁ nx I oI h tk hv ⟨oX, v, rfl, hd, ho⟩ hI F₁ N₁
    obtain ⟨n, t, rfl, hn⟩ := hi.at i val hv
    rw [em m₁ _ ho] at F₁
    refine wpAny_mono (turn i n t _ oX v I oI h tk hn hd (hI _ List.mem_cons_self) (fun p hp => hI p (List.mem_cons_of_mem _ hp)) F₁ N₁) (fun f s₂ p => ?_) fun _ _ e => e
    have fin : LawNext h₀ env.locals m₀ X base I oI { s with heap := h, toks := tk } s₂ → EndJ h₀ env.locals (fun m nx => ∃ (oX : Obj) (v : Option Value), nx = (X, oX) :: base ∧ oX.data = .cell v ∧ LawOff m m₀) I oI { s with heap := h, toks := tk } s₂ := by
      rintro ⟨oX', v', h', tk', m', e, F', N', g1, g2⟩
      refine ⟨h', tk', m', (X, oX') :: base, e, F', N', fun p hp => ?_, oX', v', rfl, g1, g2⟩
      rcases List.mem_cons.mp hp with rfl | hp
      · exact hI (X, oX) List.mem_cons_self
      · exact hI p (List.mem_cons_of_mem _ hp)
    cases f with
    | ret v => exact p
    | brk => exact p
    | next => exact fin p
    | cont => exact fin p
  · rintro m₁ nx h tk ⟨oX, v, rfl, _, ho⟩ F₁ N₁
    refine done (m₁ "number") (m₁ "fits") oX h tk ?_ N₁
    rw [← em m₁ (m₁ "number") ho]
    have : (fun y : PySem.Str => if y = "number" then m₁ "number" else m₁ y) = m₁ := by
      funext y
      by_cases e : y = "number"
      · simp [e]
      · simp [e]
    rw [this]; exact F₁
theorem law_end {h₀ h' : Heap} {L : Addr} {m₀ m' : PySem.Str → Option Value} {X I : Addr} {oI oX : Obj} {base all : List (Addr × Obj)} {s : Shared} {Q : Flow → Shared → Prop} {tk : Nat} {v : Option Value}
    (F : Fr h₀ L h' m') (N : News h₀ L h' all) (hI : (I, oI) ∈ all) (hX : (X, oX) ∈ all) (hdX : oX.data = .cell v) (hs : ∀ p ∈ base, p ∈ all) (ho : LawOff m' m₀) :
    LawPost h₀ L m₀ X base I oI s Q .next { s with heap := h', toks := tk } := by
  refine ⟨oX, v, h', tk, m', rfl, F, fun p hp => ?_, hdX, ho⟩
  rcases List.mem_cons.mp hp with rfl | hp
  · exact N _ hI
  · rcases List.mem_cons.mp hp with rfl | hp
    · exact N _ hX
    · exact N _ (hs _ hp)
/-- just one way fits -/
theorem fits_elim {G : Prop} {h₀ h : Heap} {L D : Addr} {ys : List Value} {nn news : List (Addr × Obj)} {dl : List (List Int × Int)} {L1 : List Int} {z : Int} (N : News h₀ L h ((D, lst ys) :: (nn ++ news))) (hw : WaysAt (nn ++ news) ys dl) (hdl : dl = [(L1, z)])
    (k : ∀ (t p : Addr) (us : List Value) (c kk : Nat) (tk : Tok), News h₀ L h ((D, lst [.ref t]) :: (t, ({ cls := .type "tuple", data := .seq #[.ref p, .int z tk] kk } : Obj)) :: (p, ({ cls := .type "list", data := .seq us.toArray c } : Obj)) :: news) → IntsAre us L1 → G) : G := by
  subst hdl
  cases hw with
  | cons hf ht =>
    cases ht with
    | nil =>
      obtain ⟨t, p, us, c, kk, tk, rfl, h1, h2, hi⟩ := hf
      refine k t p us c kk tk (fun q hq => ?_) hi
      rcases List.mem_cons.mp hq with rfl | hq
      · exact N _ List.mem_cons_self
      · rcases List.mem_cons.mp hq with rfl | hq
        · exact N _ (List.mem_cons_of_mem _ h1)
        · rcases List.mem_cons.mp hq with rfl | hq
          · exact N _ (List.mem_cons_of_mem _ h2)
          · exact N _ (List.mem_cons_of_mem _ (List.mem_append_right _ hq))
theorem eqv_refl_fit (ns : List Int) (z : Int) : PyData.eqv (.list [.tuple [.list (ns.map PyData.int), .int z]]) (.list [.tuple [.list (ns.map PyData.int), .int z]]) = true := by
  simp [PyData.eqv, PyData.eqvAll, ked_eqvAll]
theorem shaped_fit (ns : List Int) (z : Int) : SeqAt.shaped (.list [.tuple [.list (ns.map PyData.int), .int z]]) = true := by
  simp [SeqAt.shaped, PyData.canLay0, PyData.canLayAll0, PyData.depth, PyData.depthAll, ke_canLayAll0, ke_depthAll]
theorem ne_fits {prog : Program} {w : World} {A : Around} {E : Value → Shared → Prop} {s : Shared} {Q : Value → Shared → Prop} {h₀ : Heap} {L D t p D' t' p' : Addr} {us us' : List Value} {c c' k k' kD kD' : Nat} {z z' : Int} {tk tk' : Tok} {ns ns' : List Int} {all : List (Addr × Obj)}
    (N : News h₀ L s.heap all) (hD : (D, ({ cls := .type "list", data := .seq #[.ref t] kD } : Obj)) ∈ all) (ht : (t, ({ cls := .type "tuple", data := .seq #[.ref p, .int z tk] k } : Obj)) ∈ all) (hp : (p, ({ cls := .type "list", data := .seq us.toArray c } : Obj)) ∈ all)
    (hD' : (D', ({ cls := .type "list", data := .seq #[.ref t'] kD' } : Obj)) ∈ all) (ht' : (t', ({ cls := .type "tuple", data := .seq #[.ref p', .int z' tk'] k' } : Obj)) ∈ all) (hp' : (p', ({ cls := .type "list", data := .seq us'.toArray c' } : Obj)) ∈ all)
    (hi : IntsAre us ns) (hi' : IntsAre us' ns') (e1 : ns = ns') (e2 : z = z') (hu : A.units + 64 < cLine) (h : Q (.bool false) s) : wpAny (model prog w) A (compareOp .NotEq (.ref D) (.ref D')) Q E s := by
  subst e1 e2
  have r1 : ∃ as, Reads s.heap (.ref D) (.list [.tuple [.list (ns.map PyData.int), .int z]]) as :=
    ⟨_, reads_list_at (N _ hD).1 rfl rfl (.cons (reads_tuple_at (N _ ht).1 rfl rfl (.cons (reads_newData ⟨_, (N _ hp).1, rfl, _, rfl⟩ (ke_carried hi)) (.cons (Reads.int _ _) ReadsAll.nil))) ReadsAll.nil)⟩
  have r2 : ∃ as, Reads s.heap (.ref D') (.list [.tuple [.list (ns.map PyData.int), .int z]]) as :=
    ⟨_, reads_list_at (N _ hD').1 rfl rfl (.cons (reads_tuple_at (N _ ht').1 rfl rfl (.cons (reads_newData ⟨_, (N _ hp').1, rfl, _, rfl⟩ (ke_carried hi')) (.cons (Reads.int _ _) ReadsAll.nil))) ReadsAll.nil)⟩
  obtain ⟨_, r1⟩ := r1
  obtain ⟨_, r2⟩ := r2
  refine ne_dataH r1 r2 (shaped_fit _ _) (shaped_fit _ _) hu ?_
  rw [eqv_refl_fit]; exact h
/-- the weighing, used -/
theorem use_wgh {prog : Program} {w : World} {K : Frag} {p : Program} {loose : List PySem.Str} {mean : ExcName → Option Value} {mg mb : PySem.Str → Option Value} {d : Nat} {f : Addr} {vs : List Value} {ms : List Int} {z : Int}
    (c : Con prog w K p loose mean mg mb d f vs (fun _ => True) (fun v more => ∃ (a p : Addr) (xs : List Value) (c c2 : Nat) (t : Tok), v = .ref a ∧ IntsAre xs ms ∧ more = [(a, { cls := .type "tuple", data := .seq #[.ref p, .int z t] c }), (p, { cls := .type "list", data := .seq xs.toArray c2 })]))
    {dp un : Nat} {gd : Option (List Code)} {cn : PySem.Str} {cs : Scope} {a : Addr} {ccd : Value} {cl : List (PySem.Str × Addr)} {outer : List Env} {A₀ : Around} {base h₀ : Heap} {L : Addr} {m : PySem.Str → Option Value} {s : Shared} {Q E : Value → Shared → Prop} {news : List (Addr × Obj)}
    (B : Below A₀ base outer h₀) (F : Fr h₀ L s.heap m) (X : K.In h₀) (TT : Top p loose mean mg mb h₀) (hk : cs.kind = .function) (hd : dp + d < recursionLimit) (hu : un + 30 * d < cLine) (N : News h₀ L s.heap news)
    (h : ∀ (a p : Addr) (xs : List Value) (c c2 : Nat) (t : Tok) h' tk', IntsAre xs ms → Fr h₀ L h' m → News h₀ L h' ((a, { cls := .type "tuple", data := .seq #[.ref p, .int z t] c }) :: (p, { cls := .type "list", data := .seq xs.toArray c2 }) :: news) → Q (.ref a) { s with heap := h', toks := tk' }) :
    wpAny (model prog w) (ktrTop dp un gd cn cs L a ccd cl outer) (call (.ref f) vs) Q E s := by
  refine use_O c B F X TT hk hd hu trivial N fun v more h' tk' hR F' N' off => ?_
  obtain ⟨a, p, xs, c, c2, t, rfl, hx, rfl⟩ := hR
  exact h a p xs c c2 t h' tk' hx F' N'
theorem call_int2 {prog : Program} {w : World} {A : Around} {E : Value → Shared → Prop} {s : Shared} {Q : Value → Shared → Prop} {f a b c : Value} {x y : Int} {t : Tok} (e : x = y) (h : wpAny (model prog w) A (call f [a, .int y t, b, c]) Q E s) : wpAny (model prog w) A (call f [a, .int x t, b, c]) Q E s := by
  subst e; exact h
theorem load_bd (n : Int) : n.fmod 64 + 1 = (((n.fmod 64).toNat + 1 : Nat) : Int) ∧ (n.fmod 64).toNat + 1 ≤ 64 := by
  have h0 := Int.fmod_nonneg_of_pos n (show (0 : Int) < 64 by decide)
  have h1 := Int.fmod_lt_of_pos n (show (0 : Int) < 64 by decide)
  omega
end Mine
namespace Mine
open PyProof.Rows.LCg
theorem SrcPT.intro {prog : Program} {w : World} {A : Around} {h₀ : Heap} {L : Addr} {m : PySem.Str → Option Value} {env : Env} {elt ct : Expr} {a b y : PySem.Str} {scope : Scope} {cl : List (PySem.Str × Addr)} {tst : List Int × Int → Bool} {res : List Int × Int → List Int × Int} {ds : List (List Int × Int)} {Q : Flow → Shared → Prop} {s₁ : Shared}
    {Ws B X : Addr} {oB oX : Obj} {its : List Value} {kW : Nat} {news rest : List (Addr × Obj)} {b1 x1 : Int} {tb tx : Tok}
    (hh : A.handled = none) (F : Fr h₀ L s₁.heap m) (N : News h₀ L s₁.heap news) (hWs : (Ws, ({ cls := .type "list", data := .seq its.toArray kW } : Obj)) ∈ news) (hds : WaysAt rest its ds) (hsub : ∀ p ∈ rest, p ∈ news)
    (_hdB : oB.data = .cell (some (.int b1 tb))) (hB : (B, oB) ∈ news) (_hdX : oX.data = .cell (some (.int x1 tx))) (hX : (X, oX) ∈ news) (hsz : ds.length ≤ 100000)
    (ht : TstOk prog w A h₀ L m env ct scope cl a b B X oB oX tst ds) (he : EltPOk prog w A h₀ L m env elt scope cl a b B X oB oX tst res ds) (hr : ∀ d, (res d).1 = d.1)
    (fin : ∀ (D : Addr) (h : Heap) (tk : Nat) (ys : List Value) (nn : List (Addr × Obj)), Fr h₀ L h (fun z => if z = y then some (.ref D) else m z) → News h₀ L h ((D, lst ys) :: (nn ++ news)) → (∀ p ∈ nn ++ news, @Ne Nat p.1 D) → (∀ p ∈ nn, ∀ q ∈ news, @Ne Nat q.1 p.1) →
      WaysAt (nn ++ news) ys ((ds.filter tst).map res) → Q .next { s₁ with heap := h, toks := tk }) :
    SrcPT prog w A h₀ L m env elt ct a b y scope cl tst res ds Q (.ref Ws) s₁ :=
  ⟨Ws, B, X, oB, oX, its, kW, news, rfl, hh, F, N, hWs, hds.mono fun _ _ q => q.mono hsub, hB, hX, by rw [sizeLine_eq]; omega, ht, he, hr, fin⟩
theorem ways_sz4 {l : List Nat} (hl : l.length = 4) : (waysF l).1.length ≤ 100000 := by
  have h1 := (waysF_bd l).1
  rw [hl] at h1
  exact Nat.le_trans h1 (by decide)
end Mine
namespace Mine
open PyProof.Rows.LCg
theorem eltP_end {h₀ h' : Heap} {L T p : Addr} {m : PySem.Str → Option Value} {s : Shared} {base : List (Addr × Obj)} {k tk : Nat} {z : Int} {tz : Tok}
    (F : Fr h₀ L h' m) (N : News h₀ L h' ((T, ({ cls := .type "tuple", data := .seq #[.ref p, .int z tz] k } : Obj)) :: base)) (l : AllLt T base) : EltP h₀ L m s p base z (.ref T) { s with heap := h', toks := tk } :=
  ⟨h', tk, T, k, tz, rfl, F, N, allLt_ne l, rfl⟩
theorem fits_at {x : Int} {k : Nat} (e : x = ((k : Nat) : Int)) (r : List Nat) : ((waysF r).1.filter (fitT x (waysF r).2)).map (fitD x (waysF r).2) = fitsF ((k : Nat) : Int) (waysF r).2 (waysF r).1 := by subst e; rfl
end Mine
namespace Mine
theorem pick7 {h₀ h : Heap} {L : Addr} {a1 a2 a3 a4 a5 x b : Addr × Obj} {nx : List (Addr × Obj)} (N : News h₀ L h (a1 :: a2 :: a3 :: a4 :: a5 :: x :: b :: nx)) : News h₀ L h (x :: a1 :: a3 :: b :: nx) := fun p hp => N p (by simp at hp ⊢; rcases hp with q | q | q | q | q <;> simp [q])
end Mine
end
section
open PySem PySem.W PyProof.Rows
set_option maxHeartbeats 0
namespace Mine
def law_w.tw10865994627678966421 : Nat := 0
def law_w.tw12500106642314072766 : Nat := 0
def law_w.tw12962321754842523023 : Nat := 0
def law_w.tw10808640705706000975 : Nat := 0
def law_w.tw1866758990829909347 : Nat := 0
def law_w.tw16474628757505504559 : Nat := 0
def law_w.tw3297981388653143095 : Nat := 0
def law_w.tw1600244290284232334 : Nat := 0
def law_w.tw8665676235769590426 : Nat := 0
def law_w.tw7200432840101992331 : Nat := 0
def law_w.tw17058004912876188847 : Nat := 0
def law_w.tw3314765244410149184 : Nat := 0
def law_w.tw4385314060366624320 : Nat := 0
def law_w.tw9422905849870349705 : Nat := 0
def law_w.tw12390130440462471763 : Nat := 0
def law_w.tw8215779262261192772 : Nat := 0
def law_w.tw16724603419882463805 : Nat := 0
def law_w.tw1422859783933727094 : Nat := 0
def law_w.tw6249351975847539405 : Nat := 0
def law_w.tw12697767537495148231 : Nat := 0
def law_w.tw9393570745743083228 : Nat := 0
def law_w.tw9149938370021202515 : Nat := 0
def law_w.tw9564770013968088969 : Nat := 0
def law_w.tw17940303060566869383 : Nat := 0
local macro_rules | `(tactic| walk_at "mine enter") => `(tactic| ((first | k_extra "in C1" | k_extra "in S6" | k_extra "in S18" | k_extra "in S19" | k_extra "in S20" | k_extra "in S21" | k_extra "in S22" | k_extra "in S23"); k_dflt (refine' Mine.enter_def ?k1 ?k2 ?k3 ?k5 ?kA ?kF ?kK ?k6 ?k7 ?k8 ?k9 ?kB ?_ ?c2 ?c3 ?c4 ?c5; (case kA => exact rfl); (case kF => exact rfl); (case kK => assumption); (case k1 => k_asm); (case k2 => k_asm); (case k3 => k_asm); (case k5 => k_asm); (case k6 => k_is); (case k7 => k_is); (case k8 => ktr_room); (case k9 => exact BindsTo.of_eq rfl); (case c5 => decide); (case kB => exact locs rfl); (case c2 => exact rfl); (case c3 => exact rfl); (case c4 => exact rfl); k_whole; intro L' h' F' N' B' X' T'; (try dsimp only); (try k_fold))))
local macro_rules | `(tactic| walk_at "mine enterC") => `(tactic| ((first | k_extra "in C1" | k_extra "in S6" | k_extra "in S18" | k_extra "in S19" | k_extra "in S20" | k_extra "in S21" | k_extra "in S22" | k_extra "in S23"); k_dflt (refine' Mine.enter_defC ?k1 ?k2 ?k3 ?k5 ?kA ?kF ?kK ?k6 ?k7 ?k8 ?k9 ?kB ?kD ?_ ?c2 ?c3 ?c4; (case kA => exact rfl); (case kF => exact rfl); (case kK => assumption); (case k1 => k_asm); (case k2 => k_asm); (case k3 => k_asm); (case k5 => k_asm); (case k6 => k_is); (case k7 => k_is); (case k8 => ktr_room); (case k9 => exact BindsTo.of_eq rfl); (case kB => exact rfl); (case kD => decide +kernel); (case c2 => exact rfl); (case c3 => exact rfl); (case c4 => exact rfl); k_whole; intro L' h' tk' cells' F' N' Y' B' X' T'; k_cells Y'; (try simp only [List.cons_append, List.nil_append] at N'); (try dsimp only); (try k_fold))))
local macro_rules | `(tactic| walk_at "getMethod ref") => `(tactic| ((first | k_extra "in S6"); (k_here; k_dflt (refine' Mine.getM_sub ?F ?X ?l ?_; (case F => k_asm); (case X => k_asm); (case l => k_is)))))
local macro_rules | `(tactic| walk_at "call builtin:re.Pattern.sub") => `(tactic| ((first | k_extra "in S6"); (k_here; (try dsimp only [List.cons_append, List.nil_append]); k_dflt (first | (refine' Mine.sub_crlf_K ?F ?N ?X ?p ?h5 ?h6 ?h2 ?c ?e ?x ?_; (case F => k_asm); (case N => k_asm); (case X => k_asm); (case p => k_is); (case h5 => rfl); (case h6 => rfl); (case h2 => rfl); (case c => k_is); (case e => decide +kernel); (case x => first | assumption | omega | (simp; omega)); intro h' tk' t' F' N') | (refine' Mine.sub_dots_K ?F ?N ?X ?p ?h5 ?h6 ?h2 ?c ?e ?x ?_; (case F => k_asm); (case N => k_asm); (case X => k_asm); (case p => k_is); (case h5 => rfl); (case h6 => rfl); (case h2 => rfl); (case c => k_is); (case e => decide +kernel); (case x => first | assumption | omega | (simp; omega)); intro h' tk' t' F' N')))))
local macro_rules | `(tactic| walk_at "call ref") => `(tactic| ((first | k_extra "in S18"); (k_here; (with_reducible show wpAny _ _ (call (Value.ref 63) _) _ _ _); k_dflt (refine' Mine.use_V ?yC ?yB ?yF ?yX ?yT ?yK ?yd ?yu ?yp ?yN ?_; (case yB => k_asm); (case yF => k_asm); (case yX => k_asm); (case yT => k_asm); (case yK => first | exact rfl | assumption); (case yC => k_extra "parse_c"); (case yd => ktr_room); (case yu => ktr_units); (case yp => trivial); (case yN => k_asm); intro t' h' tk' F' N'; (try dsimp only); (try k_fold)))))
local macro_rules | `(tactic| walk_at "call ref") => `(tactic| ((first | k_extra "in S18"); (k_here; (with_reducible show wpAny _ _ (call (Value.ref 80) _) _ _ _); k_dflt (refine' Mine.use_V ?yC ?yB ?yF ?yX ?yT ?yK ?yd ?yu ?yp ?yN ?_; (case yB => k_asm); (case yF => k_asm); (case yX => k_asm); (case yT => k_asm); (case yK => first | exact rfl | assumption); (case yC => k_extra "quote_c"); (case yd => ktr_room); (case yu => ktr_units); (case yp => trivial); (case yN => k_asm); intro t' h' tk' F' N'; (try dsimp only); (try k_fold)))))
local macro_rules | `(tactic| walk_at "eval ListComp") => `(tactic| ((first | k_extra "in S19"); (k_here; lct_look; (with_reducible show wpAny _ _ (eval (Expr.ListComp _ [⟨_, Expr.Tuple _ _ _, _, _⟩] _ _) _) _ _ _); lcg_calm; k_dflt (refine Mine.ListComp_TT (F₀ := by k_asm) (by with_unfolding_all rfl) (by decide) (by rfl) (by decide) (by rfl) ?_))))
local macro_rules | `(tactic| walk_at "SrcTT") => `(tactic| ((first | k_extra "in S19"); (k_here; k_dflt (refine Mine.SrcTT.of (by rfl) (by k_asm) (by k_asm) (by k_mem) (by first | size_fits | exact Nat.le_of_ble_eq_true rfl) ?_; intro g'; lct_lit))))
local macro_rules | `(tactic| walk_at "storeName int") => `(tactic| ((first | k_extra "in S19"); ((fail_if_success (with_reducible show wpAny _ _ (storeName _ _ (Value.int 3 _)) _ _ _)); (fail_if_success (with_reducible show wpAny _ _ (storeName _ _ (Value.int 1 _)) _ _ _)); first | refine Mine.st_known (j := 3) (by omega) ?_ | refine Mine.st_known (j := 1) (by omega) ?_)))
local macro_rules | `(tactic| walk_at "subscriptTail Name Subscript ref str") => `(tactic| ((first | k_extra "in S19"); (k_here; (simp only [Mine.sl_11, Mine.sl_12, Mine.sl_13, Mine.sl_21, Mine.sl_22, Mine.sl_23, Mine.sl_31, Mine.sl_32, Mine.sl_33]); k_dflt (refine' topItem_K ?F ?X ?l ?k ?e ?_; (case F => k_asm); (case X => k_asm); (case l => k_is); (case k => k_keys); (case e => k_is)))))
local macro_rules | `(tactic| walk_at "compareOp In str ref") => `(tactic| ((first | k_extra "in S19"); (k_here; (simp only [Mine.sl_11, Mine.sl_12, Mine.sl_13, Mine.sl_21, Mine.sl_22, Mine.sl_23, Mine.sl_31, Mine.sl_32, Mine.sl_33]); k_dflt (refine' topIn_K ?F ?X ?l ?k ?e ?o ?_; (case F => k_asm); (case X => k_asm); (case l => k_is); (case k => k_keys); (case e => k_is); (case o => decide)))))
local macro_rules | `(tactic| walk_at "exec For") => `(tactic| ((first | k_extra "in S20" | k_extra "in S22" | k_extra "in S23" | k_extra "in L2.txt"); (k_here; (rename Fr _ _ _ _ => lF'); (with_unfolding_all refine' For_invVF lF' ?k1 ?k2 ?_; (case k1 => exact rfl); (case k2 => exact rfl); k_whole))))
local macro_rules | `(tactic| walk_at "exec For Name Name cons nil") => `(tactic| walk_at "exec For")
local macro_rules | `(tactic| walk_at "exec For Name Call cons nil") => `(tactic| walk_at "exec For")
local macro_rules | `(tactic| walk_at "subscriptTail Name Slice ref ref") => `(tactic| ((first | k_extra "in S21"); (k_here; (with_reducible show wpAny _ _ (subscriptTail _ (PySem.Expr.Slice none (some _) none _) (Value.ref _) (Value.ref _)) _ _ _); k_dflt (refine' kmk_slice_ints ?F ?N ?l ?p ?q ?i ?m ?c ?_ ?s ?t ?z; (case F => k_asm); (case N => k_asm); (case l => kmk_list); (case p => kmk_part); (case q => kmk_part); (case i => l_ints); (case m => exact kmk_upto (by l_ints) (by kmk_sign)); (case c => kmk_len); (case s => with_unfolding_all rfl); (case t => kmk_pure); (case z => kmk_size)); intro D' ws' h' F' N' l1 hI' hC' hL'; (try simp only [Int.reduceNeg, Int.neg_neg, Int.reduceToNat] at hI' hC' hL'); (try k_lt l1); (try k_sweep))))
local macro_rules | `(tactic| walk_at "subscriptTail Name Slice ref ref") => `(tactic| ((first | k_extra "in S21"); (k_here; (with_reducible show wpAny _ _ (subscriptTail _ (PySem.Expr.Slice (some _) none none _) (Value.ref _) (Value.ref _)) _ _ _); k_dflt (refine' kmk_slice_ints ?F ?N ?l ?p ?q ?i ?m ?c ?_ ?s ?t ?z; (case F => k_asm); (case N => k_asm); (case l => kmk_list); (case p => kmk_part); (case q => kmk_part); (case i => l_ints); (case m => exact kmk_from (by l_ints) (by kmk_sign)); (case c => kmk_len); (case s => with_unfolding_all rfl); (case t => kmk_pure); (case z => kmk_size)); intro D' ws' h' F' N' l1 hI' hC' hL'; (try simp only [Int.reduceNeg, Int.neg_neg, Int.reduceToNat] at hI' hC' hL'); (try k_lt l1); (try k_sweep))))
local macro_rules | `(tactic| walk_at "subscriptTail List Slice ref ref") => `(tactic| ((first | k_extra "in S21"); (k_here; k_dflt (refine kba_turn (value' := PySem.Expr.Name (PySem.Str.ofString "_") ⟨0, 0, 0, 0⟩) (fun _ => rfl) ?_))))
local macro_rules | `(tactic| walk_at "call builtin:list.count") => `(tactic| ((first | k_extra "in S22"); (k_here; (try dsimp only [List.cons_append, List.nil_append]); k_dflt (refine count_list_ints (by is_list) (by l_ints) ?_))))
local macro_rules | `(tactic| walk_at "eval Dict") => `(tactic| ((first | k_extra "in S23"); (k_here; k_dflt (refine' kdn_str ?q ?F ?N ?b ?a ?l ?e ?n ?_; (case q => rfl); (case F => k_asm); (case N => k_asm); (case b => exact Top.nolimit (by k_asm)); (case a => rfl); (case l => rfl); (case e => exact List.cons_ne_nil _ _); (case n => exact Nat.le_of_ble_eq_true rfl)); intro d' h' o' F' N' l1 lo' hd'; (try k_lt l1))))
local macro_rules | `(tactic| walk_at "exec For Name Subscript cons nil") => `(tactic| walk_at "exec For")
local macro_rules | `(tactic| lcg_src) => `(tactic| ((k_extra "in S19"); exact ⟨_, by k_mem, rfl, _, rfl⟩))
local macro_rules | `(tactic| k_all) => `(tactic| ((k_extra "in S23"); assumption))
local macro_rules | `(tactic| k_all) => `(tactic| ((k_extra "in L2.txt"); first | assumption | exact Mine.off_ne (by assumption) (by k_mem)))
theorem law_w : PySem.Challenge.rw_tp0010_02.Holds := by
  w_on
  o_law
  k_head
  (case hw => w_witness2)
  have parse_c : ∀ {w : World} {loose : List PySem.Str} {mean : ExcName → Option Value} {mg mb : PySem.Str → Option Value} (x : PySem.Str) (tk : Tok) (hx : Head257 x), ConV (PySem.Challenge.rw_tp0010_02.row.prog) w (Mine.law_w.heap_1_39 w.params) Mine.law_w.view_1_40 loose mean mg mb 2 63 [.str x tk] (fun _ => True) (fun t => .str (T (dirL (x.cps.toList.drop 5))) t) := by
    as_aux_lemma =>
      intro w loose mean mg mb x tk hx
      k_with "in C1" => skip
      w_on
      k_fill
      unfold ConV Con; intros; rename_i hret
      have hS1 := head_1 hx
      have hS2 := head_2 hx
      refine wpAny_call ?_
      walk_at "mine enter"
      k_with "state" => first | exact pinv_start hx | exact pinv_c (by assumption) (by assumption) (by assumption) | exact pinv_q (by assumption) (by assumption) (by assumption) (by assumption)
      k_with "exec While Compare cons nil" => k_while (fun (_ : List Int) (i : Int) (d : PySem.Str) => PAll x i d) (fun (_ : List Int) (i : Int) (d : PySem.Str) => (x.length - i).toNat) "i" "dirname"
      k_steps
      k_with_none
      all_goals (refine ret_S hret (by assumption) ?_ (by assumption); first | exact pend_0 (by assumption) (by assumption) | exact pend_1 (by assumption) (by assumption) (by assumption) (by assumption) | exact pend_2 (by assumption) (by assumption) (by assumption) (by assumption))
      k_with_none
  have sign_c : ∀ {w : World} {loose : List PySem.Str} {mean : ExcName → Option Value} {mg mb : PySem.Str → Option Value} (n : Int) (tk : Tok), ConV (PySem.Challenge.rw_tp0010_02.row.prog) w (Mine.law_w.heap_1_39 w.params) Mine.law_w.view_1_40 loose mean mg mb 2 102 [.int n tk] (fun _ => True) (fun t => .str (T [signN n]) t) := by
    as_aux_lemma =>
      intro w loose mean mg mb n tk
      k_with "in C1" => skip
      k_with "parse_c" => exact parse_c _ _ (by exact Mine.head_told (by omega))
      w_on
      k_fill
      unfold ConV Con; intros; rename_i hret
      refine wpAny_call ?_
      walk_at "mine enter"
      k_steps
      all_goals (refine ret_S hret (by assumption) ?_ (by assumption); first | exact sign_out (by assumption) | exact sign_in (by assumption))
      k_with_none
  have quote_c : ∀ {w : World} {loose : List PySem.Str} {mean : ExcName → Option Value} {mg mb : PySem.Str → Option Value} (l : List Nat) (tk : Tok) (hl : l.length ≤ 400000), ConV (PySem.Challenge.rw_tp0010_02.row.prog) w (Mine.law_w.heap_1_39 w.params) Mine.law_w.view_1_40 loose mean mg mb 2 80 [.str (T l) tk] (fun _ => True) (fun t => .str (T (quote l)) t) := by
    as_aux_lemma =>
      intro w loose mean mg mb l tk hl
      k_with "in S6" => skip
      k_with "parse_c" => exact parse_c _ _ (by exact Mine.head_told (by omega))
      w_on
      k_fill
      unfold ConV Con; intros; rename_i hret
      have hl1 : l.length ≤ 1000000 := by omega
      have hl2 : (crlf l).length ≤ 1000000 := by have := crlf_len l; omega
      refine wpAny_call ?_
      walk_at "mine enter"
      k_steps
      all_goals (refine ret_S hret (by assumption) ?_ (by assumption); rfl)
      k_with_none
  have read_c : ∀ {w : World} {loose : List PySem.Str} {mean : ExcName → Option Value} {mg mb : PySem.Str → Option Value} (n c : Nat) (tk tk2 : Tok) (hn : n ≤ 1000) (hc : c ≠ 34), ConV (PySem.Challenge.rw_tp0010_02.row.prog) w (Mine.law_w.heap_1_39 w.params) Mine.law_w.view_1_40 loose mean mg mb 4 109 [.int (n : Int) tk, .str (T [c]) tk2] (fun _ => True) (fun t => .str (T (told2 n c)) t) := by
    as_aux_lemma =>
      intro w loose mean mg mb n c tk tk2 hn hc
      k_with "in S18" => skip
      k_with "parse_c" => exact parse_c _ _ (by exact Mine.head_told (by omega))
      k_with "quote_c" => exact quote_c _ _ (by assumption)
      w_on
      k_fill
      unfold ConV Con; intros; rename_i hret
      have hl1 : (T [c]).length = 1 := rfl
      refine wpAny_call ?_
      walk_at "mine enter"
      k_steps
      all_goals exact ret_S hret (by assumption) (told2_eq hc) (by assumption)
      k_with_none
  have sent_c : ∀ {w : World} {loose : List PySem.Str} {mean : ExcName → Option Value} {mg mb : PySem.Str → Option Value} (n : Nat) (q : Int) (tk tk2 tk3 : Tok) (hn : n ≤ 1000) (hn1 : 1 ≤ n), ConV (PySem.Challenge.rw_tp0010_02.row.prog) w (Mine.law_w.heap_1_39 w.params) Mine.law_w.view_1_40 loose mean mg mb 4 121 [.int (n : Int) tk, .str (T [signN q]) tk2, .str (T (endL (q.fmod 3).toNat)) tk3] (fun _ => True) (fun t => .int ((n + 1 : Nat) : Int) t) := by
    as_aux_lemma =>
      intro w loose mean mg mb n q tk tk2 tk3 hn hn1
      k_with "in S18" => skip
      k_with "parse_c" => exact parse_c _ _ (by exact Mine.head_told (by omega))
      k_with "quote_c" => exact quote_c _ _ (by assumption)
      w_on
      k_fill
      unfold ConV Con; intros; rename_i hret
      have hl1 : (T [signN q]).length = 1 := rfl
      have hl2 := endL_len (q.fmod 3).toNat
      have hl3 := one2_len n q hn
      have hl4 : (one2 n q).length ≤ 400000 := by omega
      have hl5 : (T (quote (one2 n q))).length ≤ 2000 := by rw [T_len, one2_quote q hn1]; omega
      refine wpAny_call ?_
      walk_at "mine enter"
      repeat' ((fail_if_success (with_reducible show wpAny _ _ (call (Value.ref _) _) _ _ _)); first | (k_unfold; (try dsimp only)) | (k_end; wrow_close) | walk1 | (dsimp only; walk1) | (leave1; try dsimp only))
      refine call_text (one2_eq n q) ?_
      k_steps
      all_goals exact ret_I hret (by assumption) (sent2_eq q hn1) (by assumption)
      k_with_none
  have cut_c : ∀ {w : World} {loose : List PySem.Str} {mean : ExcName → Option Value} {mg mb : PySem.Str → Option Value} (n : Nat) (tk : Tok) (hn : n < 1000), Con (PySem.Challenge.rw_tp0010_02.row.prog) w (Mine.law_w.heap_1_39 w.params) Mine.law_w.view_1_40 loose mean mg mb 2 114 [.int (n : Int) tk] (fun _ => True) (ListR fun xs => IntsAre xs (cutL n)) := by
    as_aux_lemma =>
      intro w loose mean mg mb n tk hn
      k_with "in S19" => skip
      k_with "parse_c" => exact parse_c _ _ (by exact Mine.head_told (by omega))
      k_with "quote_c" => exact quote_c _ _ (by assumption)
      w_on
      k_fill
      unfold Con; intros; rename_i hret
      refine wpAny_call ?_
      walk_at "mine enterC"
      repeat' ((fail_if_success (with_reducible show wpAny _ _ (exec (PySem.Stmt.While _ _ _ _) _) _ _ _)); first | (k_unfold; (try dsimp only)) | (k_end; wrow_close) | walk1 | (dsimp only; walk1) | (leave1; try dsimp only))
      (rename Fr _ _ _ _ => lF'); (rename News _ _ _ _ => lN'); (rename _ = Data.cell (some (Value.str (Txt.mul _ _) _)) => lD')
      rw [dots_mul] at lD'
      refine cut2_while lF' lN' lD' ?_
      clear lF' lN' lD'
      intro k t o us c fl u h tk hd hi hf hk F' N'
      have hlen : (T (List.replicate k 46)).length ≤ 1000 := by rw [T_len, List.length_replicate]; omega
      have hul : us.toArray.size ≤ sizeLine := by
        have h1 := IntsAre.length hi
        have h2 := congrArg List.length hf
        rw [List.length_append] at h2
        have h3 : (cutL n).length ≤ n := by unfold cutL; rw [List.length_append, List.length_replicate, List.length_replicate]; omega
        rw [List.size_toArray, sizeLine_eq]; omega
      rcases k with _ | _ | _ | k
      rotate_left 3
      have hne := ne_dots (k + 1 + 1)
      rotate_right 3
      repeat' ((fail_if_success (with_reducible show Mine.Cut2Post _ _ _ _ _ _ _ _ _ _ _)); (fail_if_success (with_reducible show wpAny _ _ (call (Value.builtin "list.append") _) _ _ _)); first | (k_unfold; (try dsimp only)) | (k_end; wrow_close) | walk1 | (dsimp only; walk1) | (leave1; try dsimp only))
      · rw [cutL_0, List.append_nil] at hf
        subst hf
        exact ret_L hret (by assumption) (by assumption) (by k_mem) hi (by assumption)
      · (refine' append_K ?aF ?aN ?au ?_ ?az; (case aF => k_asm); (case aN => k_asm); (case au => k_upd); (case az => exact hul); k_whole)
        intro h' F' N'
        repeat' ((fail_if_success (with_reducible show Mine.Cut2Post _ _ _ _ _ _ _ _ _ _ _)); first | (k_unfold; (try dsimp only)) | (k_end; wrow_close) | walk1 | (dsimp only; walk1) | (leave1; try dsimp only))
        rename News _ _ _ _ => lN
        simp only [List.push_toArray] at lN
        exact cut2_end (by assumption) lN (by k_mem) (by k_mem) (by assumption) sl_f1 hi hf cutL_1 (by omega) (by intro z h1; simp only [if_neg h1])
      · (refine' append_K ?bF ?bN ?bu ?_ ?bz; (case bF => k_asm); (case bN => k_asm); (case bu => k_upd); (case bz => exact hul); k_whole)
        intro h' F' N'
        repeat' ((fail_if_success (with_reducible show Mine.Cut2Post _ _ _ _ _ _ _ _ _ _ _)); first | (k_unfold; (try dsimp only)) | (k_end; wrow_close) | walk1 | (dsimp only; walk1) | (leave1; try dsimp only))
        rename News _ _ _ _ => lN
        simp only [List.push_toArray] at lN
        exact cut2_end (by assumption) lN (by k_mem) (by k_mem) (by assumption) sl_f2 hi hf cutL_2 (by omega) (by intro z h1; simp only [if_neg h1])
      · (refine' append_K ?cF ?cN ?cu ?_ ?cz; (case cF => k_asm); (case cN => k_asm); (case cu => k_upd); (case cz => exact hul); k_whole)
        intro h' F' N'
        repeat' ((fail_if_success (with_reducible show Mine.Cut2Post _ _ _ _ _ _ _ _ _ _ _)); first | (k_unfold; (try dsimp only)) | (k_end; wrow_close) | walk1 | (dsimp only; walk1) | (leave1; try dsimp only))
        rename News _ _ _ _ => lN
        simp only [List.push_toArray] at lN
        exact cut2_end (by assumption) lN (by k_mem) (by k_mem) (by assumption) (sl_f3 _) hi hf (cutL_3 _) (by omega) (by intro z h1; simp only [if_neg h1])
      k_with_none
  have letters_c : ∀ {w : World} {loose : List PySem.Str} {mean : ExcName → Option Value} {mg mb : PySem.Str → Option Value} (n : Int) (tk : Tok) (h0 : 0 ≤ n), Con (PySem.Challenge.rw_tp0010_02.row.prog) w (Mine.law_w.heap_1_39 w.params) Mine.law_w.view_1_40 loose mean mg mb 4 95 [.int n tk] (fun _ => True) (fun v more => more = [] ∧ ∃ l t, (l.length = 4 ∧ LetOk l) ∧ v = .str (T l) t) := by
    as_aux_lemma =>
      intro w loose mean mg mb n tk h0
      k_with "in S20" => skip
      k_with "parse_c" => exact parse_c _ _ (by exact Mine.head_told (by omega))
      k_with "quote_c" => exact quote_c _ _ (by assumption)
      w_on
      k_fill
      unfold Con; intros; rename_i hret
      refine wpAny_call ?_
      walk_at "mine enter"
      k_steps
      exact hret _ [] _ _ ⟨rfl, txt_val (let_all _ _ _ _)⟩ (fun _ hp => nomatch hp) (Fr.keep (by assumption)) (by assumption)
      k_with_none
  have numbers_c : ∀ {w : World} {loose : List PySem.Str} {mean : ExcName → Option Value} {mg mb : PySem.Str → Option Value} (l : Addr) (vs : List Value) (ns : List Int) (hi : IntsAre vs ns) (hn : ns.length ≤ 63), Con (PySem.Challenge.rw_tp0010_02.row.prog) w (Mine.law_w.heap_1_39 w.params) Mine.law_w.view_1_40 loose mean mg mb 4 88 [.ref l] (fun h => h.IsList l vs.toArray) (ListR fun xs => IntsAre xs (numsOf2 ns)) := by
    as_aux_lemma =>
      intro w loose mean mg mb l vs ns hi hn
      k_with "in S21" => skip
      k_with "parse_c" => exact parse_c _ _ (by exact Mine.head_told (by omega))
      k_with "quote_c" => exact quote_c _ _ (by assumption)
      w_on
      k_fill
      unfold Con; intros; rename_i hret
      refine wpAny_call ?_
      walk_at "mine enter"
      k_steps
      rename IntsAre _ (_ ++ _) => hz
      rw [nums_eq2] at hz
      exact ret_L hret (by assumption) (by assumption) (by k_mem) (by exact hz) (by assumption)
      k_with_none
  have weighed_c : ∀ {w : World} {loose : List PySem.Str} {mean : ExcName → Option Value} {mg mb : PySem.Str → Option Value} (l : List Nat) (n : Nat) (q : Int) (tk tk2 tk3 tk4 : Tok) (hl : l.length ≤ 10) (hn : n ≤ 900), Con (PySem.Challenge.rw_tp0010_02.row.prog) w (Mine.law_w.heap_1_39 w.params) Mine.law_w.view_1_40 loose mean mg mb 8 128 [.str (T l) tk, .int (n : Int) tk2, .str (T [signN q]) tk3, .str (T (endL (q.fmod 3).toNat)) tk4] (fun _ => True) (fun v more => ∃ (a p : Addr) (xs : List Value) (c c2 : Nat) (t : Tok), v = .ref a ∧ IntsAre xs (weighF n l).1 ∧ more = [(a, { cls := .type "tuple", data := .seq #[.ref p, .int (((weighF n l).2 : Nat) : Int) t] c }), (p, { cls := .type "list", data := .seq xs.toArray c2 })]) := by
    as_aux_lemma =>
      intro w loose mean mg mb l n q tk tk2 tk3 tk4 hl hn
      k_with "in S22" => skip
      k_with "parse_c" => exact parse_c _ _ (by exact Mine.head_told (by omega))
      k_with "quote_c" => exact quote_c _ _ (by assumption)
      w_on
      k_fill
      unfold Con; intros; rename_i hret
      refine wpAny_call ?_
      walk_at "mine enter"
      repeat' ((fail_if_success (with_reducible show wpAny _ _ (pyIter (Value.str _ _)) _ _ _)); first | (k_unfold; (try dsimp only)) | (k_end; wrow_close) | walk1 | (dsimp only; walk1) | (leave1; try dsimp only))
      refine w_loop (n := n) rfl (by k_asm) (by k_asm) rfl rfl ?_ ?_
      · intro i c us k t tl u1 u2 u3 I oI h tk hc hi hDI F N
        have hle := weigh_le n (l.take i)
        have hul := weigh_len n (l.take i)
        have hsz : us.toArray.size ≤ sizeLine := by
          have h1 := IntsAre.length hi
          have h2 : (l.take i).length ≤ l.length := List.length_take_le' i l
          rw [List.size_toArray, sizeLine_eq]; omega
        repeat' ((fail_if_success (with_reducible show wpAny _ _ (call (Value.ref _) _) _ _ _)); first | (k_unfold; (try dsimp only)) | (k_end; wrow_close) | walk1 | (dsimp only; walk1) | (leave1; try dsimp only))
        · refine use_ints2 (cut_c _ _ (by omega)) (by k_asm) (by k_asm) (by k_asm) (by k_asm) (by first | exact rfl | assumption) (by ktr_room) (by ktr_units) trivial (by k_asm) fun a1 xs1 c1 h1 tk1 hI1 F1 N1 o1 => ?_
          simp only [List.forall_mem_cons, List.forall_mem_nil, and_true] at o1
          dsimp only
          have hc52 := cut_52 (weighF n (l.take i)).2
          have hcc := one_c (by assumption)
          refine Or.elim (show (weighF n (l.take i)).2 % 3 = 1 ∨ ((weighF n (l.take i)).2 % 3 = 2 ∨ (weighF n (l.take i)).2 % 3 = 0) by omega) (fun h3 => ?_) (fun h3 => Or.elim h3 (fun h3 => ?_) (fun h3 => ?_))
          · repeat' ((fail_if_success (with_reducible show wpAny _ _ (compareOp _ _ _) _ _ _)); first | (k_unfold; (try dsimp only)) | (k_end; wrow_close) | walk1 | (dsimp only; walk1) | (leave1; try dsimp only))
            refine eq_int_b2 (c := true) (cnt23_b (k := 1) (decide_eq_true h3)) ?_
            repeat' ((fail_if_success (with_reducible show wpAny _ _ (compareOp _ _ _) _ _ _)); first | (k_unfold; (try dsimp only)) | (k_end; wrow_close) | walk1 | (dsimp only; walk1) | (leave1; try dsimp only))
            refine eq_int_b2 (c := false) (cnt23_b (k := 2) (decide_eq_false (by omega))) ?_
            repeat' ((fail_if_success (with_reducible show wpAny _ _ (call (Value.builtin "list.append") _) _ _ _)); first | (k_unfold; (try dsimp only)) | (k_end; wrow_close) | walk1 | (dsimp only; walk1) | (leave1; try dsimp only))
            (refine' append_K ?vaF ?vaN ?vau ?_ ?vaz; (case vaF => k_asm); (case vaN => k_asm); (case vau => k_upd); (case vaz => exact hsz); k_whole)
            intro h' F' N'
            repeat' ((fail_if_success (with_reducible show Mine.WPost _ _ _ _ _ _ _ _ _ _ _ _ _)); first | (k_unfold; (try dsimp only)) | (k_end; wrow_close) | walk1 | (dsimp only; walk1) | (leave1; try dsimp only))
            rename News _ _ _ _ => lN
            simp only [List.push_toArray] at lN
            exact w_end (by assumption) lN (by k_mem) (by k_mem) hi hc (step_c1 hcc h3) rfl (congrArg Nat.cast (cut_52 _)) (by intro z h1 h2 h3 h4 h5; simp only [if_neg h1, if_neg h2, if_neg h3, if_neg h4, if_neg h5])
          · repeat' ((fail_if_success (with_reducible show wpAny _ _ (compareOp _ _ _) _ _ _)); first | (k_unfold; (try dsimp only)) | (k_end; wrow_close) | walk1 | (dsimp only; walk1) | (leave1; try dsimp only))
            refine eq_int_b2 (c := false) (cnt23_b (k := 1) (decide_eq_false (by omega))) ?_
            repeat' ((fail_if_success (with_reducible show wpAny _ _ (compareOp _ _ _) _ _ _)); first | (k_unfold; (try dsimp only)) | (k_end; wrow_close) | walk1 | (dsimp only; walk1) | (leave1; try dsimp only))
            refine eq_int_b2 (c := true) (cnt23_b (k := 2) (decide_eq_true h3)) ?_
            repeat' ((fail_if_success (with_reducible show wpAny _ _ (call (Value.ref _) _) _ _ _)); first | (k_unfold; (try dsimp only)) | (k_end; wrow_close) | walk1 | (dsimp only; walk1) | (leave1; try dsimp only))
            refine use_V (sent_c _ _ _ _ _ (by omega) (by omega)) (by k_asm) (by k_asm) (by k_asm) (by k_asm) (by first | exact rfl | assumption) (by ktr_room) (by ktr_units) trivial (by k_asm) fun t4 h4 tk4 F4 N4 => ?_
            dsimp only
            repeat' ((fail_if_success (with_reducible show wpAny _ _ (call (Value.ref _) _) _ _ _)); first | (k_unfold; (try dsimp only)) | (k_end; wrow_close) | walk1 | (dsimp only; walk1) | (leave1; try dsimp only))
            refine use_ints2 (cut_c _ _ (by omega)) (by k_asm) (by k_asm) (by k_asm) (by k_asm) (by first | exact rfl | assumption) (by ktr_room) (by ktr_units) trivial (by k_asm) fun a2 xs2 c2 h2 tk2 hI2 F2 N2 o2 => ?_
            simp only [List.forall_mem_cons, List.forall_mem_nil, and_true] at o2
            dsimp only
            repeat' ((fail_if_success (with_reducible show wpAny _ _ (call (Value.builtin "list.append") _) _ _ _)); first | (k_unfold; (try dsimp only)) | (k_end; wrow_close) | walk1 | (dsimp only; walk1) | (leave1; try dsimp only))
            (refine' append_K ?vbF ?vbN ?vbu ?_ ?vbz; (case vbF => k_asm); (case vbN => k_asm); (case vbu => k_upd); (case vbz => exact hsz); k_whole)
            intro h' F' N'
            repeat' ((fail_if_success (with_reducible show Mine.WPost _ _ _ _ _ _ _ _ _ _ _ _ _)); first | (k_unfold; (try dsimp only)) | (k_end; wrow_close) | walk1 | (dsimp only; walk1) | (leave1; try dsimp only))
            rename News _ _ _ _ => lN
            simp only [List.push_toArray] at lN
            exact w_end (by assumption) lN (by k_mem) (by k_mem) hi hc (step_c2 hcc h3) rfl (congrArg Nat.cast (cut_52 _)) (by intro z h1 h2 h3 h4 h5; simp only [if_neg h1, if_neg h2, if_neg h3, if_neg h4, if_neg h5])
          · repeat' ((fail_if_success (with_reducible show wpAny _ _ (compareOp _ _ _) _ _ _)); first | (k_unfold; (try dsimp only)) | (k_end; wrow_close) | walk1 | (dsimp only; walk1) | (leave1; try dsimp only))
            refine eq_int_b2 (c := false) (cnt23_b (k := 1) (decide_eq_false (by omega))) ?_
            repeat' ((fail_if_success (with_reducible show wpAny _ _ (compareOp _ _ _) _ _ _)); first | (k_unfold; (try dsimp only)) | (k_end; wrow_close) | walk1 | (dsimp only; walk1) | (leave1; try dsimp only))
            refine eq_int_b2 (c := false) (cnt23_b (k := 2) (decide_eq_false (by omega))) ?_
            repeat' ((fail_if_success (with_reducible show wpAny _ _ (call (Value.builtin "list.append") _) _ _ _)); first | (k_unfold; (try dsimp only)) | (k_end; wrow_close) | walk1 | (dsimp only; walk1) | (leave1; try dsimp only))
            (refine' append_K ?vcF ?vcN ?vcu ?_ ?vcz; (case vcF => k_asm); (case vcN => k_asm); (case vcu => k_upd); (case vcz => exact hsz); k_whole)
            intro h' F' N'
            repeat' ((fail_if_success (with_reducible show Mine.WPost _ _ _ _ _ _ _ _ _ _ _ _ _)); first | (k_unfold; (try dsimp only)) | (k_end; wrow_close) | walk1 | (dsimp only; walk1) | (leave1; try dsimp only))
            rename News _ _ _ _ => lN
            simp only [List.push_toArray] at lN
            exact w_end (by assumption) lN (by k_mem) (by k_mem) hi hc (step_c0 hcc h3) rfl (congrArg Nat.cast (cut_52 _)) (by intro z h1 h2 h3 h4 h5; simp only [if_neg h1, if_neg h2, if_neg h3, if_neg h4, if_neg h5])
        · have hcc := not_c (by assumption)
          refine use_V (read_c _ _ _ _ (by omega) (signN_ne q).2.1) (by k_asm) (by k_asm) (by k_asm) (by k_asm) (by first | exact rfl | assumption) (by ktr_room) (by ktr_units) trivial (by k_asm) fun t5 h5 tk5 F5 N5 => ?_
          dsimp only
          refine Or.elim (show (weighF n (l.take i)).2 % 2 = 0 ∨ (weighF n (l.take i)).2 % 2 = 1 by omega) (fun h3 => ?_) (fun h3 => ?_)
          · repeat' ((fail_if_success (with_reducible show wpAny _ _ (call (Value.builtin "str.endswith") _) _ _ _)); first | (k_unfold; (try dsimp only)) | (k_end; wrow_close) | walk1 | (dsimp only; walk1) | (leave1; try dsimp only))
            refine ends_b ((ends_told (signN_ne q).2.1).trans (decide_eq_true h3)) ?_
            repeat' ((fail_if_success (with_reducible show wpAny _ _ (call (Value.builtin "list.append") _) _ _ _)); first | (k_unfold; (try dsimp only)) | (k_end; wrow_close) | walk1 | (dsimp only; walk1) | (leave1; try dsimp only))
            (refine' append_K ?vdF ?vdN ?vdu ?_ ?vdz; (case vdF => k_asm); (case vdN => k_asm); (case vdu => k_upd); (case vdz => exact hsz); k_whole)
            intro h' F' N'
            repeat' ((fail_if_success (with_reducible show Mine.WPost _ _ _ _ _ _ _ _ _ _ _ _ _)); first | (k_unfold; (try dsimp only)) | (k_end; wrow_close) | walk1 | (dsimp only; walk1) | (leave1; try dsimp only))
            rename News _ _ _ _ => lN
            simp only [List.push_toArray] at lN
            exact w_end (by assumption) lN (by k_mem) (by k_mem) hi hc (step_e hcc h3) rfl (count_told2 (signN_ne q).2.1) (by intro z h1 h2 h3 h4 h5; simp only [if_neg h1, if_neg h2, if_neg h3, if_neg h4, if_neg h5])
          · repeat' ((fail_if_success (with_reducible show wpAny _ _ (call (Value.builtin "str.endswith") _) _ _ _)); first | (k_unfold; (try dsimp only)) | (k_end; wrow_close) | walk1 | (dsimp only; walk1) | (leave1; try dsimp only))
            refine ends_b ((ends_told (signN_ne q).2.1).trans (decide_eq_false (by omega))) ?_
            repeat' ((fail_if_success (with_reducible show wpAny _ _ (call (Value.builtin "list.append") _) _ _ _)); (fail_if_success (with_reducible show wpAny _ _ (call (Value.ref _) _) _ _ _)); first | (k_unfold; (try dsimp only)) | (k_end; wrow_close) | walk1 | (dsimp only; walk1) | (leave1; try dsimp only))
            · have hmm := one_m (by assumption)
              refine use_V (sent_c _ _ _ _ _ (by omega) (by omega)) (by k_asm) (by k_asm) (by k_asm) (by k_asm) (by first | exact rfl | assumption) (by ktr_room) (by ktr_units) trivial (by k_asm) fun t4 h4 tk4 F4 N4 => ?_
              dsimp only
              repeat' ((fail_if_success (with_reducible show wpAny _ _ (call (Value.ref _) _) _ _ _)); first | (k_unfold; (try dsimp only)) | (k_end; wrow_close) | walk1 | (dsimp only; walk1) | (leave1; try dsimp only))
              refine use_V (read_c _ _ _ _ (by omega) (signN_ne q).2.1) (by k_asm) (by k_asm) (by k_asm) (by k_asm) (by first | exact rfl | assumption) (by ktr_room) (by ktr_units) trivial (by k_asm) fun t5 h5 tk5 F5 N5 => ?_
              dsimp only
              repeat' ((fail_if_success (with_reducible show wpAny _ _ (call (Value.builtin "list.append") _) _ _ _)); first | (k_unfold; (try dsimp only)) | (k_end; wrow_close) | walk1 | (dsimp only; walk1) | (leave1; try dsimp only))
              (refine' append_K ?veF ?veN ?veu ?_ ?vez; (case veF => k_asm); (case veN => k_asm); (case veu => k_upd); (case vez => exact hsz); k_whole)
              intro h' F' N'
              repeat' ((fail_if_success (with_reducible show Mine.WPost _ _ _ _ _ _ _ _ _ _ _ _ _)); first | (k_unfold; (try dsimp only)) | (k_end; wrow_close) | walk1 | (dsimp only; walk1) | (leave1; try dsimp only))
              rename News _ _ _ _ => lN
              simp only [List.push_toArray] at lN
              exact w_end (by assumption) lN (by k_mem) (by k_mem) hi hc (step_m hmm h3) rfl (count_told2 (signN_ne q).2.1) (by intro z h1 h2 h3 h4 h5; simp only [if_neg h1, if_neg h2, if_neg h3, if_neg h4, if_neg h5])
            · have hmm := not_m (by assumption)
              (refine' append_K ?vfF ?vfN ?vfu ?_ ?vfz; (case vfF => k_asm); (case vfN => k_asm); (case vfu => k_upd); (case vfz => exact hsz); k_whole)
              intro h' F' N'
              repeat' ((fail_if_success (with_reducible show Mine.WPost _ _ _ _ _ _ _ _ _ _ _ _ _)); first | (k_unfold; (try dsimp only)) | (k_end; wrow_close) | walk1 | (dsimp only; walk1) | (leave1; try dsimp only))
              rename News _ _ _ _ => lN
              simp only [List.push_toArray] at lN
              exact w_end (by assumption) lN (by k_mem) (by k_mem) hi hc (step_p hcc hmm h3) rfl (count_told2 (signN_ne q).2.1) (by intro z h1 h2 h3 h4 h5; simp only [if_neg h1, if_neg h2, if_neg h3, if_neg h4, if_neg h5])
      · intro us k tl u0 u1 u2 u3 h tk hi F N
        k_steps
        exact ret_more hret (by assumption) (by assumption) _ (fun p hp => hp) ⟨_, _, us, _, _, _, rfl, hi, rfl⟩ (by assumption)
      k_with_none
  have ways_c : ∀ {w : World} {loose : List PySem.Str} {mean : ExcName → Option Value} {mg mb : PySem.Str → Option Value} (l : List Nat) (tk : Tok) (hl : l.length = 4) (hok : LetOk l), Con (PySem.Challenge.rw_tp0010_02.row.prog) w (Mine.law_w.heap_1_39 w.params) Mine.law_w.view_1_40 loose mean mg mb 4 133 [.str (T l) tk] (fun _ => True) (fun v more => ∃ (a D : Addr) (xs : List Value) (c k : Nat) (t : Tok) (nx : List (Addr × Obj)), v = .ref a ∧ WaysAt nx xs (waysF l).1 ∧ more = (a, { cls := .type "tuple", data := .seq #[.ref D, .int (waysF l).2 t] c }) :: (D, { cls := .type "list", data := .seq xs.toArray k }) :: nx) := by
    as_aux_lemma =>
      intro w loose mean mg mb l tk hl hok
      k_with "in S23" => skip
      k_with "parse_c" => exact parse_c _ _ (by exact Mine.head_told (by omega))
      k_with "quote_c" => exact quote_c _ _ (by assumption)
      w_on
      k_fill
      unfold Con; intros; rename_i hret
      refine wpAny_call ?_
      walk_at "mine enterC"
      repeat' ((fail_if_success (with_reducible show wpAny _ _ (pyIter (Value.str _ _)) _ _ _)); first | (k_unfold; (try dsimp only)) | (k_end; wrow_close) | walk1 | (dsimp only; walk1) | (leave1; try dsimp only))
      (rename News _ _ _ _ => lN'); (rename _ = Data.cell (some (Value.int 1 _)) => dW')
      refine ways_loop rfl (by k_asm) (re5 lN') rfl ⟨by k_ne, by k_ne, by k_ne, by k_ne, by k_ne, by k_ne, by k_ne, by k_ne⟩ dW' (by assumption) rfl ?_ ?_
      · clear lN' dW'
        intro i c D xs k oW oX rest t tl vX I oI h tk hc hws hdW hdX hd5 hrI hrW hrX hrD F N
        have hle : (l.take i).length ≤ 3 := by
          have := (List.getElem?_eq_some_iff.mp hc).1
          rw [List.length_take]; omega
        have hcc := hok c (List.mem_of_getElem? hc)
        refine Or.elim (let_cases hcc) (fun hcx => ?_) (fun hcc => Or.elim hcc (fun hcx => ?_) (fun hcx => ?_))
        · repeat' ((fail_if_success (with_reducible show wpAny _ _ (subscriptTail (PySem.Expr.Dict _ _ _) _ _ _) _ _ _)); first | (k_unfold; (try dsimp only)) | (k_end; wrow_close) | walk1 | (dsimp only; walk1) | (leave1; try dsimp only))
          refine sub_key2 (one_S99 hcx) ?_
          repeat' ((fail_if_success (with_reducible show wpAny _ _ (exec (PySem.Stmt.Assign _ (PySem.Expr.ListComp _ _ _ _) _) _) _ _ _)); first | (k_unfold; (try dsimp only)) | (k_end; wrow_close) | walk1 | (dsimp only; walk1) | (leave1; try dsimp only))
          k_dflt (refine Assign_two (waysF (l.take i)).2 (chO 99) (waysF (l.take i)).1 (by k_asm) (by rfl) (by with_unfolding_all rfl) (by with_unfolding_all rfl) (by decide) (by rfl) (by decide) (by rfl) (by rfl) (by rfl) (by decide) (by decide) (by decide) (by rfl) (by rfl) ?_)
          repeat' ((fail_if_success (with_reducible show Mine.SrcTwo _ _ _ _ _ _ _ _ _ _ _ _ _ _ _ _ _ _ _ _ _)); first | (k_unfold; (try dsimp only)) | (k_end; wrow_close) | walk1 | (dsimp only; walk1) | (leave1; try dsimp only))
          refine SrcTwo.intro rfl (by k_asm) (by k_asm) (by k_mem) hws (by intro p hp; repeat (first | exact hp | refine List.mem_cons_of_mem _ ?_)) (by assumption) (by k_mem) (by k_mem) (.cons _ _ (.cons _ _ (.cons _ _ .nil))) hdW (by k_mem) (ways_sz hle (by decide)) ?_ ?_ ?_
          · intro C oC m₂ s d x p us k tt tx rest E' hd hx hus hC ha hb hc F N
            have hmul : IntMulOk x (waysF (l.take i)).2 := mul_ok1 (chO_in hx)
            have hdl := way_sz hle hd
            have hds : d.1.length + ([x] : List Int).length ≤ sizeLine := by rw [sizeLine_eq, List.length_singleton]; omega
            repeat' ((fail_if_success (with_reducible show Mine.EltPost _ _ _ _ _ _ _ _)); first | (k_unfold; (try dsimp only)) | (k_end; wrow_close) | walk1 | (dsimp only; walk1) | (leave1; try dsimp only))
            (rename News _ _ _ _ => lN')
            exact elt_end (by k_asm) lN' (by assumption) rfl (by assumption) (by assumption)
          · intro C oC m₂ s rest E' hC F N
            k_steps
          · intro D' h' tk' ys nn F N hoff hdis hw
            have hmid := ways_mid N hoff hdis (oI := oI) (oW := oW) (by k_mem) (by k_mem) (by assumption) (by k_mem)
            have N2 := hmid.1
            have hD2 := hmid.2.1
            have nI := hmid.2.2.1
            have nW := hmid.2.2.2.1
            have nX := hmid.2.2.2.2.1
            have nD := hmid.2.2.2.2.2
            clear hmid N hoff hdis
            repeat' ((fail_if_success (with_reducible show Mine.WaysPost _ _ _ _ _ _ _ _ _ _ _ _ _)); first | (k_unfold; (try dsimp only)) | (k_end; wrow_close) | walk1 | (dsimp only; walk1) | (leave1; try dsimp only))
            · (rename News _ _ _ _ => lN')
              exact ways_end (D := D') (ys := ys) (rest := nn) (by k_asm) lN' (by k_mem) (by k_mem) (by k_mem) (by k_mem) (fun p hp => List.mem_cons_of_mem _ (List.mem_cons_of_mem _ (List.mem_cons_of_mem _ (List.mem_cons_of_mem _ hp)))) hD2 hd5.2.1 hd5.2.2.1 nI nW nX nD hc (by rw [hcx]; exact hw) (by assumption) (by rw [hcx]; rfl) (by assumption) rfl (by intro z h1 h2; simp only [if_neg h1, if_neg h2])
            · exact absurd hcx (not_c (by assumption))
        · repeat' ((fail_if_success (with_reducible show wpAny _ _ (subscriptTail (PySem.Expr.Dict _ _ _) _ _ _) _ _ _)); first | (k_unfold; (try dsimp only)) | (k_end; wrow_close) | walk1 | (dsimp only; walk1) | (leave1; try dsimp only))
          refine sub_key2 (one_S112 hcx) ?_
          repeat' ((fail_if_success (with_reducible show wpAny _ _ (exec (PySem.Stmt.Assign _ (PySem.Expr.ListComp _ _ _ _) _) _) _ _ _)); first | (k_unfold; (try dsimp only)) | (k_end; wrow_close) | walk1 | (dsimp only; walk1) | (leave1; try dsimp only))
          k_dflt (refine Assign_two (waysF (l.take i)).2 (chO 112) (waysF (l.take i)).1 (by k_asm) (by rfl) (by with_unfolding_all rfl) (by with_unfolding_all rfl) (by decide) (by rfl) (by decide) (by rfl) (by rfl) (by rfl) (by decide) (by decide) (by decide) (by rfl) (by rfl) ?_)
          repeat' ((fail_if_success (with_reducible show Mine.SrcTwo _ _ _ _ _ _ _ _ _ _ _ _ _ _ _ _ _ _ _ _ _)); first | (k_unfold; (try dsimp only)) | (k_end; wrow_close) | walk1 | (dsimp only; walk1) | (leave1; try dsimp only))
          refine SrcTwo.intro rfl (by k_asm) (by k_asm) (by k_mem) hws (by intro p hp; repeat (first | exact hp | refine List.mem_cons_of_mem _ ?_)) (by assumption) (by k_mem) (by k_mem) (.cons _ _ (.cons _ _ .nil)) hdW (by k_mem) (ways_sz hle (by decide)) ?_ ?_ ?_
          · intro C oC m₂ s d x p us k tt tx rest E' hd hx hus hC ha hb hc F N
            have hmul : IntMulOk x (waysF (l.take i)).2 := mul_ok1 (chO_in hx)
            have hdl := way_sz hle hd
            have hds : d.1.length + ([x] : List Int).length ≤ sizeLine := by rw [sizeLine_eq, List.length_singleton]; omega
            repeat' ((fail_if_success (with_reducible show Mine.EltPost _ _ _ _ _ _ _ _)); first | (k_unfold; (try dsimp only)) | (k_end; wrow_close) | walk1 | (dsimp only; walk1) | (leave1; try dsimp only))
            (rename News _ _ _ _ => lN')
            exact elt_end (by k_asm) lN' (by assumption) rfl (by assumption) (by assumption)
          · intro C oC m₂ s rest E' hC F N
            k_steps
          · intro D' h' tk' ys nn F N hoff hdis hw
            have hmid := ways_mid N hoff hdis (oI := oI) (oW := oW) (by k_mem) (by k_mem) (by assumption) (by k_mem)
            have N2 := hmid.1
            have hD2 := hmid.2.1
            have nI := hmid.2.2.1
            have nW := hmid.2.2.2.1
            have nX := hmid.2.2.2.2.1
            have nD := hmid.2.2.2.2.2
            clear hmid N hoff hdis
            repeat' ((fail_if_success (with_reducible show Mine.WaysPost _ _ _ _ _ _ _ _ _ _ _ _ _)); first | (k_unfold; (try dsimp only)) | (k_end; wrow_close) | walk1 | (dsimp only; walk1) | (leave1; try dsimp only))
            · exact absurd (one_c (by assumption)) (by rw [hcx]; decide)
            · (rename News _ _ _ _ => lN')
              exact ways_end (D := D') (ys := ys) (rest := nn) (by k_asm) lN' (by k_mem) (by k_mem) (by k_mem) (by k_mem) (fun p hp => List.mem_cons_of_mem _ (List.mem_cons_of_mem _ (List.mem_cons_of_mem _ (List.mem_cons_of_mem _ hp)))) hD2 hd5.2.1 hd5.2.2.1 nI nW nX nD hc (by rw [hcx]; exact hw) (by assumption) (by rw [hcx]; rfl) (by assumption) rfl (by intro z h1 h2; simp only [if_neg h1, if_neg h2])
        · repeat' ((fail_if_success (with_reducible show wpAny _ _ (subscriptTail (PySem.Expr.Dict _ _ _) _ _ _) _ _ _)); first | (k_unfold; (try dsimp only)) | (k_end; wrow_close) | walk1 | (dsimp only; walk1) | (leave1; try dsimp only))
          refine sub_key2 (one_S109 hcx) ?_
          repeat' ((fail_if_success (with_reducible show wpAny _ _ (exec (PySem.Stmt.Assign _ (PySem.Expr.ListComp _ _ _ _) _) _) _ _ _)); first | (k_unfold; (try dsimp only)) | (k_end; wrow_close) | walk1 | (dsimp only; walk1) | (leave1; try dsimp only))
          k_dflt (refine Assign_two (waysF (l.take i)).2 (chO 109) (waysF (l.take i)).1 (by k_asm) (by rfl) (by with_unfolding_all rfl) (by with_unfolding_all rfl) (by decide) (by rfl) (by decide) (by rfl) (by rfl) (by rfl) (by decide) (by decide) (by decide) (by rfl) (by rfl) ?_)
          repeat' ((fail_if_success (with_reducible show Mine.SrcTwo _ _ _ _ _ _ _ _ _ _ _ _ _ _ _ _ _ _ _ _ _)); first | (k_unfold; (try dsimp only)) | (k_end; wrow_close) | walk1 | (dsimp only; walk1) | (leave1; try dsimp only))
          refine SrcTwo.intro rfl (by k_asm) (by k_asm) (by k_mem) hws (by intro p hp; repeat (first | exact hp | refine List.mem_cons_of_mem _ ?_)) (by assumption) (by k_mem) (by k_mem) (.cons _ _ (.cons _ _ .nil)) hdW (by k_mem) (ways_sz hle (by decide)) ?_ ?_ ?_
          · intro C oC m₂ s d x p us k tt tx rest E' hd hx hus hC ha hb hc F N
            have hmul : IntMulOk x (waysF (l.take i)).2 := mul_ok1 (chO_in hx)
            have hdl := way_sz hle hd
            have hds : d.1.length + ([x] : List Int).length ≤ sizeLine := by rw [sizeLine_eq, List.length_singleton]; omega
            repeat' ((fail_if_success (with_reducible show Mine.EltPost _ _ _ _ _ _ _ _)); first | (k_unfold; (try dsimp only)) | (k_end; wrow_close) | walk1 | (dsimp only; walk1) | (leave1; try dsimp only))
            (rename News _ _ _ _ => lN')
            exact elt_end (by k_asm) lN' (by assumption) rfl (by assumption) (by assumption)
          · intro C oC m₂ s rest E' hC F N
            k_steps
          · intro D' h' tk' ys nn F N hoff hdis hw
            have hmid := ways_mid N hoff hdis (oI := oI) (oW := oW) (by k_mem) (by k_mem) (by assumption) (by k_mem)
            have N2 := hmid.1
            have hD2 := hmid.2.1
            have nI := hmid.2.2.1
            have nW := hmid.2.2.2.1
            have nX := hmid.2.2.2.2.1
            have nD := hmid.2.2.2.2.2
            clear hmid N hoff hdis
            repeat' ((fail_if_success (with_reducible show Mine.WaysPost _ _ _ _ _ _ _ _ _ _ _ _ _)); first | (k_unfold; (try dsimp only)) | (k_end; wrow_close) | walk1 | (dsimp only; walk1) | (leave1; try dsimp only))
            · exact absurd (one_c (by assumption)) (by rw [hcx]; decide)
            · (rename News _ _ _ _ => lN')
              exact ways_end (D := D') (ys := ys) (rest := nn) (by k_asm) lN' (by k_mem) (by k_mem) (by k_mem) (by k_mem) (fun p hp => List.mem_cons_of_mem _ (List.mem_cons_of_mem _ (List.mem_cons_of_mem _ (List.mem_cons_of_mem _ hp)))) hD2 hd5.2.1 hd5.2.2.1 nI nW nX nD hc (by rw [hcx]; exact hw) (by assumption) (by rw [hcx]; rfl) (by assumption) rfl (by intro z h1 h2; simp only [if_neg h1, if_neg h2])
      · intro D xs k oW oX rest t u0 h tk hw hd F N
        k_steps
        exact ret_more hret (by assumption) (by assumption) _ sub_end ⟨_, D, xs, _, k, _, rest, rfl, hw, rfl⟩ (by assumption)
      k_with_none
  k_with "in L2.txt" => skip
  k_with "parse_c" => exact parse_c _ _ (by exact Mine.head_told (by omega))
  k_with "quote_c" => exact quote_c _ _ (by assumption)
  k_go0
  all_goals (try k_fold)
  repeat' ((fail_if_success (with_reducible show wpAny _ _ (call (Value.ref _) _) _ _ _)); first | (k_unfold; (try dsimp only)) | (k_end; wrow_close) | walk1 | (dsimp only; walk1) | (leave1; try dsimp only))
  refine use_nums2 numbers_c (by k_asm) (by k_asm) (by k_asm) (by k_asm) (by first | exact rfl | assumption) (by ktr_room) (by ktr_units) (by k_asm) (by assumption) (by assumption) (by assumption) fun aN xsN cN NS hN tkN hNI hNl hNb F0 N0 o0 => ?_
  simp only [List.forall_mem_cons, List.forall_mem_nil, and_true] at o0
  dsimp only
  repeat' ((fail_if_success (with_reducible show wpAny _ _ (call (Value.ref _) _) _ _ _)); first | (k_unfold; (try dsimp only)) | (k_end; wrow_close) | walk1 | (dsimp only; walk1) | (leave1; try dsimp only))
  refine use_txt2 (letters_c _ _ (num_nn hNb _)) (by k_asm) (by k_asm) (by k_asm) (by k_asm) (by first | exact rfl | assumption) (by ktr_room) (by ktr_units) trivial (by k_asm) fun r tr h1 tk1 hr F1 N1 => ?_
  dsimp only
  repeat' ((fail_if_success (with_reducible show wpAny _ _ (call (Value.ref _) _) _ _ _)); first | (k_unfold; (try dsimp only)) | (k_end; wrow_close) | walk1 | (dsimp only; walk1) | (leave1; try dsimp only))
  refine use_V (sign_c _ _) (by k_asm) (by k_asm) (by k_asm) (by k_asm) (by first | exact rfl | assumption) (by ktr_room) (by ktr_units) trivial (by k_asm) fun t2 h2 tk2 F2 N2 => ?_
  dsimp only
  repeat' ((fail_if_success (with_reducible show wpAny _ _ (subscriptTail (PySem.Expr.Tuple _ _ _) _ _ _) _ _ _)); first | (k_unfold; (try dsimp only)) | (k_end; wrow_close) | walk1 | (dsimp only; walk1) | (leave1; try dsimp only))
  (refine' Mine.item_end ?yN ?ym ?_; (case yN => k_asm); (case ym => k_mem); intro tE hlE)
  repeat' ((fail_if_success (with_reducible show wpAny _ _ (call (Value.ref _) _) _ _ _)); first | (k_unfold; (try dsimp only)) | (k_end; wrow_close) | walk1 | (dsimp only; walk1) | (leave1; try dsimp only))
  refine use_ways (ways_c r _ hr.1 hr.2) (by k_asm) (by k_asm) (by k_asm) (by k_asm) (by first | exact rfl | assumption) (by ktr_room) (by ktr_units) (by k_asm) fun aW DW xsW cW kW tW nx hW tkW hws FW NW oa oD onx => ?_
  simp only [List.cons_append, List.nil_append] at NW
  simp only [List.forall_mem_cons, List.forall_mem_nil, and_true] at oa oD
  dsimp only
  repeat' ((fail_if_success (with_reducible show wpAny _ _ (pyIter (Value.ref _)) _ _ _)); first | (k_unfold; (try dsimp only)) | (k_end; wrow_close) | walk1 | (dsimp only; walk1) | (leave1; try dsimp only))
  have hbd := waysF_pos r
  have hnz : (waysF r).2 ≠ 0 := by omega
  (rename News _ _ _ _ => lN')
  (refine law_loop rfl (by k_asm) (pick7 lN') (by assumption) (by assumption) List.mem_cons_self (fun p hp => hp) rfl (List.forall_mem_cons.mpr ⟨by k_ne, List.forall_mem_cons.mpr ⟨by k_ne, List.forall_mem_cons.mpr ⟨by k_ne, by exact Mine.off_ne onx (by k_mem)⟩⟩⟩) ?_ ?_)
  · clear lN'
    intro i n t u oX v I oI h tk hn hdX hXI hbI F N
    simp only [List.forall_mem_cons] at hbI
    have hld := load_bd n
    repeat' ((fail_if_success (with_reducible show wpAny _ _ (exec (PySem.Stmt.Assign _ (PySem.Expr.ListComp _ _ _ _) _) _) _ _ _)); first | (k_unfold; (try dsimp only)) | (k_end; wrow_close) | walk1 | (dsimp only; walk1) | (leave1; try dsimp only))
    k_dflt (refine Assign_PT (fitT (n.fmod 64 + 1) (waysF r).2) (fitD (n.fmod 64 + 1) (waysF r).2) (waysF r).1 (by k_asm) (by rfl) (by with_unfolding_all rfl) (by with_unfolding_all rfl) (by decide) (by rfl) (by decide) (by rfl) (by rfl) (by decide) (by rfl) (by rfl) ?_)
    repeat' ((fail_if_success (with_reducible show Mine.SrcPT _ _ _ _ _ _ _ _ _ _ _ _ _ _ _ _ _ _ _ _)); first | (k_unfold; (try dsimp only)) | (k_end; wrow_close) | walk1 | (dsimp only; walk1) | (leave1; try dsimp only))
    refine SrcPT.intro (b1 := (waysF r).2) (x1 := n.fmod 64 + 1) rfl (by k_asm) (by k_asm) (by k_mem) hws (by intro p hp; repeat (first | exact hp | refine List.mem_cons_of_mem _ ?_)) (by assumption) (by k_mem) (by assumption) (by k_mem) (ways_sz4 hr.1) ?_ ?_ (fun _ => rfl) ?_
    · intro C oC m₂ s d p us k tt rest E' hd hus hC ha hb F N
      repeat' ((fail_if_success (with_reducible show wpAny _ _ (compareOp _ _ _) _ _ _)); first | (k_unfold; (try dsimp only)) | (k_end; wrow_close) | walk1 | (dsimp only; walk1) | (leave1; try dsimp only))
      all_goals (first | exact absurd (by assumption) hnz | skip)
      refine Or.elim (Bool.eq_false_or_eq_true (fitT (n.fmod 64 + 1) (waysF r).2 d)) (fun hft => ?_) (fun hft => ?_)
      · refine eq_int_b2 (c := true) hft ?_
        repeat' ((fail_if_success (with_reducible show And _ _)); first | (k_unfold; (try dsimp only)) | (k_end; wrow_close) | walk1 | (dsimp only; walk1) | (leave1; try dsimp only))
        exact ⟨hft.symm, _, rfl⟩
      · refine eq_int_b2 (c := false) hft ?_
        repeat' ((fail_if_success (with_reducible show And _ _)); first | (k_unfold; (try dsimp only)) | (k_end; wrow_close) | walk1 | (dsimp only; walk1) | (leave1; try dsimp only))
        exact ⟨hft.symm, _, rfl⟩
    · intro C oC m₂ s d p us k tt rest E' hd ht hus hC ha hb F N
      repeat' ((fail_if_success (with_reducible show Mine.EltP _ _ _ _ _ _ _ _ _)); first | (k_unfold; (try dsimp only)) | (k_end; wrow_close) | walk1 | (dsimp only; walk1) | (leave1; try dsimp only))
      all_goals (first | exact absurd (by assumption) hnz | skip)
      (rename News _ _ _ _ => lN')
      exact eltP_end (by k_asm) lN' (by assumption)
    · intro D' h' tk' ys nn F N hoff hdis hw
      refine fits_elim N hw ((fits_at hld.1 r).trans (law_fits r hr.2 _)) (fun t1 p1 us1 c1 kk1 tk1 N1 hi1 => ?_)
      clear N hw hoff hdis
      repeat' ((fail_if_success (with_reducible show wpAny _ _ (call (Value.ref _) _) _ _ _)); first | (k_unfold; (try dsimp only)) | (k_end; wrow_close) | walk1 | (dsimp only; walk1) | (leave1; try dsimp only))
      refine call_int2 hld.1 ?_
      refine use_wgh (weighed_c r ((n.fmod 64).toNat + 1) (NS.getD (Int.toNat 3) 0) _ _ _ _ (by omega) (by omega)) (by k_asm) (by k_asm) (by k_asm) (by k_asm) (by first | exact rfl | assumption) (by ktr_room) (by ktr_units) (by k_asm) fun aG pG xsG cG c2G tG hG tkG hIG FG NG => ?_
      dsimp only
      repeat' ((fail_if_success (with_reducible show wpAny _ _ (compareOp _ _ _) _ _ _)); first | (k_unfold; (try dsimp only)) | (k_end; wrow_close) | walk1 | (dsimp only; walk1) | (leave1; try dsimp only))
      (rename News _ _ _ _ => lN')
      refine ne_fits lN' (by k_mem) (by k_mem) (by k_mem) (by k_mem) (by k_mem) (by k_mem) hi1 hIG rfl rfl (by units_room) ?_
      repeat' ((fail_if_success (with_reducible show Mine.LawPost _ _ _ _ _ _ _ _ _ _ _)); first | (k_unfold; (try dsimp only)) | (k_end; wrow_close) | walk1 | (dsimp only; walk1) | (leave1; try dsimp only))
      exact law_end (by k_asm) lN' (by k_mem) (by k_mem) (by assumption) (by intro p hp; repeat (first | exact hp | refine List.mem_cons_of_mem _ ?_)) (by intro z h1 h2; simp only [if_neg h1, if_neg h2])
  · intro u0 u1 oX h tk F N
    k_steps
  k_with_none
end Mine
end
theorem PySem.Challenge.cw_tp0010_02_holds : PySem.Challenge.rw_tp0010_02.Holds := by
  exact Mine.law_w

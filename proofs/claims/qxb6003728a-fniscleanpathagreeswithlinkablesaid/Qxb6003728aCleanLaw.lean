/-
  THE PLAIN LAW, no Go in sight: of a segment s that is not empty and holds no slash: '/s' and '/s/' are clean just where s is neither '.' nor '..'.
-/
import Derived.Lib.CleanFns
namespace Go.Proofs.Qxb6003728a.CleanLaw
open Go.Lib

/-- isCleanPath -/
def isC (l : List UInt8) : Bool := (if Lib.hasSuffix l [47] && (Pa.clean l != [47]) then Pa.clean l ++ [47] else Pa.clean l) == l
/-- linkable -/
def link (l : List UInt8) : Bool := l != [46] && l != [46, 46]

theorem takeWhile_all (s t : List UInt8) (h : ∀ c ∈ s, c ≠ 47) : (s ++ 47 :: t).takeWhile (· != 47) = s := by
  induction s with
  | nil => simp
  | cons a s ih =>
    have ha : a ≠ 47 := h a (by simp)
    simp [ha]
    exact ih fun c hc => h c (by simp [hc])

theorem takeWhile_all' (s : List UInt8) (h : ∀ c ∈ s, c ≠ 47) : s.takeWhile (· != 47) = s := by
  induction s with
  | nil => simp
  | cons a s ih =>
    have ha : a ≠ 47 := h a (by simp)
    simp [ha]
    exact ih fun c hc => h c (by simp [hc])

theorem get_ne (s : List UInt8) (h : ∀ c ∈ s, c ≠ 47) (j : Nat) : s[j]? ≠ some 47 := fun e => h 47 (List.mem_of_getElem? e) rfl

theorem clean_one (s : List UInt8) (hs : s ≠ []) (h : ∀ c ∈ s, c ≠ 47) (h1 : s ≠ [46]) (h2 : s ≠ [46, 46]) : Pa.clean (47 :: s) = 47 :: s := by
  have hg := get_ne s h
  obtain ⟨n, hn⟩ : ∃ n, s.length = n + 1 := ⟨s.length - 1, by have := List.length_pos_iff.2 hs; omega⟩
  have c1 : ¬ (s[0]? = some 46 ∧ (s.length = 1 ∨ s[1]? = some 47)) := by
    rintro ⟨a, b | b⟩
    · match s, b with
      | [x], _ => simp at a; exact h1 (by rw [a])
    · exact hg 1 b
  have c2 : ¬ (s[0]? = some 46 ∧ s[1]? = some 46 ∧ (s.length = 2 ∨ s[2]? = some 47)) := by
    rintro ⟨a, a', b | b⟩
    · match s, b with
      | [x, y], _ => simp at a a'; exact h2 (by rw [a, a'])
    · exact hg 2 b
  have e : Pa.cleanLoop (47 :: s) true (47 :: s).length [47] 1 1 = 47 :: s := by
    simp only [List.length_cons]
    rw [Pa.cleanLoop]
    rw [if_pos (by simp; omega), if_neg (by simpa using hg 0)]
    rw [if_neg (by simpa using c1), if_neg (by simpa using c2)]
    simp [takeWhile_all' s h, hn, Pa.cleanLoop]
    intro hlt; omega
  unfold Pa.clean
  simp
  simp only [List.length_cons] at e
  rw [e]
  simp

theorem clean_two (s : List UInt8) (hs : s ≠ []) (h : ∀ c ∈ s, c ≠ 47) (h1 : s ≠ [46]) (h2 : s ≠ [46, 46]) : Pa.clean (47 :: (s ++ [47])) = 47 :: s := by
  have hg := get_ne s h
  obtain ⟨n, hn⟩ : ∃ n, s.length = n + 1 := ⟨s.length - 1, by have := List.length_pos_iff.2 hs; omega⟩
  have g0 : (s ++ [47])[0]? = s[0]? := by rw [List.getElem?_append_left (by omega)]
  have c1 : ¬ (s[0]? = some 46 ∧ (1 + 1 = s.length + 2 ∨ (s ++ [47])[1]? = some 47)) := by
    rintro ⟨a, b | b⟩
    · omega
    · rcases Nat.lt_or_ge 1 s.length with hl | hl
      · rw [List.getElem?_append_left hl] at b; exact hg 1 b
      · match s, hs with
        | [x], _ => simp at a; exact h1 (by rw [a])
        | x :: y :: r, _ => simp at hl
  have c2 : ¬ (s[0]? = some 46 ∧ (s ++ [47])[1]? = some 46 ∧ (1 + 2 = s.length + 2 ∨ (s ++ [47])[2]? = some 47)) := by
    rintro ⟨a, a', b⟩
    rcases Nat.lt_or_ge 2 s.length with hl | hl
    · rw [List.getElem?_append_left hl] at b
      rcases b with b | b
      · omega
      · exact hg 2 b
    · match s, hs with
      | [x], _ => simp at a'
      | [x, y], _ => simp at a a'; exact h2 (by rw [a, a'])
      | x :: y :: z :: r, _ => simp at hl
  have e : Pa.cleanLoop (47 :: (s ++ [47])) true (47 :: (s ++ [47])).length [47] 1 1 = 47 :: s := by
    have hl : (47 :: (s ++ [47])).length = s.length + 2 := by simp
    rw [hl, Pa.cleanLoop]
    rw [if_pos (by rw [hl]; omega), if_neg (by rw [List.getElem?_cons_succ, g0]; exact hg 0)]
    rw [if_neg (by rw [List.getElem?_cons_succ, List.getElem?_cons_succ, g0, hl]; exact c1), if_neg (by rw [List.getElem?_cons_succ, List.getElem?_cons_succ, List.getElem?_cons_succ, g0, hl]; exact c2)]
    have e1 : (List.drop 1 (47 :: (s ++ [47]))).takeWhile (· != 47) = s := by simpa using takeWhile_all s [] h
    rw [e1]
    have e2 : (if (true && ([47] : List UInt8).length != 1) || (!true && ([47] : List UInt8).length != 0) then ([47] : List UInt8) ++ [47] else [47]) = [47] := by simp
    rw [e2, Pa.cleanLoop]
    rw [if_pos (by rw [hl]; omega), if_pos (by rw [show 1 + s.length = s.length + 1 by omega]; simp)]
    rw [hn, Pa.cleanLoop, if_neg (by rw [hl]; omega)]
    simp
  unfold Pa.clean
  rw [if_neg (by simp)]
  simp only [List.head?_cons, BEq.rfl, if_true]
  rw [e]
  simp

theorem suffix_one (s : List UInt8) (hs : s ≠ []) (h : ∀ c ∈ s, c ≠ 47) : Lib.hasSuffix (47 :: s) [47] = false := by
  unfold Lib.hasSuffix
  rw [Bool.eq_false_iff]
  intro k
  rw [List.isSuffixOf_iff_suffix] at k
  obtain ⟨t, ht⟩ := k
  have hl : (47 :: s).getLast? = some 47 := by rw [← ht]; simp
  rw [List.getLast?_cons_of_ne_nil hs] at hl
  exact h 47 (List.mem_of_getLast? hl) rfl

theorem suffix_two (s : List UInt8) : Lib.hasSuffix (47 :: (s ++ [47])) [47] = true := by
  unfold Lib.hasSuffix
  rw [List.isSuffixOf_iff_suffix]
  exact ⟨47 :: s, by simp⟩

theorem law_one (s : List UInt8) (hs : s ≠ []) (h : ∀ c ∈ s, c ≠ 47) : isC (47 :: s) = link s := by
  by_cases h1 : s = [46]
  · subst h1; decide
  by_cases h2 : s = [46, 46]
  · subst h2; decide
  simp [isC, link, clean_one s hs h h1 h2, suffix_one s hs h, h1, h2]

theorem law_two (s : List UInt8) (hs : s ≠ []) (h : ∀ c ∈ s, c ≠ 47) : isC (47 :: (s ++ [47])) = link s := by
  by_cases h1 : s = [46]
  · subst h1; decide
  by_cases h2 : s = [46, 46]
  · subst h2; decide
  simp [isC, link, clean_two s hs h h1 h2, suffix_two s, h1, h2, hs]

end Go.Proofs.Qxb6003728a.CleanLaw

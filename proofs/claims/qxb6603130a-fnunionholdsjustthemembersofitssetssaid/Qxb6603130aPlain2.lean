import Derived.Test.Qxb6603130aPlain1
namespace Go.Proofs.Qxb6603130a

theorem begins_false (s p : ByteArray) : begins s p = false ↔ ¬ p.data.toList <+: s.data.toList := by
  rw [← begins_iff]; simp

/-- The answer as the law's own text has it. -/
def want (f : ByteArray → Bool) (P pre nam : ByteArray) : ByteArray × Bool :=
  if begins (pre ++ nam) P = true then
    if f ((pre ++ nam).extract P.size (pre ++ nam).size) = true then ((pre ++ nam).extract P.size (pre ++ nam).size, true)
    else if pre.size ≤ P.size then ((pre ++ nam).extract P.size (pre ++ nam).size, false) else (ByteArray.empty, false)
  else if pre.size < P.size then
    if begins P pre = true then (nam, false) else (ByteArray.empty, false)
  else (ByteArray.empty, false)

theorem rest_eq (P pre nam : ByteArray) (h : P.size ≤ pre.size) : (pre ++ nam).extract P.size (pre ++ nam).size = pre.extract P.size pre.size ++ nam := by
  apply toList_inj'
  rw [extract_list, app_list, app_list, extract_list, List.drop_append_of_le_length (by rw [← size_list]; exact h)]

theorem begins_app (P pre nam : ByteArray) (h : P.size ≤ pre.size) : begins (pre ++ nam) P = begins pre P := by
  rw [Bool.eq_iff_iff, begins_iff, begins_iff, app_list]
  constructor
  · intro q
    exact List.prefix_of_prefix_length_le q (List.prefix_append _ _) (by rw [← size_list, ← size_list]; exact h)
  · intro q
    exact q.trans (List.prefix_append _ _)

theorem keyF_want (f : ByteArray → Bool) (P pre nam : ByteArray) : keyF f P pre nam = want f P pre nam := by
  unfold keyF want
  by_cases h1 : pre.size < P.size
  · rw [if_pos h1]
    have hle : pre.data.toList.length ≤ P.data.toList.length := by rw [← size_list, ← size_list]; omega
    by_cases h2 : begins P pre = true
    · rw [if_pos h2]
      obtain ⟨t, ht⟩ := (begins_iff _ _).1 h2
      have e1 : (P.extract pre.size P.size).data.toList = t := by rw [extract_list, ← ht, size_list]; simp
      have hb : begins nam (P.extract pre.size P.size) = begins (pre ++ nam) P := by
        rw [Bool.eq_iff_iff, begins_iff, begins_iff, app_list, e1, ← ht, List.prefix_append_right_inj]
      rw [hb]
      have e2 : (pre ++ nam).extract P.size (pre ++ nam).size = nam.extract (P.size - pre.size) nam.size := by
        apply toList_inj'
        rw [extract_list, extract_list, app_list, List.drop_append, List.drop_eq_nil_of_le (by rw [← size_list]; omega), List.nil_append, ← size_list]
      rw [e2]
      by_cases h3 : begins (pre ++ nam) P = true
      · rw [if_pos h3, if_pos h3, if_pos (by omega : pre.size ≤ P.size)]
        by_cases h4 : f (nam.extract (P.size - pre.size) nam.size) = true
        · rw [if_pos h4, h4]
        · rw [if_neg h4]
          simp only [Bool.not_eq_true] at h4
          rw [h4]
      · rw [if_neg h3, if_neg h3, if_pos h1, if_pos h2]
    · rw [if_neg h2]
      have h3 : ¬ begins (pre ++ nam) P = true := by
        intro h3
        rw [begins_iff, app_list] at h3
        exact h2 ((begins_iff _ _).2 (List.prefix_of_prefix_length_le (List.prefix_append _ _) h3 hle))
      rw [if_neg h3, if_pos h1, if_neg h2]
  · rw [if_neg h1, begins_app P pre nam (by omega), rest_eq P pre nam (by omega)]
    by_cases h2 : begins pre P = true
    · rw [if_pos h2, if_pos h2]
      by_cases h3 : (pre.extract P.size pre.size).toList.isEmpty = true
      · rw [if_pos h3]
        have e := (empty_iff _).1 h3
        have e3 : pre.extract P.size pre.size ++ nam = nam := toList_inj' (by rw [app_list, e, List.nil_append])
        have hps : pre.size ≤ P.size := by
          rw [extract_list] at e
          have := congrArg List.length e
          simp at this
          omega
        rw [e3]
        cases hf : f nam
        · simp [hps]
        · simp
      · rw [if_neg h3]
        by_cases h4 : f (pre.extract P.size pre.size ++ nam) = true
        · rw [if_pos h4, if_pos h4]
        · rw [if_neg h4, if_neg h4]
          have hps : ¬ pre.size ≤ P.size := by
            intro hh
            apply h3
            rw [empty_iff, extract_list, List.drop_eq_nil_of_le (by rw [← size_list]; exact hh)]
          rw [if_neg hps]
    · rw [if_neg h2, if_neg h2, if_neg h1]

theorem uses_iff (P pre : ByteArray) : uses P pre ↔ (P.size < pre.size ∧ begins pre P = true) := by
  unfold uses
  constructor
  · rintro ⟨h1, h2, h3⟩
    refine ⟨?_, h2⟩
    rcases Nat.lt_or_ge P.size pre.size with h | h
    · exact h
    · exfalso
      have : (pre.extract P.size pre.size).toList.isEmpty = true := by rw [empty_iff, extract_list, List.drop_eq_nil_of_le (by rw [← size_list]; exact h)]
      rw [this] at h3; cases h3
  · rintro ⟨h1, h2⟩
    refine ⟨by omega, h2, ?_⟩
    rw [← Bool.not_eq_true, empty_iff, extract_list]
    intro e
    have := congrArg List.length e
    rw [List.length_drop, ← size_list] at this
    simp at this
    omega
end Go.Proofs.Qxb6603130a

import Derived.Test.Qxb6603130aDoes
namespace Go.Proofs.Qxb6603130a

theorem begins_iff (s p : ByteArray) : begins s p = true ↔ p.data.toList <+: s.data.toList := by
  unfold begins
  rw [Lib.hasPrefix_raw, Lib.hasPrefix, List.isPrefixOf_iff_prefix]

theorem size_list (s : ByteArray) : s.size = s.data.toList.length := Lib.size_eq s

theorem empty_iff (s : ByteArray) : s.toList.isEmpty = true ↔ s.data.toList = [] := by
  rw [Lib.toList_data]; simp

theorem extract_list (s : ByteArray) (a : Nat) : (s.extract a s.size).data.toList = s.data.toList.drop a := by
  rw [Lib.extract_data, size_list]
  exact List.take_of_length_le (by simp)

theorem app_list (a b : ByteArray) : (a ++ b).data.toList = a.data.toList ++ b.data.toList := by simp

/-- Every key is found again from its variable, split anywhere. -/
theorem finds (f : ByteArray → Bool) (P K : ByteArray) (sp : Nat) (h : sp ≤ P.size + K.size) (hK : f K = true) :
    keyF f P ((P ++ K).extract 0 sp) ((P ++ K).extract sp (P ++ K).size) = (K, true) := by
  have hP := size_list P
  have hKs := size_list K
  generalize hpre : (P ++ K).extract 0 sp = pre
  generalize hnam : (P ++ K).extract sp (P ++ K).size = nam
  have e1 : pre.data.toList = (P.data.toList ++ K.data.toList).take sp := by rw [← hpre, Lib.extract_data, app_list]; simp
  have e2 : nam.data.toList = (P.data.toList ++ K.data.toList).drop sp := by rw [← hnam, extract_list, app_list]
  have hs : pre.size = sp := by rw [size_list, e1]; simp; omega
  clear hpre hnam
  unfold keyF
  by_cases h1 : pre.size < P.size
  · rw [if_pos h1]
    have e3 : pre.data.toList = P.data.toList.take sp := by rw [e1, List.take_append_of_le_length (by omega)]
    rw [if_pos ((begins_iff _ _).2 (by rw [e3]; exact List.take_prefix _ _))]
    have e4 : (P.extract pre.size P.size).data.toList = P.data.toList.drop sp := by rw [extract_list, hs]
    have e5 : nam.data.toList = P.data.toList.drop sp ++ K.data.toList := by rw [e2, List.drop_append_of_le_length (by omega)]
    rw [if_pos ((begins_iff _ _).2 (by rw [e4, e5]; exact List.prefix_append _ _))]
    have e6 : nam.extract (P.size - pre.size) nam.size = K := toList_inj' (by
      rw [extract_list, e5, hs, List.drop_append_of_le_length (by rw [List.length_drop]; omega), List.drop_eq_nil_of_le (by rw [List.length_drop]; omega), List.nil_append])
    rw [e6, hK]
  · rw [if_neg h1]
    have e3 : pre.data.toList = P.data.toList ++ K.data.toList.take (sp - P.size) := by rw [e1, List.take_append, List.take_of_length_le (by omega), hP]
    have e5 : nam.data.toList = K.data.toList.drop (sp - P.size) := by rw [e2, List.drop_append, List.drop_eq_nil_of_le (by omega), List.nil_append, hP]
    rw [if_pos ((begins_iff _ _).2 (by rw [e3]; exact List.prefix_append _ _))]
    have e4 : (pre.extract P.size pre.size).data.toList = K.data.toList.take (sp - P.size) := by
      rw [extract_list, e3, hP]; simp
    by_cases h3 : (pre.extract P.size pre.size).toList.isEmpty = true
    · rw [if_pos h3]
      rw [empty_iff, e4] at h3
      have e6 : nam = K := toList_inj' (by
        rw [e5]
        have := List.take_append_drop (sp - P.size) K.data.toList
        rw [h3, List.nil_append] at this
        exact this)
      rw [e6, hK]
    · rw [if_neg h3]
      have e6 : pre.extract P.size pre.size ++ nam = K := toList_inj' (by rw [app_list, e4, e5]; exact List.take_append_drop _ _)
      rw [e6, if_pos hK]

theorem inKeys_mem {ks : List ByteArray} {k : ByteArray} (h : k ∈ ks) : inKeys ks k = true := by
  simp [inKeys]; exact h

end Go.Proofs.Qxb6603130a

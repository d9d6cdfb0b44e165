import Derived.Test.Qxb6603221aStep
namespace Go.Proofs.Qxb6603221a
open Go.RowKit

/-- The byte at i; -1 behind the end. -/
def bAt (s : ByteArray) (i : Nat) : Int := if h : i < s.size then (s[i].toNat : Int) else -1

theorem bAt_lt {s : ByteArray} {i : Nat} (h : i < s.size) : bAt s i = (s[i].toNat : Int) := by unfold bAt; rw [dif_pos h]
theorem bAt_end {s : ByteArray} {i : Nat} (h : s.size ≤ i) : bAt s i = -1 := by unfold bAt; rw [dif_neg (by omega)]

/-- Where the automaton ends from k on in state st. -/
def fin (s : ByteArray) (k : Nat) (st : Int) : Nat × Int :=
  if acc (run st (s.data.toList.drop k)).1 then (k + (run st (s.data.toList.drop k)).2, 0)
  else if k + (run st (s.data.toList.drop k)).2 = s.size then (0, 1) else (0, 2)

theorem model_fin (s : ByteArray) (i : Nat) : model s i = fin s i 0 := rfl

theorem fin_go {s : ByteArray} {k : Nat} {st : Int} (t : Int) (h : k < s.size) (ht : step st (bAt s k) = t) (hs : t ≠ -1) : fin s k st = fin s (k + 1) t := by
  subst ht
  rw [bAt_lt h] at hs ⊢
  unfold fin
  rw [run_go h hs]
  generalize run (step st (s[k].toNat : Int)) (s.data.toList.drop (k + 1)) = r
  show (if acc r.1 then (k + (r.2 + 1), 0) else if k + (r.2 + 1) = s.size then (0, 1) else (0, 2)) = (if acc r.1 then (k + 1 + r.2, (0 : Int)) else if k + 1 + r.2 = s.size then (0, 1) else (0, 2))
  rw [show k + (r.2 + 1) = k + 1 + r.2 by omega]

theorem fin_stop {s : ByteArray} {k : Nat} {st : Int} (h : k < s.size) (hs : step st (bAt s k) = -1) : fin s k st = if acc st then (k, 0) else (0, 2) := by
  rw [bAt_lt h] at hs
  unfold fin
  rw [run_stop h hs]
  simp only [Nat.add_zero]
  rw [if_neg (show ¬ k = s.size by omega)]

theorem fin_end {s : ByteArray} {k : Nat} {st : Int} (h : k = s.size) : fin s k st = if acc st then (k, 0) else (0, 1) := by
  unfold fin
  rw [run_end (by omega)]
  simp only [Nat.add_zero]
  rw [if_pos h]

theorem skipD_y {s : ByteArray} {k : Nat} (h : dig (bAt s k) = true) : skipD s (k + 1) = skipD s k := by
  by_cases hk : k < s.size
  · rw [bAt_lt hk] at h
    exact skipD_yes hk h
  · rw [bAt_end (by omega)] at h
    simp [dig] at h

theorem skipD_n {s : ByteArray} {k : Nat} (h : dig (bAt s k) = false) : skipD s k = k := by
  by_cases hk : k < s.size
  · rw [bAt_lt hk] at h
    exact skipD_no hk h
  · exact skipD_end (by omega)

theorem lt_of_dig {s : ByteArray} {k : Nat} (h : dig (bAt s k) = true) : k < s.size := by
  by_cases hk : k < s.size
  · exact hk
  · rw [bAt_end (by omega)] at h
    simp [dig] at h

theorem fin_digs (st : Int) (hst : ∀ b, dig b = true → step st b = st) (h1 : st ≠ -1) (s : ByteArray) : ∀ (n k : Nat), s.size - k ≤ n → k ≤ s.size → fin s k st = fin s (skipD s k) st ∧ dig (bAt s (skipD s k)) = false
  | 0, k, hn, hk => by
    have : k = s.size := by omega
    have e := skipD_end (s := s) (i := k) (by omega)
    rw [e]
    exact ⟨rfl, by rw [bAt_end (by omega)]; rfl⟩
  | n + 1, k, hn, hk => by
    cases hd : dig (bAt s k)
    · rw [skipD_n hd]
      exact ⟨rfl, hd⟩
    · have hlt := lt_of_dig hd
      rw [← skipD_y hd, fin_go st hlt (hst _ hd) h1]
      exact fin_digs st hst h1 s n (k + 1) (by omega) (by omega)

theorem dig_cases {b : Int} (h : dig b = true) : 48 ≤ b ∧ b ≤ 57 := by simpa [dig] using h

theorem step3_dig (b : Int) (h : dig b = true) : step 3 b = 3 := by simp [step, h]
theorem step5_dig (b : Int) (h : dig b = true) : step 5 b = 5 := by simp [step, h]
theorem step8_dig (b : Int) (h : dig b = true) : step 8 b = 8 := by simp [step, h]

theorem fin8 {s : ByteArray} {k : Nat} (hk : k ≤ s.size) : fin s k 8 = (skipD s k, 0) := by
  obtain ⟨h1, h2⟩ := fin_digs 8 step8_dig (by omega) s _ k (Nat.le_refl _) hk
  rw [h1]
  have hle := skipD_le s k hk
  by_cases e : skipD s k = s.size
  · rw [fin_end e]; rfl
  · rw [fin_stop (by omega) (by simp [step, h2])]; rfl

theorem skipD_ge (s : ByteArray) (i : Nat) : i ≤ skipD s i := Nat.le_add_right _ _

/-- One digit at least, then state 8 (from 7), as readDigits reads. -/
theorem fin7 {s : ByteArray} {k : Nat} (hk : k ≤ s.size) : fin s k 7 = readD s k := by
  unfold readD
  cases hd : dig (bAt s k)
  · rw [skipD_n hd, if_neg (by omega)]
    by_cases e : k = s.size
    · rw [fin_end e, if_pos e]; rfl
    · rw [fin_stop (by omega) (by simp [step, hd]), if_neg e]; rfl
  · have hlt := lt_of_dig hd
    rw [fin_go 8 hlt (by simp [step, hd]) (by omega), fin8 (by omega), skipD_y hd, if_pos (by rw [← skipD_y hd]; have := skipD_ge s (k + 1); omega)]

/-- The exponent, behind its letter. -/
theorem fin6 {s : ByteArray} {k : Nat} (hk : k ≤ s.size) : fin s k 6 = readD s (if bAt s k = 43 ∨ bAt s k = 45 then k + 1 else k) := by
  by_cases hsg : bAt s k = 43 ∨ bAt s k = 45
  · have hlt : k < s.size := by
      by_cases h : k < s.size
      · exact h
      · rw [bAt_end (by omega)] at hsg; omega
    rw [if_pos hsg, fin_go 7 hlt (by simp [step, hsg]) (by omega), fin7 (by omega)]
  · rw [if_neg hsg]
    unfold readD
    cases hd : dig (bAt s k)
    · rw [skipD_n hd, if_neg (by omega)]
      by_cases e : k = s.size
      · rw [fin_end e, if_pos e]; rfl
      · rw [fin_stop (by omega) (by simp [step, hd, hsg]), if_neg e]; rfl
    · have hlt := lt_of_dig hd
      rw [fin_go 8 hlt (by simp [step, hd, hsg]) (by omega), fin8 (by omega), skipD_y hd, if_pos (by rw [← skipD_y hd]; have := skipD_ge s (k + 1); omega)]

/-- From the exponent on. -/
def tailE (s : ByteArray) (i : Nat) : Nat × Int :=
  if expo (bAt s i) then readD s (if bAt s (i + 1) = 43 ∨ bAt s (i + 1) = 45 then i + 2 else i + 1) else (i, 0)

theorem lt_of_expo {s : ByteArray} {k : Nat} (h : expo (bAt s k) = true) : k < s.size := by
  by_cases hk : k < s.size
  · exact hk
  · rw [bAt_end (by omega)] at h
    simp [expo] at h

theorem tailE_law {s : ByteArray} {k : Nat} {st : Int} (hk : k ≤ s.size) (hst : acc st = true) (h6 : ∀ b, expo b = true → step st b = 6) (hno : expo (bAt s k) = false → step st (bAt s k) = -1) : fin s k st = tailE s k := by
  unfold tailE
  cases he : expo (bAt s k)
  · rw [if_neg (by simp)]
    by_cases e : k = s.size
    · rw [fin_end e, hst]; rfl
    · rw [fin_stop (by omega) (hno he), hst]; rfl
  · have hlt := lt_of_expo he
    rw [fin_go 6 hlt (h6 _ he) (by omega), fin6 (by omega), if_pos rfl]

/-- From the fraction on. -/
def tailF (s : ByteArray) (i : Nat) : Nat × Int :=
  if bAt s i = 46 then (if (readD s (i + 1)).2 = 0 then tailE s (readD s (i + 1)).1 else (0, (readD s (i + 1)).2)) else tailE s i

/-- readNumber. -/
def numAt (s : ByteArray) (j : Nat) : Nat × Int :=
  if j = s.size then (0, 1) else if bAt s j = 48 then tailF s (j + 1) else if dig (bAt s j) then tailF s (skipD s (j + 1)) else (0, 2)

def num (s : ByteArray) (i : Nat) : Nat × Int := numAt s (if bAt s i = 45 then i + 1 else i)

theorem expo_not_dig {b : Int} (h : expo b = true) : dig b = false := by
  simp [expo] at h
  rcases h with rfl | rfl <;> rfl

theorem dot_not_dig : dig 46 = false := rfl

theorem fin5 {s : ByteArray} {k : Nat} (hk : k ≤ s.size) : fin s k 5 = tailE s (skipD s k) := by
  obtain ⟨h1, h2⟩ := fin_digs 5 step5_dig (by omega) s _ k (Nat.le_refl _) hk
  rw [h1]
  exact tailE_law (skipD_le s k hk) rfl (fun b hb => by simp [step, hb, expo_not_dig hb]) (fun he => by simp [step, he, h2])

theorem fin4 {s : ByteArray} {k : Nat} (hk : k ≤ s.size) : fin s k 4 = if (readD s k).2 = 0 then tailE s (readD s k).1 else (0, (readD s k).2) := by
  cases hd : dig (bAt s k)
  · have e : readD s k = if k = s.size then (0, 1) else (0, 2) := by unfold readD; rw [skipD_n hd, if_neg (by omega)]
    rw [e]
    by_cases q : k = s.size
    · rw [fin_end q, if_pos q]; rfl
    · rw [fin_stop (by omega) (by simp [step, hd]), if_neg q]; rfl
  · have hlt := lt_of_dig hd
    have e : readD s k = (skipD s k, 0) := by unfold readD; rw [if_pos (by rw [← skipD_y hd]; have := skipD_ge s (k + 1); omega)]
    rw [e, fin_go 5 hlt (by simp [step, hd]) (by omega), fin5 (by omega), skipD_y hd]
    rfl

theorem tailF_law {s : ByteArray} {k : Nat} {st : Int} (hk : k ≤ s.size) (hst : acc st = true) (h4 : step st 46 = 4) (h6 : ∀ b, expo b = true → step st b = 6) (hno : bAt s k ≠ 46 → expo (bAt s k) = false → step st (bAt s k) = -1) : fin s k st = tailF s k := by
  unfold tailF
  by_cases h : bAt s k = 46
  · have hlt : k < s.size := by
      by_cases q : k < s.size
      · exact q
      · rw [bAt_end (by omega)] at h; omega
    rw [if_pos h, fin_go 4 hlt (by rw [h]; exact h4) (by omega), fin4 (by omega)]
  · rw [if_neg h]
    exact tailE_law hk hst h6 (hno h)

theorem fin2 {s : ByteArray} {k : Nat} (hk : k ≤ s.size) : fin s k 2 = tailF s k :=
  tailF_law hk rfl rfl (fun b hb => by
    have : ¬ b = 46 := fun e => by subst e; cases hb
    simp [step, this, hb]) (fun h he => by simp [step, h, he])

theorem fin3 {s : ByteArray} {k : Nat} (hk : k ≤ s.size) : fin s k 3 = tailF s (skipD s k) := by
  obtain ⟨h1, h2⟩ := fin_digs 3 step3_dig (by omega) s _ k (Nat.le_refl _) hk
  rw [h1]
  exact tailF_law (skipD_le s k hk) rfl rfl (fun b hb => by
    have : ¬ b = 46 := fun e => by subst e; cases hb
    simp [step, this, hb, expo_not_dig hb]) (fun h he => by simp [step, h, he, h2])

theorem numAt_law {s : ByteArray} {k : Nat} {st : Int} (hk : k ≤ s.size) (hst : acc st = false) (h48 : step st 48 = 2) (hd3 : ∀ b, b ≠ 48 → dig b = true → step st b = 3) (hno : dig (bAt s k) = false → step st (bAt s k) = -1) : fin s k st = numAt s k := by
  unfold numAt
  by_cases e : k = s.size
  · rw [if_pos e, fin_end e, hst]; rfl
  · rw [if_neg e]
    by_cases h : bAt s k = 48
    · rw [if_pos h, fin_go 2 (by omega) (by rw [h]; exact h48) (by omega), fin2 (by omega)]
    · rw [if_neg h]
      cases hd : dig (bAt s k)
      · rw [fin_stop (by omega) (hno hd), hst]; rfl
      · rw [fin_go 3 (by omega) (hd3 _ h hd) (by omega), fin3 (by omega)]; rfl

theorem model_num (s : ByteArray) (i : Nat) (hi : i < s.size) : model s i = num s i := by
  rw [model_fin]
  unfold num
  by_cases h : bAt s i = 45
  · rw [if_pos h, fin_go 1 hi (by rw [h]; rfl) (by omega)]
    exact numAt_law (by omega) rfl rfl (fun b hb hd => by simp [step, hb, hd]) (fun hd => by
      have : ¬ bAt s (i + 1) = 48 := fun e => by rw [e] at hd; cases hd
      simp [step, this, hd])
  · rw [if_neg h]
    exact numAt_law (by omega) rfl rfl (fun b hb hd => by
      have : ¬ b = 45 := fun e => by subst e; cases hd
      simp [step, this, hb, hd]) (fun hd => by
      have : ¬ bAt s i = 48 := fun e => by rw [e] at hd; cases hd
      simp [step, this, h, hd])
end Go.Proofs.Qxb6603221a

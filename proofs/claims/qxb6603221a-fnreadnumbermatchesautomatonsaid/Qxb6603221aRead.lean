import Derived.Test.Qxb6603221aPlainN
import Derived.Deep.DeepCutAuto
import Derived.Deep.CutBlock
namespace Go.Proofs.Qxb6603221a
open Go.RowKit

theorem readD_le (s : ByteArray) (i : Nat) (hi : i ≤ s.size) : (readD s i).1 ≤ s.size := by
  unfold readD
  have := skipD_le s i hi
  split
  · exact this
  · split <;> exact Nat.zero_le _

theorem readD_zero {s : ByteArray} {i en : Nat} {ou : Int} (h : readD s i = (en, ou)) (ho : ou ≠ 0) : en = 0 := by
  unfold readD at h
  split at h
  · cases h; exact absurd rfl ho
  · split at h <;> cases h <;> rfl

set_option maxRecDepth 100000 in
set_option maxHeartbeats 4000000 in
theorem num22 (s : ByteArray) (i : Nat) (w : World) (hi : i < s.size) (hs : s.size ≤ 1048576) :
    Calls Try.prog 22 #[.string s, .int .i64 i] w fun e w' => e = .returned (pair (num s i)) ∧ w' = w := by
  go_enter Try.func22, Try.ntmps22
  go_upto_if 9 with fail
  go_cut [1] (fun v wx => ∃ j : Nat, v = .int .i64 j ∧ j ≤ s.size ∧ Hid (num s i = numAt s j) ∧ wx = w)
  case first =>
    by_cases h : (s[i].toNat : Int) = 45
    · go_wp2
      go_meet
      exact ⟨i + 1, by go_num, by omega, hid (by unfold num; rw [bAt_lt hi, if_pos h]), rfl⟩
    · go_wp2
      go_meet
      exact ⟨i, rfl, by omega, hid (by unfold num; rw [bAt_lt hi, if_neg h]), rfl⟩
  case rest =>
    obtain ⟨j, rfl, hj, hN, rfl⟩ := hcut
    go_upto_block 0 with fail
    go_cut [1, 5] (fun v o wx => ∃ k : Nat, v = .int .i64 k ∧ k ≤ s.size ∧ Hid (num s i = tailF s k) ∧ o = .int .i64 0 ∧ wx = wc)
    case first =>
      by_cases hjs : j < s.size
      · have hjb : ((j : Int) == (s.size : Int)) = false := beq_eq_false_iff_ne.2 (by omega)
        have hb := bAt_lt hjs
        by_cases h48 : (s[j].toNat : Int) = 48
        · have hst := hid (show num s i = tailF s (j + 1) by rw [hN.out]; unfold numAt; rw [if_neg (by omega), if_pos (by rw [hb]; exact h48)])
          clear hb
          go_wp2
          go_meet
          exact ⟨j + 1, by go_num, by omega, hst, rfl, rfl⟩
        · have h48b : ((s[j].toNat : Int) == 48) = false := beq_eq_false_iff_ne.2 h48
          by_cases hd : (49 : Int) ≤ (s[j].toNat : Int) ∧ (s[j].toNat : Int) ≤ 57
          · obtain ⟨hd1, hd2⟩ := hd
            have hst := hid (show num s i = tailF s (skipD s (j + 1)) by rw [hN.out]; unfold numAt; rw [if_neg (by omega), if_neg (by rw [hb]; exact h48), if_pos (by rw [hb]; simp [dig]; omega)])
            have hle := skipD_le s (j + 1) (by omega)
            clear hb
            go_wp2_with fail
            refine (skipD28 s (j + 1) _ (by omega) hs).mono ?_
            rintro e w7 ⟨rfl, rfl⟩
            go_wp2
            go_meet
            exact ⟨skipD s (j + 1), rfl, hle, hst, rfl, rfl⟩
          · have hst := hid (show num s i = (0, 2) by rw [hN.out]; unfold numAt; rw [if_neg (by omega), if_neg (by rw [hb]; exact h48), if_neg (by rw [hb]; simp [dig]; omega)])
            clear hb
            by_cases hd1 : (49 : Int) ≤ (s[j].toNat : Int)
            · have hd2 : ¬ (s[j].toNat : Int) ≤ 57 := by omega
              clear hd
              go_wp2
              exact bodyPost_ret (v := pair (0, 2)) (by simp [results, Try.results22, go_sem, pair]) rfl ⟨by rw [hst.out], rfl⟩
            · clear hd
              go_wp2
              exact bodyPost_ret (v := pair (0, 2)) (by simp [results, Try.results22, go_sem, pair]) rfl ⟨by rw [hst.out], rfl⟩
      · have hjb : ((j : Int) == (s.size : Int)) = true := by rw [beq_iff_eq]; omega
        have hst := hid (show num s i = (0, 1) by rw [hN.out]; unfold numAt; rw [if_pos (by omega)])
        go_wp2
        exact bodyPost_ret (v := pair (0, 1)) (by simp [results, Try.results22, go_sem, pair]) rfl ⟨by rw [hst.out], rfl⟩
    case rest =>
      clear hN hj
      obtain ⟨k, rfl, hk, hN, rfl, rfl⟩ := hcut
      go_upto_region 10 with fail
      go_cut [48] (fun c wx => c = .bool (decide (bAt s k = 46)) ∧ wx = wc)
      case first =>
        by_cases hks : k < s.size
        · have hb := hid (bAt_lt hks)
          by_cases h46 : (s[k].toNat : Int) = 46
          · go_wp2
            go_meet
            exact ⟨by rw [hb.out]; simp [h46], rfl⟩
          · have h46b : ((s[k].toNat : Int) == 46) = false := beq_eq_false_iff_ne.2 h46
            go_wp2
            go_meet
            exact ⟨by rw [hb.out]; simp [h46], rfl⟩
        · have hb := hid (bAt_end (s := s) (i := k) (by omega))
          go_wp2
          go_meet
          exact ⟨by rw [hb.out]; simp, rfl⟩
      case rest =>
      obtain ⟨rfl, rfl⟩ := hcut
      go_upto_if 48 with fail
      go_cut [1, 5] (fun v o wx => ∃ m : Nat, v = .int .i64 m ∧ m ≤ s.size ∧ Hid (num s i = tailE s m) ∧ o = .int .i64 0 ∧ wx = wc)
      case first =>
        by_cases h46 : bAt s k = 46
        · have hks : k < s.size := by
            by_cases q : k < s.size
            · exact q
            · rw [bAt_end (by omega)] at h46; omega
          have hst := hid (show num s i = if (readD s (k + 1)).2 = 0 then tailE s (readD s (k + 1)).1 else (0, (readD s (k + 1)).2) by rw [hN.out]; unfold tailF; rw [if_pos h46])
          have hle := readD_le s (k + 1) (by omega)
          go_wp2_with fail
          refine (readD29 s (k + 1) _ (by omega) hs).mono ?_
          rintro e w7 ⟨rfl, rfl⟩
          obtain ⟨⟨en, ou⟩, hx⟩ : ∃ x, readD s (k + 1) = x := ⟨_, rfl⟩
          rw [hx] at hst hle ⊢
          simp only at hst hle
          clear hx
          unfold pair
          by_cases ho : ou = 0
          · subst ho
            rw [if_pos rfl] at hst
            go_wp2
            go_meet
            exact ⟨en, rfl, hle, hst, rfl, rfl⟩
          · rw [if_neg ho] at hst
            have hon : (ou != 0) = true := by simpa using ho
            go_wp2
            exact bodyPost_ret (v := pair (0, ou)) (by simp [results, Try.results22, go_sem, pair]) rfl ⟨by rw [hst.out], rfl⟩
        · have hst := hid (show num s i = tailE s k by rw [hN.out]; unfold tailF; rw [if_neg h46])
          go_wp2
          go_meet
          exact ⟨k, rfl, hk, hst, rfl, rfl⟩
      case rest =>
        clear hN hk
        obtain ⟨m, rfl, hm, hN, rfl, rfl⟩ := hcut
        go_upto_region 14 with fail
        go_cut [74] (fun c wx => c = .bool (expo (bAt s m)) ∧ wx = wc)
        case first =>
          by_cases hks : m < s.size
          · have hb := hid (bAt_lt hks)
            by_cases h1 : (s[m].toNat : Int) = 101
            · go_wp2
              go_meet
              exact ⟨by rw [hb.out]; simp [expo, h1], rfl⟩
            · have h1b : ((s[m].toNat : Int) == 101) = false := beq_eq_false_iff_ne.2 h1
              by_cases h2 : (s[m].toNat : Int) = 69
              · go_wp2
                go_meet
                exact ⟨by rw [hb.out]; simp [expo, h2], rfl⟩
              · have h2b : ((s[m].toNat : Int) == 69) = false := beq_eq_false_iff_ne.2 h2
                go_wp2
                go_meet
                exact ⟨by rw [hb.out]; simp [expo, h1, h2], rfl⟩
          · have hb := hid (bAt_end (s := s) (i := m) (by omega))
            go_wp2
            go_meet
            exact ⟨by rw [hb.out]; rfl, rfl⟩
        case rest =>
        obtain ⟨rfl, rfl⟩ := hcut
        cases he : expo (bAt s m)
        · have hst := hid (show num s i = (m, 0) by rw [hN.out]; unfold tailE; rw [he]; rfl)
          go_wp2
          exact bodyPost_ret (v := pair (m, 0)) (by simp [results, Try.results22, go_sem, pair]) rfl ⟨by rw [hst.out], rfl⟩
        · have hms := lt_of_expo he
          have hst := hid (show num s i = readD s (if bAt s (m + 1) = 43 ∨ bAt s (m + 1) = 45 then m + 2 else m + 1) by rw [hN.out]; unfold tailE; rw [he]; rfl)
          go_upto_region 16 with fail
          go_cut [92] (fun c wx => c = .bool (decide (bAt s (m + 1) = 43 ∨ bAt s (m + 1) = 45)) ∧ wx = wc)
          case first =>
            by_cases hks : m + 1 < s.size
            · have hb := hid (bAt_lt hks)
              have hki : (m : Int) + 1 < (s.size : Int) := by omega
              by_cases h1 : (s[m + 1].toNat : Int) = 43
              · go_wp2
                go_meet
                exact ⟨by rw [hb.out]; simp [h1], rfl⟩
              · have h1b : ((s[m + 1].toNat : Int) == 43) = false := beq_eq_false_iff_ne.2 h1
                by_cases h2 : (s[m + 1].toNat : Int) = 45
                · go_wp2
                  go_meet
                  exact ⟨by rw [hb.out]; simp [h2], rfl⟩
                · have h2b : ((s[m + 1].toNat : Int) == 45) = false := beq_eq_false_iff_ne.2 h2
                  go_wp2
                  go_meet
                  exact ⟨by rw [hb.out]; simp [h1, h2], rfl⟩
            · have hb := hid (bAt_end (s := s) (i := m + 1) (by omega))
              have hki : ¬ (m : Int) + 1 < (s.size : Int) := by omega
              go_wp2
              go_meet
              exact ⟨by rw [hb.out]; simp, rfl⟩
          case rest =>
          obtain ⟨rfl, rfl⟩ := hcut
          by_cases hsg : bAt s (m + 1) = 43 ∨ bAt s (m + 1) = 45
          · have hks : m + 1 < s.size := by
              by_cases q : m + 1 < s.size
              · exact q
              · rw [bAt_end (by omega)] at hsg; omega
            rw [if_pos hsg] at hst
            have hsd : decide (bAt s (m + 1) = 43 ∨ bAt s (m + 1) = 45) = true := decide_eq_true hsg
            rw [hsd]
            clear hsg hsd
            go_wp2_with fail
            refine (readD29 s (m + 2) _ (by omega) hs).mono ?_
            rintro e w7 ⟨rfl, rfl⟩
            obtain ⟨⟨en, ou⟩, hx⟩ : ∃ x, readD s (m + 2) = x := ⟨_, rfl⟩
            rw [hx] at hst ⊢
            have hz := hid (readD_zero hx)
            clear hx
            unfold pair
            by_cases ho : ou = 0
            · subst ho
              go_wp2
              exact bodyPost_ret (v := pair (en, 0)) (by simp [results, Try.results22, go_sem, pair]) rfl ⟨by rw [hst.out], rfl⟩
            · have hon : (ou != 0) = true := by simpa using ho
              obtain rfl := hz.out ho
              go_wp2
              exact bodyPost_ret (v := pair (0, ou)) (by simp [results, Try.results22, go_sem, pair]) rfl ⟨by rw [hst.out], rfl⟩
          · rw [if_neg hsg] at hst
            have hsd : decide (bAt s (m + 1) = 43 ∨ bAt s (m + 1) = 45) = false := decide_eq_false hsg
            rw [hsd]
            clear hsg hsd
            go_wp2_with fail
            refine (readD29 s (m + 1) _ (by omega) hs).mono ?_
            rintro e w7 ⟨rfl, rfl⟩
            obtain ⟨⟨en, ou⟩, hx⟩ : ∃ x, readD s (m + 1) = x := ⟨_, rfl⟩
            rw [hx] at hst ⊢
            have hz := hid (readD_zero hx)
            clear hx
            unfold pair
            by_cases ho : ou = 0
            · subst ho
              go_wp2
              exact bodyPost_ret (v := pair (en, 0)) (by simp [results, Try.results22, go_sem, pair]) rfl ⟨by rw [hst.out], rfl⟩
            · have hon : (ou != 0) = true := by simpa using ho
              obtain rfl := hz.out ho
              go_wp2
              exact bodyPost_ret (v := pair (0, ou)) (by simp [results, Try.results22, go_sem, pair]) rfl ⟨by rw [hst.out], rfl⟩
end Go.Proofs.Qxb6603221a

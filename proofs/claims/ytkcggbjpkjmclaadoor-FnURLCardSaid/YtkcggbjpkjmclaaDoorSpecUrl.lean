/-
  The walk of spec.URL, for texts whose scheme is not longer than 32: it answers 'urlEnd'.
-/
import Derived.Test.YtkcggbjpkjmclaaDoorScheme
namespace Go.Proofs.YtkcggbjpkjmclaaDoor
open Go.RowKit

theorem bytes_empty (s : ByteArray) (h : s.size = 0) : s = ⟨#[]⟩ := by
  cases s with
  | mk a =>
    have : a = #[] := Array.eq_empty_of_size_eq_zero h
    rw [this]

theorem toList_ne (s : ByteArray) (h : 0 < s.size) : s.toList.isEmpty = false ∧ ¬ s.toList = [] := by
  have hne : ¬ s.toList = [] := by
    intro e
    have hl : s.toList.length = s.size := by rw [ByteArray.toList_eq]; simp
    rw [e] at hl
    simp at hl
    omega
  exact ⟨by cases e : s.toList <;> simp_all, hne⟩

set_option maxHeartbeats 400000 in
theorem specUrl_none (w : World) :
    Calls Tryd.prog 7 #[.string ⟨#[]⟩] w fun e w' => e = .returned (.int .i64 (-1)) ∧ w = w' := by
  go_enter Tryd.func7, Tryd.ntmps7
  go_wp2
  go_ret
  exact ⟨rfl, rfl⟩

set_option maxHeartbeats 400000 in
theorem specUrl_noLetter (s : ByteArray) (w : World) (h0 : 0 < s.size) (hl : letB (s[0].toNat : Int) = false) :
    Calls Tryd.prog 7 #[.string s] w fun e w' => e = .returned (.int .i64 (-1)) ∧ w = w' := by
  have hb := s[0].toNat_lt
  obtain ⟨hn1, hn2⟩ := toList_ne s h0
  go_enter Tryd.func7, Tryd.ntmps7
  go_wp2_with (first | (go_at_call 11; refine (isLetter_any _ _ (by omega) (by omega)).mono ?_; rintro e w' ⟨rfl, rfl⟩) | (go_at_call 12; refine (isDigit_any _ _ (by omega) (by omega)).mono ?_; rintro e w' ⟨rfl, rfl⟩))
  go_ret
  exact ⟨rfl, rfl⟩

set_option maxHeartbeats 4000000 in
theorem specUrl_letter (s : ByteArray) (w : World) (hs : s.size ≤ maxLen) (h0 : 0 < s.size) (hl : letB (s[0].toNat : Int) = true) (h32 : schemeEnd s.data.toList ≤ 32) :
    Calls Tryd.prog 7 #[.string s] w fun e w' => e = .returned (.int .i64 (urlEnd s.data.toList)) ∧ w = w' := by
  unfold maxLen at hs
  have hb0 := s[0].toNat_lt
  have hlen : s.data.toList.length = s.size := by simp
  have hl0 : letB (byteAt s.data.toList 0) = true := by rw [byteAt_str s 0 h0]; exact hl
  have HL0 := Lib.hid hl0
  have HLEN := Lib.hid hlen
  have hsch0 : AllFrom schB s.data.toList 0 1 := (AllFrom.start schB s.data.toList 0).snoc (by unfold schB; rw [hl0]; simp)
  clear hl0 hlen
  obtain ⟨hn1, hn2⟩ := toList_ne s h0
  go_enter Tryd.func7, Tryd.ntmps7
  go_wp2_with (first | (go_at_call 11; refine (isLetter_any _ _ (by omega) (by omega)).mono ?_; rintro e w' ⟨rfl, rfl⟩) | (go_at_call 12; refine (isDigit_any _ _ (by omega) (by omega)).mono ?_; rintro e w' ⟨rfl, rfl⟩))
  go_loop [3] (fun i => ∃ k : Nat, k ≤ s.size ∧ 1 ≤ k ∧ i = .int .i64 k ∧ AllFrom schB s.data.toList 0 k) (fun i => s.size - (intOf i).toNat)
  case atStart => exact ⟨1, by omega, Nat.le_refl _, rfl, hsch0⟩
  case round =>
    obtain ⟨k, hk, hk1, rfl, ha⟩ := hrel
    clear hsch0 hn1 hn2
    have hge : k ≤ schemeEnd s.data.toList := runEnd_ge ha (by rw [HLEN.out]; exact hk)
    by_cases hlt : k < s.size
    · have hb := s[k].toNat_lt
      have he := byteAt_str s k hlt
      by_cases h31 : k ≤ 31
      · cases hsch : schB (byteAt s.data.toList k)
        · have hno : schemeEnd s.data.toList = k := runEnd_eq _ 0 (by omega) (by simpa using hk) (by simp; omega) ha (fun _ => hsch)
          have Hno := Lib.hid hno
          have hl0 := HL0.out
          rw [he] at hsch
          simp only [schB, Bool.or_eq_false_iff] at hsch
          obtain ⟨⟨⟨⟨h1, h2⟩, h3⟩, h4⟩, h5⟩ := hsch
          clear hno he ha hge
          by_cases e1 : k = 1
          · have hu : urlEnd s.data.toList = -1 := by
              exact urlEnd_bad (by rw [HLEN.out]; omega) hl0 Hno.out (Or.inl e1)
            have Hu := Lib.hid hu
            clear hu
            have e2 : ((k : Int) == 1) = true := beq_iff_eq.2 (by omega)
            clear e1
            go_wp2_with (first | (go_at_call 11; refine (isLetter_any _ _ (by omega) (by omega)).mono ?_; rintro e w' ⟨rfl, rfl⟩) | (go_at_call 12; refine (isDigit_any _ _ (by omega) (by omega)).mono ?_; rintro e w' ⟨rfl, rfl⟩))
            go_ret
            exact ⟨ret_int (by rw [Hu.out]), rfl⟩
          have e2 : ((k : Int) == 1) = false := beq_eq_false_iff_ne.2 (by omega)
          have e3 : ((k : Int) == (s.size : Int)) = false := beq_eq_false_iff_ne.2 (by omega)
          cases h58 : ((s[k].toNat : Int) != 58)
          · have hc : (s[k].toNat : Int) = 58 := by simpa using h58
            have hu : urlEnd s.data.toList = (runEnd tailB s.data.toList.length s.data.toList (k + 1) : Nat) := by
              exact urlEnd_good (by rw [HLEN.out]; omega) hl0 Hno.out e1 (by rw [HLEN.out]; exact hlt) (by rw [byteAt_str s k hlt]; exact hc)
            have Hu := Lib.hid hu
            clear hu hc e1
            go_wp2_with (first | (go_at_call 11; refine (isLetter_any _ _ (by omega) (by omega)).mono ?_; rintro e w' ⟨rfl, rfl⟩) | (go_at_call 12; refine (isDigit_any _ _ (by omega) (by omega)).mono ?_; rintro e w' ⟨rfl, rfl⟩))
            go_loop [3] (fun i => ∃ m : Nat, m ≤ s.size ∧ k + 1 ≤ m ∧ i = .int .i64 m ∧ AllFrom tailB s.data.toList (k + 1) m) (fun i => s.size - (intOf i).toNat)
            case atStart => exact ⟨k + 1, by omega, Nat.le_refl _, by go_num, AllFrom.start _ _ _⟩
            case round =>
              obtain ⟨m, hm, hkm, rfl, hta⟩ := hrel
              clear e2 e3 h58
              by_cases hmt : m < s.size
              · have hbm := s[m].toNat_lt
                have hem := byteAt_str s m hmt
                cases htl : tailB (byteAt s.data.toList m)
                · have hend : runEnd tailB s.data.toList.length s.data.toList (k + 1) = m := runEnd_eq _ _ hkm (by simpa using hm) (by simp; omega) hta (fun _ => htl)
                  have Hend := Lib.hid hend
                  rw [hem] at htl
                  have ht3 : ¬ 32 < (s[m].toNat : Int) ∨ ((s[m].toNat : Int) != 60) = false ∨ ((s[m].toNat : Int) != 62) = false := by
                    simp only [tailB, Bool.and_eq_false_iff, decide_eq_false_iff_not] at htl
                    rcases htl with (h | h) | h
                    · exact Or.inl h
                    · exact Or.inr (Or.inl h)
                    · exact Or.inr (Or.inr h)
                  clear hend hem hta htl
                  by_cases g1 : 32 < (s[m].toNat : Int)
                  · cases g2 : ((s[m].toNat : Int) != 60)
                    · clear ht3
                      go_wp2
                      go_ret
                      exact ⟨ret_int (by rw [Hu.out, Hend.out]), rfl⟩
                    · have g3 : ((s[m].toNat : Int) != 62) = false := by
                        rcases ht3 with h | h | h
                        · exact absurd g1 h
                        · rw [h] at g2; cases g2
                        · exact h
                      clear ht3
                      go_wp2
                      go_ret
                      exact ⟨ret_int (by rw [Hu.out, Hend.out]), rfl⟩
                  · clear ht3
                    go_wp2
                    go_ret
                    exact ⟨ret_int (by rw [Hu.out, Hend.out]), rfl⟩
                · have hta' := hta.snoc htl
                  rw [hem] at htl
                  simp only [tailB, Bool.and_eq_true, decide_eq_true_eq] at htl
                  obtain ⟨⟨g1, g2⟩, g3⟩ := htl
                  clear hem hta
                  go_wp2
                  go_round
                  case rel => exact ⟨m + 1, by omega, by omega, by go_num, hta'⟩
                  case measure => simp [intOf]; omega
              · have hend : runEnd tailB s.data.toList.length s.data.toList (k + 1) = m := runEnd_eq _ _ hkm (by simpa using hm) (by simp; omega) hta (fun h => absurd (by simpa using h) hmt)
                have Hend := Lib.hid hend
                clear hend hta
                go_wp2
                go_ret
                exact ⟨ret_int (by rw [Hu.out, Hend.out]), rfl⟩
          · have hc : (s[k].toNat : Int) ≠ 58 := by simpa using h58
            have hu : urlEnd s.data.toList = -1 := by
              exact urlEnd_bad (by rw [HLEN.out]; omega) hl0 Hno.out (Or.inr (Or.inr (by rw [byteAt_str s k hlt]; exact hc)))
            have Hu := Lib.hid hu
            clear hu hc e1
            go_wp2_with (first | (go_at_call 11; refine (isLetter_any _ _ (by omega) (by omega)).mono ?_; rintro e w' ⟨rfl, rfl⟩) | (go_at_call 12; refine (isDigit_any _ _ (by omega) (by omega)).mono ?_; rintro e w' ⟨rfl, rfl⟩))
            go_ret
            exact ⟨ret_int (by rw [Hu.out]), rfl⟩
        · have ha' := ha.snoc hsch
          rw [he] at hsch
          simp only [schB] at hsch
          clear he ha
          cases h1 : letB (s[k].toNat : Int)
          · cases h2 : digB (s[k].toNat : Int)
            · cases h3 : ((s[k].toNat : Int) == 46)
              · cases h4 : ((s[k].toNat : Int) == 43)
                · cases h5 : ((s[k].toNat : Int) == 45)
                  · rw [h1, h2, h3, h4, h5] at hsch; cases hsch
                  · clear hsch
                    go_wp2_with (first | (go_at_call 11; refine (isLetter_any _ _ (by omega) (by omega)).mono ?_; rintro e w' ⟨rfl, rfl⟩) | (go_at_call 12; refine (isDigit_any _ _ (by omega) (by omega)).mono ?_; rintro e w' ⟨rfl, rfl⟩))
                    go_round
                    case rel => exact ⟨k + 1, by omega, by omega, by go_num, ha'⟩
                    case measure => simp [intOf]; omega
                · clear hsch
                  go_wp2_with (first | (go_at_call 11; refine (isLetter_any _ _ (by omega) (by omega)).mono ?_; rintro e w' ⟨rfl, rfl⟩) | (go_at_call 12; refine (isDigit_any _ _ (by omega) (by omega)).mono ?_; rintro e w' ⟨rfl, rfl⟩))
                  go_round
                  case rel => exact ⟨k + 1, by omega, by omega, by go_num, ha'⟩
                  case measure => simp [intOf]; omega
              · clear hsch
                go_wp2_with (first | (go_at_call 11; refine (isLetter_any _ _ (by omega) (by omega)).mono ?_; rintro e w' ⟨rfl, rfl⟩) | (go_at_call 12; refine (isDigit_any _ _ (by omega) (by omega)).mono ?_; rintro e w' ⟨rfl, rfl⟩))
                go_round
                case rel => exact ⟨k + 1, by omega, by omega, by go_num, ha'⟩
                case measure => simp [intOf]; omega
            · clear hsch
              go_wp2_with (first | (go_at_call 11; refine (isLetter_any _ _ (by omega) (by omega)).mono ?_; rintro e w' ⟨rfl, rfl⟩) | (go_at_call 12; refine (isDigit_any _ _ (by omega) (by omega)).mono ?_; rintro e w' ⟨rfl, rfl⟩))
              go_round
              case rel => exact ⟨k + 1, by omega, by omega, by go_num, ha'⟩
              case measure => simp [intOf]; omega
          · clear hsch
            go_wp2_with (first | (go_at_call 11; refine (isLetter_any _ _ (by omega) (by omega)).mono ?_; rintro e w' ⟨rfl, rfl⟩) | (go_at_call 12; refine (isDigit_any _ _ (by omega) (by omega)).mono ?_; rintro e w' ⟨rfl, rfl⟩))
            go_round
            case rel => exact ⟨k + 1, by omega, by omega, by go_num, ha'⟩
            case measure => simp [intOf]; omega
      · have hno : schemeEnd s.data.toList = k := by omega
        have Hno := Lib.hid hno
        have hl0 := HL0.out
        have h31' : ¬ (k : Int) ≤ 31 := by omega
        clear hno he ha hge
        by_cases e1 : k = 1
        · have hu : urlEnd s.data.toList = -1 := by
            exact urlEnd_bad (by rw [HLEN.out]; omega) hl0 Hno.out (Or.inl e1)
          have Hu := Lib.hid hu
          clear hu
          have e2 : ((k : Int) == 1) = true := beq_iff_eq.2 (by omega)
          clear e1
          go_wp2_with (first | (go_at_call 11; refine (isLetter_any _ _ (by omega) (by omega)).mono ?_; rintro e w' ⟨rfl, rfl⟩) | (go_at_call 12; refine (isDigit_any _ _ (by omega) (by omega)).mono ?_; rintro e w' ⟨rfl, rfl⟩))
          go_ret
          exact ⟨ret_int (by rw [Hu.out]), rfl⟩
        have e2 : ((k : Int) == 1) = false := beq_eq_false_iff_ne.2 (by omega)
        have e3 : ((k : Int) == (s.size : Int)) = false := beq_eq_false_iff_ne.2 (by omega)
        cases h58 : ((s[k].toNat : Int) != 58)
        · have hc : (s[k].toNat : Int) = 58 := by simpa using h58
          have hu : urlEnd s.data.toList = (runEnd tailB s.data.toList.length s.data.toList (k + 1) : Nat) := by
            exact urlEnd_good (by rw [HLEN.out]; omega) hl0 Hno.out e1 (by rw [HLEN.out]; exact hlt) (by rw [byteAt_str s k hlt]; exact hc)
          have Hu := Lib.hid hu
          clear hu hc e1
          go_wp2_with (first | (go_at_call 11; refine (isLetter_any _ _ (by omega) (by omega)).mono ?_; rintro e w' ⟨rfl, rfl⟩) | (go_at_call 12; refine (isDigit_any _ _ (by omega) (by omega)).mono ?_; rintro e w' ⟨rfl, rfl⟩))
          go_loop [3] (fun i => ∃ m : Nat, m ≤ s.size ∧ k + 1 ≤ m ∧ i = .int .i64 m ∧ AllFrom tailB s.data.toList (k + 1) m) (fun i => s.size - (intOf i).toNat)
          case atStart => exact ⟨k + 1, by omega, Nat.le_refl _, by go_num, AllFrom.start _ _ _⟩
          case round =>
            obtain ⟨m, hm, hkm, rfl, hta⟩ := hrel
            clear e2 e3 h58
            by_cases hmt : m < s.size
            · have hbm := s[m].toNat_lt
              have hem := byteAt_str s m hmt
              cases htl : tailB (byteAt s.data.toList m)
              · have hend : runEnd tailB s.data.toList.length s.data.toList (k + 1) = m := runEnd_eq _ _ hkm (by simpa using hm) (by simp; omega) hta (fun _ => htl)
                have Hend := Lib.hid hend
                rw [hem] at htl
                have ht3 : ¬ 32 < (s[m].toNat : Int) ∨ ((s[m].toNat : Int) != 60) = false ∨ ((s[m].toNat : Int) != 62) = false := by
                  simp only [tailB, Bool.and_eq_false_iff, decide_eq_false_iff_not] at htl
                  rcases htl with (h | h) | h
                  · exact Or.inl h
                  · exact Or.inr (Or.inl h)
                  · exact Or.inr (Or.inr h)
                clear hend hem hta htl
                by_cases g1 : 32 < (s[m].toNat : Int)
                · cases g2 : ((s[m].toNat : Int) != 60)
                  · clear ht3
                    go_wp2
                    go_ret
                    exact ⟨ret_int (by rw [Hu.out, Hend.out]), rfl⟩
                  · have g3 : ((s[m].toNat : Int) != 62) = false := by
                      rcases ht3 with h | h | h
                      · exact absurd g1 h
                      · rw [h] at g2; cases g2
                      · exact h
                    clear ht3
                    go_wp2
                    go_ret
                    exact ⟨ret_int (by rw [Hu.out, Hend.out]), rfl⟩
                · clear ht3
                  go_wp2
                  go_ret
                  exact ⟨ret_int (by rw [Hu.out, Hend.out]), rfl⟩
              · have hta' := hta.snoc htl
                rw [hem] at htl
                simp only [tailB, Bool.and_eq_true, decide_eq_true_eq] at htl
                obtain ⟨⟨g1, g2⟩, g3⟩ := htl
                clear hem hta
                go_wp2
                go_round
                case rel => exact ⟨m + 1, by omega, by omega, by go_num, hta'⟩
                case measure => simp [intOf]; omega
            · have hend : runEnd tailB s.data.toList.length s.data.toList (k + 1) = m := runEnd_eq _ _ hkm (by simpa using hm) (by simp; omega) hta (fun h => absurd (by simpa using h) hmt)
              have Hend := Lib.hid hend
              clear hend hta
              go_wp2
              go_ret
              exact ⟨ret_int (by rw [Hu.out, Hend.out]), rfl⟩
        · have hc : (s[k].toNat : Int) ≠ 58 := by simpa using h58
          have hu : urlEnd s.data.toList = -1 := by
            exact urlEnd_bad (by rw [HLEN.out]; omega) hl0 Hno.out (Or.inr (Or.inr (by rw [byteAt_str s k hlt]; exact hc)))
          have Hu := Lib.hid hu
          clear hu hc e1
          go_wp2_with (first | (go_at_call 11; refine (isLetter_any _ _ (by omega) (by omega)).mono ?_; rintro e w' ⟨rfl, rfl⟩) | (go_at_call 12; refine (isDigit_any _ _ (by omega) (by omega)).mono ?_; rintro e w' ⟨rfl, rfl⟩))
          go_ret
          exact ⟨ret_int (by rw [Hu.out]), rfl⟩
    · have hno : schemeEnd s.data.toList = k := runEnd_eq _ 0 (by omega) (by simpa using hk) (by simp; omega) ha (fun h => absurd (by simpa using h) hlt)
      have hu : urlEnd s.data.toList = -1 := by
        exact urlEnd_bad (by rw [HLEN.out]; omega) HL0.out hno (Or.inr (Or.inl (by rw [HLEN.out]; omega)))
      have Hu := Lib.hid hu
      have e3 : ((k : Int) == (s.size : Int)) = true := beq_iff_eq.2 (by omega)
      clear hno ha hu hge
      by_cases e1 : k = 1
      · have e2 : ((k : Int) == 1) = true := beq_iff_eq.2 (by omega)
        clear e1
        go_wp2
        go_ret
        exact ⟨ret_int (by rw [Hu.out]), rfl⟩
      · have e2 : ((k : Int) == 1) = false := beq_eq_false_iff_ne.2 (by omega)
        clear e1
        go_wp2
        go_ret
        exact ⟨ret_int (by rw [Hu.out]), rfl⟩

theorem specUrl_any (s : ByteArray) (w : World) (hs : s.size ≤ maxLen) (h32 : schemeEnd s.data.toList ≤ 32) :
    Calls Tryd.prog 7 #[.string s] w fun e w' => e = .returned (.int .i64 (urlEnd s.data.toList)) ∧ w = w' := by
  by_cases h0 : 0 < s.size
  · cases hl : letB (s[0].toNat : Int)
    · have hu : urlEnd s.data.toList = -1 := urlEnd_none (Or.inr (by rw [byteAt_str s 0 h0]; exact hl))
      rw [hu]
      exact specUrl_noLetter s w h0 hl
    · exact specUrl_letter s w hs h0 hl h32
  · obtain rfl := bytes_empty s (by omega)
    have hu : urlEnd (⟨#[]⟩ : ByteArray).data.toList = -1 := urlEnd_none (Or.inl rfl)
    rw [hu]
    exact specUrl_none w

end Go.Proofs.YtkcggbjpkjmclaaDoor

/-
  The walk of spec.Scheme: how many signs of a scheme a text begins with.
-/
import Derived.Test.YtkcggbjpkjmclaaDoorSmall
import Derived.Outline
namespace Go.Proofs.YtkcggbjpkjmclaaDoor
open Go.RowKit

theorem ret_int {k : IntKind} {a b : Int} (h : a = b) : Ending.returned (.int k a) = .returned (.int k b) := by rw [h]

theorem byteAt_str (s : ByteArray) (k : Nat) (h : k < s.size) : byteAt s.data.toList k = (s[k].toNat : Int) := by
  unfold byteAt
  have hl : k < s.data.toList.length := by simpa using h
  rw [List.getD_eq_getElem?_getD, List.getElem?_eq_getElem hl]
  rfl

set_option maxHeartbeats 400000 in
theorem scheme_any (s : ByteArray) (w : World) (hs : s.size ≤ maxLen) :
    Calls Tryd.prog 5 #[.string s] w fun e w' => e = .returned (.int .i64 (schemeEnd s.data.toList : Nat)) ∧ w = w' := by
  unfold maxLen at hs
  go_enter Tryd.func5, Tryd.ntmps5
  go_wp2
  go_loop [3] (fun i => ∃ k : Nat, k ≤ s.size ∧ i = .int .i64 k ∧ AllFrom schB s.data.toList 0 k) (fun i => s.size - (intOf i).toNat)
  case atStart => exact ⟨0, Nat.zero_le _, rfl, AllFrom.start _ _ _⟩
  case round =>
    obtain ⟨k, hk, rfl, ha⟩ := hrel
    by_cases hlt : k < s.size
    · have hb := s[k].toNat_lt
      have he := byteAt_str s k hlt
      cases hsch : schB (byteAt s.data.toList k)
      · have hno : schemeEnd s.data.toList = k := runEnd_eq _ 0 (by omega) (by simpa using hk) (by simp; omega) ha (fun _ => hsch)
        have Hno := Lib.hid hno
        rw [he] at hsch
        simp only [schB, Bool.or_eq_false_iff] at hsch
        obtain ⟨⟨⟨⟨h1, h2⟩, h3⟩, h4⟩, h5⟩ := hsch
        clear hno he ha
        go_wp2_with (first | (go_at_call 11; refine (isLetter_any _ _ (by omega) (by omega)).mono ?_; rintro e w' ⟨rfl, rfl⟩) | (go_at_call 12; refine (isDigit_any _ _ (by omega) (by omega)).mono ?_; rintro e w' ⟨rfl, rfl⟩))
        go_ret
        exact ⟨ret_int (by rw [Hno.out]), rfl⟩
      · have ha' := ha.snoc hsch
        rw [he] at hsch
        simp only [schB] at hsch
        clear he ha
        cases h1 : letB (s[k].toNat : Int)
        · cases h2 : digB (s[k].toNat : Int)
          · cases h3 : ((s[k].toNat : Int) == 46)
            · cases h4 : ((s[k].toNat : Int) == 43)
              · cases h5 : ((s[k].toNat : Int) == 45)
                · rw [h1, h2, h3, h4, h5] at hsch; cases hsch
                · clear hsch
                  go_wp2_with (first | (go_at_call 11; refine (isLetter_any _ _ (by omega) (by omega)).mono ?_; rintro e w' ⟨rfl, rfl⟩) | (go_at_call 12; refine (isDigit_any _ _ (by omega) (by omega)).mono ?_; rintro e w' ⟨rfl, rfl⟩))
                  go_round
                  case rel => exact ⟨k + 1, by omega, by go_num, ha'⟩
                  case measure => simp [intOf]; omega
              · clear hsch
                go_wp2_with (first | (go_at_call 11; refine (isLetter_any _ _ (by omega) (by omega)).mono ?_; rintro e w' ⟨rfl, rfl⟩) | (go_at_call 12; refine (isDigit_any _ _ (by omega) (by omega)).mono ?_; rintro e w' ⟨rfl, rfl⟩))
                go_round
                case rel => exact ⟨k + 1, by omega, by go_num, ha'⟩
                case measure => simp [intOf]; omega
            · clear hsch
              go_wp2_with (first | (go_at_call 11; refine (isLetter_any _ _ (by omega) (by omega)).mono ?_; rintro e w' ⟨rfl, rfl⟩) | (go_at_call 12; refine (isDigit_any _ _ (by omega) (by omega)).mono ?_; rintro e w' ⟨rfl, rfl⟩))
              go_round
              case rel => exact ⟨k + 1, by omega, by go_num, ha'⟩
              case measure => simp [intOf]; omega
          · clear hsch
            go_wp2_with (first | (go_at_call 11; refine (isLetter_any _ _ (by omega) (by omega)).mono ?_; rintro e w' ⟨rfl, rfl⟩) | (go_at_call 12; refine (isDigit_any _ _ (by omega) (by omega)).mono ?_; rintro e w' ⟨rfl, rfl⟩))
            go_round
            case rel => exact ⟨k + 1, by omega, by go_num, ha'⟩
            case measure => simp [intOf]; omega
        · clear hsch
          go_wp2_with (first | (go_at_call 11; refine (isLetter_any _ _ (by omega) (by omega)).mono ?_; rintro e w' ⟨rfl, rfl⟩) | (go_at_call 12; refine (isDigit_any _ _ (by omega) (by omega)).mono ?_; rintro e w' ⟨rfl, rfl⟩))
          go_round
          case rel => exact ⟨k + 1, by omega, by go_num, ha'⟩
          case measure => simp [intOf]; omega
    · have hno : schemeEnd s.data.toList = k := runEnd_eq _ 0 (by omega) (by simpa using hk) (by simp; omega) ha (fun h => absurd (by simpa using h) hlt)
      have Hno := Lib.hid hno
      clear hno ha
      go_wp2
      go_ret
      exact ⟨ret_int (by rw [Hno.out]), rfl⟩

end Go.Proofs.YtkcggbjpkjmclaaDoor

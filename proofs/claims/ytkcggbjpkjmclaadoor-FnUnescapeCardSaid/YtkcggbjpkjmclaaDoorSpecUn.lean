/-
  The walks of spec.Escaped and spec.Unescaped.
-/
import Derived.Test.YtkcggbjpkjmclaaDoorScheme
import Derived.Test.YtkcggbjpkjmclaaDoorCob
import Derived.Test.YtkcggbjpkjmclaaDoorUnPlain
import Derived.Lib.SmallJoins
namespace Go.Proofs.YtkcggbjpkjmclaaDoor
open Go.RowKit

/-- the texts as the walk's strings -/
def escS (s : ByteArray) : ByteArray := ⟨(esc s.data.toList).toArray⟩
def unS (s : ByteArray) : ByteArray := ⟨(un s.data.toList).toArray⟩

theorem str_eq {a b : ByteArray} (h : a.data.toList = b.data.toList) : a = b := WideShapes.bytes_inj h
theorem ret_string {a b : ByteArray} (h : a.data.toList = b.data.toList) : Ending.returned (.string a) = .returned (.string b) := by rw [str_eq h]

theorem cut_one (s : ByteArray) (k : Nat) (h : k < s.size) : (s.extract k (k + 1)).data.toList = [s.data.toList.getD k 0] := by
  have hl : k < s.data.toList.length := by simpa using h
  rw [Lib.extract_data, List.drop_eq_getElem_cons hl, show k + 1 - k = 1 from by omega, List.getD_eq_getElem?_getD, List.getElem?_eq_getElem hl]
  rfl

theorem add_one (t s : ByteArray) (k : Nat) (h : k < s.size) : (t ++ s.extract k (k + 1)).data.toList = t.data.toList ++ [s.data.toList.getD k 0] := by
  rw [Joins.data_append, cut_one s k h]

set_option maxHeartbeats 400000 in
theorem escaped_any (s : ByteArray) (w : World) (hs : s.size ≤ 2147483647) :
    Calls Tryd.prog 10 #[.string s] w fun e w' => e = .returned (.string (escS s)) ∧ w = w' := by
  have HS : Kept (s.data.toList.length = s.size) := ⟨by simp⟩
  go_enter Tryd.func10, Tryd.ntmps10
  go_wp2
  go_loop [3, 7] (fun o i => ∃ (k : Nat) (t : ByteArray), k ≤ s.size ∧ i = .int .i64 k ∧ o = .string t ∧ t.size ≤ 2 * k ∧ Kept (t.data.toList = esc (s.data.toList.take k))) (fun _ i => s.size - (intOf i).toNat)
  case atStart => exact ⟨0, ⟨#[]⟩, Nat.zero_le _, rfl, rfl, Nat.le_refl _, ⟨rfl⟩⟩
  case round =>
    obtain ⟨k, t, hk, rfl, rfl, ht, HT⟩ := hrel
    by_cases hlt : k < s.size
    · have hb := s[k].toNat_lt
      have HE : Kept (byteAt s.data.toList k = (s[k].toNat : Int)) := ⟨byteAt_str s k hlt⟩
      cases hm : markB (s[k].toNat : Int)
      · go_wp2_with (go_at_call 15; refine (isMark_any _ _ (by omega) (by omega)).mono ?_; rintro e w' ⟨rfl, rfl⟩)
        go_round
        case rel =>
          refine ⟨k + 1, _, by omega, by go_num, rfl, by simp; omega, ⟨?_⟩⟩
          rw [add_one t s k hlt, HT.out, esc_take (by rw [HS.out]; exact hlt), esc, if_neg (by show ¬ markB (byteAt _ _) = true; rw [HE.out, hm]; simp)]
          rfl
        case measure => simp [intOf]; omega
      · go_wp2_with (go_at_call 15; refine (isMark_any _ _ (by omega) (by omega)).mono ?_; rintro e w' ⟨rfl, rfl⟩)
        go_round
        case rel =>
          refine ⟨k + 1, _, by omega, by go_num, rfl, by have : (⟨#[92]⟩ : ByteArray).size = 1 := rfl; simp; omega, ⟨?_⟩⟩
          rw [add_one _ s k hlt, Joins.data_append, HT.out, esc_take (by rw [HS.out]; exact hlt), esc, if_pos (by show markB (byteAt _ _) = true; rw [HE.out, hm])]
          simp [esc]
        case measure => simp [intOf]; omega
    · go_wp2
      go_ret
      refine ⟨ret_string ?_, rfl⟩
      rw [HT.out, List.take_of_length_le (by rw [HS.out]; omega)]
      rfl

set_option maxHeartbeats 400000 in
theorem unescaped_any (s : ByteArray) (w : World) (hs : s.size ≤ 4294967296) :
    Calls Tryd.prog 9 #[.string s] w fun e w' => e = .returned (.string (unS s)) ∧ w = w' := by
  have HS : Kept (s.data.toList.length = s.size) := ⟨by simp⟩
  go_enter Tryd.func9, Tryd.ntmps9
  go_wp2
  go_loop [3, 4] (fun o i => ∃ (k : Nat) (t : ByteArray), k ≤ s.size ∧ i = .int .i64 k ∧ o = .string t ∧ t.size ≤ k ∧ Kept (t.data.toList ++ un (s.data.toList.drop k) = un s.data.toList)) (fun _ i => s.size - (intOf i).toNat)
  case atStart => exact ⟨0, ⟨#[]⟩, Nat.zero_le _, rfl, rfl, Nat.le_refl _, ⟨rfl⟩⟩
  case round =>
    obtain ⟨k, t, hk, rfl, rfl, ht, HT⟩ := hrel
    by_cases hlt : k < s.size
    · have HE : Kept (byteAt s.data.toList k = (s[k].toNat : Int)) := ⟨byteAt_str s k hlt⟩
      have hb := s[k].toNat_lt
      cases h92 : ((s[k].toNat : Int) == 92)
      · have HM : Kept (un (s.data.toList.drop k) = s.data.toList.getD k 0 :: un (s.data.toList.drop (k + 1))) := ⟨un_miss (by rw [HS.out]; exact hlt) (fun e => by have := e.2.1; rw [HE.out] at this; simp [this] at h92)⟩
        go_wp2
        go_round
        case rel =>
          refine ⟨k + 1, _, by omega, by go_num, rfl, by simp; omega, ⟨?_⟩⟩
          rw [add_one t s k hlt, ← HT.out, HM.out]
          simp
        case measure => simp [intOf]; omega
      · by_cases h1 : k + 1 < s.size
        · have HE1 : Kept (byteAt s.data.toList (k + 1) = (s[k + 1].toNat : Int)) := ⟨byteAt_str s (k + 1) h1⟩
          have hb1 := s[k + 1].toNat_lt
          cases hm : markB (s[k + 1].toNat : Int)
          · have HM : Kept (un (s.data.toList.drop k) = s.data.toList.getD k 0 :: un (s.data.toList.drop (k + 1))) := ⟨un_miss (by rw [HS.out]; exact hlt) (fun e => by have := e.2.2; rw [HE1.out, hm] at this; cases this)⟩
            go_wp2_with (go_at_call 15; refine (isMark_any _ _ (by omega) (by omega)).mono ?_; rintro e w' ⟨rfl, rfl⟩)
            go_round
            case rel =>
              refine ⟨k + 1, _, by omega, by go_num, rfl, by simp; omega, ⟨?_⟩⟩
              rw [add_one t s k hlt, ← HT.out, HM.out]
              simp
            case measure => simp [intOf]; omega
          · have HM : Kept (un (s.data.toList.drop k) = s.data.toList.getD (k + 1) 0 :: un (s.data.toList.drop (k + 2))) := ⟨un_hit (by rw [HS.out]; exact h1) (by rw [HE.out]; simpa using h92) (by rw [HE1.out, hm])⟩
            go_wp2_with (go_at_call 15; refine (isMark_any _ _ (by omega) (by omega)).mono ?_; rintro e w' ⟨rfl, rfl⟩)
            go_round
            case rel =>
              refine ⟨k + 2, _, by omega, by go_num, rfl, by simp; omega, ⟨?_⟩⟩
              rw [add_one t s (k + 1) h1, ← HT.out, HM.out]
              simp
            case measure => simp [intOf]; omega
        · have HM : Kept (un (s.data.toList.drop k) = s.data.toList.getD k 0 :: un (s.data.toList.drop (k + 1))) := ⟨un_miss (by rw [HS.out]; exact hlt) (fun e => by have := e.1; rw [HS.out] at this; exact h1 this)⟩
          go_wp2
          go_round
          case rel =>
            refine ⟨k + 1, _, by omega, by go_num, rfl, by simp; omega, ⟨?_⟩⟩
            rw [add_one t s k hlt, ← HT.out, HM.out]
            simp
          case measure => simp [intOf]; omega
    · go_wp2
      go_ret
      refine ⟨ret_string ?_, rfl⟩
      have h := HT.out
      rw [List.drop_of_length_le (by rw [HS.out]; omega)] at h
      show t.data.toList = un s.data.toList
      rw [← h]
      simp [un]

end Go.Proofs.YtkcggbjpkjmclaaDoor

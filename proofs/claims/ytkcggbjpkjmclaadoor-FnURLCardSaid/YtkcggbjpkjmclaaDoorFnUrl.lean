/-
  The walk of laws.FnURL: it returns true, and nothing that was there turns.
-/
import Derived.Test.YtkcggbjpkjmclaaDoorImplUrl
import Derived.Lib.SmallJoins
namespace Go.Proofs.YtkcggbjpkjmclaaDoor
open Go.RowKit

/-- a fact that no tactic of the walk looks into -/
structure Kept (p : Prop) : Prop where
  out : p

theorem const_url : urlEnd (⟨#[97, 98, 58, 99, 32, 100]⟩ : ByteArray).data.toList = 4 := by decide +kernel
theorem const_scheme : schemeEnd (⟨#[97, 98, 58, 99, 32, 100]⟩ : ByteArray).data.toList ≤ 32 := by decide +kernel
theorem empty_scheme : schemeEnd (⟨#[]⟩ : ByteArray).data.toList ≤ 32 := by decide +kernel

theorem runEnd_le (p : Int → Bool) (l : List UInt8) : ∀ (f i : Nat), i ≤ l.length → runEnd p f l i ≤ l.length
  | 0, i, h => by unfold runEnd; exact h
  | f + 1, i, h => by
    unfold runEnd
    split
    · split
      · exact runEnd_le p l f (i + 1) (by omega)
      · exact h
    · exact h

theorem schemeEnd_le (l : List UInt8) : schemeEnd l ≤ l.length := runEnd_le schB l l.length 0 (Nat.zero_le _)

theorem small_maxLen {n : Nat} (h : n ≤ 2147483647) : n ≤ maxLen := by unfold maxLen; omega

set_option maxHeartbeats 400000 in
theorem fnUrl_long (s : ByteArray) (w : World) (hm : s.size ≤ maxLen) (hs : 2147483647 < s.size) :
    Calls Tryd.prog 3 #[.string s] w fun e w' => e = .returned (.bool true) ∧ Below w.heap.size w w' := by
  unfold maxLen at hm
  go_enter Tryd.func3, Tryd.ntmps3
  go_wp2
  go_ret
  exact ⟨rfl, Below.refl _ _⟩

set_option maxHeartbeats 400000 in
theorem fnUrl_same (s : ByteArray) (n : Nat) (w : World) (hs : s.size ≤ 2147483647) (hT : UrlTabAt w) (H1 : Kept (schemeEnd s.data.toList = n)) (h32 : n ≤ 32) :
    Calls Tryd.prog 3 #[.string s] w fun e w' => e = .returned (.bool true) ∧ Below w.heap.size w w' := by
  have HM : Kept (s.size ≤ maxLen) := ⟨small_maxLen hs⟩
  go_enter Tryd.func3, Tryd.ntmps3
  go_wp2_with fail
  refine (scheme_any _ _ HM.out).mono ?_
  rintro e w' ⟨rfl, rfl⟩
  rw [H1.out]
  go_wp2_with fail
  refine (scheme_any _ _ HM.out).mono ?_
  rintro e w' ⟨rfl, rfl⟩
  rw [H1.out]
  go_wp2_with fail
  refine (implUrl_any _ _ HM.out hT (by rw [H1.out]; exact h32)).mono ?_
  rintro e w' ⟨rfl, rfl⟩
  go_wp2_with fail
  refine (specUrl_any _ _ HM.out (by rw [H1.out]; exact h32)).mono ?_
  rintro e w' ⟨rfl, rfl⟩
  have hT1 := hT.bytes (s)
  go_wp2_with fail
  refine (implUrl_any _ _ (by decide) hT1 const_scheme).mono ?_
  rintro e w' ⟨rfl, rfl⟩
  rw [const_url]
  go_wp2
  go_ret
  exact ⟨rfl, (Joins.below_bytesWorld _ _ _ _ (Nat.le_refl _)).trans (Joins.below_bytesWorld _ _ _ _ (by rw [Lib.bytesWorld_size]; omega))⟩

set_option maxHeartbeats 400000 in
theorem fnUrl_cut (s : ByteArray) (n m : Nat) (w : World) (hs : s.size ≤ 2147483647) (h20 : 20 ≤ s.size) (hT : UrlTabAt w) (H1 : Kept (schemeEnd s.data.toList = n)) (h32 : 32 < n) (H2 : Kept (schemeEnd (s.extract 20 s.size).data.toList = m)) (h33 : m ≤ 32) (HM' : Kept ((s.extract 20 s.size).size ≤ maxLen)) :
    Calls Tryd.prog 3 #[.string s] w fun e w' => e = .returned (.bool true) ∧ Below w.heap.size w w' := by
  have HM : Kept (s.size ≤ maxLen) := ⟨small_maxLen hs⟩
  go_enter Tryd.func3, Tryd.ntmps3
  go_wp2_with fail
  refine (scheme_any _ _ HM.out).mono ?_
  rintro e w' ⟨rfl, rfl⟩
  rw [H1.out]
  go_wp2_with fail
  refine (scheme_any _ _ HM'.out).mono ?_
  rintro e w' ⟨rfl, rfl⟩
  rw [H2.out]
  go_wp2_with fail
  refine (implUrl_any _ _ HM'.out hT (by rw [H2.out]; exact h33)).mono ?_
  rintro e w' ⟨rfl, rfl⟩
  go_wp2_with fail
  refine (specUrl_any _ _ HM'.out (by rw [H2.out]; exact h33)).mono ?_
  rintro e w' ⟨rfl, rfl⟩
  have hT1 := hT.bytes (s.extract 20 s.size)
  go_wp2_with fail
  refine (implUrl_any _ _ (by decide) hT1 const_scheme).mono ?_
  rintro e w' ⟨rfl, rfl⟩
  rw [const_url]
  go_wp2
  go_ret
  exact ⟨rfl, (Joins.below_bytesWorld _ _ _ _ (Nat.le_refl _)).trans (Joins.below_bytesWorld _ _ _ _ (by rw [Lib.bytesWorld_size]; omega))⟩

set_option maxHeartbeats 400000 in
theorem fnUrl_drop (s : ByteArray) (n m : Nat) (w : World) (hs : s.size ≤ 2147483647) (h20 : 20 ≤ s.size) (hT : UrlTabAt w) (H1 : Kept (schemeEnd s.data.toList = n)) (h32 : 32 < n) (H2 : Kept (schemeEnd (s.extract 20 s.size).data.toList = m)) (h33 : 32 < m) (HM' : Kept ((s.extract 20 s.size).size ≤ maxLen)) :
    Calls Tryd.prog 3 #[.string s] w fun e w' => e = .returned (.bool true) ∧ Below w.heap.size w w' := by
  have HM : Kept (s.size ≤ maxLen) := ⟨small_maxLen hs⟩
  go_enter Tryd.func3, Tryd.ntmps3
  go_wp2_with fail
  refine (scheme_any _ _ HM.out).mono ?_
  rintro e w' ⟨rfl, rfl⟩
  rw [H1.out]
  go_wp2_with fail
  refine (scheme_any _ _ HM'.out).mono ?_
  rintro e w' ⟨rfl, rfl⟩
  rw [H2.out]
  go_wp2_with fail
  refine (implUrl_any _ _ (by decide) hT empty_scheme).mono ?_
  rintro e w' ⟨rfl, rfl⟩
  go_wp2_with fail
  refine (specUrl_any _ _ (by decide) empty_scheme).mono ?_
  rintro e w' ⟨rfl, rfl⟩
  have hT1 := hT.bytes (⟨#[]⟩)
  go_wp2_with fail
  refine (implUrl_any _ _ (by decide) hT1 const_scheme).mono ?_
  rintro e w' ⟨rfl, rfl⟩
  rw [const_url]
  go_wp2
  go_ret
  exact ⟨rfl, (Joins.below_bytesWorld _ _ _ _ (Nat.le_refl _)).trans (Joins.below_bytesWorld _ _ _ _ (by rw [Lib.bytesWorld_size]; omega))⟩

/-- FOR EVERY TEXT laws.FnURL returns true. -/
theorem fnUrl_any (s : ByteArray) (w : World) (hm : s.size ≤ maxLen) (hT : UrlTabAt w) :
    Calls Tryd.prog 3 #[.string s] w fun e w' => e = .returned (.bool true) ∧ Below w.heap.size w w' := by
  by_cases h1 : s.size ≤ 2147483647
  · by_cases h2 : schemeEnd s.data.toList ≤ 32
    · exact fnUrl_same s _ w h1 hT ⟨rfl⟩ h2
    · have h20 : 20 ≤ s.size := by
        have := schemeEnd_le s.data.toList
        have e : s.data.toList.length = s.size := by simp
        omega
      have hm' : (s.extract 20 s.size).size ≤ maxLen := small_maxLen (by simp; omega)
      by_cases h3 : schemeEnd (s.extract 20 s.size).data.toList ≤ 32
      · exact fnUrl_cut s _ _ w h1 h20 hT ⟨rfl⟩ (by omega) ⟨rfl⟩ h3 ⟨hm'⟩
      · exact fnUrl_drop s _ _ w h1 h20 hT ⟨rfl⟩ (by omega) ⟨rfl⟩ (by omega) ⟨hm'⟩
  · exact fnUrl_long s w hm (by omega)

end Go.Proofs.YtkcggbjpkjmclaaDoor

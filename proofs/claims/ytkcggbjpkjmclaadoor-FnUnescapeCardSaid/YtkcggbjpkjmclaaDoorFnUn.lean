/-
  The walk of laws.FnUnescape: it returns true, and nothing that was there turns.
-/
import Derived.Test.YtkcggbjpkjmclaaDoorImplUn
namespace Go.Proofs.YtkcggbjpkjmclaaDoor
open Go.RowKit

theorem unS_escS (s : ByteArray) : unS (escS s) = s := by
  apply str_eq
  show un (esc s.data.toList) = s.data.toList
  exact un_esc _

theorem escS_size (s : ByteArray) : (escS s).size ≤ 2 * s.size := by
  have h := esc_length s.data.toList
  have e : s.data.toList.length = s.size := by simp
  show (esc s.data.toList).toArray.size ≤ _
  rw [List.size_toArray]
  omega

theorem unS_a : unS ⟨#[97]⟩ = ⟨#[97]⟩ := str_eq rfl

set_option maxHeartbeats 400000 in
theorem fnUn_long (s : ByteArray) (w : World) (hm : s.size ≤ maxLen) (hs : 2147483647 < s.size) :
    Calls Tryd.prog 4 #[.string s] w fun e w' => e = .returned (.bool true) ∧ Below w.heap.size w w' := by
  unfold maxLen at hm
  go_enter Tryd.func4, Tryd.ntmps4
  go_wp2
  go_ret
  exact ⟨rfl, Below.refl _ _⟩

set_option maxHeartbeats 400000 in
theorem fnUn_short (s : ByteArray) (w : World) (hs : s.size ≤ 2147483647) (HP : Kept (PunctTabAt w)) :
    Calls Tryd.prog 4 #[.string s] w fun e w' => e = .returned (.bool true) ∧ Below w.heap.size w w' := by
  have HE : Kept ((escS s).size ≤ 4294967296) := ⟨by have := escS_size s; omega⟩
  go_enter Tryd.func4, Tryd.ntmps4
  go_wp2_with fail
  refine (implUn_any s _ (by omega) HP).mono ?_
  rintro e w1 ⟨rfl, hb1⟩
  have HB1 : Kept (Below w.heap.size w w1) := ⟨hb1⟩
  clear hb1
  have HP1 : Kept (PunctTabAt w1) := ⟨HP.out.later HB1.out HP.out.pos⟩
  go_wp2_with fail
  refine (unescaped_any s _ (by omega)).mono ?_
  rintro e w' ⟨rfl, rfl⟩
  go_wp2_with fail
  refine (escaped_any s _ hs).mono ?_
  rintro e w' ⟨rfl, rfl⟩
  go_wp2_with fail
  refine (implUn_any (escS s) _ HE.out HP1).mono ?_
  rintro e w2 ⟨rfl, hb2⟩
  rw [unS_escS]
  have HB2 : Kept (Below w1.heap.size w1 w2) := ⟨hb2⟩
  clear hb2
  have HP2 : Kept (PunctTabAt w2) := ⟨HP1.out.later HB2.out HP1.out.pos⟩
  go_wp2_with fail
  refine (implUn_any ⟨#[97]⟩ _ (by decide) HP2).mono ?_
  rintro e w3 ⟨rfl, hb3⟩
  rw [unS_a]
  have HB3 : Kept (Below w2.heap.size w2 w3) := ⟨hb3⟩
  clear hb3
  go_wp2
  go_ret
  exact ⟨rfl, (HB1.out.trans (HB2.out.mono HB1.out.size)).trans (HB3.out.mono (Nat.le_trans HB1.out.size HB2.out.size))⟩

/-- FOR EVERY TEXT laws.FnUnescape returns true. -/
theorem fnUn_any (s : ByteArray) (w : World) (hm : s.size ≤ maxLen) (hP : PunctTabAt w) :
    Calls Tryd.prog 4 #[.string s] w fun e w' => e = .returned (.bool true) ∧ Below w.heap.size w w' := by
  by_cases h1 : s.size ≤ 2147483647
  · exact fnUn_short s w h1 ⟨hP⟩
  · exact fnUn_long s w hm (by omega)

end Go.Proofs.YtkcggbjpkjmclaaDoor

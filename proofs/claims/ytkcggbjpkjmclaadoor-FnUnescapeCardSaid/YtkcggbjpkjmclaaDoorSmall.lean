/-
  The walks of the small functions of package spec: isLetter, isDigit, IsMark.
-/
import Derived.Test.YtkcggbjpkjmclaaDoorRows
import Derived.Test.YtkcggbjpkjmclaaDoorPlain
import Derived.WalkKit
import Derived.WalkSpells
import Derived.WalkLawsBesides
import Derived.Lib.Hide
namespace Go.Proofs.YtkcggbjpkjmclaaDoor
open Go.RowKit

set_option maxHeartbeats 400000 in
theorem isLetter_any (c : Int) (w : World) (h0 : 0 ≤ c) (h1 : c ≤ 255) :
    Calls Tryd.prog 11 #[.int .u8 c] w fun e w' => e = .returned (.bool (letB c)) ∧ w = w' := by
  by_cases a : 97 ≤ c <;> by_cases b : c ≤ 122 <;> by_cases d : 65 ≤ c <;> by_cases f : c ≤ 90 <;> first | omega | skip
  all_goals
    have hl : letB c = letB c := rfl
    conv at hl => rhs; simp [letB, a, b, d, f]
    have H := Lib.hid hl
    clear hl
    go_enter Tryd.func11, Tryd.ntmps11
    go_wp2
    go_ret
    exact ⟨by rw [H.out]; rfl, rfl⟩

set_option maxHeartbeats 400000 in
theorem isDigit_any (c : Int) (w : World) (h0 : 0 ≤ c) (h1 : c ≤ 255) :
    Calls Tryd.prog 12 #[.int .u8 c] w fun e w' => e = .returned (.bool (digB c)) ∧ w = w' := by
  by_cases a : 48 ≤ c <;> by_cases b : c ≤ 57 <;> first | omega | skip
  all_goals
    have hl : digB c = digB c := rfl
    conv at hl => rhs; simp [digB, a, b]
    have H := Lib.hid hl
    clear hl
    go_enter Tryd.func12, Tryd.ntmps12
    go_wp2
    go_ret
    exact ⟨by rw [H.out]; rfl, rfl⟩

set_option maxHeartbeats 1000000 in
theorem isMark_any (c : Int) (w : World) (h0 : 0 ≤ c) (h1 : c ≤ 255) :
    Calls Tryd.prog 15 #[.int .u8 c] w fun e w' => e = .returned (.bool (markB c)) ∧ w = w' := by
  by_cases a1 : 33 ≤ c <;> by_cases a2 : c ≤ 47 <;> (first | omega | skip) <;> by_cases b1 : 58 ≤ c <;> by_cases b2 : c ≤ 64 <;> (first | omega | skip) <;> by_cases d1 : 91 ≤ c <;> by_cases d2 : c ≤ 96 <;> (first | omega | skip) <;> by_cases f1 : 123 ≤ c <;> by_cases f2 : c ≤ 126 <;> first | omega | skip
  all_goals
    have hl : markB c = markB c := rfl
    conv at hl => rhs; simp [markB, a1, a2, b1, b2, d1, d2, f1, f2]
    have H := Lib.hid hl
    clear hl
    go_enter Tryd.func15, Tryd.ntmps15
    go_wp2
    go_ret
    exact ⟨by rw [H.out]; rfl, rfl⟩

end Go.Proofs.YtkcggbjpkjmclaaDoor

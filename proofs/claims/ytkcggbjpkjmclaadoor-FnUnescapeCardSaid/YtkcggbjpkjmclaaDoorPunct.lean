/-
  The walk of util.IsPunct, and what its table holds.
-/
import Derived.Test.YtkcggbjpkjmclaaDoorSmall
namespace Go.Proofs.YtkcggbjpkjmclaaDoor
open Go.RowKit

/-- the numbers of a listed table -/
def numsIn : DataW Unit → List Int
  | .agg ps => ps.map fun
    | .lit (.int _ z) => z
    | _ => 0
  | _ => []

/-- the numbers of the table punctTable, as the given row lists them -/
def punctTab : List Int := numsIn Rows.laid_margravel_pub_goldmark_util_punctTable

/-- what the table holds for a byte -/
def punctT (c : Int) : Int := punctTab.getD c.toNat 0

theorem punctT_all : ∀ c : Fin 256, (punctT (c.val : Int) == 1) = markB (c.val : Int) := by decide +kernel

theorem punctT_at (c : Int) (h0 : 0 ≤ c) (h1 : c ≤ 255) : (punctT c == 1) = markB c := by
  have h := punctT_all ⟨c.toNat, by omega⟩
  have e : ((c.toNat : Nat) : Int) = c := by omega
  rw [e] at h
  exact h

/-- block 1 holds the table -/
def PunctTabAt (w : World) : Prop := ∀ c : Int, 0 ≤ c → c ≤ 255 → w.cell? ⟨1, c.toNat, none⟩ = some (.int .i8 (punctT c))

set_option maxHeartbeats 400000 in
theorem isPunct_any (c : Int) (w : World) (h0 : 0 ≤ c) (h1 : c ≤ 255) (hT : PunctTabAt w) :
    Calls Tryd.prog 17 #[.int .u8 c] w fun e w' => e = .returned (.bool (markB c)) ∧ w = w' := by
  have hb := punctT_at c h0 h1
  have ht := hT c h0 h1
  clear hT
  go_enter Tryd.func17, Tryd.ntmps17
  go_wp2
  go_ret
  exact ⟨rfl, rfl⟩

end Go.Proofs.YtkcggbjpkjmclaaDoor

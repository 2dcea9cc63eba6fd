/-
  FnUnescape: for every text s that is not longer than 2147483647 bytes (a longer one the statement lets pass), util.UnescapePunctuations answers what package spec's Unescaped answers, gives back s when it is called on package spec's Escaped of s, and leaves one fixed text as it is; the law returns true and the argument reads as it did.
  Conditions: the package-level table that util.IsPunct reads holds what the program's own text lays in it (the given tie); the row's own cells.
-/
import Derived.Test.YtkcggbjpkjmclaaDoorFnUn
import Derived.Test.YtkcggbjpkjmclaaDoorCards
import Derived.Test.YtkcggbjpkjmclaaDoorTie
import Derived.ProofKit
import Derived.LaidMore
import Derived.OpenShut
import Derived.ShutString
import Derived.Stop.Joined
import Derived.SevenTiedAt
import Derived.Lib.LaidTab
namespace Go.Proofs.YtkcggbjpkjmclaaDoor.fnUnescape
open Go.ChangeShapes Go.WideShapes Go.ChangeAt Go.RowKit
open Go.ChangeMaps (open_string shut_string)

theorem own : ownKnob Tryd.prog.godebug = none := by kernel_rfl
theorem gTab : Tryd.prog.globalNamed "margravel/pub/goldmark/util.punctTable" = some 1 := by kernel_rfl
theorem tTab : (Tryd.prog.globals[1]?).map (·.type) = some 40 := by kernel_rfl

/-- what the row lists -/
def laidU : List (String × DataW Unit) := [("margravel/pub/goldmark/util.punctTable", Rows.laid_margravel_pub_goldmark_util_punctTable)]

/-- the listed datum is the table's numbers -/
theorem laidU_tab : laidU = [("margravel/pub/goldmark/util.punctTable", Lib.tabData .i8 punctTab)] := by kernel_rfl

/-- The door's own heap meets the condition: three closed facts. -/
theorem door_met (os : Os) (args : Array Value) : laidMetH Tryd.prog laidU ((World.doorLaid Tryd.prog 19 os).forCall (fun _ _ => 0) ⟨#[], args, []⟩).memory :=
  laidMetH_of_parts3 (fuel := 8) (laidMet_of_run' 8 (by kernel_rfl) (by kernel_rfl)) (by kernel_rfl) (by kernel_rfl)

theorem punctTab_length : punctTab.length = 256 := by kernel_rfl

/-- WHAT THE CONDITION GIVES THE WALK: the table's cells. -/
theorem of_laid {W : World} (h : laidMetH Tryd.prog laidU W) : PunctTabAt W := by
  rw [MakeChecks.laidMetH_plain _ _ _ (by kernel_rfl), laidU_tab] at h
  have hT := Lib.tabIs_of_head gTab tTab Tryd.underlying40 Tryd.underlying39 (by kernel_rfl) (by kernel_rfl) h
  intro c h0 h1
  exact hT.cell gTab c.toNat (by rw [punctTab_length]; omega)

set_option maxRecDepth 100000 in
theorem lifted (os : Os) (started : os.Started) (H : Type) (enc : TypeId × Value → H) :
    ReturnsInHanded {} Tryd.checked os 4 .any (fun w args => (Rows.fnUnescapeSpec.pre enc Tryd.prog Tryd.f4 [] false w args ∧ laidMetH Tryd.prog laidU w) ∧ sizedMet enc Tryd.prog Tryd.f4 (OpenSpec.ofChange Rows.fnUnescapeSpec) false w args)
      (Rows.fnUnescapeSpec.post enc Tryd.prog Tryd.f4 false true false false) := by
  refine returnsInHanded_of_change_and (C := Tryd.checked) (X := fun w _ => laidMetH Tryd.prog laidU w) (fun _ _ _ hh h => h.of_heap hh) own started (by kernel_rfl) Tryd.func4
    (ChangeSpec.witness_shaped (enc := enc) (C := Tryd.checked) (os := os) (X := fun w _ => laidMetH Tryd.prog laidU w) false (World.doorLaid Tryd.prog 19 os) #[.string ByteArray.empty] 8 rfl (World.shaped_of_RefB (by kernel_rfl) (by kernel_rfl)) (by kernel_rfl) (by kernel_rfl) (by kernel_rfl) (door_met os _)) ?_
  intro W base args ds gs before hval0 hW _ _ hL _
  have hval : ∀ (j : Nat) t v, Tryd.f4.params[j]? = some t → args[j]? = some v → Value.okWide Tryd.prog W .any base t v := hval0
  have hW' := hW
  obtain ⟨p, q, hA0, hV, rfl, hfz, hnd⟩ := hW
  have hA : DataW.TrodAll enc Tryd.prog W 0 (fun _ => true) true Tryd.f4.params.toList args.toList ds p := hA0
  rw [Tryd.params4] at hA hval
  obtain ⟨v0, d0, rfl, rfl, h0⟩ := trodAll_one hA
  obtain ⟨rfl, rfl⟩ := trodVars_none hV
  obtain ⟨s, rfl, rfl, rfl, hs⟩ := open_string Tryd.underlying9 (hval 0 9 v0 rfl rfl) h0
  have hT := of_laid hL
  clear hA0 hval0
  simp only [List.append_nil] at hW'
  refine (fnUn_any s W hs hT).mono fun e W' ⟨he, hb⟩ => ?_
  subst he
  refine ⟨_, rfl, _, _, [], [], [], [], hW', ?_, ?_, ?_, ?_, fun h => by cases h⟩
  · exact trodAll_mk1 (shut_bool Tryd.underlying4 _)
  · exact trodAll_mk1 (shut_string Tryd.underlying9 hs)
  · rfl
  · exact hb.frame _

theorem row_holds : Rows.FnUnescapeSaid :=
  OpenClaim.holds_of_wide 4 Tryd.f4 rfl rfl rfl rfl rfl rfl rfl ⟨rfl, rfl, rfl, rfl, rfl⟩ rfl rfl rfl rfl rfl (by kernel_rfl) Tryd.func4 (by kernel_rfl)
    (of_decide_eq_true (by kernel_rfl)) (by unfold Func.isWrapper; first | (rw [if_pos (by decide +kernel)]; kernel_rfl) | (rw [if_neg (by decide +kernel)]; exact ⟨rfl, rfl⟩))
    (fun os started H enc _ => lifted os started H enc)

/-- THE TIED CARD: the statement. -/
theorem proved : Rows.FnUnescapeCardSaid :=
  Claim7.holds_tied_plain_at .later [] [.data] true (true, "7fe424ac3ae2e1cb36b7a9dc7a3e9c7f46cf3bacdfa00a7831df46aa2c834f33") false
    row_holds (fun _ h => by cases h) (by kernel_rfl) (fun _ h => by cases h) fnUnescape_row_tie rfl ⟨rfl, rfl⟩ (by kernel_rfl) rfl
    (fun f fn hf hfn => by
      obtain rfl : f = 4 := Option.some.inj ((show Tryd.prog.funcNamed "margravel/laws.FnUnescape" = some 4 by kernel_rfl).symm.trans hf) |>.symm
      obtain rfl : fn = Tryd.f4 := (Option.some.inj (Tryd.func4.symm.trans hfn)).symm
      exact ⟨by kernel_rfl, fun j t ht => by
        rw [Tryd.params4] at ht
        have hm : t ∈ [9] := by simpa using Array.mem_of_getElem? ht
        have hall : ([9].all fun u => !Tryd.prog.wantsStandIn u) = true := by kernel_rfl
        exact (show Tryd.prog.wantsStandIn t = false by simpa using List.all_eq_true.1 hall t hm)⟩)
    (by kernel_rfl)
#print axioms proved
end Go.Proofs.YtkcggbjpkjmclaaDoor.fnUnescape

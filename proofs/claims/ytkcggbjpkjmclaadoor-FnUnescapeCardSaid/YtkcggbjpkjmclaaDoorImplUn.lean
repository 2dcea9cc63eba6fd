/-
  The walk of impl.Unescape: a copy of the text's bytes in new memory, util.UnescapePunctuations, and the bytes as a text again: it answers 'un' of the text.
-/
import Derived.Test.YtkcggbjpkjmclaaDoorUnp
import Derived.Test.YtkcggbjpkjmclaaDoorSpecUn
import Derived.Lib.ConvBytes
import Derived.Laws.BytesArg
namespace Go.Proofs.YtkcggbjpkjmclaaDoor
open Go.RowKit

theorem PunctTabAt.pos {w : World} (h : PunctTabAt w) : 1 < w.heap.size := by
  have h0 := h 0 (by decide) (by decide)
  rcases Nat.lt_or_ge 1 w.heap.size with h1 | h1
  · exact h1
  · simp [World.cell?, Array.getElem?_eq_none h1] at h0

theorem textAt_new (w : World) (s : ByteArray) : TextAt (Lib.bytesWorld w 5 s) w.heap.size s.data.toList := fun i hi => by
  rw [Lib.bytesWorld_cell w 5 s i (by simpa using hi)]
  rfl

/-- a text's bytes as numbers -/
def numsAt (l : List UInt8) : List Int := l.map fun d => (d.toNat : Int)

theorem numsAt_getD (l : List UInt8) (i : Nat) (h : i < l.length) : (numsAt l).getD i 0 = byteAt l i := by
  unfold numsAt byteAt
  rw [List.getD_eq_getElem?_getD, List.getElem?_map, List.getElem?_eq_getElem h, List.getD_eq_getElem?_getD, List.getElem?_eq_getElem h]
  rfl

theorem strOf_un (s : ByteArray) : strOfNums (numsAt (un s.data.toList)) = unS s := by
  apply str_eq
  rw [strOfNums_data]
  unfold numsAt unS
  rw [List.map_map]
  have e : ((fun n : Int => UInt8.ofNat n.toNat) ∘ fun d : UInt8 => (d.toNat : Int)) = id := by
    funext d
    simp
  rw [e, List.map_id]

set_option maxHeartbeats 400000 in
theorem implUn_any (s : ByteArray) (w : World) (hs : s.size ≤ 4294967296) (HP : Kept (PunctTabAt w)) :
    Calls Tryd.prog 8 #[.string s] w fun e w' => e = .returned (.string (unS s)) ∧ Below w.heap.size w w' := by
  have hconv := Lib.run_convert_string_bytes (P := Tryd.prog) w 9 27 5 s Tryd.underlying9 Tryd.underlying27 Tryd.underlying5
  have HB0 : Kept (Below w.heap.size w (Lib.bytesWorld w 5 s)) := ⟨Joins.below_bytesWorld _ _ _ _ (Nat.le_refl _)⟩
  have HZ : Kept ((Lib.bytesWorld w 5 s).heap.size = w.heap.size + 1) := ⟨Lib.bytesWorld_size w 5 s⟩
  have HT : Kept (TextAt (Lib.bytesWorld w 5 s) w.heap.size s.data.toList) := ⟨textAt_new w s⟩
  have HP1 : Kept (PunctTabAt (Lib.bytesWorld w 5 s)) := ⟨HP.out.later HB0.out HP.out.pos⟩
  have HL : Kept (s.data.toList.length = s.size) := ⟨by simp⟩
  have HM : Kept (grownCap w s.size 0 5 ≤ 9223372036854775807) := ⟨grownCap_le_maxLen w s.size 0 5 (by unfold maxLen; omega)⟩
  go_enter Tryd.func8, Tryd.ntmps8
  go_wp2_with fail
  refine (unp_any s.data.toList w.heap.size s.size _ _ HL hs (grownCap_ge _ _ _ _) HM.out (by rw [HZ.out]; omega) HP1.out.pos HT HP1).mono ?_
  rintro e w1 ⟨g, c, rfl, ht, hb⟩
  have hback := run_convert_bytes_arg (P := Tryd.prog) w1 27 5 Tryd.underlying27 Tryd.underlying5 g 0 (un s.data.toList).length c (numsAt (un s.data.toList)) (by simp [numsAt]) (fun i hi => by rw [Nat.zero_add, numsAt_getD _ _ hi]; exact ht i hi) 9 Tryd.underlying9
  rw [strOf_un] at hback
  have HB1 : Kept (Below w.heap.size w w1) := ⟨HB0.out.trans (hb.mono (by rw [HZ.out]; omega))⟩
  clear ht hb hconv
  go_wp2
  go_ret
  exact ⟨rfl, HB1.out⟩

end Go.Proofs.YtkcggbjpkjmclaaDoor

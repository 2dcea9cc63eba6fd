/-
  The walk of impl.URL: a copy of the text's bytes in new memory, then util.FindURLIndex.
-/
import Derived.Test.YtkcggbjpkjmclaaDoorFind
import Derived.Test.YtkcggbjpkjmclaaDoorSpecUrl
import Derived.Lib.ConvBytes
namespace Go.Proofs.YtkcggbjpkjmclaaDoor
open Go.RowKit

theorem bytesAt_new (w : World) (s : ByteArray) : BytesAt (Lib.bytesWorld w 5 s) w.heap.size s.data.toList := fun i hi => by
  rw [Lib.bytesWorld_cell w 5 s i (by simpa using hi)]
  rfl

theorem heap_pos {w : World} {o : Nat} {v : Value} (h : w.cell? ⟨0, o, none⟩ = some v) : 0 < w.heap.size := by
  rcases Nat.eq_zero_or_pos w.heap.size with h0 | h0
  · simp [World.cell?, Array.getElem?_eq_none (show w.heap.size ≤ 0 by omega)] at h
  · exact h0

theorem UrlTabAt.bytes {w : World} (h : UrlTabAt w) (s : ByteArray) : UrlTabAt (Lib.bytesWorld w 5 s) := fun c h0 h1 => by
  rw [Lib.bytesWorld_old w 5 s ⟨0, c.toNat, none⟩ (heap_pos (h c h0 h1))]
  exact h c h0 h1

set_option maxHeartbeats 400000 in
theorem implUrl_any (s : ByteArray) (w : World) (hs : s.size ≤ maxLen) (hT : UrlTabAt w) (h32 : schemeEnd s.data.toList ≤ 32) :
    Calls Tryd.prog 6 #[.string s] w fun e w' => e = .returned (.int .i64 (urlEnd s.data.toList)) ∧ Lib.bytesWorld w 5 s = w' := by
  have hconv := Lib.run_convert_string_bytes (P := Tryd.prog) w 9 27 5 s Tryd.underlying9 Tryd.underlying27 Tryd.underlying5
  go_enter Tryd.func6, Tryd.ntmps6
  go_wp2_with fail
  refine (find_any s.data.toList w.heap.size s.size _ _ (by simp) hs (bytesAt_new w s) (hT.bytes s) h32).mono ?_
  rintro e w' ⟨rfl, rfl⟩
  go_wp2
  go_ret
  exact ⟨rfl, rfl⟩

end Go.Proofs.YtkcggbjpkjmclaaDoor

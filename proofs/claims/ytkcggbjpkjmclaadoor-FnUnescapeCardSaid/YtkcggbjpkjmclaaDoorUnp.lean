/-
  The walk of util.UnescapePunctuations: it hands back a slice that holds 'un' of the text; below the heap's old end nothing turns.
-/
import Derived.Test.YtkcggbjpkjmclaaDoorPunct
import Derived.Test.YtkcggbjpkjmclaaDoorCob
import Derived.Test.YtkcggbjpkjmclaaDoorUnPlain
import Derived.Outline
namespace Go.Proofs.YtkcggbjpkjmclaaDoor
open Go.RowKit

/-- block b holds a text's bytes -/
def TextAt (w : World) (b : Nat) (l : List UInt8) : Prop := ∀ i, i < l.length → w.cell? ⟨b, i, none⟩ = some (.int .u8 (byteAt l i))

theorem TextAt.later {w w' : World} {b B : Nat} {l : List UInt8} (h : TextAt w b l) (hb : Below B w w') (hlt : b < B) : TextAt w' b l := fun i hi => (hb.cell (p := ⟨b, i, none⟩) hlt).trans (h i hi)
theorem PunctTabAt.later {w w' : World} {B : Nat} (h : PunctTabAt w) (hb : Below B w w') (hlt : 1 < B) : PunctTabAt w' := fun c h0 h1 => (hb.cell (p := ⟨1, c.toNat, none⟩) hlt).trans (h c h0 h1)

theorem byteVals_at (k : List UInt8) (j : Nat) : (byteVals k)[j]? = (k[j]?).map fun d => .int .u8 (d.toNat : Int) := by simp [byteVals]

theorem seg_cells {w : World} {b m k : Nat} {l : List UInt8} (h : TextAt w b l) (hmk : m ≤ k) (hk : k ≤ l.length) : ∀ j u, (byteVals (seg l m k))[j]? = some u → w.cell? ⟨b, m + j, none⟩ = some u := by
  intro j u hj
  rw [byteVals_at] at hj
  have hlt : j < k - m := by
    rcases Nat.lt_or_ge j (k - m) with h' | h'
    · exact h'
    · rw [List.getElem?_eq_none (by rw [seg_length hmk hk]; exact h')] at hj
      cases hj
  rw [seg_at hmk hk hlt] at hj
  rw [h (m + j) (by omega)]
  exact hj

/-- the relation of the loop: W0 the world ahead of it, C the buffer's block, b the text's; m: what is ahead of it is written; k: the place -/
def UnRel (l : List UInt8) (W0 wr : World) (C b n cap m k : Nat) : Prop :=
  Below C W0 wr ∧ m ≤ k ∧ ∃ o, o.length ≤ m ∧ Done l o m k ∧ ((m = 0 ∧ o = [] ∧ CobIs wr C (.slice (some ⟨b, 0, none⟩) n cap) false) ∨ (∃ v, CobIs wr C v true ∧ OwnsText wr C v o))

theorem UnRel.miss {l : List UInt8} {W0 wr : World} {C b n cap m k : Nat} {o : List UInt8} (hb : Kept (Below C W0 wr)) (hmk : m ≤ k) (hol : o.length ≤ m) (hd : Kept (Done l o m k))
    (hst : (m = 0 ∧ o = [] ∧ CobIs wr C (.slice (some ⟨b, 0, none⟩) n cap) false) ∨ (∃ v, CobIs wr C v true ∧ OwnsText wr C v o)) (hk : k < l.length) (hm : Kept (un (l.drop k) = l.getD k 0 :: un (l.drop (k + 1)))) :
    UnRel l W0 wr C b n cap m (k + 1) :=
  ⟨hb.out, by omega, o, hol, hd.out.miss hmk hk hm.out, hst⟩

theorem UnRel.hit {l : List UInt8} {W0 wr w1 w2 : World} {C b n cap m k : Nat} {o : List UInt8} (hb : Kept (Below C W0 wr)) (hb1 : Below C wr w1) (hw2 : Kept (Wrote w1 C ((o ++ seg l m k) ++ [l.getD (k + 1) 0]) w2))
    (hmk : m ≤ k) (hol : o.length ≤ m) (hd : Kept (Done l o m k)) (hk : k ≤ l.length) (hm : Kept (un (l.drop k) = l.getD (k + 1) 0 :: un (l.drop (k + 2)))) :
    UnRel l W0 w2 C b n cap (k + 2) (k + 2) := by
  obtain ⟨v2, h1, h2, h3⟩ := hw2.out
  refine ⟨(hb.out.trans hb1).trans h3, Nat.le_refl _, _, ?_, hd.out.hit hm.out, Or.inr ⟨v2, h1, h2⟩⟩
  rw [List.length_append, List.length_append, seg_length hmk hk]
  simp only [List.length_cons, List.length_nil]
  omega

/-- Write of what stands between, whichever state the buffer is in -/
theorem write_seg {l : List UInt8} {wr : World} {C b n cap m k cp off : Nat} {o : List UInt8} (hoff : off = m ∨ k ≤ m) (hs : n ≤ 4294967296) (hs2 : k - m ≤ 4294967296) (HN : Kept (l.length = n)) (hmk : m ≤ k) (hk : k ≤ n) (hbC : b < C) (hol : o.length ≤ m) (HT : Kept (TextAt wr b l))
    (hst : (m = 0 ∧ o = [] ∧ CobIs wr C (.slice (some ⟨b, 0, none⟩) n cap) false) ∨ (∃ v, CobIs wr C v true ∧ OwnsText wr C v o)) :
    Calls Tryd.prog 18 #[.pointer (some ⟨C, 0, none⟩), .slice (some ⟨b, off, none⟩) (k - m) cp] wr fun e w' => e = .returned (.tuple #[]) ∧ Wrote wr C (o ++ seg l m k) w' := by
  have hseg : (seg l m k).length = k - m := seg_length hmk (by rw [HN.out]; exact hk)
  have hcells : ∀ j u, (byteVals (seg l m k))[j]? = some u → wr.cell? ⟨b, off + j, none⟩ = some u := by
    rcases hoff with rfl | hkm
    · exact seg_cells HT.out hmk (by rw [HN.out]; exact hk)
    · intro j u hj
      rw [List.getElem?_eq_none (by rw [byteVals_length, hseg]; omega)] at hj
      cases hj
  rcases hst with ⟨_, rfl, hcob⟩ | ⟨v, hcob, hown⟩
  · exact write_fresh C b off (k - m) cp n cap _ (seg l m k) wr hs hs2 hseg hbC hcob hcells
  · exact write_more C b off (k - m) cp o.length v o (seg l m k) wr (by omega) hs2 rfl hseg hcob hown hcells

theorem owns_text {w : World} {C g n c : Nat} {k : List UInt8} (h : OwnsText w C (.slice (some ⟨g, 0, none⟩) n c) k) (hn : k.length = n) : TextAt w g k := by
  intro i hi
  have h1 := h.1
  rw [hn] at h1
  rw [h1.cellAt i (by omega), byteVals_at, List.getElem?_eq_getElem hi]
  unfold byteAt
  rw [List.getD_eq_getElem?_getD, List.getElem?_eq_getElem hi]
  rfl

theorem wrote_shape {w w1 : World} {C : Nat} {k : List UInt8} (h : Wrote w C k w1) : ∃ g c, CobIs w1 C (.slice (some ⟨g, 0, none⟩) k.length c) true ∧ TextAt w1 g k ∧ Below C w w1 := by
  obtain ⟨v, h1, h2, h3⟩ := h
  obtain ⟨g, c, rfl⟩ := own_shape h2.1 h2.2
  exact ⟨g, c, h1, owns_text h2 rfl, h3⟩

/-- what the call leaves -/
def Unp (l : List UInt8) (w : World) (e : Ending) (w' : World) : Prop := ∃ g c, e = .returned (.slice (some ⟨g, 0, none⟩) (un l).length c) ∧ TextAt w' g (un l) ∧ Below w.heap.size w w'

set_option maxHeartbeats 1000000 in
theorem unp_any (l : List UInt8) (b n cap : Nat) (w : World) (HN : Kept (l.length = n)) (hs : n ≤ 4294967296) (hcap : n ≤ cap) (hcm : cap ≤ 9223372036854775807) (hb : b < w.heap.size) (h1w : 1 < w.heap.size)
    (HT : Kept (TextAt w b l)) (HP : Kept (PunctTabAt w)) :
    Calls Tryd.prog 14 #[.slice (some ⟨b, 0, none⟩) n cap] w fun e w' => Unp l w e w' := by
  go_enter Tryd.func14, Tryd.ntmps14
  go_wp2_with (go_at_call 16; refine (newCob_any _ _ _ _).mono ?_; rintro e w' ⟨rfl, rfl⟩)
  have HC0 : Kept (CobIs ((w.alloc (.cells #[.slice (some ⟨b, 0, none⟩) n cap, .bool false] 31)).alloc (.cells #[.slice (some ⟨b, 0, none⟩) n cap, .bool false] 31)) (w.heap.size + 1) (.slice (some ⟨b, 0, none⟩) n cap) false) := ⟨by
    have := heap_alloc_new (w.alloc (.cells #[.slice (some ⟨b, 0, none⟩) n cap, .bool false] 31)) (.cells #[.slice (some ⟨b, 0, none⟩) n cap, .bool false] 31)
    simpa [CobIs] using this⟩
  have HB0 : Kept (Below w.heap.size w ((w.alloc (.cells #[.slice (some ⟨b, 0, none⟩) n cap, .bool false] 31)).alloc (.cells #[.slice (some ⟨b, 0, none⟩) n cap, .bool false] 31))) := ⟨((Below.refl _ _).alloc (Nat.le_refl _) _).alloc (by simp) _⟩
  have hCb : b < w.heap.size + 1 := by omega
  have h1C : 1 < w.heap.size + 1 := by omega
  have HBC : Kept (w.heap.size ≤ w.heap.size + 1) := ⟨by omega⟩
  generalize (w.alloc (.cells #[.slice (some ⟨b, 0, none⟩) n cap, .bool false] 31)).alloc (.cells #[.slice (some ⟨b, 0, none⟩) n cap, .bool false] 31) = W0 at *
  have HT0 : Kept (TextAt W0 b l) := ⟨HT.out.later HB0.out hb⟩
  have HP0 : Kept (PunctTabAt W0) := ⟨HP.out.later HB0.out h1w⟩
  clear hb h1w HT HP
  generalize w.heap.size + 1 = C at *
  go_loopw [5, 6] (fun p i wr => ∃ m k : Nat, k ≤ n ∧ p = .int .i64 m ∧ i = .int .i64 k ∧ UnRel l W0 wr C b n cap m k) (fun _ i _ => n - (intOf i).toNat)
  case atStart => exact ⟨0, 0, Nat.zero_le _, rfl, rfl, Below.refl _ _, Nat.le_refl _, [], Nat.le_refl _, Done.start l, Or.inl ⟨rfl, rfl, HC0.out⟩⟩
  case round =>
    obtain ⟨m, k, hk, rfl, rfl, hbel, hmk, o, hol, hdone, hst⟩ := hrel
    have HD : Kept (Done l o m k) := ⟨hdone⟩
    have HB : Kept (Below C W0 wr) := ⟨hbel⟩
    have HTr : Kept (TextAt wr b l) := ⟨HT0.out.later HB.out hCb⟩
    have HPr : Kept (PunctTabAt wr) := ⟨HP0.out.later HB.out h1C⟩
    clear hdone hbel
    by_cases hlt : k < n
    · have hlo := byteAt_lo l k
      have hhi := byteAt_hi l k
      have hck := HTr.out k (by rw [HN.out]; exact hlt)
      cases h92 : (byteAt l k == 92)
      · have HM : Kept (un (l.drop k) = l.getD k 0 :: un (l.drop (k + 1))) := ⟨un_miss (by rw [HN.out]; exact hlt) (fun e => by have := e.2.1; rw [this] at h92; cases h92)⟩
        go_wp2
        all_goals
          go_roundw
          case rel => exact ⟨m, k + 1, by omega, by go_num, by go_num, UnRel.miss HB hmk hol HD hst (by rw [HN.out]; exact hlt) HM⟩
          case measure => simp [intOf]; omega
      · by_cases h1 : k + 1 < n
        · have hlo1 := byteAt_lo l (k + 1)
          have hhi1 := byteAt_hi l (k + 1)
          have hck1 := HTr.out (k + 1) (by rw [HN.out]; exact h1)
          cases hm : markB (byteAt l (k + 1))
          · have HM : Kept (un (l.drop k) = l.getD k 0 :: un (l.drop (k + 1))) := ⟨un_miss (by rw [HN.out]; exact hlt) (fun e => by have := e.2.2; rw [this] at hm; cases hm)⟩
            go_wp2_with (go_at_call 17; refine (isPunct_any _ _ (by omega) (by omega) HPr.out).mono ?_; rintro e w' ⟨rfl, rfl⟩)
            go_roundw
            case rel => exact ⟨m, k + 1, by omega, by go_num, by go_num, UnRel.miss HB hmk hol HD hst (by rw [HN.out]; exact hlt) HM⟩
            case measure => simp [intOf]; omega
          · have HM : Kept (un (l.drop k) = l.getD (k + 1) 0 :: un (l.drop (k + 2))) := ⟨un_hit (by rw [HN.out]; exact h1) (by simpa using h92) hm⟩
            go_wp2_with fail
            refine (isPunct_any _ _ (by omega) (by omega) HPr.out).mono ?_
            rintro e w' ⟨rfl, rfl⟩
            go_wp2_with fail
            refine (write_seg (o := o) (Or.inl rfl) hs (by omega) HN hmk hk hCb hol HTr hst).mono ?_
            rintro e w1 ⟨rfl, hw1⟩
            have HW1 : Kept (Wrote wr C (o ++ seg l m k) w1) := ⟨hw1⟩
            clear hw1
            obtain ⟨v1, hw1⟩ := HW1.out
            have HW1' : Kept (CobIs w1 C v1 true ∧ OwnsText w1 C v1 (o ++ seg l m k) ∧ Below C wr w1) := ⟨hw1⟩
            clear hw1
            have hck2 := (HTr.out.later HW1'.out.2.2 hCb) (k + 1) (by rw [HN.out]; exact h1)
            go_wp2_with fail
            refine (write_byte C (o ++ seg l m k).length _ (l.getD (k + 1) 0) v1 (o ++ seg l m k) w1 (by rw [List.length_append, seg_length hmk (by rw [HN.out]; exact hk)]; omega) ⟨rfl⟩ rfl HW1'.out.1 HW1'.out.2.1).mono ?_
            rintro e w2 ⟨rfl, hw2⟩
            have HW2 : Kept (Wrote w1 C ((o ++ seg l m k) ++ [l.getD (k + 1) 0]) w2) := ⟨hw2⟩
            clear hw2
            go_wp2
            go_roundw
            case rel => exact ⟨k + 2, k + 2, by omega, by go_num, by go_num, UnRel.hit HB HW1'.out.2.2 HW2 hmk hol HD (by rw [HN.out]; exact hk) HM⟩
            case measure => simp [intOf]; omega
        · have HM : Kept (un (l.drop k) = l.getD k 0 :: un (l.drop (k + 1))) := ⟨un_miss (by rw [HN.out]; exact hlt) (fun e => by have := e.1; rw [HN.out] at this; exact h1 this)⟩
          go_wp2
          go_roundw
          case rel => exact ⟨m, k + 1, by omega, by go_num, by go_num, UnRel.miss HB hmk hol HD hst (by rw [HN.out]; exact hlt) HM⟩
          case measure => simp [intOf]; omega
    · obtain rfl : k = n := by omega
      rcases hst with ⟨rfl, rfl, hcob⟩ | ⟨v, hcob, hown⟩
      · have hc1 := hcob.cell1
        have hc0 := hcob.cell0
        have HCOB : Kept (CobIs wr C (.slice (some ⟨b, 0, none⟩) k cap) false) := ⟨hcob⟩
        clear hcob
        have HU : Kept (un l = l) := ⟨by have := HD.out.finish (by rw [HN.out]); rw [← this, seg_end (by rw [HN.out])]; rfl⟩
        have HL : Kept ((un l).length = k) := ⟨by rw [HU.out, HN.out]⟩
        have HTU : Kept (TextAt wr b (un l)) := ⟨by rw [HU.out]; exact HTr.out⟩
        go_wp2_with (first | (go_at_call 20; refine (isCopied_any C false _ hc1).mono ?_; rintro e w' ⟨rfl, rfl⟩) | (go_at_call 21; refine (bytes_any C k cap _ _ hc0).mono ?_; rintro e w' ⟨rfl, rfl⟩))
        go_ret
        exact ⟨b, cap, by rw [HL.out]; rfl, HTU.out, HB0.out.trans (HB.out.mono HBC.out)⟩
      · have hc1 := hcob.cell1
        have HCOB : Kept (CobIs wr C v true) := ⟨hcob⟩
        have HOWN : Kept (OwnsText wr C v o) := ⟨hown⟩
        clear hcob hown
        have HST : Kept ((m = 0 ∧ o = [] ∧ CobIs wr C (.slice (some ⟨b, 0, none⟩) k cap) false) ∨ (∃ v, CobIs wr C v true ∧ OwnsText wr C v o)) := ⟨Or.inr ⟨v, HCOB.out, HOWN.out⟩⟩
        have HF : Kept (o ++ seg l m k = un l) := ⟨HD.out.finish (by rw [HN.out])⟩
        by_cases hcp : cap = m
        ·
          go_wp2_with (first | (go_at_call 20; refine (isCopied_any C true _ hc1).mono ?_; rintro e w' ⟨rfl, rfl⟩))
          refine (write_seg (o := o) (Or.inr (by omega)) hs (by omega) HN hmk hk hCb hol HTr HST.out).mono ?_
          rintro e w1 ⟨rfl, hw1⟩
          rw [HF.out] at hw1
          obtain ⟨g, c2, hw1'⟩ := wrote_shape hw1
          have HW1 : Kept (CobIs w1 C (.slice (some ⟨g, 0, none⟩) (un l).length c2) true ∧ TextAt w1 g (un l) ∧ Below C wr w1) := ⟨hw1'⟩
          have hc0 := hw1'.1.cell0
          clear hw1 hw1'
          go_wp2_with (go_at_call 21; refine (bytes_any C _ _ _ _ hc0).mono ?_; rintro e w' ⟨rfl, rfl⟩)
          go_ret
          exact ⟨g, c2, rfl, HW1.out.2.1, (HB0.out.trans (HB.out.mono HBC.out)).trans (HW1.out.2.2.mono HBC.out)⟩
        ·
          go_wp2_with (first | (go_at_call 20; refine (isCopied_any C true _ hc1).mono ?_; rintro e w' ⟨rfl, rfl⟩))
          refine (write_seg (o := o) (Or.inl rfl) hs (by omega) HN hmk hk hCb hol HTr HST.out).mono ?_
          rintro e w1 ⟨rfl, hw1⟩
          rw [HF.out] at hw1
          obtain ⟨g, c2, hw1'⟩ := wrote_shape hw1
          have HW1 : Kept (CobIs w1 C (.slice (some ⟨g, 0, none⟩) (un l).length c2) true ∧ TextAt w1 g (un l) ∧ Below C wr w1) := ⟨hw1'⟩
          have hc0 := hw1'.1.cell0
          clear hw1 hw1'
          go_wp2_with (go_at_call 21; refine (bytes_any C _ _ _ _ hc0).mono ?_; rintro e w' ⟨rfl, rfl⟩)
          go_ret
          exact ⟨g, c2, rfl, HW1.out.2.1, (HB0.out.trans (HB.out.mono HBC.out)).trans (HW1.out.2.2.mono HBC.out)⟩

end Go.Proofs.YtkcggbjpkjmclaaDoor

/-
  The plain law of FnUnescape: 'un' takes a backslash ahead of punctuation away, 'esc' lays one ahead of all punctuation, and 'un' of 'esc' gives the text back. No program in sight.
-/
import Derived.Test.YtkcggbjpkjmclaaDoorPlain
namespace Go.Proofs.YtkcggbjpkjmclaaDoor

/-- a text without the backslashes ahead of punctuation -/
def un : List UInt8 → List UInt8
  | [] => []
  | [c] => [c]
  | c :: d :: r => if c = 92 ∧ markB (d.toNat : Int) = true then d :: un r else c :: un (d :: r)

/-- a text with a backslash ahead of all punctuation -/
def esc : List UInt8 → List UInt8
  | [] => []
  | c :: r => if markB (c.toNat : Int) = true then 92 :: c :: esc r else c :: esc r

theorem un_plain {c : UInt8} (r : List UInt8) (h : ¬ c = 92) : un (c :: r) = c :: un r := by
  cases r with
  | nil => rfl
  | cons d r => rw [un, if_neg (fun e => h e.1)]

/-- WHAT IS ESCAPED COMES BACK. -/
theorem un_esc : ∀ l : List UInt8, un (esc l) = l
  | [] => rfl
  | c :: r => by
    by_cases h : markB (c.toNat : Int) = true
    · rw [esc, if_pos h, un, if_pos ⟨rfl, h⟩, un_esc r]
    · rw [esc, if_neg h, un_plain _ (fun e => h (by rw [e]; decide)), un_esc r]

theorem un_length : ∀ l : List UInt8, (un l).length ≤ l.length
  | [] => Nat.le_refl _
  | [c] => Nat.le_refl _
  | c :: d :: r => by
    rw [un]
    split
    · have := un_length r
      simp only [List.length_cons]; omega
    · have := un_length (d :: r)
      simp only [List.length_cons] at this ⊢; omega

theorem esc_length : ∀ l : List UInt8, (esc l).length ≤ 2 * l.length
  | [] => Nat.le_refl _
  | c :: r => by
    have := esc_length r
    rw [esc]
    split <;> simp only [List.length_cons] <;> omega

theorem drop_at (l : List UInt8) (k : Nat) (h : k < l.length) : l.drop k = l.getD k 0 :: l.drop (k + 1) := by
  rw [List.drop_eq_getElem_cons h, List.getD_eq_getElem?_getD, List.getElem?_eq_getElem h]
  rfl

theorem byteAt_eq {l : List UInt8} {k : Nat} {d : UInt8} : byteAt l k = (d.toNat : Int) ↔ l.getD k 0 = d := by
  unfold byteAt
  constructor
  · intro h
    have h' : (l.getD k 0).toNat = d.toNat := by omega
    exact UInt8.toNat_inj.1 h'
  · intro h
    rw [h]

/-- one step: a backslash ahead of punctuation -/
theorem un_hit {l : List UInt8} {k : Nat} (h : k + 1 < l.length) (hb : byteAt l k = 92) (hm : markB (byteAt l (k + 1)) = true) : un (l.drop k) = l.getD (k + 1) 0 :: un (l.drop (k + 2)) := by
  rw [drop_at l k (by omega), drop_at l (k + 1) h, un, if_pos]
  exact ⟨byteAt_eq.1 hb, hm⟩

/-- one step: anything else -/
theorem un_miss {l : List UInt8} {k : Nat} (h : k < l.length) (hb : ¬ (k + 1 < l.length ∧ byteAt l k = 92 ∧ markB (byteAt l (k + 1)) = true)) : un (l.drop k) = l.getD k 0 :: un (l.drop (k + 1)) := by
  rw [drop_at l k h]
  by_cases h1 : k + 1 < l.length
  · rw [drop_at l (k + 1) h1, un, if_neg]
    intro e
    exact hb ⟨h1, byteAt_eq.2 e.1, e.2⟩
  · rw [List.drop_eq_nil_of_le (by omega)]
    rfl

theorem esc_take {l : List UInt8} {k : Nat} (h : k < l.length) : esc (l.take (k + 1)) = esc (l.take k) ++ esc [l.getD k 0] := by
  have happ : ∀ a b : List UInt8, esc (a ++ b) = esc a ++ esc b := by
    intro a b
    induction a with
    | nil => rfl
    | cons c a ih =>
      rw [List.cons_append, esc, esc, ih]
      split <;> rfl
  rw [List.take_succ_eq_append_getElem h, happ, List.getD_eq_getElem?_getD, List.getElem?_eq_getElem h]
  rfl

/-- what stands from place m on and ahead of place k -/
def seg (l : List UInt8) (m k : Nat) : List UInt8 := (l.drop m).take (k - m)

theorem seg_none (l : List UInt8) (m : Nat) : seg l m m = [] := by unfold seg; rw [Nat.sub_self]; rfl
theorem seg_length {l : List UInt8} {m k : Nat} (h : m ≤ k) (hk : k ≤ l.length) : (seg l m k).length = k - m := by
  unfold seg; rw [List.length_take, List.length_drop]; omega
theorem seg_snoc {l : List UInt8} {m k : Nat} (h : m ≤ k) (hk : k < l.length) : seg l m (k + 1) = seg l m k ++ [l.getD k 0] := by
  unfold seg
  have h1 : k - m < (l.drop m).length := by rw [List.length_drop]; omega
  rw [show k + 1 - m = (k - m) + 1 from by omega, List.take_succ_eq_append_getElem h1, List.getElem_drop, List.getD_eq_getElem?_getD, List.getElem?_eq_getElem hk]
  simp [show m + (k - m) = k from by omega]
theorem seg_at {l : List UInt8} {m k j : Nat} (h : m ≤ k) (hk : k ≤ l.length) (hj : j < k - m) : (seg l m k)[j]? = some (l.getD (m + j) 0) := by
  unfold seg
  rw [List.getElem?_take, if_pos hj, List.getElem?_drop, List.getD_eq_getElem?_getD, List.getElem?_eq_getElem (show m + j < l.length by omega)]
  rfl
theorem seg_end {l : List UInt8} {m k : Nat} (hk : k = l.length) : seg l m k = l.drop m := by
  unfold seg
  rw [List.take_of_length_le (by rw [List.length_drop]; omega)]

/-- what is written by now, what stands between, and what is to come are together the answer -/
def Done (l o : List UInt8) (m k : Nat) : Prop := o ++ (seg l m k ++ un (l.drop k)) = un l

theorem Done.start (l : List UInt8) : Done l [] 0 0 := by unfold Done; rw [seg_none]; rfl
theorem Done.miss {l o : List UInt8} {m k : Nat} (h : Done l o m k) (hmk : m ≤ k) (hk : k < l.length) (hu : un (l.drop k) = l.getD k 0 :: un (l.drop (k + 1))) : Done l o m (k + 1) := by
  unfold Done at h ⊢
  rw [← h, seg_snoc hmk hk, hu]
  simp
theorem Done.hit {l o : List UInt8} {m k : Nat} (h : Done l o m k) (hu : un (l.drop k) = l.getD (k + 1) 0 :: un (l.drop (k + 2))) : Done l ((o ++ seg l m k) ++ [l.getD (k + 1) 0]) (k + 2) (k + 2) := by
  unfold Done at h ⊢
  rw [← h, seg_none, hu]
  simp
theorem Done.finish {l o : List UInt8} {m k : Nat} (h : Done l o m k) (hk : k = l.length) : o ++ seg l m k = un l := by
  unfold Done at h
  rw [← h, List.drop_of_length_le (by omega)]
  simp [un]

end Go.Proofs.YtkcggbjpkjmclaaDoor

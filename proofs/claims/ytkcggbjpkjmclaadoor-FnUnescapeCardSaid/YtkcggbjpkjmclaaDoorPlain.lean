/-
  Plain functions on bytes and lists of bytes: what the functions of package spec and of package util that the statements FnURL and FnUnescape reach compute. No program in sight.
-/
namespace Go.Proofs.YtkcggbjpkjmclaaDoor

/-- a letter of ASCII -/
def letB (c : Int) : Bool := (decide (97 ≤ c) && decide (c ≤ 122)) || (decide (65 ≤ c) && decide (c ≤ 90))
/-- a digit of ASCII -/
def digB (c : Int) : Bool := decide (48 ≤ c) && decide (c ≤ 57)
/-- a sign of a scheme: a letter, a digit, a point, + or - -/
def schB (c : Int) : Bool := letB c || digB c || c == 46 || c == 43 || c == 45
/-- a sign behind the colon: above the blank, and neither < nor > -/
def tailB (c : Int) : Bool := decide (32 < c) && c != 60 && c != 62
/-- punctuation of ASCII -/
def markB (c : Int) : Bool := (decide (33 ≤ c) && decide (c ≤ 47)) || (decide (58 ≤ c) && decide (c ≤ 64)) || (decide (91 ≤ c) && decide (c ≤ 96)) || (decide (123 ≤ c) && decide (c ≤ 126))

/-- byte number i of a text, as a number -/
def byteAt (l : List UInt8) (i : Nat) : Int := ((l.getD i 0).toNat : Int)

theorem byteAt_lo (l : List UInt8) (i : Nat) : 0 ≤ byteAt l i := by unfold byteAt; omega
theorem byteAt_hi (l : List UInt8) (i : Nat) : byteAt l i ≤ 255 := by
  unfold byteAt; have := (l.getD i 0).toNat_lt; omega

/-- all bytes from place i on and ahead of place k are of a kind -/
def AllFrom (p : Int → Bool) (l : List UInt8) (i k : Nat) : Prop := ∀ j, i ≤ j → j < k → p (byteAt l j) = true

theorem AllFrom.start (p : Int → Bool) (l : List UInt8) (i : Nat) : AllFrom p l i i := fun j h1 h2 => by omega
theorem AllFrom.snoc {p : Int → Bool} {l : List UInt8} {i k : Nat} (h : AllFrom p l i k) (hk : p (byteAt l k) = true) : AllFrom p l i (k + 1) := fun j h1 h2 => by
  by_cases e : j = k
  · rw [e]; exact hk
  · exact h j h1 (by omega)

/-- from place i on: where the run of bytes of a kind ends -/
def runEnd (p : Int → Bool) : Nat → List UInt8 → Nat → Nat
  | 0, _, i => i
  | f + 1, l, i => if i < l.length then (if p (byteAt l i) = true then runEnd p f l (i + 1) else i) else i

theorem runEnd_eq {p : Int → Bool} {l : List UInt8} {k : Nat} : ∀ (f i : Nat), i ≤ k → k ≤ l.length → k - i ≤ f → AllFrom p l i k → (k < l.length → p (byteAt l k) = false) → runEnd p f l i = k
  | 0, i, h1, _, hf, _, _ => by unfold runEnd; omega
  | f + 1, i, h1, h2, hf, ha, hz => by
    unfold runEnd
    by_cases e : i = k
    · by_cases hl : i < l.length
      · rw [if_pos hl, if_neg (by rw [e, hz (by omega)]; simp)]; exact e
      · rw [if_neg hl]; exact e
    · rw [if_pos (by omega), if_pos (ha i (Nat.le_refl _) (by omega))]
      exact runEnd_eq f (i + 1) (by omega) h2 (by omega) (fun j a b => ha j (by omega) b) hz

theorem runEnd_ge_from {p : Int → Bool} {l : List UInt8} {k : Nat} : ∀ (f i : Nat), i ≤ k → k ≤ l.length → l.length ≤ i + f → AllFrom p l i k → k ≤ runEnd p f l i
  | 0, i, h1, h2, hf, _ => by unfold runEnd; omega
  | f + 1, i, h1, h2, hf, ha => by
    unfold runEnd
    by_cases e : i = k
    · by_cases hl : i < l.length
      · rw [if_pos hl]
        split
        · have := runEnd_ge_from (k := i + 1) f (i + 1) (Nat.le_refl _) hl (by omega) (AllFrom.start p l (i + 1))
          omega
        · omega
      · rw [if_neg hl]; omega
    · rw [if_pos (by omega), if_pos (ha i (Nat.le_refl _) (by omega))]
      exact runEnd_ge_from f (i + 1) (by omega) h2 (by omega) (fun j a b => ha j (by omega) b)

/-- where the signs of a scheme end with which a text begins -/
def schemeEnd (l : List UInt8) : Nat := runEnd schB l.length l 0

theorem runEnd_ge {l : List UInt8} {k : Nat} (h : AllFrom schB l 0 k) (hk : k ≤ l.length) : k ≤ schemeEnd l :=
  runEnd_ge_from l.length 0 (Nat.zero_le _) hk (by omega) h

/-- THE ANSWER: where what seems a URL ends; -1: the text does not begin so (for texts whose scheme is not longer than 32) -/
def urlEnd (l : List UInt8) : Int :=
  if l.length = 0 ∨ letB (byteAt l 0) = false then -1
  else if schemeEnd l = 1 ∨ schemeEnd l ≥ l.length ∨ byteAt l (schemeEnd l) ≠ 58 then -1
  else (runEnd tailB l.length l (schemeEnd l + 1) : Int)

theorem urlEnd_none {l : List UInt8} (h : l.length = 0 ∨ letB (byteAt l 0) = false) : urlEnd l = -1 := by
  unfold urlEnd; rw [if_pos h]

theorem urlEnd_bad {l : List UInt8} {k : Nat} (h0 : 0 < l.length) (hl : letB (byteAt l 0) = true) (hk : schemeEnd l = k) (h : k = 1 ∨ l.length ≤ k ∨ byteAt l k ≠ 58) : urlEnd l = -1 := by
  unfold urlEnd
  rw [hk, if_neg (by rintro (a | a) <;> first | omega | (rw [hl] at a; cases a)), if_pos h]

theorem urlEnd_good {l : List UInt8} {k : Nat} (h0 : 0 < l.length) (hl : letB (byteAt l 0) = true) (hk : schemeEnd l = k) (h1 : k ≠ 1) (h2 : k < l.length) (h3 : byteAt l k = 58) : urlEnd l = (runEnd tailB l.length l (k + 1) : Nat) := by
  unfold urlEnd
  rw [hk, if_neg (by rintro (a | a) <;> first | omega | (rw [hl] at a; cases a)), if_neg (by rintro (a | a | a); exact h1 a; exact absurd h2 (by omega); exact a h3)]

end Go.Proofs.YtkcggbjpkjmclaaDoor

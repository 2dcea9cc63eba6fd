/-
  The walk of util.FindURLIndex, for texts whose scheme is not longer than 32: it answers 'urlEnd', as spec.URL does.
-/
import Derived.Test.YtkcggbjpkjmclaaDoorScheme
namespace Go.Proofs.YtkcggbjpkjmclaaDoor
open Go.RowKit

/-- the numbers of a listed table -/
def numsOf : DataW Unit → List Int
  | .agg ps => ps.map fun
    | .lit (.int _ z) => z
    | _ => 0
  | _ => []

/-- the numbers of the table urlTable, as the given row lists them -/
def urlTab : List Int := numsOf Rows.laid_margravel_pub_goldmark_util_urlTable

/-- what the table holds for a byte -/
def urlT (c : Int) : Int := urlTab.getD c.toNat 0

theorem urlT_all : ∀ c : Fin 256, (bits BinOp.and IntKind.u8 (urlT (c.val : Int)) 7 == 7) = letB (c.val : Int) ∧ (bits BinOp.and IntKind.u8 (urlT (c.val : Int)) 4 == 4) = schB (c.val : Int) ∧ (bits BinOp.and IntKind.u8 (urlT (c.val : Int)) 1 == 1) = tailB (c.val : Int) := by decide +kernel

theorem urlT_at (c : Int) (h0 : 0 ≤ c) (h1 : c ≤ 255) : (bits BinOp.and IntKind.u8 (urlT c) 7 == 7) = letB c ∧ (bits BinOp.and IntKind.u8 (urlT c) 4 == 4) = schB c ∧ (bits BinOp.and IntKind.u8 (urlT c) 1 == 1) = tailB c := by
  have h := urlT_all ⟨c.toNat, by omega⟩
  have e : ((c.toNat : Nat) : Int) = c := by omega
  rw [e] at h
  exact h

/-- block b holds the bytes of a text -/
def BytesAt (w : World) (b : Nat) (l : List UInt8) : Prop := ∀ i, i < l.length → w.cell? ⟨b, i, none⟩ = some (.int .u8 (byteAt l i))
/-- block g holds the table -/
def UrlTabAt (w : World) : Prop := ∀ c : Int, 0 ≤ c → c ≤ 255 → w.cell? ⟨0, c.toNat, none⟩ = some (.int .u8 (urlT c))

set_option maxHeartbeats 400000 in
theorem find_none (b n cap : Nat) (w : World) (h0 : n = 0) :
    Calls Tryd.prog 13 #[.slice (some ⟨b, 0, none⟩) n cap] w fun e w' => e = .returned (.int .i64 (-1)) ∧ w = w' := by
  subst h0
  go_enter Tryd.func13, Tryd.ntmps13
  go_wp2
  go_ret
  exact ⟨rfl, rfl⟩

set_option maxHeartbeats 400000 in
theorem find_noLetter (l : List UInt8) (b n cap : Nat) (w : World) (hn : l.length = n) (h0 : 0 < n) (hs : n ≤ maxLen) (hc : BytesAt w b l) (hT : UrlTabAt w) (hl : letB (byteAt l 0) = false) :
    Calls Tryd.prog 13 #[.slice (some ⟨b, 0, none⟩) n cap] w fun e w' => e = .returned (.int .i64 (-1)) ∧ w = w' := by
  unfold maxLen at hs
  have hlo := byteAt_lo l 0
  have hhi := byteAt_hi l 0
  have hc0 := hc 0 (by omega)
  have ht0 := hT (byteAt l 0) hlo hhi
  have hb := (urlT_at _ hlo hhi).1
  rw [hl] at hb
  clear hn hl hc hT
  go_enter Tryd.func13, Tryd.ntmps13
  go_wp2
  go_ret
  exact ⟨rfl, rfl⟩

set_option maxHeartbeats 4000000 in
theorem find_letter (l : List UInt8) (b n cap : Nat) (w : World) (hn : l.length = n) (h0 : 0 < n) (hs : n ≤ maxLen) (hc : BytesAt w b l) (hT : UrlTabAt w) (hl : letB (byteAt l 0) = true) (h32 : schemeEnd l ≤ 32) :
    Calls Tryd.prog 13 #[.slice (some ⟨b, 0, none⟩) n cap] w fun e w' => e = .returned (.int .i64 (urlEnd l)) ∧ w = w' := by
  unfold maxLen at hs
  have hlo := byteAt_lo l 0
  have hhi := byteAt_hi l 0
  have hc0 := hc 0 (by omega)
  have ht0 := hT (byteAt l 0) hlo hhi
  have hb := (urlT_at _ hlo hhi).1
  rw [hl] at hb
  have hsch0 : AllFrom schB l 0 1 := (AllFrom.start schB l 0).snoc (by unfold schB; rw [hl]; simp)
  have HL0 := Lib.hid hl
  have HLEN := Lib.hid hn
  clear hn hl
  go_enter Tryd.func13, Tryd.ntmps13
  go_wp2
  clear hc0 ht0 hb hlo hhi
  go_loop [3] (fun i => ∃ k : Nat, k ≤ n ∧ 1 ≤ k ∧ i = .int .i64 k ∧ AllFrom schB l 0 k) (fun i => n - (intOf i).toNat)
  case atStart => exact ⟨1, by omega, Nat.le_refl _, rfl, hsch0⟩
  case round =>
    obtain ⟨k, hk, hk1, rfl, ha⟩ := hrel
    clear hsch0
    have hge : k ≤ schemeEnd l := runEnd_ge ha (by rw [HLEN.out]; exact hk)
    by_cases hlt : k < n
    · have hlo := byteAt_lo l k
      have hhi := byteAt_hi l k
      have hck := hc k (by rw [HLEN.out]; exact hlt)
      have htk := hT (byteAt l k) hlo hhi
      have hb4 := (urlT_at _ hlo hhi).2.1
      cases hsch : schB (byteAt l k)
      · have hno : schemeEnd l = k := runEnd_eq _ 0 (by omega) (by rw [HLEN.out]; exact hk) (by rw [HLEN.out]; omega) ha (fun _ => hsch)
        have Hno := Lib.hid hno
        have hl0 := HL0.out
        have h32k : k ≤ 32 := by omega
        rw [hsch] at hb4
        have hb4' : (bits BinOp.and IntKind.u8 (urlT (byteAt l k)) 4 != 4) = true := by simp only [bne, hb4]; rfl
        clear hno ha hge hsch
        by_cases e1 : k = 1
        · have hu : urlEnd l = -1 := urlEnd_bad (by rw [HLEN.out]; omega) hl0 Hno.out (Or.inl e1)
          have Hu := Lib.hid hu
          have e2 : ((k : Int) == 1) = true := beq_iff_eq.2 (by omega)
          clear e1 hu hl0
          go_wp2
          go_ret
          exact ⟨ret_int (by rw [Hu.out]), rfl⟩
        · have e2 : ((k : Int) == 1) = false := beq_eq_false_iff_ne.2 (by omega)
          cases h58 : (byteAt l k != 58)
          · have h58' : byteAt l k = 58 := by simpa using h58
            have hu : urlEnd l = (runEnd tailB l.length l (k + 1) : Nat) := urlEnd_good (by rw [HLEN.out]; omega) hl0 Hno.out e1 (by rw [HLEN.out]; exact hlt) h58'
            have Hu := Lib.hid hu
            clear hu h58' e1 hl0
            go_wp2
            clear hlo hhi hck htk hb4 hb4' e2 h58
            go_loop [3] (fun i => ∃ m : Nat, m ≤ n ∧ k + 1 ≤ m ∧ i = .int .i64 m ∧ AllFrom tailB l (k + 1) m) (fun i => n - (intOf i).toNat)
            case atStart => exact ⟨k + 1, by omega, Nat.le_refl _, by go_num, AllFrom.start _ _ _⟩
            case round =>
              obtain ⟨m, hm, hkm, rfl, hta⟩ := hrel
              by_cases hmt : m < n
              · have hlo := byteAt_lo l m
                have hhi := byteAt_hi l m
                have hcm := hc m (by rw [HLEN.out]; exact hmt)
                have htm := hT (byteAt l m) hlo hhi
                have hb1 := (urlT_at _ hlo hhi).2.2
                cases htl : tailB (byteAt l m)
                · have hend : runEnd tailB l.length l (k + 1) = m := runEnd_eq _ _ hkm (by rw [HLEN.out]; exact hm) (by rw [HLEN.out]; omega) hta (fun _ => htl)
                  have Hend := Lib.hid hend
                  rw [htl] at hb1
                  have hb1' : (bits BinOp.and IntKind.u8 (urlT (byteAt l m)) 1 != 1) = true := by simp only [bne, hb1]; rfl
                  clear hend hta htl
                  go_wp2
                  go_ret
                  exact ⟨ret_int (by rw [Hu.out, Hend.out]), rfl⟩
                · have hta' := hta.snoc htl
                  rw [htl] at hb1
                  have hb1' : (bits BinOp.and IntKind.u8 (urlT (byteAt l m)) 1 != 1) = false := by simp only [bne, hb1]; rfl
                  clear hta htl
                  go_wp2
                  go_round
                  case rel => exact ⟨m + 1, by omega, by omega, by go_num, hta'⟩
                  case measure => simp [intOf]; omega
              · have hend : runEnd tailB l.length l (k + 1) = m := runEnd_eq _ _ hkm (by rw [HLEN.out]; exact hm) (by rw [HLEN.out]; omega) hta (fun h => absurd (by rw [HLEN.out] at h; exact h) hmt)
                have Hend := Lib.hid hend
                clear hend hta
                go_wp2
                go_ret
                exact ⟨ret_int (by rw [Hu.out, Hend.out]), rfl⟩
          · have h58' : byteAt l k ≠ 58 := by simpa using h58
            have hu : urlEnd l = -1 := urlEnd_bad (by rw [HLEN.out]; omega) hl0 Hno.out (Or.inr (Or.inr h58'))
            have Hu := Lib.hid hu
            clear hu h58' e1 hl0
            go_wp2
            go_ret
            exact ⟨ret_int (by rw [Hu.out]), rfl⟩
      · have ha' := ha.snoc hsch
        rw [hsch] at hb4
        have hb4' : (bits BinOp.and IntKind.u8 (urlT (byteAt l k)) 4 != 4) = false := by simp only [bne, hb4]; rfl
        clear ha hsch hge
        go_wp2
        go_round
        case rel => exact ⟨k + 1, by omega, by omega, by go_num, ha'⟩
        case measure => simp [intOf]; omega
    · have hno : schemeEnd l = k := runEnd_eq _ 0 (by omega) (by rw [HLEN.out]; exact hk) (by rw [HLEN.out]; omega) ha (fun h => absurd (by rw [HLEN.out] at h; exact h) hlt)
      have hu : urlEnd l = -1 := urlEnd_bad (by rw [HLEN.out]; omega) HL0.out hno (Or.inr (Or.inl (by rw [HLEN.out]; omega)))
      have Hu := Lib.hid hu
      have h32k : k ≤ 32 := by omega
      clear hno ha hu hge
      by_cases e1 : k = 1
      · have e2 : ((k : Int) == 1) = true := beq_iff_eq.2 (by omega)
        clear e1
        go_wp2
        go_ret
        exact ⟨ret_int (by rw [Hu.out]), rfl⟩
      · have e2 : ((k : Int) == 1) = false := beq_eq_false_iff_ne.2 (by omega)
        clear e1
        go_wp2
        go_ret
        exact ⟨ret_int (by rw [Hu.out]), rfl⟩

theorem find_any (l : List UInt8) (b n cap : Nat) (w : World) (hn : l.length = n) (hs : n ≤ maxLen) (hc : BytesAt w b l) (hT : UrlTabAt w) (h32 : schemeEnd l ≤ 32) :
    Calls Tryd.prog 13 #[.slice (some ⟨b, 0, none⟩) n cap] w fun e w' => e = .returned (.int .i64 (urlEnd l)) ∧ w = w' := by
  by_cases h0 : 0 < n
  · cases hl : letB (byteAt l 0)
    · rw [urlEnd_none (Or.inr hl)]
      exact find_noLetter l b n cap w hn h0 hs hc hT hl
    · exact find_letter l b n cap w hn h0 hs hc hT hl h32
  · rw [urlEnd_none (Or.inl (by omega))]
    exact find_none b n cap w (by omega)

end Go.Proofs.YtkcggbjpkjmclaaDoor

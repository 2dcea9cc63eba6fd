/-
  The walks of CopyOnWriteBuffer's methods Write, WriteByte, IsCopied and Bytes: what they do to the buffer's block.
-/
import Derived.Test.YtkcggbjpkjmclaaDoorSmall
import Derived.OneCell
namespace Go.Proofs.YtkcggbjpkjmclaaDoor
open Go.RowKit

theorem Tryd.info5 : (Tryd.prog.info? 5).map (fun i => (i.zero, i.size, i.bytes)) = some (some (.int .u8 0), 1, 1) := by kernel_rfl

/-- a fact that no tactic of the walk looks into -/
structure Kept (p : Prop) : Prop where
  out : p

/-- block C is a buffer: the slice v, and whether it is a copy -/
def CobIs (w : World) (C : Nat) (v : Value) (cp : Bool) : Prop := w.heap[C]? = some (.cells #[v, .bool cp] 31 (0, 0))

/-- the cells of a text's bytes -/
def byteVals (k : List UInt8) : List Value := k.map fun b => .int .u8 (b.toNat : Int)

theorem byteVals_length (k : List UInt8) : (byteVals k).length = k.length := by simp [byteVals]
theorem byteVals_one (k : List UInt8) : ∀ u ∈ byteVals k, u.oneCell' = true := by
  intro u hu
  obtain ⟨b, _, rfl⟩ := List.mem_map.1 hu
  rfl
theorem byteVals_append (k m : List UInt8) : byteVals (k ++ m) = byteVals k ++ byteVals m := by simp [byteVals]

/-- a slice of the call's own memory that holds a text's bytes -/
def OwnsText (w : World) (C : Nat) (v : Value) (k : List UInt8) : Prop := w.ownsRow (C + 1) 5 1 v k.length (byteVals k) ∧ v ≠ .slice none 0 0

/-- what Write and WriteByte leave: a copy that holds the text k; below block C nothing turned -/
def Wrote (w : World) (C : Nat) (k : List UInt8) (w' : World) : Prop := ∃ v', CobIs w' C v' true ∧ OwnsText w' C v' k ∧ Below C w w'

theorem CobIs.lt {w : World} {C : Nat} {v : Value} {cp : Bool} (h : CobIs w C v cp) : C < w.heap.size := lt_of_block h
theorem CobIs.cell0 {w : World} {C : Nat} {v : Value} {cp : Bool} (h : CobIs w C v cp) : w.cell? ⟨C, 0, none⟩ = some v := by unfold CobIs at h; simp [World.cell?, h]
theorem CobIs.cell1 {w : World} {C : Nat} {v : Value} {cp : Bool} (h : CobIs w C v cp) : w.cell? ⟨C, 1, none⟩ = some (.bool cp) := by unfold CobIs at h; simp [World.cell?, h]
theorem CobIs.free0 {w : World} {C : Nat} {v : Value} {cp : Bool} (h : CobIs w C v cp) : w.frozen? ⟨C, 0, none⟩ = false := by unfold CobIs at h; simp [World.frozen?, h]
theorem CobIs.free1 {w : World} {C : Nat} {v : Value} {cp : Bool} (h : CobIs w C v cp) : w.frozen? ⟨C, 1, none⟩ = false := by unfold CobIs at h; simp [World.frozen?, h]
theorem CobIs.set0 {w : World} {C : Nat} {v u : Value} {cp : Bool} (h : CobIs w C v cp) : CobIs (w.setCell ⟨C, 0, none⟩ u) C u cp := by
  have hlt := h.lt
  unfold CobIs at h ⊢
  have h' : w.heap[C] = .cells #[v, .bool cp] 31 (0, 0) := by simpa [Array.getElem?_eq_getElem hlt] using h
  show (w.heap.modify C _)[C]? = _
  rw [Array.getElem?_eq_getElem (by simpa using hlt), Array.getElem_modify_self, h']
  rfl
theorem CobIs.set1 {w : World} {C : Nat} {v : Value} {cp cq : Bool} (h : CobIs w C v cp) : CobIs (w.setCell ⟨C, 1, none⟩ (.bool cq)) C v cq := by
  have hlt := h.lt
  unfold CobIs at h ⊢
  have h' : w.heap[C] = .cells #[v, .bool cp] 31 (0, 0) := by simpa [Array.getElem?_eq_getElem hlt] using h
  show (w.heap.modify C _)[C]? = _
  rw [Array.getElem?_eq_getElem (by simpa using hlt), Array.getElem_modify_self, h']
  rfl
theorem CobIs.grown {w w' : World} {row : Option Nat} {C : Nat} {v : Value} {cp : Bool} (h : CobIs w C v cp) (hg : w.grownBy w' row) (hne : some C ≠ row) : CobIs w' C v cp := (hg.block C h.lt hne).trans h
theorem CobIs.drewN {w : World} {C : Nat} {v : Value} {cp : Bool} (h : CobIs w C v cp) (n : Nat) : CobIs (w.drewN n) C v cp := h
theorem CobIs.alloc {w : World} {C : Nat} {v : Value} {cp : Bool} (h : CobIs w C v cp) (o : Obj) : CobIs (w.alloc o) C v cp := (Below.heap_alloc w o C h.lt).trans h

/-- the world behind 'b.buffer = make(..); b.copied = true' -/
abbrev madeW (w1 : World) (C : Nat) (x : Value) : World := (w1.setCell ⟨C, 0, none⟩ x).setCell ⟨C, 1, none⟩ (.bool true)

theorem news_later {w w1 : World} {C b off : Nat} {news : List Value} {x : Value} (hg1 : w.grownBy w1 none) (hbC : b < C) (hn : ∀ j u, news[j]? = some u → w.cell? ⟨b, off + j, none⟩ = some u) :
    ∀ j u, news[j]? = some u → (madeW w1 C x).cell? ((⟨b, off, none⟩ : Addr).add j) = some u := by
  intro j u hj
  have h := hg1.cell (hn j u hj) (by simp)
  have e : (⟨b, off, none⟩ : Addr).add j = ⟨b, off + j, none⟩ := by unfold Addr.add; split <;> simp_all
  rw [e, World.cell?_of_block (w := w1)]
  · exact h
  · show (World.setCell _ _ _).heap[b]? = _
    rw [Below.heap_setCell _ _ _ _ (by show b ≠ C; omega), Below.heap_setCell _ _ _ _ (by show b ≠ C; omega)]

theorem own_block_ne {w : World} {C n : Nat} {v : Value} {xs : List Value} (h : w.ownsRow (C + 1) 5 1 v n xs) : v.ownBlock ≠ some C := by
  intro e
  have := (h.lt C e).1
  omega

/-- behind an append onto what is owned: the buffer's block is as it was -/
theorem cob_behind {W w2 : World} {C n : Nat} {x v : Value} {xs : List Value} (hc : CobIs W C x true) (hown : W.ownsRow (C + 1) 5 1 v n xs) (hg : W.grownBy w2 v.ownBlock) : CobIs w2 C x true :=
  hc.grown hg (fun e => own_block_ne hown e.symm)

/-- the last store: the buffer holds the slice that append handed back -/
theorem wrote_store {W w2 : World} {C n : Nat} {x v v' : Value} {xs : List Value} {k : List UInt8} (hc : CobIs W C x true) (hown : W.ownsRow (C + 1) 5 1 v n xs) (hg : W.grownBy w2 v.ownBlock)
    (hown' : w2.ownsRow (C + 1) 5 1 v' k.length (byteVals k)) (hnn : v' ≠ .slice none 0 0) {w : World} (hb : Below C w W) : Wrote w C k (w2.setCell ⟨C, 0, none⟩ v') := by
  refine ⟨v', (cob_behind hc hown hg).set0, ⟨ownsRow_setCell_below hown' (by show C < C + 1; omega) _, hnn⟩, ?_⟩
  have hCs : C ≤ W.heap.size := Nat.le_of_lt hc.lt
  exact (hb.grown hg hCs (fun k hk => by have := (hown.lt k hk).1; omega)).setCell (Nat.le_refl _) _

theorem own_shape {w : World} {base n : Nat} {v : Value} {xs : List Value} (h : w.ownsRow base 5 1 v n xs) (hnn : v ≠ .slice none 0 0) : ∃ g cap, v = .slice (some ⟨g, 0, none⟩) n cap := by
  rcases h.2 with h2 | ⟨g, cap, cur, hv, _⟩
  · exact absurd h2.1 hnn
  · exact ⟨g, cap, hv⟩

theorem made_below {w w1 : World} {C : Nat} {x v : Value} {cp : Bool} (hc : CobIs w C v cp) (hg1 : w.grownBy w1 none) : Below C w (madeW w1 C x) :=
  (((Below.refl C w).grown hg1 (Nat.le_of_lt hc.lt) (fun k hk => by cases hk)).setCell (Nat.le_refl _) _).setCell (Nat.le_refl _) _

/-- all that the walk of write_fresh wants behind its append -/
theorem wrote_fresh {w w1 w2 : World} {C m L cap : Nat} {A : Option Addr} {k : List UInt8} {v' : Value} (hc : CobIs w C (.slice A L cap) false) (hg1 : w.grownBy w1 none)
    (hown1 : w1.ownsRow (C + 1) 5 1 (.slice (some ⟨w.heap.size, 0, none⟩) 0 (L + 20)) 0 [])
    (hg2 : (madeW w1 C (.slice (some ⟨w.heap.size, 0, none⟩) 0 (L + 20))).grownBy w2 (Value.ownBlock (.slice (some ⟨w.heap.size, 0, none⟩) 0 (L + 20))))
    (hown2 : w2.ownsRow (C + 1) 5 1 v' m (byteVals k)) (hk : Hid (k.length = m)) (hnil : v' = .slice none 0 0 ↔ Value.slice (some ⟨w.heap.size, 0, none⟩) 0 (L + 20) = .slice none 0 0 ∧ m = 0) :
    CobIs w2 C (.slice (some ⟨w.heap.size, 0, none⟩) 0 (L + 20)) true ∧ (∃ g c2, v' = .slice (some ⟨g, 0, none⟩) m c2) ∧ Wrote w C k (w2.setCell ⟨C, 0, none⟩ v') := by
  have hc1 := hc.grown hg1 (by simp)
  have hW : CobIs (madeW w1 C (.slice (some ⟨w.heap.size, 0, none⟩) 0 (L + 20))) C (.slice (some ⟨w.heap.size, 0, none⟩) 0 (L + 20)) true := hc1.set0.set1
  have hownW := ownsRow_setCell_below (ownsRow_setCell_below (a := ⟨C, 0, none⟩) hown1 (show C < C + 1 by omega) (.slice (some ⟨w.heap.size, 0, none⟩) 0 (L + 20))) (a := ⟨C, 1, none⟩) (show C < C + 1 by omega) (.bool true)
  have hnn : v' ≠ .slice none 0 0 := fun e => by have := (hnil.1 e).1; cases this
  have e := hk.out
  refine ⟨cob_behind hW hownW hg2, own_shape hown2 hnn, ?_⟩
  exact wrote_store hW hownW hg2 (by rw [e]; exact hown2) hnn (made_below hc hg1)

set_option maxHeartbeats 400000 in
/-- Write onto a buffer that is no copy yet: it drops what was there, and holds the bytes that are written. -/
theorem write_fresh (C b off m cp L cap : Nat) (A : Option Addr) (k : List UInt8) (w : World) (hL : L ≤ 4294967296) (hm : m ≤ 4294967296) (hk : Hid (k.length = m)) (hbC : b < C)
    (hc : CobIs w C (.slice A L cap) false) (hn : ∀ j u, (byteVals k)[j]? = some u → w.cell? ⟨b, off + j, none⟩ = some u) :
    Calls Tryd.prog 18 #[.pointer (some ⟨C, 0, none⟩), .slice (some ⟨b, off, none⟩) m cp] w fun e w' => e = .returned (.tuple #[]) ∧ Wrote w C k w' := by
  obtain ⟨i0, hi, hz0, hz1, hz2⟩ := info_parts Tryd.info5
  have hCw := hc.lt
  have h0 := hc.cell0
  have h1 := hc.cell1
  have f0 := hc.free0
  have f1 := hc.free1
  have HN := Lib.hid hn
  clear hn
  go_enter Tryd.func18, Tryd.ntmps18
  go_wp2_with (first
    | (at_make; refine wpList_make_own _ rfl _ _ 27 rfl (C + 1) 5 i0 (.int .u8 0) 1 Tryd.underlying27 hi hz0 hz1 _ _ _ (L + 20) rfl rfl (by omega) (by rw [hz2]; omega) (by unfold maxLen; omega) (by omega) ?_; intro w1 hown1 hg1; have HC1 := Lib.hid (hc.grown hg1 (by simp)); have c0 := HC1.out.cell0; have c1 := HC1.out.cell1; have g0 := HC1.out.free0; have g1 := HC1.out.free1)
    | (at_builtin; refine wpList_append_own _ rfl (.tmp 26) (.tmp 27) 27 rfl (C + 1) 5 i0 (.int .u8 0) 1 1 Tryd.underlying27 hi hz0 hz1 hz2 rfl (by decide) (.slice (some ⟨w.heap.size, 0, none⟩) 0 (L + 20)) 0 [] rfl (ownsRow_setCell_below (ownsRow_setCell_below hown1 (show C < C + 1 by omega) _) (show C < C + 1 by omega) _) ⟨b, off, none⟩ m cp (byteVals k) rfl (by rw [byteVals_length, hk.out]; omega) (news_later hg1 hbC HN.out) (byteVals_one k) (by unfold maxLen; omega) (by omega) (by have := HC1.out.lt; simp; omega) ?_; intro v' w2 hown2 hg2 hnil; clear c0 c1 g0 g1; rw [Nat.zero_add, List.nil_append] at hown2; have HW := Lib.hid (wrote_fresh hc hg1 hown1 hg2 hown2 hk hnil); have c0 := HW.out.1.cell0; have g0 := HW.out.1.free0; obtain ⟨g, c2, hv⟩ := HW.out.2.1; clear hnil hown2 hg2 hown1 hg1; rw [hv]; have HV := Lib.hid hv; clear hv))
  go_end0
  refine ⟨rfl, ?_⟩
  have h3 := HW.out.2.2
  rw [HV.out] at h3
  exact h3

/-- all that the walks of write_more and write_byte want behind their append: the world ahead of it is W -/
theorem wrote_more {w W w2 : World} {C n m : Nat} {v v' : Value} {xs : List Value} {k : List UInt8} (hcW : CobIs W C v true) (hownW : W.ownsRow (C + 1) 5 1 v n xs) (hv : v ≠ .slice none 0 0) (hb : Below C w W)
    (hg2 : W.grownBy w2 v.ownBlock) (hk : k.length = n + m) (hown2 : w2.ownsRow (C + 1) 5 1 v' (n + m) (byteVals k)) (hnil : v' = .slice none 0 0 ↔ v = .slice none 0 0 ∧ m = 0) :
    CobIs w2 C v true ∧ (∃ g c2, v' = .slice (some ⟨g, 0, none⟩) (n + m) c2) ∧ Wrote w C k (w2.setCell ⟨C, 0, none⟩ v') := by
  have hnn : v' ≠ .slice none 0 0 := fun e => hv (hnil.1 e).1
  have e := hk
  exact ⟨cob_behind hcW hownW hg2, own_shape hown2 hnn, wrote_store hcW hownW hg2 (by rw [e]; exact hown2) hnn hb⟩

set_option maxHeartbeats 400000 in
/-- Write onto a buffer that is a copy: the bytes are added. -/
theorem write_more (C b off m cp n : Nat) (v : Value) (k0 k : List UInt8) (w : World) (hn0 : n ≤ 8589934592) (hm : m ≤ 4294967296) (hk0 : Hid (k0.length = n)) (hk : Hid (k.length = m))
    (hc : CobIs w C v true) (ho : OwnsText w C v k0) (hn : ∀ j u, (byteVals k)[j]? = some u → w.cell? ⟨b, off + j, none⟩ = some u) :
    Calls Tryd.prog 18 #[.pointer (some ⟨C, 0, none⟩), .slice (some ⟨b, off, none⟩) m cp] w fun e w' => e = .returned (.tuple #[]) ∧ Wrote w C (k0 ++ k) w' := by
  obtain ⟨i0, hi, hz0, hz1, hz2⟩ := info_parts Tryd.info5
  obtain ⟨hown, hnn⟩ := ho
  rw [hk0.out] at hown
  obtain ⟨g0, cap0, rfl⟩ := own_shape hown hnn
  have HKK : Kept ((k0 ++ k).length = n + m) := ⟨by rw [List.length_append, hk0.out, hk.out]⟩
  have HN : Kept (∀ j u, (byteVals k)[j]? = some u → w.cell? ((⟨b, off, none⟩ : Addr).add j) = some u) := ⟨fun j u hj => by
    have e : (⟨b, off, none⟩ : Addr).add j = ⟨b, off + j, none⟩ := by unfold Addr.add; split <;> simp_all
    rw [e]; exact hn j u hj⟩
  have HC : Kept (CobIs w C (.slice (some ⟨g0, 0, none⟩) n cap0) true) := ⟨hc⟩
  have h0 := hc.cell0
  have h1 := hc.cell1
  have f0 := hc.free0
  have HNN : Kept ((.slice (some ⟨g0, 0, none⟩) n cap0 : Value) ≠ .slice none 0 0) := ⟨hnn⟩
  clear hn hc hnn
  go_enter Tryd.func18, Tryd.ntmps18
  go_wp2_with (at_builtin; refine wpList_append_own _ rfl (.tmp 26) (.tmp 27) 27 rfl (C + 1) 5 i0 (.int .u8 0) 1 1 Tryd.underlying27 hi hz0 hz1 hz2 rfl (by decide) (.slice (some ⟨g0, 0, none⟩) n cap0) n (byteVals k0) rfl hown ⟨b, off, none⟩ m cp (byteVals k) rfl (by rw [byteVals_length, hk.out]; omega) HN.out (byteVals_one k) (by unfold maxLen; omega) (by omega) (by have := HC.out.lt; omega) ?_; intro v' w2 hown2 hg2 hnil; rw [← byteVals_append] at hown2; have HW : Kept _ := ⟨wrote_more HC.out hown HNN.out (Below.refl C w) hg2 HKK.out hown2 hnil⟩; have c0 := HW.out.1.cell0; have g1 := HW.out.1.free0; obtain ⟨g, c2, hv⟩ := HW.out.2.1; clear hnil hown2 hg2; rw [hv]; have HV : Kept _ := ⟨hv⟩; clear hv)
  go_end0
  refine ⟨rfl, ?_⟩
  have h3 := HW.out.2.2
  rw [HV.out] at h3
  exact h3

theorem one_new (w : World) (c : Int) : ∀ j u, [Value.int .u8 c][j]? = some u → (w.alloc (.cells #[.int .u8 c] 5)).cell? ((⟨w.heap.size, 0, none⟩ : Addr).add j) = some u := by
  intro j u hj
  match j, hj with
  | 0, hj => simp at hj; subst hj; simp [Addr.add]
theorem one_cell (c : Int) : ∀ u ∈ [Value.int .u8 c], u.oneCell' = true := by
  intro u hu
  simp at hu
  subst hu
  rfl

set_option maxHeartbeats 400000 in
/-- WriteByte onto a buffer that is a copy: the byte is added. -/
theorem write_byte (C n : Nat) (c : Int) (d : UInt8) (v : Value) (k0 : List UInt8) (w : World) (hn0 : n ≤ 8589934592) (hd : Kept ((d.toNat : Int) = c)) (hk0 : Hid (k0.length = n))
    (hc : CobIs w C v true) (ho : OwnsText w C v k0) :
    Calls Tryd.prog 19 #[.pointer (some ⟨C, 0, none⟩), .int .u8 c] w fun e w' => e = .returned .nilIface ∧ Wrote w C (k0 ++ [d]) w' := by
  obtain ⟨i0, hi, hz0, hz1, hz2⟩ := info_parts Tryd.info5
  obtain ⟨hown, hnn⟩ := ho
  rw [hk0.out] at hown
  obtain ⟨g0, cap0, rfl⟩ := own_shape hown hnn
  have HKK : Kept ((k0 ++ [d]).length = n + 1) := ⟨by rw [List.length_append, hk0.out]; rfl⟩
  have HC : Kept (CobIs w C (.slice (some ⟨g0, 0, none⟩) n cap0) true) := ⟨hc⟩
  have HB : Kept (byteVals k0 ++ [.int .u8 c] = byteVals (k0 ++ [d])) := ⟨by rw [byteVals_append, ← hd.out]; rfl⟩
  have hlt := hc.lt
  have h0 := hc.cell0
  have h1 := hc.cell1
  have f0 := hc.free0
  have HNN : Kept ((.slice (some ⟨g0, 0, none⟩) n cap0 : Value) ≠ .slice none 0 0) := ⟨hnn⟩
  clear hc hnn
  go_enter Tryd.func19, Tryd.ntmps19
  go_wp2_with (at_builtin; refine wpList_append_own _ rfl (.tmp 27) (.tmp 29) 27 rfl (C + 1) 5 i0 (.int .u8 0) 1 1 Tryd.underlying27 hi hz0 hz1 hz2 rfl (by decide) (.slice (some ⟨g0, 0, none⟩) n cap0) n (byteVals k0) rfl (hown.alloc _) ⟨w.heap.size, 0, none⟩ 1 1 [.int .u8 c] rfl rfl (one_new w c) (one_cell c) (by unfold maxLen; omega) (by omega) (by simp; omega) ?_; intro v' w2 hown2 hg2 hnil; rw [HB.out] at hown2; have HW : Kept _ := ⟨wrote_more (HC.out.alloc _) (hown.alloc _) HNN.out ((Below.refl C w).alloc (Nat.le_of_lt hlt) _) hg2 HKK.out hown2 hnil⟩; have c0 := HW.out.1.cell0; have g1 := HW.out.1.free0; obtain ⟨g, c2, hv⟩ := HW.out.2.1; clear hnil hown2 hg2; rw [hv]; have HV : Kept _ := ⟨hv⟩; clear hv)
  go_ret
  refine ⟨rfl, ?_⟩
  have h3 := HW.out.2.2
  rw [HV.out] at h3
  exact h3

set_option maxHeartbeats 400000 in
theorem isCopied_any (C : Nat) (cp : Bool) (w : World) (h1 : w.cell? ⟨C, 1, none⟩ = some (.bool cp)) :
    Calls Tryd.prog 20 #[.pointer (some ⟨C, 0, none⟩)] w fun e w' => e = .returned (.bool cp) ∧ w = w' := by
  go_enter Tryd.func20, Tryd.ntmps20
  go_wp2
  go_ret
  exact ⟨rfl, rfl⟩

set_option maxHeartbeats 400000 in
theorem bytes_any (C n cap : Nat) (A : Option Addr) (w : World) (h0 : w.cell? ⟨C, 0, none⟩ = some (.slice A n cap)) :
    Calls Tryd.prog 21 #[.pointer (some ⟨C, 0, none⟩)] w fun e w' => e = .returned (.slice A n cap) ∧ w = w' := by
  go_enter Tryd.func21, Tryd.ntmps21
  go_wp2
  go_ret
  exact ⟨rfl, rfl⟩

set_option maxHeartbeats 400000 in
theorem newCob_any (n cap : Nat) (A : Option Addr) (w : World) :
    Calls Tryd.prog 16 #[.slice A n cap] w fun e w' => e = .returned (.agg #[.slice A n cap, .bool false]) ∧ w.alloc (.cells #[.slice A n cap, .bool false] 31) = w' := by
  go_enter Tryd.func16, Tryd.ntmps16
  go_wp2
  exact bodyPost_ret (v := .agg #[.slice A n cap, .bool false]) (by simp [results, Tryd.results16, go_sem]) rfl ⟨rfl, rfl⟩

end Go.Proofs.YtkcggbjpkjmclaaDoor

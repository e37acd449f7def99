import Derived.Test.Qxb6601127aRows
import Derived.WalkKit
import Derived.ProofKit
import Derived.WalkSpells
import Derived.Deep.QuietTactic
import Derived.BigQuiet
namespace Go.Proofs.Qxb6601127a.Base
open Go.ChangeShapes Go.WideShapes Go.ChangeAt Go.RowKit

/-! ### Slices of integers in memory -/
/-- a slice of integers as a value: its address, its capacity, its numbers -/
structure IS where
  p : Option Addr
  c : Nat
  zs : List Int
def IS.val (s : IS) : Value := .slice s.p s.zs.length s.c
/-- the numbers zs lie at p -/
def RowIn (k : IntKind) (w : World) (p : Option Addr) (zs : List Int) : Prop :=
  0 < zs.length → ∃ b o, p = some ⟨b, o, none⟩ ∧ ∀ (i : Nat) z, zs[i]? = some z → w.cell? ⟨b, o + i, none⟩ = some (.int k z)
structure IS.Ok (k : IntKind) (w : World) (s : IS) : Prop where
  cells : RowIn k w s.p s.zs
  len : s.zs.length ≤ maxLen
theorem cell_lt {w : World} {b o : Nat} {v : Value} (h : w.cell? ⟨b, o, none⟩ = some v) : b < w.heap.size := by
  rcases Nat.lt_or_ge b w.heap.size with h' | h'
  · exact h'
  · simp [World.cell?, Array.getElem?_eq_none h'] at h
theorem cell_below {w w' : World} (hb : Below w.heap.size w w') {b o : Nat} {v : Value} (h : w.cell? ⟨b, o, none⟩ = some v) : w'.cell? ⟨b, o, none⟩ = some v :=
  (hb.cell (p := ⟨b, o, none⟩) (cell_lt h)).trans h
theorem RowIn.below {k : IntKind} {w w' : World} {p : Option Addr} {zs : List Int} (h : RowIn k w p zs) (hb : Below w.heap.size w w') : RowIn k w' p zs :=
  fun hn => by obtain ⟨b, o, e, hc⟩ := h hn; exact ⟨b, o, e, fun i z hz => cell_below hb (hc i z hz)⟩
theorem IS.Ok.below {k : IntKind} {w w' : World} {s : IS} (h : IS.Ok k w s) (hb : Below w.heap.size w w') : IS.Ok k w' s := ⟨h.cells.below hb, h.len⟩
theorem below_trans {w w1 w2 : World} (h1 : Below w.heap.size w w1) (h2 : Below w1.heap.size w1 w2) : Below w.heap.size w w2 :=
  h1.trans (h2.mono h1.size)
theorem below_drewN {w : World} (n : Nat) : Below w.heap.size w (w.drewN n) := by
  induction n with
  | zero => exact Below.refl _ _
  | succ n ih => exact ih.drew
theorem own_below {w w' : World} {base e size n : Nat} {v : Value} {xs : List Value} (h : w.ownsRow base e size v n xs) (hb : Below w.heap.size w w') : w'.ownsRow base e size v n xs := by
  refine ⟨h.1, ?_⟩
  rcases h.2 with h' | ⟨g, cap, cur, h1, h2, h3, h4⟩
  · exact Or.inl h'
  · exact Or.inr ⟨g, cap, cur, h1, h2, (hb.block g (Array.getElem?_eq_some_iff.1 h3).1).trans h3, h4⟩
/-- it answers some bool, and nothing turns -/
def SomeBool (w : World) (e : Ending) (w' : World) : Prop := ∃ b : Bool, e = .returned (.bool b) ∧ w' = w
/-- it answers the bool b; nothing that was there turns -/
def Tells (b : Bool) (w : World) (e : Ending) (w' : World) : Prop := e = .returned (.bool b) ∧ Below w.heap.size w w'

/-! ### zzBytes (18): some bool -/
theorem zzBytes_any (a0 : Int) (p1 p2 p3 p4 p5 : Option Addr) (n1 c1 n2 c2 n3 c3 n4 c4 n5 c5 : Nat) (w : World) (h1 : n1 ≤ maxLen) (h2 : n2 ≤ maxLen) (h3 : n3 ≤ maxLen) (h4 : n4 ≤ maxLen) (h5 : n5 ≤ maxLen) :
    Calls Try.prog 18 #[.int .i64 a0, .slice p1 n1 c1, .slice p2 n2 c2, .slice p3 n3 c3, .slice p4 n4 c4, .slice p5 n5 c5] w (SomeBool w) := by
  unfold maxLen at h1 h2 h3 h4 h5
  go_enter Try.func18, Try.ntmps18
  go_wp2
  all_goals
    go_ret
    exact ⟨_, rfl, rfl⟩

/-! ### zzLayoutHolds (19) -/
def Lay (ls : List Int) (e : Int) : Prop := (∀ l ∈ ls, 0 ≤ l) ∧ ls.sum = e
def LH (ls : List Int) (e : Int) (w : World) (x : Ending) (w' : World) : Prop := w' = w ∧ (x = .returned (.bool false) ∨ x = .returned (.bool true) ∧ Lay ls e)
theorem sum_take (ls : List Int) (k : Nat) (z : Int) (h : ls[k]? = some z) : (ls.take (k + 1)).sum = (ls.take k).sum + z := by
  obtain ⟨hk, e⟩ := List.getElem?_eq_some_iff.1 h
  rw [List.take_succ_eq_append_getElem hk, List.sum_append, e]; simp
theorem layout_pos (b o c : Nat) (ls : List Int) (e : Nat) (w : World) (n : Nat) (hn : ls.length = n) (hm : n ≤ maxLen) (he : e ≤ 1048576)
    (hc : ∀ (i : Nat) z, ls[i]? = some z → w.cell? ⟨b, o + i, none⟩ = some (.int .i64 z)) :
    Calls Try.prog 19 #[.slice (some ⟨b, o, none⟩) n c, .int .i64 e] w (LH ls e w) := by
  unfold maxLen at hm
  have HL : Hid (ls.length = n) := hn
  clear hn
  go_enter Try.func19, Try.ntmps19
  go_wp2
  go_loop [5, 6] (fun s i => ∃ k y : Nat, k ≤ n ∧ y ≤ e ∧ s = .int .i64 y ∧ i = .int .i64 k ∧ Hid ((ls.take k).sum = y ∧ ∀ i z, i < k → ls[i]? = some z → 0 ≤ z)) (fun _ i => n - (intOf i).toNat)
  case atStart => exact ⟨0, 0, by omega, by omega, rfl, rfl, by simp [Hid]⟩
  case round =>
    obtain ⟨k, y, hk, hy, rfl, rfl, hall⟩ := hrel
    by_cases hlt : k < n
    · have hks : k < ls.length := by rw [HL.out]; exact hlt
      have hz : ls[k]? = some ls[k] := List.getElem?_eq_getElem hks
      have h1 := hc k _ hz
      have HZ : Hid (ls[k]? = some ls[k]) := hz
      generalize ls[k] = z at h1 HZ
      clear hc hz
      by_cases hz0 : z < 0
      · go_wp2
        go_ret
        exact ⟨rfl, Or.inl rfl⟩
      · by_cases hz1 : (e : Int) - y < z
        · go_wp2
          go_ret
          exact ⟨rfl, Or.inl rfl⟩
        · have hz2 : z ≤ e - y := by omega
          go_wp2
          go_round
          case rel =>
            refine ⟨k + 1, (y + z).toNat, by omega, by omega, by rw [show (((y + z).toNat : Nat) : Int) = y + z from by omega], by go_num, ?_, fun i x hi hx => ?_⟩
            · rw [sum_take ls k z HZ.out, hall.out.1]; omega
            · by_cases e : i = k
              · subst e; rw [HZ.out] at hx; cases hx; omega
              · exact hall.out.2 i x (by omega) hx
          case measure => simp only [intOf]; omega
    · have hsum : ls.sum = y := by have h := hall.out.1; rw [List.take_of_length_le (by rw [HL.out]; omega)] at h; exact h
      have hpos : ∀ l ∈ ls, 0 ≤ l := by
        intro l hl
        obtain ⟨i, hi, e⟩ := List.getElem_of_mem hl
        exact hall.out.2 i l (by rw [HL.out] at hi; omega) (by rw [List.getElem?_eq_getElem hi, e])
      have HF : Hid ((∀ l ∈ ls, 0 ≤ l) ∧ ls.sum = y) := ⟨hpos, hsum⟩
      clear hsum hpos hc
      by_cases hye : y = e
      · have hye' : ((y : Int) == (e : Int)) = true := by simp [hye]
        go_wp2
        go_ret
        exact ⟨rfl, Or.inr ⟨rfl, HF.out.1, by rw [HF.out.2, hye]⟩⟩
      · have hye' : ((y : Int) == (e : Int)) = false := by simp; omega
        go_wp2
        go_ret
        exact ⟨rfl, Or.inl rfl⟩
theorem layout_zero (p : Option Addr) (c e : Nat) (w : World) (he : e ≤ 1048576) : Calls Try.prog 19 #[.slice p 0 c, .int .i64 e] w (LH [] e w) := by
  by_cases h0 : e = 0
  · have h' : ((0 : Int) == (e : Int)) = true := by simp [h0]
    subst h0
    go_enter Try.func19, Try.ntmps19
    go_wp2
    refine wp_loop_rounds 1 ?_
    rw [rounds_succ]
    go_wp2
    go_ret
    exact ⟨rfl, Or.inr ⟨rfl, by simp, by simp⟩⟩
  · have h' : ((0 : Int) == (e : Int)) = false := by simp; omega
    go_enter Try.func19, Try.ntmps19
    go_wp2
    refine wp_loop_rounds 1 ?_
    rw [rounds_succ]
    go_wp2
    go_ret
    exact ⟨rfl, Or.inl rfl⟩
theorem layout_any (s : IS) (e : Nat) (w : World) (hs : IS.Ok .i64 w s) (he : e ≤ 1048576) : Calls Try.prog 19 #[.slice s.p s.zs.length s.c, .int .i64 e] w (LH s.zs e w) := by
  by_cases h0 : 0 < s.zs.length
  · obtain ⟨b, o, e', hc⟩ := hs.cells h0
    rw [e']; exact layout_pos b o _ _ e w _ rfl hs.len he hc
  · have e' : s.zs = [] := List.eq_nil_of_length_eq_zero (by omega)
    rw [e']; exact layout_zero _ _ _ w he

/-! ### zzTailsInRange (20) -/
def TR (fs : List Int) (n : Int) (w : World) (x : Ending) (w' : World) : Prop := w' = w ∧ (x = .returned (.bool false) ∨ x = .returned (.bool true) ∧ ∀ f ∈ fs, 0 ≤ f ∧ f < n)
theorem tails_pos (b o c : Nat) (fs : List Int) (nn : Int) (w : World) (n : Nat) (hn : fs.length = n) (hm : n ≤ maxLen) (hfi : ∀ f ∈ fs, -2147483648 ≤ f ∧ f ≤ 2147483647)
    (hc : ∀ (i : Nat) z, fs[i]? = some z → w.cell? ⟨b, o + i, none⟩ = some (.int .i32 z)) :
    Calls Try.prog 20 #[.slice (some ⟨b, o, none⟩) n c, .int .i64 nn] w (TR fs nn w) := by
  unfold maxLen at hm
  have HL : Hid (fs.length = n) := hn
  clear hn
  go_enter Try.func20, Try.ntmps20
  go_wp2
  go_loop [5] (fun i => ∃ k : Nat, k ≤ n ∧ i = .int .i64 k ∧ Hid (∀ i z, i < k → fs[i]? = some z → 0 ≤ z ∧ z < nn)) (fun i => n - (intOf i).toNat)
  case atStart => exact ⟨0, by omega, rfl, fun i z h => by omega⟩
  case round =>
    obtain ⟨k, hk, rfl, hall⟩ := hrel
    by_cases hlt : k < n
    · have hks : k < fs.length := by rw [HL.out]; exact hlt
      have hz : fs[k]? = some fs[k] := List.getElem?_eq_getElem hks
      have h1 := hc k _ hz
      have hb := hfi fs[k] (List.getElem_mem hks)
      have HZ : Hid (fs[k]? = some fs[k]) := hz
      generalize fs[k] = z at h1 HZ hb
      clear hc hz hfi
      by_cases hz0 : z < 0
      · go_wp2
        go_ret
        exact ⟨rfl, Or.inl rfl⟩
      · by_cases hz1 : nn ≤ z
        · go_wp2
          go_ret
          exact ⟨rfl, Or.inl rfl⟩
        · go_wp2
          go_round
          case rel =>
            refine ⟨k + 1, by omega, by go_num, fun i x hi hx => ?_⟩
            by_cases e : i = k
            · subst e; rw [HZ.out] at hx; cases hx; omega
            · exact hall.out i x (by omega) hx
          case measure => simp only [intOf]; omega
    · have hpos : ∀ f ∈ fs, 0 ≤ f ∧ f < nn := by
        intro l hl
        obtain ⟨i, hi, e⟩ := List.getElem_of_mem hl
        exact hall.out i l (by rw [HL.out] at hi; omega) (by rw [List.getElem?_eq_getElem hi, e])
      have HF : Hid (∀ f ∈ fs, 0 ≤ f ∧ f < nn) := hpos
      clear hpos hc hfi
      go_wp2
      go_ret
      exact ⟨rfl, Or.inr ⟨rfl, HF.out⟩⟩
theorem tails_any (s : IS) (nn : Int) (w : World) (hs : IS.Ok .i32 w s) (hfi : ∀ f ∈ s.zs, -2147483648 ≤ f ∧ f ≤ 2147483647) : Calls Try.prog 20 #[.slice s.p s.zs.length s.c, .int .i64 nn] w (TR s.zs nn w) := by
  by_cases h0 : 0 < s.zs.length
  · obtain ⟨b, o, e', hc⟩ := hs.cells h0
    rw [e']; exact tails_pos b o _ _ nn w _ rfl hs.len hfi hc
  · have e' : s.zs = [] := List.eq_nil_of_length_eq_zero (by omega)
    rw [e']
    go_enter Try.func20, Try.ntmps20
    go_wp2
    refine wp_loop_rounds 1 ?_
    rw [rounds_succ]
    go_wp2
    go_ret
    exact ⟨rfl, Or.inr ⟨rfl, by simp⟩⟩
end Go.Proofs.Qxb6601127a.Base

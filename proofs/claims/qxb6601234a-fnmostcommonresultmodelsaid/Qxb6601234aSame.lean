import Derived.Test.Qxb6601234aBase
import Derived.Deep.QuietTactic
import Derived.BigQuiet
namespace Go.Proofs.Qxb6601234a.Base
open Go.ChangeShapes Go.WideShapes Go.ChangeAt Go.RowKit

theorem below_drewN {w : World} (n : Nat) : Below w.heap.size w (w.drewN n) := by
  induction n with
  | zero => exact Below.refl _ _
  | succ n ih => exact ih.drew
/-- it answers the bool b; nothing that was there turns -/
def Tells (b : Bool) (w : World) (e : Ending) (w' : World) : Prop := e = .returned (.bool b) ∧ Below w.heap.size w w'
theorem same_no (p q : Option Addr) (n m c d : Nat) (w : World) (h : n ≠ m) : Calls Try.prog 18 #[.slice p n c, .slice q m d] w (Tells false w) := by
  have h2 : ((n : Int) != (m : Int)) = true := by rw [bne_iff_ne]; omega
  go_enter Try.func18, Try.ntmps18
  go_wp2
  go_ret
  exact ⟨rfl, Below.refl _ _⟩
theorem same_zero (p q : Option Addr) (c d : Nat) (w : World) : Calls Try.prog 18 #[.slice p 0 c, .slice q 0 d] w (Tells true w) := by
  go_enter Try.func18, Try.ntmps18
  go_wp2
  refine wp_loop_rounds 1 ?_
  rw [rounds_succ]
  go_wp2
  go_ret
  exact ⟨rfl, Below.refl _ _⟩
theorem same_pos (b o b' o' n c d : Nat) (xs ys : List Int) (w : World) (hx : xs.length = n) (hy : ys.length = n) (hn : n ≤ maxLen)
    (h1 : ∀ i, i < n → w.cell? ⟨b, o + i, none⟩ = some (.int .u8 (xs.getD i 0))) (h2 : ∀ i, i < n → w.cell? ⟨b', o' + i, none⟩ = some (.int .u8 (ys.getD i 0))) :
    Calls Try.prog 18 #[.slice (some ⟨b, o, none⟩) n c, .slice (some ⟨b', o', none⟩) n d] w (Tells (decide (xs = ys)) w) := by
  unfold maxLen at hn
  have h3 : ((n : Int) != (n : Int)) = false := by simp
  go_enter Try.func18, Try.ntmps18
  go_wp2
  go_loopw [5] (fun i wr => ∃ k : Nat, k ≤ n ∧ i = .int .i64 k ∧ Hid (∀ j, j < k → xs.getD j 0 = ys.getD j 0) ∧ Below w.heap.size w wr) (fun i _ => n - (intOf i).toNat)
  case atStart => exact ⟨0, by omega, rfl, fun j h => by omega, Below.refl _ _⟩
  case round =>
    obtain ⟨k, hk, rfl, hall, hbel⟩ := hrel
    by_cases hlt : k < n
    · have c1 := cell_below hbel (h1 k hlt)
      have c2 := cell_below hbel (h2 k hlt)
      generalize ex : xs.getD k 0 = x at c1
      generalize ey : ys.getD k 0 = y at c2
      have EX : Hid (xs.getD k 0 = x) := ex
      have EY : Hid (ys.getD k 0 = y) := ey
      clear ex ey
      have hkn : (k : Int) < (n : Int) := by omega
      cases hxy : (x != y)
      · go_wp2
        go_quiet (fail)
        go_wp2
        go_roundw
        case rel =>
          refine ⟨k + 1, by omega, by go_num, fun j hj => ?_, below_trans hbel (below_drewN _)⟩
          by_cases e : j = k
          · subst e; rw [EX.out, EY.out]; simpa using hxy
          · exact hall.out j (by omega)
        case measure => simp only [intOf]; omega
      · have hne : xs ≠ ys := by intro e; subst e; have := EX.out.symm.trans EY.out; simp [this] at hxy
        go_wp2
        go_quiet (fail)
        go_wp2
        go_ret
        exact ⟨by simp [hne], below_trans hbel (below_drewN _)⟩
    · have heq : xs = ys := by
        apply List.ext_getElem (by omega)
        intro j hj1 hj2
        have := hall.out j (by omega)
        simpa [List.getD_eq_getElem?_getD, List.getElem?_eq_getElem hj1, List.getElem?_eq_getElem hj2] using this
      have HE : Hid (xs = ys) := heq
      clear heq h1 h2
      go_wp2
      go_ret
      exact ⟨by simp [HE.out], hbel⟩
theorem same_any (s t : BS) (w : World) (hs : BS.Ok w s) (ht : BS.Ok w t) :
    Calls Try.prog 18 #[.slice s.p s.zs.length s.c, .slice t.p t.zs.length t.c] w (Tells (decide (s.zs = t.zs)) w) := by
  by_cases hl : s.zs.length = t.zs.length
  · by_cases h0 : 0 < s.zs.length
    · obtain ⟨b, o, e, hc⟩ := hs.cells h0
      obtain ⟨b', o', e', hc'⟩ := ht.cells (by omega)
      rw [e, e', ← hl]
      exact same_pos b o b' o' _ _ _ _ _ w rfl hl.symm hs.len hc (by rw [hl]; exact hc')
    · have e1 : s.zs = [] := List.eq_nil_of_length_eq_zero (by omega)
      have e2 : t.zs = [] := List.eq_nil_of_length_eq_zero (by omega)
      rw [e1, e2]
      exact same_zero _ _ _ _ w
  · have : decide (s.zs = t.zs) = false := by simp; intro e; rw [e] at hl; exact hl rfl
    rw [this]
    exact same_no _ _ _ _ _ _ w hl
end Go.Proofs.Qxb6601234a.Base

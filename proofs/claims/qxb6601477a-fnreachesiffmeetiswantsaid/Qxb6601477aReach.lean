import Derived.Test.Qxb6601477aRows
import Derived.WalkKit
import Derived.ProofKit
import Derived.WalkSpells
import Derived.Deep.QuietTactic
import Derived.BigQuiet
import Derived.Stop.BytesEq
namespace Go.Proofs.Qxb6601477a.Reach
open Go.ChangeShapes Go.WideShapes Go.ChangeAt Go.RowKit

/-- sixteen bytes as cells -/
def row (zs : List Int) : Array Value := (zs.map (Value.int .u8)).toArray
def reachB (hs ws : List Int) : Bool := (List.range 16).all fun i => decide (ws.getD i 0 ≤ hs.getD i 0)
def Tells (b : Bool) (w : World) (e : Ending) (w' : World) : Prop := e = .returned (.bool b) ∧ Below w.heap.size w w'
theorem row_size (zs : List Int) : (row zs).size = zs.length := by simp [row]
theorem row_at (zs : List Int) (k : Nat) (h : k < zs.length) : (row zs)[k]? = some (.int .u8 (zs.getD k 0)) := by
  simp [row, List.getD_eq_getElem?_getD, List.getElem?_eq_getElem h]
/-- two rows laid behind one another -/
def twoW (w : World) (a b : Array Value) : World := (w.alloc (.cells a 28)).alloc (.cells b 28)
theorem two_size (w : World) (a b : Array Value) : (twoW w a b).heap.size = w.heap.size + 2 := by simp [twoW]
theorem two_fst (w : World) (a b : Array Value) : (twoW w a b).heap[w.heap.size]? = some (.cells a 28 (0, 0)) := by
  show ((w.heap.push _).push _)[w.heap.size]? = _
  rw [Array.getElem?_push, if_neg (by simp), Array.getElem?_push, if_pos rfl]
theorem two_snd (w : World) (a b : Array Value) : (twoW w a b).heap[w.heap.size + 1]? = some (.cells b 28 (0, 0)) := by
  show ((w.heap.push _).push _)[w.heap.size + 1]? = _
  rw [Array.getElem?_push, if_pos (by simp)]
theorem two_below (w : World) (a b : Array Value) : Below w.heap.size w (twoW w a b) := ((Below.refl _ _).alloc (Nat.le_refl _) _).alloc (by simp) _
theorem cell_in {w : World} {g k : Nat} {zs : List Int} (h : w.heap[g]? = some (.cells (row zs) 28 (0, 0))) (hk : k < zs.length) : w.cell? ⟨g, k, none⟩ = some (.int .u8 (zs.getD k 0)) := by
  rw [cell_of_row w g k _ 28 (0, 0) h, row_at zs k hk]
theorem reach_no {hs ws : List Int} {k : Nat} (hk : k < 16) (h : hs.getD k 0 < ws.getD k 0) : reachB hs ws = false := by
  rw [← Bool.not_eq_true]; unfold reachB; rw [List.all_eq_true]; intro h'
  have := h' k (List.mem_range.2 hk); simp only [decide_eq_true_eq] at this; omega
theorem reach_yes {hs ws : List Int} (h : ∀ k, k < 16 → ws.getD k 0 ≤ hs.getD k 0) : reachB hs ws = true := by
  unfold reachB; rw [List.all_eq_true]; intro k hk; simpa using h k (List.mem_range.1 hk)
theorem below_drewN {w : World} (n : Nat) : Below w.heap.size w (w.drewN n) := by
  induction n with
  | zero => exact Below.refl _ _
  | succ n ih => exact ih.drew
theorem ret_bool {a b : Bool} (h : a = b) : Ending.returned (.bool a) = .returned (.bool b) := by rw [h]
theorem reaches_any (hs ws : List Int) (w : World) (h1 : hs.length = 16) (h2 : ws.length = 16) :
    Calls Try.prog 24 #[.agg (row hs), .agg (row ws)] w (Tells (reachB hs ws) w) := by
  go_enter Try.func24, Try.ntmps24
  go_wp2
  go_loopw [6] (fun i wr => ∃ k : Nat, k ≤ 16 ∧ i = .int .i64 k ∧ Hid (∀ j, j < k → ws.getD j 0 ≤ hs.getD j 0) ∧ Hid (Below (w.heap.size + 2) (twoW w (row hs) (row ws)) wr)) (fun i _ => 16 - (intOf i).toNat)
  case atStart => exact ⟨0, by omega, rfl, fun j h => by omega, Below.refl _ _⟩
  case round =>
    obtain ⟨k, hk, rfl, hall, hbel⟩ := hrel
    have HBW : Hid (∀ w2, Below wr.heap.size wr w2 → Below w.heap.size w w2) := by
      intro w2 h
      have h3 := hbel.out.size
      rw [two_size] at h3
      exact ((two_below w _ _).trans (hbel.out.mono (by omega))).trans (h.mono (by omega))
    by_cases hlt : k < 16
    · have c1 : wr.cell? ⟨w.heap.size, k, none⟩ = some (.int .u8 (hs.getD k 0)) := cell_in ((hbel.out.block _ (by omega)).trans (two_fst _ _ _)) (by omega)
      have c2 : wr.cell? ⟨w.heap.size + 1, k, none⟩ = some (.int .u8 (ws.getD k 0)) := cell_in ((hbel.out.block _ (by omega)).trans (two_snd _ _ _)) (by omega)
      generalize ex : hs.getD k 0 = x at c1
      generalize ey : ws.getD k 0 = y at c2
      have EX : Hid (hs.getD k 0 = x) := ex
      have EY : Hid (ws.getD k 0 = y) := ey
      clear ex ey
      have hkn : (k : Int) < 16 := by omega
      by_cases hxy : x < y
      · go_wp2
        go_quiet (fail)
        go_wp2
        go_ret
        exact ⟨ret_bool (reach_no hlt (by rw [EX.out, EY.out]; exact hxy)).symm, HBW.out _ (below_drewN _)⟩
      · have hxy' : y ≤ x := by omega
        go_wp2
        go_quiet (fail)
        go_wp2
        go_roundw
        case rel =>
          refine ⟨k + 1, by omega, by go_num, fun j hj => ?_, hbel.out.trans ((below_drewN _).mono (by have := hbel.out.size; rw [two_size] at this; exact this))⟩
          by_cases e : j = k
          · rw [e, EX.out, EY.out]; exact hxy'
          · exact hall.out j (by omega)
        case measure => simp only [intOf]; omega
    · go_wp2
      go_ret
      exact ⟨ret_bool (reach_yes (fun j hj => hall.out j (by omega))).symm, HBW.out _ (Below.refl _ _)⟩
theorem info28 : (Try.prog.info? 28).map (·.size) = some 16 := by kernel_rfl
theorem zz_any (hs ws : List Int) (w : World) (h1 : hs.length = 16) (h2 : ws.length = 16) :
    Calls Try.prog 17 #[.agg (row hs), .agg (row ws)] w (Tells (reachB hs ws) w) := by
  have hb1 : (twoW w (row hs) (row ws)).heap[w.heap.size]? = _ := two_fst w (row hs) (row ws)
  have hb2 : (twoW w (row hs) (row ws)).heap[w.heap.size + 1]? = _ := two_snd w (row hs) (row ws)
  go_enter Try.func17, Try.ntmps17
  go_wp2_with (first
    | (go_at_call 24; refine (reaches_any hs ws _ h1 h2).mono ?_; rintro e w2 ⟨rfl, hb⟩)
    | (refine wpList_load_row rfl 28 (.tmp 2) rfl w.heap.size rfl 28 (row hs) (0, 0) _ hb1 Try.underlying28 rfl (by rw [row_size, h1]; exact info28) ?_)
    | (refine wpList_load_row rfl 28 (.tmp 3) rfl (w.heap.size + 1) rfl 28 (row ws) (0, 0) _ hb2 Try.underlying28 rfl (by rw [row_size, h2]; exact info28) ?_))
  go_ret
  exact ⟨rfl, (two_below w _ _).trans (hb.mono (by simp; omega))⟩
end Go.Proofs.Qxb6601477a.Reach

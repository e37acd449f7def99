import Derived.Test.Qxb6601127aClone
import Derived.Test.Qxb6601127aSrt
namespace Go.Proofs.Qxb6601127a.Base
open Go.ChangeShapes Go.WideShapes Go.ChangeAt Go.RowKit

/-! ### Blocks in memory -/
/-- block b is the cells cs, of element type t, none frozen -/
def Has (w : World) (b : Nat) (t : TypeId) (cs : Array Value) : Prop := w.heap[b]? = some (.cells cs t (0, 0))
theorem Has.lt {w : World} {b t : Nat} {cs : Array Value} (h : Has w b t cs) : b < w.heap.size := (Array.getElem?_eq_some_iff.1 h).1
theorem Has.cell {w : World} {b t : Nat} {cs : Array Value} (h : Has w b t cs) (j : Nat) : w.cell? ⟨b, j, none⟩ = cs[j]? := cell_of_row w b j cs t (0, 0) h
theorem Has.free {w : World} {b t : Nat} {cs : Array Value} (h : Has w b t cs) (j : Nat) : w.frozen? ⟨b, j, none⟩ = false := frozen_of_row w b j cs t h
theorem Has.set {w : World} {b t : Nat} {cs : Array Value} (h : Has w b t cs) (j : Nat) (v : Value) : Has (w.setCell ⟨b, j, none⟩ v) b t (cs.setIfInBounds j v) := heap_setCell_same w b j cs t v h
theorem Has.other {w : World} {b t : Nat} {cs : Array Value} (h : Has w b t cs) {g : Nat} (hg : b ≠ g) (j : Nat) (v : Value) : Has (w.setCell ⟨g, j, none⟩ v) b t cs := (heap_setCell_other w ⟨g, j, none⟩ b v hg).trans h
theorem Has.alloc {w : World} {b t : Nat} {cs : Array Value} (h : Has w b t cs) (o : Obj) : Has (w.alloc o) b t cs := (Below.heap_alloc w o b h.lt).trans h
theorem has_new (w : World) (t : Nat) (cs : Array Value) : Has (w.alloc (.cells cs t)) w.heap.size t cs := heap_alloc_new w _
theorem Has.below {w w' : World} {B b t : Nat} {cs : Array Value} (h : Has w b t cs) (hb : Below B w w') (hB : b < B) : Has w' b t cs := (hb.block b hB).trans h
theorem Has.drewN {w : World} {b t : Nat} {cs : Array Value} (h : Has w b t cs) (n : Nat) : Has (w.drewN n) b t cs := h.below (below_drewN n) h.lt
theorem Has.ne {w : World} {b t b' t' : Nat} {cs cs' : Array Value} (h : Has w b t cs) (h' : Has w b' t' cs') (ht : t ≠ t') : b ≠ b' := by
  intro e; subst e; unfold Has at h h'; rw [h] at h'; simp at h'; exact ht h'.2
theorem Has.same {w : World} {b t : Nat} {cs cs' : Array Value} (h : Has w b t cs) (h' : Has w b t cs') : cs = cs' := by
  unfold Has at h h'; rw [h] at h'; simpa using h'
/-- places as cells -/
def ints (L : List Nat) : Array Value := (L.map fun x : Nat => Value.int .i64 (x : Int)).toArray
theorem ints_at {L : List Nat} {j x : Nat} (h : L[j]? = some x) : (ints L)[j]? = some (.int .i64 (x : Int)) := by simp [ints, h]
theorem ints_set (L : List Nat) (j x : Nat) : (ints L).setIfInBounds j (.int .i64 (x : Int)) = ints (L.set j x) := by simp [ints, List.map_set]

/-! ### zzBefore (32), b nil -/
def Quietly (b : Bool) (w : World) (e : Ending) (w' : World) : Prop := e = .returned (.bool b) ∧ ∃ q, w' = w.drewN q
theorem before_any (ba oa n c i j : Nat) (x y : Int) (w : World) (hi : i < n) (hj : j < n)
    (h1 : w.cell? ⟨ba, oa + i, none⟩ = some (.int .i32 x)) (h2 : w.cell? ⟨ba, oa + j, none⟩ = some (.int .i32 y)) :
    Calls Try.prog 32 #[.slice (some ⟨ba, oa, none⟩) n c, .slice none 0 0, .int .i64 i, .int .i64 j] w (Quietly (decide (x < y)) w) := by
  have hin : (i : Int) < (n : Int) := by omega
  have hjn : (j : Int) < (n : Int) := by omega
  have hq := fun w => Lib.run_eql_slice_nil (P := Try.prog) w 22 3 none 0 0 0 0 Try.underlying22
  cases hxy : (x != y)
  · have hd : decide (x < y) = false := by simp at hxy; simp [hxy]
    have HD : Hid (decide (x < y) = false) := hd
    clear hd
    go_enter Try.func32, Try.ntmps32
    go_wp2
    go_quiet (fail)
    go_wp2
    go_ret
    exact ⟨by rw [HD.out]; rfl, _, rfl⟩
  · go_enter Try.func32, Try.ntmps32
    go_wp2
    go_quiet (fail)
    go_wp2
    go_quiet (fail)
    go_wp2
    go_ret
    exact ⟨rfl, _, World.drewN_drewN _ _ _⟩
end Go.Proofs.Qxb6601127a.Base

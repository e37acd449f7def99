/-
  gather's closure first (36).
-/
import Derived.Test.Qxb6601127aTake
import Derived.Deep.DeepCutAuto
namespace Go.Proofs.Qxb6601127a.Base
open Go.ChangeShapes Go.WideShapes Go.ChangeAt Go.RowKit
open Cnt (Ed)
/-- where range r begins -/
def fst' (s N r : Nat) : Nat := min (r * 2 ^ s) N
def FR (x : Nat) (w : World) (e : Ending) (w' : World) : Prop := e = .returned (.int .i64 (x : Int)) ∧ ∃ q, w' = w.drewN q
set_option maxRecDepth 100000 in
theorem first_any (r s N gsh gb bg : Nat) (w : World) (hr : r ≤ 1025) (hs : s ≤ 10) (c1 : w.cell? ⟨gsh, 0, none⟩ = some (.int .i64 s)) (c2 : w.cell? ⟨gb, 0, none⟩ = some (.pointer (some ⟨bg, 0, none⟩))) (c3 : w.cell? ⟨bg, 1, none⟩ = some (.int .i64 N)) :
    Calls Try.prog 36 #[.int .i64 r, .pointer (some ⟨gsh, 0, none⟩), .pointer (some ⟨gb, 0, none⟩)] w (FR (fst' s N r) w) := by
  have hp : 2 ^ s ≤ 2 ^ 10 := Nat.pow_le_pow_right (by omega) hs
  have hm : r * 2 ^ s ≤ 1025 * 1024 := Nat.mul_le_mul hr hp
  have e1 : (r : Int) * 2 ^ s = ((r * 2 ^ s : Nat) : Int) := by rw [Int.natCast_mul, Int.natCast_pow]; rfl
  have e2 : IntKind.i64.wrap ((r : Int) * 2 ^ s) = ((r * 2 ^ s : Nat) : Int) := by rw [e1, IntKind.wrap_i64]; generalize r * 2 ^ s = z at *; omega
  have HE : Hid (((fst' s N r : Nat) : Int) = min ((r * 2 ^ s : Nat) : Int) (N : Int)) := by show _ = _; unfold fst'; generalize r * 2 ^ s = z; omega
  clear e1 hp
  generalize hz : r * 2 ^ s = z at *
  clear hz
  go_enter Try.func36, Try.ntmps36
  go_wp2
  go_region
  all_goals go_wp2
  all_goals go_ret
  · exact ⟨by rw [HE.out, show min (z : Int) (N : Int) = (N : Int) from by omega]; rfl, 1, rfl⟩
  · exact ⟨by rw [HE.out, show min (z : Int) (N : Int) = (z : Int) from by omega]; rfl, 1, rfl⟩
end Go.Proofs.Qxb6601127a.Base

import Derived.Test.Qxb6601234aRows
import Derived.WalkKit
import Derived.ProofKit
import Derived.WalkSpells
namespace Go.Proofs.Qxb6601234a.Flags
open Go.ChangeShapes Go.WideShapes Go.ChangeAt Go.RowKit

def rd (vt vc lt lc : Int) : Int := if lt = 0 ∧ lc = 0 then 2 else if lt = vt ∧ lc = vc then 4 else 0
def fl (del : Bool) (r : Int) : Int := (if del then 1 else 0) + r
theorem rd_cases (vt vc lt lc : Int) : rd vt vc lt lc = 0 ∨ rd vt vc lt lc = 2 ∨ rd vt vc lt lc = 4 := by
  unfold rd; split <;> (try split) <;> simp
theorem ret_int {k : IntKind} {a b : Int} (h : a = b) : Ending.returned (.int k a) = .returned (.int k b) := by rw [h]

theorem flags_any (vt vc lt lc : Int) (a : Option Addr) (n c : Nat) (del : Bool) (w : World) :
    Calls Try.prog 29 #[.agg #[.int .i64 vt, .int .u64 vc, .slice a n c, .bool del, .int .i64 lt, .int .u64 lc]] w
      fun e w' => e = .returned (.int .u8 (fl del (rd vt vc lt lc))) ∧ Below w.heap.size w w' := by
  by_cases h1 : lt = 0 ∧ lc = 0
  · have HR : Hid (rd vt vc lt lc = 2) := by unfold rd; rw [if_pos h1]; exact rfl
    obtain ⟨rfl, rfl⟩ := h1
    cases del
    all_goals
      go_enter Try.func29, Try.ntmps29
      go_wp2
      go_ret
      exact ⟨ret_int (by rw [HR.out]; rfl), (Below.refl _ _).alloc (Nat.le_refl _) _⟩
  · by_cases h2 : lt = vt ∧ lc = vc
    · have HR : Hid (rd vt vc lt lc = 4) := by unfold rd; rw [if_neg h1, if_pos h2]; exact rfl
      obtain ⟨rfl, rfl⟩ := h2
      have H1 : Hid (¬ (lt = 0 ∧ lc = 0)) := h1
      clear h1
      cases del
      all_goals
        go_enter Try.func29, Try.ntmps29
        go_wp2
        all_goals
          go_ret
          first
            | exact ⟨ret_int (by rw [HR.out]; rfl), (Below.refl _ _).alloc (Nat.le_refl _) _⟩
            | exact absurd ⟨‹_›, ‹_›⟩ H1.out
    · have HR : Hid (rd vt vc lt lc = 0) := by unfold rd; rw [if_neg h1, if_neg h2]; exact rfl
      have H1 : Hid (¬ (lt = 0 ∧ lc = 0)) := h1
      have H2 : Hid (¬ (lt = vt ∧ lc = vc)) := h2
      clear h1 h2
      cases del
      all_goals
        go_enter Try.func29, Try.ntmps29
        go_wp2
        all_goals
          go_ret
          first
            | (exfalso; have h1 := H1.out; have h2 := H2.out; omega)
            | (refine ⟨ret_int ?_, (Below.refl _ _).alloc (Nat.le_refl _) _⟩; rw [HR.out]; first | rfl | (rw [show vt = 0 from by omega]; rfl))
theorem zzFlags_any (vt vc lt lc : Int) (a : Option Addr) (n c : Nat) (del : Bool) (w : World) :
    Calls Try.prog 12 #[.int .i64 vt, .int .u64 vc, .slice a n c, .bool del, .int .i64 lt, .int .u64 lc] w
      fun e w' => e = .returned (.int .u8 (fl del (rd vt vc lt lc))) ∧ Below w.heap.size w w' := by
  go_enter Try.func12, Try.ntmps12
  go_wp2_with (go_at_call 29; refine (flags_any _ _ _ _ _ _ _ _ _).mono ?_; rintro e w' ⟨rfl, hb⟩)
  go_ret
  exact ⟨rfl, hb⟩
theorem zzBytes_any (vt vc lt lc : Int) (a : Option Addr) (n c : Nat) (w : World) (hn : n ≤ maxLen) :
    Calls Try.prog 10 #[.int .i64 vt, .int .u64 vc, .slice a n c, .int .i64 lt, .int .u64 lc] w
      fun e w' => e = .returned (.bool (decide (n ≤ 1048576))) ∧ w' = w := by
  unfold maxLen at hn
  by_cases h : n ≤ 1048576
  · have h2 : (n : Int) ≤ 1048576 := by omega
    go_enter Try.func10, Try.ntmps10
    go_wp2
    go_ret
    exact ⟨by simp [h], rfl⟩
  · have h2 : 1048576 < (n : Int) := by omega
    go_enter Try.func10, Try.ntmps10
    go_wp2
    go_ret
    exact ⟨by simp [h], rfl⟩
end Go.Proofs.Qxb6601234a.Flags

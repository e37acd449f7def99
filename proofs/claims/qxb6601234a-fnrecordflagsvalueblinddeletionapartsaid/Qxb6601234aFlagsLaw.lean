import Derived.Test.Qxb6601234aFlags
import Derived.Test.Qxb6601234aClone
import Derived.OpenShut
namespace Go.Proofs.Qxb6601234a.Flags
open Go.ChangeShapes Go.WideShapes Go.ChangeAt Go.RowKit

theorem live_any (vt vc lt lc : Int) (a : Option Addr) (n c : Nat) (w : World) (r : Int) (hr : rd vt vc lt lc = r) :
    Calls Try.prog 12 #[.int .i64 vt, .int .u64 vc, .slice a n c, .bool false, .int .i64 lt, .int .u64 lc] w
      fun e w' => e = .returned (.int .u8 r) ∧ Below w.heap.size w w' := by
  subst hr
  exact (zzFlags_any vt vc lt lc a n c false w).mono fun e w' ⟨h1, h2⟩ => ⟨h1.trans (ret_int (by simp [fl])), h2⟩
theorem dead_any (vt vc lt lc : Int) (a : Option Addr) (n c : Nat) (w : World) (r d : Int) (hr : rd vt vc lt lc = r) (hd : d = 1 + r) :
    Calls Try.prog 12 #[.int .i64 vt, .int .u64 vc, .slice a n c, .bool true, .int .i64 lt, .int .u64 lc] w
      fun e w' => e = .returned (.int .u8 d) ∧ Below w.heap.size w w' := by
  subst hr
  exact (zzFlags_any vt vc lt lc a n c true w).mono fun e w' ⟨h1, h2⟩ => ⟨h1.trans (ret_int (by simp [fl, hd])), h2⟩
/-- what the clone is told of -/
def Clones (a : Option Addr) (n c : Nat) (w : World) : Prop :=
  Calls Try.prog 11 #[.slice a n c] w fun e w' => (∃ a' n' c', e = .returned (.slice a' n' c')) ∧ Below w.heap.size w w'
theorem below4 {w w1 w2 w3 w4 : World} (h1 : Below w.heap.size w w1) (h2 : Below w1.heap.size w1 w2) (h3 : Below w2.heap.size w2 w3) (h4 : Below w3.heap.size w3 w4) : Below w.heap.size w w4 := by
  have s1 := h1.size; have s2 := h2.size; have s3 := h3.size
  exact ((h1.trans (h2.mono (by omega))).trans (h3.mono (by omega))).trans (h4.mono (by omega))
theorem law_one (vt vc lt lc : Int) (a : Option Addr) (n c : Nat) (w : World) (r : Int) (hr : rd vt vc lt lc = r) (hcl : Clones a n c w) (hn : n ≤ 1048576) (hr3 : r = 0 ∨ r = 2 ∨ r = 4) :
    Calls Try.prog 3 #[.int .i64 vt, .int .u64 vc, .slice a n c, .int .i64 lt, .int .u64 lc] w
      fun e w' => e = .returned (.bool true) ∧ Below w.heap.size w w' := by
  have hn1 : (n : Int) ≤ 1048576 := by omega
  have hd1 : decide (n ≤ 1048576) = true := by simp [hn]
  have hml : n ≤ maxLen := by unfold maxLen; omega
  have HR : Hid (rd vt vc lt lc = r) := hr
  clear hr
  rcases hr3 with rfl | rfl | rfl
  · go_enter Try.func3, Try.ntmps3
    go_wp2_with (first
      | (go_at_call 10; refine (zzBytes_any _ _ _ _ _ _ _ _ hml).mono ?_; rintro e w' ⟨rfl, hw⟩; subst hw)
      | (go_at_call 11; refine hcl.mono ?_; rintro e w1 ⟨⟨a', n', c', rfl⟩, hb1⟩))
    go_wp2_with fail
    refine (live_any _ _ _ _ _ _ _ _ _ HR.out).mono ?_
    rintro e w2 ⟨rfl, hb2⟩
    go_wp2_with fail
    refine (dead_any _ _ _ _ _ _ _ _ _ 1 HR.out rfl).mono ?_
    rintro e w3 ⟨rfl, hb3⟩
    go_wp2_with fail
    refine (live_any _ _ _ _ _ _ _ _ _ HR.out).mono ?_
    rintro e w4 ⟨rfl, hb4⟩
    go_wp2
    go_ret
    exact ⟨rfl, below4 hb1 hb2 hb3 hb4⟩
  · go_enter Try.func3, Try.ntmps3
    go_wp2_with (first
      | (go_at_call 10; refine (zzBytes_any _ _ _ _ _ _ _ _ hml).mono ?_; rintro e w' ⟨rfl, hw⟩; subst hw)
      | (go_at_call 11; refine hcl.mono ?_; rintro e w1 ⟨⟨a', n', c', rfl⟩, hb1⟩))
    go_wp2_with fail
    refine (live_any _ _ _ _ _ _ _ _ _ HR.out).mono ?_
    rintro e w2 ⟨rfl, hb2⟩
    go_wp2_with fail
    refine (dead_any _ _ _ _ _ _ _ _ _ 3 HR.out rfl).mono ?_
    rintro e w3 ⟨rfl, hb3⟩
    go_wp2_with fail
    refine (live_any _ _ _ _ _ _ _ _ _ HR.out).mono ?_
    rintro e w4 ⟨rfl, hb4⟩
    go_wp2
    go_ret
    exact ⟨rfl, below4 hb1 hb2 hb3 hb4⟩
  · go_enter Try.func3, Try.ntmps3
    go_wp2_with (first
      | (go_at_call 10; refine (zzBytes_any _ _ _ _ _ _ _ _ hml).mono ?_; rintro e w' ⟨rfl, hw⟩; subst hw)
      | (go_at_call 11; refine hcl.mono ?_; rintro e w1 ⟨⟨a', n', c', rfl⟩, hb1⟩))
    go_wp2_with fail
    refine (live_any _ _ _ _ _ _ _ _ _ HR.out).mono ?_
    rintro e w2 ⟨rfl, hb2⟩
    go_wp2_with fail
    refine (dead_any _ _ _ _ _ _ _ _ _ 5 HR.out rfl).mono ?_
    rintro e w3 ⟨rfl, hb3⟩
    go_wp2_with fail
    refine (live_any _ _ _ _ _ _ _ _ _ HR.out).mono ?_
    rintro e w4 ⟨rfl, hb4⟩
    go_wp2
    go_ret
    exact ⟨rfl, below4 hb1 hb2 hb3 hb4⟩
theorem law_large (vt vc lt lc : Int) (a : Option Addr) (n c : Nat) (w : World) (hm : n ≤ maxLen) (hn : ¬ n ≤ 1048576) :
    Calls Try.prog 3 #[.int .i64 vt, .int .u64 vc, .slice a n c, .int .i64 lt, .int .u64 lc] w
      fun e w' => e = .returned (.bool true) ∧ Below w.heap.size w w' := by
  have hd1 : decide (n ≤ 1048576) = false := by simp; omega
  go_enter Try.func3, Try.ntmps3
  go_wp2_with (go_at_call 10; refine (zzBytes_any _ _ _ _ _ _ _ _ hm).mono ?_; rintro e w' ⟨rfl, hw⟩; subst hw)
  go_ret
  exact ⟨rfl, Below.refl _ _⟩
end Go.Proofs.Qxb6601234a.Flags

/-
  THE LAW (5): its guards.
-/
import Derived.Test.Qxb6601127aLaw
namespace Go.Proofs.Qxb6601127a.Base
open Go.ChangeShapes Go.WideShapes Go.ChangeAt Go.RowKit
set_option maxRecDepth 100000 in
set_option maxHeartbeats 8000000 in
theorem law_any (a0 : Int) (p1 p2 p3 p4 p5 : Option Addr) (c1 c2 c3 c4 c5 n1 n2 n3 n4 n5 : Nat) (z1 z2 z3 z4 z5 : List Int) (w : World) (k1 : IS.Ok .i32 w ⟨p1, c1, z1⟩) (k2 : IS.Ok .i32 w ⟨p2, c2, z2⟩) (k3 : IS.Ok .u32 w ⟨p3, c3, z3⟩) (k4 : IS.Ok .i64 w ⟨p4, c4, z4⟩) (k5 : IS.Ok .i64 w ⟨p5, c5, z5⟩)
    (e1 : z1.length = n1) (e2 : z2.length = n2) (e3 : z3.length = n3) (e4 : z4.length = n4) (e5 : z5.length = n5) (hfi : ∀ f ∈ z1, -2147483648 ≤ f ∧ f ≤ 2147483647) (hnil : p5 = none → c5 = 0 ∧ n5 = 0) :
    Calls Try.prog 5 #[.int .i64 a0, .slice p1 n1 c1, .slice p2 n2 c2, .slice p3 n3 c3, .slice p4 n4 c4, .slice p5 n5 c5] w (LawP w) := by
  have l1 : n1 ≤ maxLen := by rw [← e1]; exact k1.len
  have l2 : n2 ≤ maxLen := by rw [← e2]; exact k2.len
  have l3 : n3 ≤ maxLen := by rw [← e3]; exact k3.len
  have l4 : n4 ≤ maxLen := by rw [← e4]; exact k4.len
  have l5 : n5 ≤ maxLen := by rw [← e5]; exact k5.len
  have HZB : Hid (Calls Try.prog 18 #[.int .i64 a0, .slice p1 n1 c1, .slice p2 n2 c2, .slice p3 n3 c3, .slice p4 n4 c4, .slice p5 n5 c5] w (SomeBool w)) := zzBytes_any a0 p1 p2 p3 p4 p5 n1 c1 n2 c2 n3 c3 n4 c4 n5 c5 w l1 l2 l3 l4 l5
  have HK : Hid (IS.Ok .i32 w ⟨p1, c1, z1⟩ ∧ IS.Ok .i32 w ⟨p2, c2, z2⟩ ∧ IS.Ok .u32 w ⟨p3, c3, z3⟩ ∧ IS.Ok .i64 w ⟨p4, c4, z4⟩ ∧ IS.Ok .i64 w ⟨p5, c5, z5⟩ ∧ z1.length = n1 ∧ z2.length = n2 ∧ z3.length = n3 ∧ z4.length = n4 ∧ z5.length = n5 ∧ (∀ f ∈ z1, -2147483648 ≤ f ∧ f ≤ 2147483647) ∧ (p5 = none → c5 = 0 ∧ n5 = 0)) := ⟨k1, k2, k3, k4, k5, e1, e2, e3, e4, e5, hfi, hnil⟩
  unfold maxLen at l1 l2 l3 l4 l5
  clear k1 k2 k3 k4 k5 e1 e2 e3 e4 e5 hfi hnil
  rcases Nat.lt_or_ge 65536 n1 with g1 | g1
  · have h1 : (65536 : Int) < (n1 : Int) := by omega
    go_enter Try.func5, Try.ntmps5
    go_wp2_with fail
    with_reducible refine HZB.out.mono ?_
    rintro e w' ⟨b, rfl, hw⟩
    subst hw
    cases b <;> (go_wp2; go_ret; exact ⟨rfl, Below.refl _ _⟩)
  rcases Nat.lt_or_ge 65536 n2 with g2 | g2
  · have h2 : (65536 : Int) < (n2 : Int) := by omega
    have h1 : ¬ (65536 : Int) < (n1 : Int) := by omega
    go_enter Try.func5, Try.ntmps5
    go_wp2_with fail
    with_reducible refine HZB.out.mono ?_
    rintro e w' ⟨b, rfl, hw⟩
    subst hw
    cases b <;> (go_wp2; go_ret; exact ⟨rfl, Below.refl _ _⟩)
  rcases Nat.lt_or_ge 65536 n3 with g3 | g3
  · have h3 : (65536 : Int) < (n3 : Int) := by omega
    have h1 : ¬ (65536 : Int) < (n1 : Int) := by omega
    have h2 : ¬ (65536 : Int) < (n2 : Int) := by omega
    go_enter Try.func5, Try.ntmps5
    go_wp2_with fail
    with_reducible refine HZB.out.mono ?_
    rintro e w' ⟨b, rfl, hw⟩
    subst hw
    cases b <;> (go_wp2; go_ret; exact ⟨rfl, Below.refl _ _⟩)
  rcases Nat.lt_or_ge 65536 n4 with g4 | g4
  · have h4 : (65536 : Int) < (n4 : Int) := by omega
    have h1 : ¬ (65536 : Int) < (n1 : Int) := by omega
    have h2 : ¬ (65536 : Int) < (n2 : Int) := by omega
    have h3 : ¬ (65536 : Int) < (n3 : Int) := by omega
    go_enter Try.func5, Try.ntmps5
    go_wp2_with fail
    with_reducible refine HZB.out.mono ?_
    rintro e w' ⟨b, rfl, hw⟩
    subst hw
    cases b <;> (go_wp2; go_ret; exact ⟨rfl, Below.refl _ _⟩)
  rcases Nat.lt_or_ge 131072 n5 with g5 | g5
  · have h5 : (131072 : Int) < (n5 : Int) := by omega
    have h1 : ¬ (65536 : Int) < (n1 : Int) := by omega
    have h2 : ¬ (65536 : Int) < (n2 : Int) := by omega
    have h3 : ¬ (65536 : Int) < (n3 : Int) := by omega
    have h4 : ¬ (65536 : Int) < (n4 : Int) := by omega
    go_enter Try.func5, Try.ntmps5
    go_wp2_with fail
    with_reducible refine HZB.out.mono ?_
    rintro e w' ⟨b, rfl, hw⟩
    subst hw
    cases b <;> (go_wp2; go_ret; exact ⟨rfl, Below.refl _ _⟩)
  have h1 : ¬ (65536 : Int) < (n1 : Int) := by omega
  have h2 : ¬ (65536 : Int) < (n2 : Int) := by omega
  have h3 : ¬ (65536 : Int) < (n3 : Int) := by omega
  have h4 : ¬ (65536 : Int) < (n4 : Int) := by omega
  have h5 : ¬ (131072 : Int) < (n5 : Int) := by omega
  rcases Nat.lt_or_ge 1048576 (4 * n1 + 4 * n2 + 4 * n3 + 8 * n4 + 8 * n5) with g6 | g6
  · have h6 : (1048576 : Int) < 4 * (n1 : Int) + 4 * (n2 : Int) + 4 * (n3 : Int) + 8 * (n4 : Int) + 8 * (n5 : Int) := by omega
    go_enter Try.func5, Try.ntmps5
    go_wp2_with fail
    with_reducible refine HZB.out.mono ?_
    rintro e w' ⟨b, rfl, hw⟩
    subst hw
    cases b <;> (go_wp2; go_ret; exact ⟨rfl, Below.refl _ _⟩)
  have h6 : ¬ (1048576 : Int) < 4 * (n1 : Int) + 4 * (n2 : Int) + 4 * (n3 : Int) + 8 * (n4 : Int) + 8 * (n5 : Int) := by omega
  rcases Int.lt_or_le a0 0 with g7 | g7
  · skip
    go_enter Try.func5, Try.ntmps5
    go_wp2_with fail
    with_reducible refine HZB.out.mono ?_
    rintro e w' ⟨b, rfl, hw⟩
    subst hw
    cases b <;> (go_wp2; go_ret; exact ⟨rfl, Below.refl _ _⟩)
  have h7 : ¬ a0 < 0 := by omega
  rcases Int.lt_or_le 65536 a0 with g8 | g8
  · skip
    go_enter Try.func5, Try.ntmps5
    go_wp2_with fail
    with_reducible refine HZB.out.mono ?_
    rintro e w' ⟨b, rfl, hw⟩
    subst hw
    cases b <;> (go_wp2; go_ret; exact ⟨rfl, Below.refl _ _⟩)
  have h8 : ¬ 65536 < a0 := by omega
  obtain ⟨N, hNN⟩ := Int.eq_ofNat_of_zero_le g7
  subst hNN
  by_cases h9 : n2 = n1
  case neg =>
    have h9' : ¬ (n2 : Int) = (n1 : Int) := by omega
    go_enter Try.func5, Try.ntmps5
    go_wp2_with fail
    with_reducible refine HZB.out.mono ?_
    rintro e w' ⟨b, rfl, hw⟩
    subst hw
    cases b <;> (go_wp2; go_ret; exact ⟨rfl, Below.refl _ _⟩)
  by_cases h10 : n3 = n1
  case neg =>
    have h10' : ¬ (n3 : Int) = (n1 : Int) := by omega
    subst h9
    go_enter Try.func5, Try.ntmps5
    go_wp2_with fail
    with_reducible refine HZB.out.mono ?_
    rintro e w' ⟨b, rfl, hw⟩
    subst hw
    cases b <;> (go_wp2; go_ret; exact ⟨rfl, Below.refl _ _⟩)
  subst h9
  subst h10
  obtain ⟨k1, k2, k3, k4, k5, e1, e2, e3, e4, e5, hfi, hnil⟩ := HK.out
  cases p5 with
  | none =>
    obtain ⟨rfl, rfl⟩ := hnil rfl
    exact law_nil N p1 p2 p3 p4 c1 c2 c3 c4 _ n4 z1 z2 z3 z4 w k1 k2 k3 k4 e1 e2 e3 e4 hfi g1 g4 (by omega) (by omega)
  | some a5 => exact law_some N p1 p2 p3 p4 c1 c2 c3 c4 c5 _ n4 n5 z1 z2 z3 z4 z5 a5 w k1 k2 k3 k4 k5 e1 e2 e3 e4 e5 g1 g4 g5 (by omega) (by omega)
end Go.Proofs.Qxb6601127a.Base

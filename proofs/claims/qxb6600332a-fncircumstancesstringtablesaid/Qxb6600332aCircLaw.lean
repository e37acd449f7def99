import Derived.Test.Qxb6600332aCirc
namespace Go.Proofs.Qxb6600332a.Circ
open Go.ChangeShapes Go.WideShapes Go.ChangeAt Go.RowKit
/-! ### circumstancesText (18) and the law (7) -/
theorem text_any (m : Int) (w : World) (b0 b1 b2 : Bool) (hm : m = (if b0 then 1 else 0) + (if b1 then 2 else 0) + (if b2 then 4 else 0)) :
    Calls Try.prog 18 #[.int .u8 m] w fun e w' => e = .returned (.string (txt b0 b1 b2)) ∧ w' = w := by
  cases b0 <;> cases b1 <;> cases b2
  all_goals
    simp at hm
    subst hm
    go_enter Try.func18, Try.ntmps18
    go_wp2
    go_ret
    exact ⟨rfl, rfl⟩
theorem bits_all : ∀ c : Fin 256, (c.val : Int) % 8 = (if (bits BinOp.and IntKind.u8 (c.val : Int) 1 != 0) then 1 else 0) + (if (bits BinOp.and IntKind.u8 (c.val : Int) 2 != 0) then 2 else 0) + (if (bits BinOp.and IntKind.u8 (c.val : Int) 4 != 0) then 4 else 0) := by decide +kernel
theorem bits_low (c : Int) (h0 : 0 ≤ c) (h1 : c ≤ 255) : c % 8 = (if (bits BinOp.and IntKind.u8 c 1 != 0) then 1 else 0) + (if (bits BinOp.and IntKind.u8 c 2 != 0) then 2 else 0) + (if (bits BinOp.and IntKind.u8 c 4 != 0) then 4 else 0) := by
  have h := bits_all ⟨c.toNat, by omega⟩
  rwa [show ((c.toNat : Nat) : Int) = c from by omega] at h
theorem law (c : Int) (w : World) (h0 : 0 ≤ c) (h1 : c ≤ 255) :
    Calls Try.prog 7 #[.int .u8 c] w fun e w' => e = .returned (.bool true) ∧ Below w.heap.size w w' := by
  have hb := bits_low c h0 h1
  obtain ⟨b0, e0⟩ : ∃ b, (bits BinOp.and IntKind.u8 c 1 != 0) = b := ⟨_, rfl⟩
  obtain ⟨b1, e1⟩ : ∃ b, (bits BinOp.and IntKind.u8 c 2 != 0) = b := ⟨_, rfl⟩
  obtain ⟨b2, e2⟩ : ∃ b, (bits BinOp.and IntKind.u8 c 4 != 0) = b := ⟨_, rfl⟩
  rw [e0, e1, e2] at hb
  have HB : Hid (c % 8 = (if b0 then 1 else 0) + (if b1 then 2 else 0) + (if b2 then 4 else 0)) := hb
  have E0 : Hid ((bits BinOp.and IntKind.u8 c 1 != 0) = b0) := e0
  have E1 : Hid ((bits BinOp.and IntKind.u8 c 2 != 0) = b1) := e1
  have E2 : Hid ((bits BinOp.and IntKind.u8 c 4 != 0) = b2) := e2
  clear hb e0 e1 e2
  go_enter Try.func7, Try.ntmps7
  go_wp2_with (first | (go_at_call 17; refine (string_any c b0 b1 b2 E0.out E1.out E2.out _).mono ?_; rintro e w' ⟨rfl, hbel⟩) | (go_at_call 18; refine (text_any _ _ b0 b1 b2 HB.out).mono ?_; rintro e w'' ⟨rfl, rfl⟩))
  go_ret
  exact ⟨rfl, hbel⟩
end Go.Proofs.Qxb6600332a.Circ

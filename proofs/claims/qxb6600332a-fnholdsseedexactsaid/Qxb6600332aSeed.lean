import Derived.Test.Qxb6600332aRows
import Derived.WalkKit
import Derived.ProofKit
namespace Go.Proofs.Qxb6600332a.Seed
open Go.ChangeShapes Go.WideShapes Go.ChangeAt Go.RowKit

/-! ### The plain law -/
def ch (s : ByteArray) (k : Nat) : Int := ((s.data.toList.getD k 0).toNat : Int)
def sc (c : Int) : Bool := decide ((65 ≤ c ∧ c ≤ 90) ∨ (97 ≤ c ∧ c ≤ 122) ∨ (50 ≤ c ∧ c ≤ 55))
def b32 (c : Int) : Bool := decide ((65 ≤ c ∧ c ≤ 90) ∨ (50 ≤ c ∧ c ≤ 55))
def Win (s : ByteArray) (i : Nat) : Prop := i + 58 ≤ s.size ∧ (ch s i = 83 ∨ ch s i = 115) ∧ ∀ j, i ≤ j → j < i + 58 → sc (ch s j) = true
theorem ch_at (s : ByteArray) (k : Nat) (h : k < s.size) : ch s k = (s[k].toNat : Int) := by
  have h' : k < s.data.toList.length := by simpa using h
  unfold ch
  rw [List.getD_eq_getElem?_getD, List.getElem?_eq_getElem h']
  rfl
theorem ret_bool {a b : Bool} (h : a = b) : Ending.returned (.bool a) = .returned (.bool b) := by rw [h]
def Inv (s : ByteArray) (k r : Nat) : Prop := k + r ≤ s.size ∧ (∀ j, k ≤ j → j < k + r → sc (ch s j) = true) ∧ (k + r < s.size → sc (ch s (k + r)) = false) ∧ ∀ i, k ≤ i → ¬ Win s i
theorem inv_start (s : ByteArray) : Inv s s.size 0 :=
  ⟨by omega, fun j h1 h2 => by omega, fun h => by omega, fun i hi h => by have := h.1; omega⟩
theorem inv_zero {s : ByteArray} {k r : Nat} (h : Inv s (k + 1) r) (hc : sc (ch s k) = false) : Inv s k 0 := by
  obtain ⟨h1, h2, h3, h4⟩ := h
  refine ⟨by omega, fun j a b => by omega, fun _ => hc, fun i hi hw => ?_⟩
  by_cases e : i = k
  · subst e
    have := hw.2.2 i (by omega) (by omega)
    rw [hc] at this; cases this
  · exact h4 i (by omega) hw
theorem inv_succ {s : ByteArray} {k r : Nat} (h : Inv s (k + 1) r) (hc : sc (ch s k) = true) (hn : ¬ ((ch s k = 83 ∨ ch s k = 115) ∧ 57 ≤ r)) : Inv s k (r + 1) := by
  obtain ⟨h1, h2, h3, h4⟩ := h
  refine ⟨by omega, fun j a b => ?_, fun hl => ?_, fun i hi hw => ?_⟩
  · by_cases e : j = k
    · rw [e]; exact hc
    · exact h2 j (by omega) (by omega)
  · have e : k + (r + 1) = k + 1 + r := by omega
    rw [e]; exact h3 (by omega)
  · by_cases e : i = k
    · subst e
      apply hn
      refine ⟨hw.2.1, ?_⟩
      by_cases hr : 57 ≤ r
      · exact hr
      · have hw1 := hw.1
        have a := hw.2.2 (i + 1 + r) (by omega) (by omega)
        rw [h3 (by omega)] at a; cases a
    · exact h4 i (by omega) hw
theorem inv_win {s : ByteArray} {k r : Nat} (h : Inv s (k + 1) r) (hc : sc (ch s k) = true) (hS : ch s k = 83 ∨ ch s k = 115) (hr : 57 ≤ r) : Win s k := by
  obtain ⟨h1, h2, h3, h4⟩ := h
  refine ⟨by omega, hS, fun j a b => ?_⟩
  by_cases e : j = k
  · rw [e]; exact hc
  · exact h2 j (by omega) (by omega)

def winB (s : ByteArray) (i : Nat) : Bool := decide (i + 58 ≤ s.size) && (ch s i == 83 || ch s i == 115) && (List.range 58).all fun j => sc (ch s (i + j))
def hasB (s : ByteArray) : Bool := (List.range s.size).any fun i => winB s i
theorem winB_iff (s : ByteArray) (i : Nat) : winB s i = true ↔ Win s i := by
  unfold winB Win
  simp only [Bool.and_eq_true, decide_eq_true_eq, Bool.or_eq_true, beq_iff_eq, List.all_eq_true, List.mem_range]
  constructor
  · rintro ⟨⟨h1, h2⟩, h3⟩
    refine ⟨h1, h2, fun j a b => ?_⟩
    have := h3 (j - i) (by omega)
    rwa [show i + (j - i) = j from by omega] at this
  · rintro ⟨h1, h2, h3⟩
    exact ⟨⟨h1, h2⟩, fun j hj => h3 (i + j) (by omega) (by omega)⟩
theorem hasB_iff (s : ByteArray) : hasB s = true ↔ ∃ i, Win s i := by
  unfold hasB
  simp only [List.any_eq_true, List.mem_range]
  constructor
  · rintro ⟨i, _, h⟩; exact ⟨i, (winB_iff s i).1 h⟩
  · rintro ⟨i, h⟩; exact ⟨i, by have := h.1; omega, (winB_iff s i).2 h⟩
theorem has_of (s : ByteArray) (i : Nat) (h : Win s i) : hasB s = true := (hasB_iff s).2 ⟨i, h⟩
theorem has_not (s : ByteArray) (h : ∀ i, ¬ Win s i) : hasB s = false := by
  rw [← Bool.not_eq_true, hasB_iff]; rintro ⟨i, hi⟩; exact h i hi
/-! what the walk's ways come to, in the walk's own spelling -/
theorem way_zero {s : ByteArray} {k r : Nat} {c : Int} (hk : k < s.size) (h : Hid (Inv s (k + 1) r)) (hb : (!b32 c) = true) (hc : c = (s[k].toNat : Int) ∧ (c < 97 ∨ 122 < c) ∨ c = (s[k].toNat : Int) - 32 ∧ 97 ≤ (s[k].toNat : Int) ∧ (s[k].toNat : Int) ≤ 122) : Hid (Inv s k 0) := by
  refine inv_zero h.out ?_
  rw [ch_at s k hk]
  unfold sc; unfold b32 at hb
  simp at hb ⊢
  omega
theorem way_sc {s : ByteArray} {k : Nat} {c : Int} (hk : k < s.size) (hb : (!b32 c) = false) (hc : c = (s[k].toNat : Int) ∧ (c < 97 ∨ 122 < c) ∨ c = (s[k].toNat : Int) - 32 ∧ 97 ≤ (s[k].toNat : Int) ∧ (s[k].toNat : Int) ≤ 122) : sc (ch s k) = true := by
  rw [ch_at s k hk]
  unfold sc; unfold b32 at hb
  simp at hb ⊢
  omega
theorem way_succ {s : ByteArray} {k r : Nat} {c : Int} (hk : k < s.size) (h : Hid (Inv s (k + 1) r)) (hb : (!b32 c) = false) (hc : c = (s[k].toNat : Int) ∧ (c < 97 ∨ 122 < c) ∨ c = (s[k].toNat : Int) - 32 ∧ 97 ≤ (s[k].toNat : Int) ∧ (s[k].toNat : Int) ≤ 122) (hn : ¬ c = 83 ∨ (r : Int) + 1 < 58) : Hid (Inv s k (r + 1)) := by
  refine inv_succ h.out (way_sc hk hb hc) ?_
  rw [ch_at s k hk]
  omega
theorem way_win {s : ByteArray} {k r : Nat} {c : Int} (hk : k < s.size) (h : Hid (Inv s (k + 1) r)) (hb : (!b32 c) = false) (hc : c = (s[k].toNat : Int) ∧ (c < 97 ∨ 122 < c) ∨ c = (s[k].toNat : Int) - 32 ∧ 97 ≤ (s[k].toNat : Int) ∧ (s[k].toNat : Int) ≤ 122) (h1 : c = 83) (h2 : 58 ≤ (r : Int) + 1) : hasB s = true := by
  refine has_of s k (inv_win h.out (way_sc hk hb hc) ?_ (by omega))
  rw [ch_at s k hk]
  omega

/-! ### seedChar (20), isBase32 (23) -/
theorem seedChar_any (c : Int) (w : World) :
    Calls Try.prog 20 #[.int .u8 c] w fun e w' => e = .returned (.bool (sc c)) ∧ w' = w := by
  go_enter Try.func20, Try.ntmps20
  go_wp2
  all_goals
    go_ret
    refine ⟨ret_bool ?_, rfl⟩
    unfold sc
    rw [Bool.eq_iff_iff]
    simp
    omega
theorem isBase32_any (c : Int) (w : World) :
    Calls Try.prog 23 #[.int .u8 c] w fun e w' => e = .returned (.bool (b32 c)) ∧ w' = w := by
  go_enter Try.func23, Try.ntmps23
  go_wp2
  all_goals
    go_ret
    refine ⟨ret_bool ?_, rfl⟩
    unfold b32
    rw [Bool.eq_iff_iff]
    simp
    omega
/-! ### holdsSeed (21) -/
set_option maxHeartbeats 400000 in
theorem holdsSeed_any (s : ByteArray) (w : World) (hs : s.size ≤ maxLen) :
    Calls Try.prog 21 #[.string s] w fun e w' => e = .returned (.bool (hasB s)) ∧ w' = w := by
  unfold maxLen at hs
  go_enter Try.func21, Try.ntmps21
  go_wp2
  go_loop [3, 4] (fun run i => ∃ k r : Nat, k + r ≤ s.size ∧ i = .int .i64 ((k : Int) - 1) ∧ run = .int .i64 r ∧ Hid (Inv s k r)) (fun _ i => (intOf i + 1).toNat)
  case atStart => exact ⟨s.size, 0, by omega, rfl, rfl, inv_start s⟩
  case round =>
    obtain ⟨k, r, hk, rfl, rfl, hinv⟩ := hrel
    cases k with
    | zero =>
      go_wp2
      go_ret
      exact ⟨ret_bool (has_not s fun i => hinv.out.2.2.2 i (Nat.zero_le _)).symm, rfl⟩
    | succ k =>
      have hks : k < s.size := by omega
      go_wp2_with (go_at_call 23; refine (isBase32_any _ _).mono ?_; rintro e w' ⟨rfl, rfl⟩)
      all_goals try (go_ret; exact ⟨ret_bool (way_win hks hinv ‹_› (by omega) (by omega) ‹_›).symm, rfl⟩)
      all_goals go_round
      all_goals first
        | (refine ⟨k, 0, ?_, ?_, rfl, ?_⟩
           · omega
           · rfl
           · exact way_zero hks hinv ‹_› (by omega))
        | (refine ⟨k, r + 1, ?_, ?_, ?_, ?_⟩
           · omega
           · rfl
           · go_num
           · exact way_succ hks hinv ‹_› (by omega) (by omega))
        | (simp only [intOf]; omega)
/-! ### ZZholdsSeed (12), zzBytes (10) -/
theorem zzHolds_any (s : ByteArray) (w : World) (hs : s.size ≤ maxLen) :
    Calls Try.prog 12 #[.string s] w fun e w' => e = .returned (.bool (hasB s)) ∧ w' = w := by
  go_enter Try.func12, Try.ntmps12
  go_wp2_with (go_at_call 21; refine (holdsSeed_any _ _ hs).mono ?_; rintro e w' ⟨rfl, rfl⟩)
  go_ret
  exact ⟨rfl, rfl⟩
theorem zzBytes_any (s : ByteArray) (w : World) (hs : s.size ≤ maxLen) :
    Calls Try.prog 10 #[.string s] w fun e w' => e = .returned (.bool (decide (s.size ≤ 1048576))) ∧ w' = w := by
  unfold maxLen at hs
  by_cases h : s.size ≤ 1048576
  · have h2 : (s.size : Int) ≤ 1048576 := by omega
    go_enter Try.func10, Try.ntmps10
    go_wp2
    go_ret
    exact ⟨ret_bool (by simp [h]), rfl⟩
  · have h2 : 1048576 < (s.size : Int) := by omega
    go_enter Try.func10, Try.ntmps10
    go_wp2
    go_ret
    exact ⟨ret_bool (by simp [h]), rfl⟩
/-! ### seedAt (11) -/
theorem win_no {s : ByteArray} {i : Nat} (h : ¬ (ch s i = 83 ∨ ch s i = 115)) : winB s i = false := by
  rw [← Bool.not_eq_true, winB_iff]; intro hw; exact h hw.2.1
theorem win_bad {s : ByteArray} {i j : Nat} (h1 : i ≤ j) (h2 : j < i + 58) (h : sc (ch s j) = false) : winB s i = false := by
  rw [← Bool.not_eq_true, winB_iff]; intro hw; have := hw.2.2 j h1 h2; rw [h] at this; cases this
theorem win_yes {s : ByteArray} {i : Nat} (h0 : i + 58 ≤ s.size) (h : ch s i = 83 ∨ ch s i = 115) (h1 : ∀ j, i ≤ j → j < i + 58 → sc (ch s j) = true) : winB s i = true :=
  (winB_iff s i).2 ⟨h0, h, h1⟩
theorem seedAt_loop (s : ByteArray) (i : Nat) (w : World) (hs : s.size ≤ 1048576) (hi : i + 58 ≤ s.size) (his : i < s.size)
    (hc : ((s[i].toNat : Int) != 83) = false ∨ ((s[i].toNat : Int) != 83) = true ∧ ((s[i].toNat : Int) != 115) = false) :
    Calls Try.prog 11 #[.string s, .int .i64 i] w fun e w' => e = .returned (.bool (winB s i)) ∧ w' = w := by
  have hS : ch s i = 83 ∨ ch s i = 115 := by rw [ch_at s i his]; simp at hc; omega
  have HS : Hid (ch s i = 83 ∨ ch s i = 115) := hS
  clear hS
  rcases hc with h | ⟨h, h'⟩
  all_goals
    go_enter Try.func11, Try.ntmps11
    go_wp2
    go_loop [5] (fun j => ∃ k : Nat, i ≤ k ∧ k ≤ i + 58 ∧ j = .int .i64 k ∧ Hid (∀ x, i ≤ x → x < k → sc (ch s x) = true)) (fun j => 1048576 - (intOf j).toNat)
    case atStart => exact ⟨i, by omega, by omega, rfl, fun x a b => by omega⟩
    case round =>
      obtain ⟨k, hk1, hk2, rfl, hall⟩ := hrel
      by_cases hlt : k < i + 58
      · have hks : k < s.size := by omega
        cases hsc : sc (s[k].toNat : Int)
        all_goals
          have HC : Hid (sc (ch s k) = sc (s[k].toNat : Int)) := by rw [ch_at s k hks]; exact rfl
        · go_wp2_with (go_at_call 20; refine (seedChar_any _ _).mono ?_; rintro e w' ⟨rfl, rfl⟩)
          go_ret
          exact ⟨ret_bool (win_bad hk1 hlt (by rw [HC.out]; exact hsc)).symm, rfl⟩
        · go_wp2_with (go_at_call 20; refine (seedChar_any _ _).mono ?_; rintro e w' ⟨rfl, rfl⟩)
          go_round
          case rel =>
            refine ⟨k + 1, by omega, by omega, by go_num, fun x a b => ?_⟩
            by_cases e : x = k
            · rw [e, HC.out]; exact hsc
            · exact hall.out x a (by omega)
          case measure => simp only [intOf]; omega
      · go_wp2
        go_ret
        exact ⟨ret_bool (win_yes hi HS.out (fun j a b => hall.out j a (by omega))).symm, rfl⟩
theorem seedAt_any (s : ByteArray) (i : Nat) (w : World) (hs : s.size ≤ 1048576) (hi : i + 58 ≤ s.size) :
    Calls Try.prog 11 #[.string s, .int .i64 i] w fun e w' => e = .returned (.bool (winB s i)) ∧ w' = w := by
  have his : i < s.size := by omega
  by_cases h1 : (s[i].toNat : Int) = 83
  · exact seedAt_loop s i w hs hi his (Or.inl (by simp [h1]))
  by_cases h2 : (s[i].toNat : Int) = 115
  · exact seedAt_loop s i w hs hi his (Or.inr ⟨by simp [h2], by simp [h2]⟩)
  have hno : winB s i = false := win_no (by rw [ch_at s i his]; omega)
  have HN : Hid (winB s i = false) := hno
  clear hno
  have h1' : ((s[i].toNat : Int) != 83) = true := by rw [bne_iff_ne]; exact h1
  have h2' : ((s[i].toNat : Int) != 115) = true := by rw [bne_iff_ne]; exact h2
  go_enter Try.func11, Try.ntmps11
  go_wp2
  go_ret
  exact ⟨ret_bool HN.out.symm, rfl⟩
/-! ### FnHoldsSeedExact (4) -/
theorem tail_no {s : ByteArray} {k : Nat} (hk : s.size < k + 58) (h : ∀ x, x < k → winB s x = false) : hasB s = false := by
  refine has_not s fun i hw => ?_
  have h1 := hw.1
  have h2 := h i (by omega)
  rw [(winB_iff s i).2 hw] at h2; cases h2
theorem law_small (s : ByteArray) (w : World) (hs : s.size ≤ 1048576) :
    Calls Try.prog 4 #[.string s] w fun e w' => e = .returned (.bool true) ∧ w' = w := by
  have hml : s.size ≤ maxLen := by unfold maxLen; omega
  have hd : decide (s.size ≤ 1048576) = true := by simp [hs]
  go_enter Try.func4, Try.ntmps4
  go_wp2_with (go_at_call 10; refine (zzBytes_any _ _ hml).mono ?_; rintro e w' ⟨rfl, rfl⟩)
  go_loop [3, 4] (fun b i => ∃ k : Nat, k ≤ s.size ∧ i = .int .i64 k ∧ b = .bool false ∧ Hid (∀ x, x < k → winB s x = false)) (fun _ i => 1048576 - (intOf i).toNat)
  case atStart => exact ⟨0, by omega, rfl, rfl, fun x a => by omega⟩
  case round =>
    obtain ⟨k, hk, rfl, rfl, hall⟩ := hrel
    by_cases hlt : k + 58 ≤ s.size
    · cases hw : winB s k
      · go_wp2_with (go_at_call 11; refine (seedAt_any _ _ _ hs hlt).mono ?_; rintro e w' ⟨rfl, rfl⟩)
        go_round
        case rel =>
          refine ⟨k + 1, by omega, by go_num, rfl, fun x a => ?_⟩
          by_cases e : x = k
          · rw [e]; exact hw
          · exact hall.out x (by omega)
        case measure => simp only [intOf]; omega
      · have hh : hasB s = true := has_of s k ((winB_iff s k).1 hw)
        go_wp2_with (first | (go_at_call 11; refine (seedAt_any _ _ _ hs hlt).mono ?_; rintro e w' ⟨rfl, rfl⟩) | (go_at_call 12; refine (zzHolds_any _ _ hml).mono ?_; rintro e w' ⟨rfl, rfl⟩))
        go_ret
        exact ⟨rfl, rfl⟩
    · have hh : hasB s = false := tail_no (by omega) hall.out
      go_wp2_with (go_at_call 12; refine (zzHolds_any _ _ hml).mono ?_; rintro e w' ⟨rfl, rfl⟩)
      go_ret
      exact ⟨rfl, rfl⟩
theorem law_large (s : ByteArray) (w : World) (hm : s.size ≤ maxLen) (hs : ¬ s.size ≤ 1048576) :
    Calls Try.prog 4 #[.string s] w fun e w' => e = .returned (.bool true) ∧ w' = w := by
  have hd : decide (s.size ≤ 1048576) = false := by simp; omega
  go_enter Try.func4, Try.ntmps4
  go_wp2_with (go_at_call 10; refine (zzBytes_any _ _ hm).mono ?_; rintro e w' ⟨rfl, rfl⟩)
  go_ret
  exact ⟨rfl, rfl⟩
end Go.Proofs.Qxb6600332a.Seed

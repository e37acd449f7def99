import Derived.Test.Qxb6601234aRows
import Derived.WalkKit
import Derived.ProofKit
import Derived.WalkSpells
namespace Go.Proofs.Qxb6601234a.Clone
open Go.ChangeShapes Go.WideShapes Go.ChangeAt Go.RowKit

theorem info5 : (Try.prog.info? 5).map (fun i => (i.zero, i.size, i.bytes)) = some (some (.int .u8 0), 1, 1) := by kernel_rfl
/-- a row of bytes, as cells -/
def cellsOf (zs : List Int) : List Value := zs.map (Value.int .u8)
/-- what the clone holds after k rounds -/
def part (zs : List Int) (n k : Nat) : List Value := cellsOf (zs.take k ++ List.replicate (n - k) 0)
theorem part_zero (l : List Int) (n : Nat) : part l n 0 = List.replicate n (.int .u8 0) := by simp [part, cellsOf]
theorem part_full (l : List Int) (n : Nat) (h : l.length = n) : part l n n = cellsOf l := by simp [part, List.take_of_length_le (Nat.le_of_eq h)]
theorem part_set (l : List Int) (n k : Nat) (v : Int) (h : l.length = n) (hk : k < n) (hv : l[k]? = some v) : (part l n k).set k (.int .u8 v) = part l n (k + 1) := by
  unfold part cellsOf
  have h1 : (l.take k).length = k := by simp; omega
  rw [← List.map_set, List.set_append_right _ _ (by omega), h1, Nat.sub_self, show n - k = (n - (k + 1)) + 1 from by omega, List.replicate_succ, List.set_cons_zero, List.take_succ_eq_append_getElem (by omega)]
  have : l[k] = v := by rw [List.getElem?_eq_getElem (by omega)] at hv; simpa using hv
  simp [this]
theorem made_zero (n : Nat) (z : Value) : (madeCells #[z] n).toList = List.replicate n z := toList_madeCells_one z n
theorem nil_any (c n : Nat) (w : World) : Calls Try.prog 11 #[.slice none n c] w fun e w' => e = .returned (.slice none 0 0) ∧ w' = w := by
  have hq := fun w => Lib.run_eql_slice_nil (P := Try.prog) w 23 5 none n c 0 0 Try.underlying23
  go_enter Try.func11, Try.ntmps11
  go_wp2
  go_ret
  exact ⟨rfl, rfl⟩
theorem some_any (b off n c : Nat) (l : List Int) (w : World) (hl : l.length = n) (hn : n ≤ 1048576) (hb : b < w.heap.size) (hc : ∀ i v, l[i]? = some v → w.cell? ⟨b, off + i, none⟩ = some (.int .u8 v)) :
    Calls Try.prog 11 #[.slice (some ⟨b, off, none⟩) n c] w fun e w' => e = .returned (.slice (some ⟨w.heap.size, 0, none⟩) n n) ∧
      w'.ownsRow w.heap.size 5 1 (.slice (some ⟨w.heap.size, 0, none⟩) n n) n (cellsOf l) ∧ Below w.heap.size w w' := by
  obtain ⟨i0, hi, hz0, hz1, hz2⟩ := info_parts info5
  have hq := fun w => Lib.run_eql_slice_nil (P := Try.prog) w 23 5 (some ⟨b, off, none⟩) n c 0 0 Try.underlying23
  go_enter Try.func11, Try.ntmps11
  go_wp2_with (at_make; refine wpList_make_full _ rfl _ _ 23 rfl w.heap.size 5 i0 (.int .u8 0) 1 Try.underlying23 hi hz0 hz1 .i64 .i64 _ _ n rfl rfl rfl rfl (by rw [hz2]; omega) (by unfold maxLen; omega) (Nat.le_refl _) ?_)
  intro w1 hown1 hgrow1
  have hb1 : Below w.heap.size w w1 := (Below.refl _ _).grown hgrow1 (Nat.le_refl _) (by intro k h; cases h)
  have hown2 : w1.ownsRow w.heap.size 5 1 (.slice (some ⟨w.heap.size, 0, none⟩) n n) n (part l n 0) := by
    rw [part_zero, ← made_zero]; exact hown1
  clear hown1 hgrow1
  go_wp2
  go_loopw [4] (fun i wr => ∃ k : Nat, k ≤ n ∧ i = .int .i64 k ∧ wr.ownsRow w.heap.size 5 1 (.slice (some ⟨w.heap.size, 0, none⟩) n n) n (part l n k) ∧ Below w.heap.size w wr) (fun i _ => n - (intOf i).toNat)
  case atStart => exact ⟨0, Nat.zero_le _, rfl, hown2, hb1⟩
  case round =>
    obtain ⟨k, hk, rfl, hown, hbel⟩ := hrel
    clear hown2 hb1
    by_cases hlt : k < n
    · obtain ⟨v, hv⟩ : ∃ v, l[k]? = some v := ⟨_, List.getElem?_eq_getElem (by omega)⟩
      have h1 : wr.cell? ⟨b, off + k, none⟩ = some (.int .u8 v) := (hbel.cell (by exact hb)).trans (hc k v hv)
      have h2 : wr.frozen? ⟨w.heap.size, k, none⟩ = false := hown.frozenAt k
      obtain ⟨u, h3⟩ : ∃ u, wr.cell? ⟨w.heap.size, k, none⟩ = some u := by rw [hown.cellAt k (by omega)]; exact ⟨_, List.getElem?_eq_getElem (by have := hown.1; omega)⟩
      have R := hown.stored k (.int .u8 v)
      rw [part_set l n k v hl hlt hv] at R
      have R2 := hbel.setCell (p := ⟨w.heap.size, k, none⟩) (Nat.le_refl _) (.int .u8 v)
      have HV : Hid (l[k]? = some v) := hv
      have HR := R.1
      clear R hv hc hown
      go_wp2
      go_roundw
      case rel => exact ⟨k + 1, by omega, by go_num, HR, R2⟩
      case measure => simp only [intOf]; omega
    · have e : k = n := by omega
      subst e
      rw [part_full l k hl] at hown
      go_wp2
      go_ret
      exact ⟨rfl, hown, hbel⟩
theorem zero_any (x : Addr) (c : Nat) (w : World) :
    Calls Try.prog 11 #[.slice (some x) 0 c] w fun e w' => e = .returned (.slice (some ⟨w.heap.size, 0, none⟩) 0 0) ∧
      w'.ownsRow w.heap.size 5 1 (.slice (some ⟨w.heap.size, 0, none⟩) 0 0) 0 [] ∧ Below w.heap.size w w' := by
  obtain ⟨i0, hi, hz0, hz1, hz2⟩ := info_parts info5
  have hq := fun w => Lib.run_eql_slice_nil (P := Try.prog) w 23 5 (some x) 0 c 0 0 Try.underlying23
  go_enter Try.func11, Try.ntmps11
  go_wp2_with (at_make; refine wpList_make_full _ rfl _ _ 23 rfl w.heap.size 5 i0 (.int .u8 0) 1 Try.underlying23 hi hz0 hz1 .i64 .i64 _ _ 0 rfl rfl rfl rfl (by rw [hz2]; omega) (by unfold maxLen; omega) (Nat.le_refl _) ?_)
  intro w1 hown1 hgrow1
  have hb1 : Below w.heap.size w w1 := (Below.refl _ _).grown hgrow1 (Nat.le_refl _) (by intro k h; cases h)
  have hown2 : w1.ownsRow w.heap.size 5 1 (.slice (some ⟨w.heap.size, 0, none⟩) 0 0) 0 [] := by
    have h := made_zero 0 (.int .u8 0); simp only [List.replicate_zero] at h; rw [← h]; exact hown1
  clear hown1 hgrow1
  go_wp2
  refine wp_loop_rounds 1 ?_
  rw [rounds_succ]
  go_wp2
  go_ret
  exact ⟨rfl, hown2, hb1⟩
end Go.Proofs.Qxb6601234a.Clone

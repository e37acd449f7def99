import Derived.Test.Qxb6601127aBase
namespace Go.Proofs.Qxb6601127a.Base
open Go.ChangeShapes Go.WideShapes Go.ChangeAt Go.RowKit

/-- a row of integers, as cells -/
def cellsOf (k : IntKind) (zs : List Int) : List Value := zs.map (Value.int k)
/-- what the clone holds after j rounds -/
def part (k : IntKind) (zs : List Int) (n j : Nat) : List Value := cellsOf k (zs.take j ++ List.replicate (n - j) 0)
theorem part_zero (k : IntKind) (l : List Int) (n : Nat) : part k l n 0 = List.replicate n (.int k 0) := by simp [part, cellsOf]
theorem part_full (k : IntKind) (l : List Int) (n : Nat) (h : l.length = n) : part k l n n = cellsOf k l := by simp [part, List.take_of_length_le (Nat.le_of_eq h)]
theorem part_set (kd : IntKind) (l : List Int) (n k : Nat) (v : Int) (h : l.length = n) (hk : k < n) (hv : l[k]? = some v) : (part kd l n k).set k (.int kd v) = part kd l n (k + 1) := by
  unfold part cellsOf
  have h1 : (l.take k).length = k := by simp; omega
  rw [← List.map_set, List.set_append_right _ _ (by omega), h1, Nat.sub_self, show n - k = (n - (k + 1)) + 1 from by omega, List.replicate_succ, List.set_cons_zero, List.take_succ_eq_append_getElem (by omega)]
  have : l[k] = v := by rw [List.getElem?_eq_getElem (by omega)] at hv; simpa using hv
  simp [this]
theorem made_zero (n : Nat) (z : Value) : (madeCells #[z] n).toList = List.replicate n z := toList_madeCells_one z n
/-- what a clone of s is: it lies in new memory -/
structure Cloned (k : IntKind) (w : World) (s s' : IS) (w' : World) : Prop where
  zs : s'.zs = s.zs
  nil : s'.p = none ↔ s.p = none
  ok : IS.Ok k w' s'
  new : ∀ g o sp, s'.p = some ⟨g, o, sp⟩ → w.heap.size ≤ g
  cap : s'.zs.length ≤ s'.c
  below : Below w.heap.size w w'
def CP (k : IntKind) (w : World) (s : IS) (e : Ending) (w' : World) : Prop := ∃ s', e = .returned (.slice s'.p s'.zs.length s'.c) ∧ Cloned k w s s' w'
theorem row_of_own {k : IntKind} {w : World} {g n e : Nat} {l : List Int} (hl : l.length = n) (h : w.ownsRow g e 1 (.slice (some ⟨g, 0, none⟩) n n) n (cellsOf k l)) : RowIn k w (some ⟨g, 0, none⟩) l := by
  intro hn
  refine ⟨g, 0, rfl, fun i z hz => ?_⟩
  obtain ⟨hi, e⟩ := List.getElem?_eq_some_iff.1 hz
  rw [Nat.zero_add, h.cellAt i (by omega)]
  simp [cellsOf, hz]

/-! ### clone 9: slices of i64 -/
theorem info9 : (Try.prog.info? 3).map (fun i => (i.zero, i.size, i.bytes)) = some (some (.int .i64 0), 1, 8) := by kernel_rfl
theorem clone9_nil (c n : Nat) (w : World) : Calls Try.prog 9 #[.slice none n c] w fun e w' => e = .returned (.slice none 0 0) ∧ w' = w := by
  have hq := fun w => Lib.run_eql_slice_nil (P := Try.prog) w 22 3 none n c 0 0 Try.underlying22
  go_enter Try.func9, Try.ntmps9
  go_wp2
  go_ret
  exact ⟨rfl, rfl⟩
theorem clone9_some (b off n c : Nat) (l : List Int) (w : World) (hl : l.length = n) (hn : n ≤ 1048576) (hb : b < w.heap.size) (hc : ∀ (i : Nat) v, l[i]? = some v → w.cell? ⟨b, off + i, none⟩ = some (.int .i64 v)) :
    Calls Try.prog 9 #[.slice (some ⟨b, off, none⟩) n c] w fun e w' => e = .returned (.slice (some ⟨w.heap.size, 0, none⟩) n n) ∧
      w'.ownsRow w.heap.size 3 1 (.slice (some ⟨w.heap.size, 0, none⟩) n n) n (cellsOf .i64 l) ∧ Below w.heap.size w w' := by
  obtain ⟨i0, hi, hz0, hz1, hz2⟩ := info_parts info9
  have hq := fun w => Lib.run_eql_slice_nil (P := Try.prog) w 22 3 (some ⟨b, off, none⟩) n c 0 0 Try.underlying22
  go_enter Try.func9, Try.ntmps9
  go_wp2_with (at_make; refine wpList_make_full _ rfl _ _ 22 rfl w.heap.size 3 i0 (.int .i64 0) 1 Try.underlying22 hi hz0 hz1 .i64 .i64 _ _ n rfl rfl rfl rfl (by rw [hz2]; omega) (by unfold maxLen; omega) (Nat.le_refl _) ?_)
  intro w1 hown1 hgrow1
  have hb1 : Below w.heap.size w w1 := (Below.refl _ _).grown hgrow1 (Nat.le_refl _) (by intro k h; cases h)
  have hown2 : w1.ownsRow w.heap.size 3 1 (.slice (some ⟨w.heap.size, 0, none⟩) n n) n (part .i64 l n 0) := by
    rw [part_zero, ← made_zero]; exact hown1
  clear hown1 hgrow1
  go_wp2
  go_loopw [4] (fun i wr => ∃ k : Nat, k ≤ n ∧ i = .int .i64 k ∧ wr.ownsRow w.heap.size 3 1 (.slice (some ⟨w.heap.size, 0, none⟩) n n) n (part .i64 l n k) ∧ Below w.heap.size w wr) (fun i _ => n - (intOf i).toNat)
  case atStart => exact ⟨0, Nat.zero_le _, rfl, hown2, hb1⟩
  case round =>
    obtain ⟨k, hk, rfl, hown, hbel⟩ := hrel
    clear hown2 hb1
    by_cases hlt : k < n
    · obtain ⟨v, hv⟩ : ∃ v, l[k]? = some v := ⟨_, List.getElem?_eq_getElem (by omega)⟩
      have h1 : wr.cell? ⟨b, off + k, none⟩ = some (.int .i64 v) := (hbel.cell (by exact hb)).trans (hc k v hv)
      have h2 : wr.frozen? ⟨w.heap.size, k, none⟩ = false := hown.frozenAt k
      obtain ⟨u, h3⟩ : ∃ u, wr.cell? ⟨w.heap.size, k, none⟩ = some u := by rw [hown.cellAt k (by omega)]; exact ⟨_, List.getElem?_eq_getElem (by have := hown.1; omega)⟩
      have R := hown.stored k (.int .i64 v)
      rw [part_set .i64 l n k v hl hlt hv] at R
      have R2 := hbel.setCell (p := ⟨w.heap.size, k, none⟩) (Nat.le_refl _) (.int .i64 v)
      have HV : Hid (l[k]? = some v) := hv
      have HR := R.1
      clear R hv hc hown
      go_wp2
      go_roundw
      case rel => exact ⟨k + 1, by omega, by go_num, HR, R2⟩
      case measure => simp only [intOf]; omega
    · have e : k = n := by omega
      subst e
      rw [part_full .i64 l k hl] at hown
      go_wp2
      go_ret
      exact ⟨rfl, hown, hbel⟩
theorem clone9_zero (x : Addr) (c : Nat) (w : World) :
    Calls Try.prog 9 #[.slice (some x) 0 c] w fun e w' => e = .returned (.slice (some ⟨w.heap.size, 0, none⟩) 0 0) ∧ Below w.heap.size w w' := by
  obtain ⟨i0, hi, hz0, hz1, hz2⟩ := info_parts info9
  have hq := fun w => Lib.run_eql_slice_nil (P := Try.prog) w 22 3 (some x) 0 c 0 0 Try.underlying22
  go_enter Try.func9, Try.ntmps9
  go_wp2_with (at_make; refine wpList_make_full _ rfl _ _ 22 rfl w.heap.size 3 i0 (.int .i64 0) 1 Try.underlying22 hi hz0 hz1 .i64 .i64 _ _ 0 rfl rfl rfl rfl (by rw [hz2]; omega) (by unfold maxLen; omega) (Nat.le_refl _) ?_)
  intro w1 hown1 hgrow1
  have hb1 : Below w.heap.size w w1 := (Below.refl _ _).grown hgrow1 (Nat.le_refl _) (by intro k h; cases h)
  clear hown1 hgrow1
  go_wp2
  refine wp_loop_rounds 1 ?_
  rw [rounds_succ]
  go_wp2
  go_ret
  exact ⟨rfl, hb1⟩
theorem clone9_any (s : IS) (w : World) (h : IS.Ok .i64 w s) (hl : s.zs.length ≤ 1048576) : Calls Try.prog 9 #[.slice s.p s.zs.length s.c] w (CP .i64 w s) := by
  obtain ⟨p, c, zs⟩ := s
  cases p with
  | none =>
    by_cases h0 : 0 < zs.length
    · obtain ⟨b, o, e, _⟩ := h.cells h0; cases e
    · have e : zs = [] := List.eq_nil_of_length_eq_zero (by omega)
      subst e
      refine (clone9_nil c 0 w).mono fun e w' ⟨he, hw⟩ => ?_
      subst hw
      exact ⟨⟨none, 0, []⟩, he, rfl, by simp, ⟨fun h => by simp at h, by simp⟩, (fun g o sp h => by cases h), by simp, Below.refl _ _⟩
  | some x =>
    by_cases h0 : 0 < zs.length
    · obtain ⟨b, o, e, hc⟩ := h.cells h0
      cases e
      refine (clone9_some b o zs.length c zs w rfl hl (cell_lt (hc 0 zs[0] (List.getElem?_eq_getElem h0))) hc).mono fun e w' ⟨he, hown, hb⟩ => ?_
      exact ⟨⟨some ⟨w.heap.size, 0, none⟩, zs.length, zs⟩, he, rfl, by simp, ⟨row_of_own rfl hown, h.len⟩, (fun g o sp h => by cases h; exact Nat.le_refl _), Nat.le_refl _, hb⟩
    · have e : zs = [] := List.eq_nil_of_length_eq_zero (by omega)
      subst e
      refine (clone9_zero x c w).mono fun e w' ⟨he, hb⟩ => ?_
      exact ⟨⟨some ⟨w.heap.size, 0, none⟩, 0, []⟩, he, rfl, by simp, ⟨fun h => by simp at h, by simp⟩, (fun g o sp h => by cases h; exact Nat.le_refl _), by simp, hb⟩

/-! ### clone 10: slices of i32 -/
theorem info10 : (Try.prog.info? 21).map (fun i => (i.zero, i.size, i.bytes)) = some (some (.int .i32 0), 1, 4) := by kernel_rfl
theorem clone10_nil (c n : Nat) (w : World) : Calls Try.prog 10 #[.slice none n c] w fun e w' => e = .returned (.slice none 0 0) ∧ w' = w := by
  have hq := fun w => Lib.run_eql_slice_nil (P := Try.prog) w 23 21 none n c 0 0 Try.underlying23
  go_enter Try.func10, Try.ntmps10
  go_wp2
  go_ret
  exact ⟨rfl, rfl⟩
theorem clone10_some (b off n c : Nat) (l : List Int) (w : World) (hl : l.length = n) (hn : n ≤ 1048576) (hb : b < w.heap.size) (hc : ∀ (i : Nat) v, l[i]? = some v → w.cell? ⟨b, off + i, none⟩ = some (.int .i32 v)) :
    Calls Try.prog 10 #[.slice (some ⟨b, off, none⟩) n c] w fun e w' => e = .returned (.slice (some ⟨w.heap.size, 0, none⟩) n n) ∧
      w'.ownsRow w.heap.size 21 1 (.slice (some ⟨w.heap.size, 0, none⟩) n n) n (cellsOf .i32 l) ∧ Below w.heap.size w w' := by
  obtain ⟨i0, hi, hz0, hz1, hz2⟩ := info_parts info10
  have hq := fun w => Lib.run_eql_slice_nil (P := Try.prog) w 23 21 (some ⟨b, off, none⟩) n c 0 0 Try.underlying23
  go_enter Try.func10, Try.ntmps10
  go_wp2_with (at_make; refine wpList_make_full _ rfl _ _ 23 rfl w.heap.size 21 i0 (.int .i32 0) 1 Try.underlying23 hi hz0 hz1 .i64 .i64 _ _ n rfl rfl rfl rfl (by rw [hz2]; omega) (by unfold maxLen; omega) (Nat.le_refl _) ?_)
  intro w1 hown1 hgrow1
  have hb1 : Below w.heap.size w w1 := (Below.refl _ _).grown hgrow1 (Nat.le_refl _) (by intro k h; cases h)
  have hown2 : w1.ownsRow w.heap.size 21 1 (.slice (some ⟨w.heap.size, 0, none⟩) n n) n (part .i32 l n 0) := by
    rw [part_zero, ← made_zero]; exact hown1
  clear hown1 hgrow1
  go_wp2
  go_loopw [4] (fun i wr => ∃ k : Nat, k ≤ n ∧ i = .int .i64 k ∧ wr.ownsRow w.heap.size 21 1 (.slice (some ⟨w.heap.size, 0, none⟩) n n) n (part .i32 l n k) ∧ Below w.heap.size w wr) (fun i _ => n - (intOf i).toNat)
  case atStart => exact ⟨0, Nat.zero_le _, rfl, hown2, hb1⟩
  case round =>
    obtain ⟨k, hk, rfl, hown, hbel⟩ := hrel
    clear hown2 hb1
    by_cases hlt : k < n
    · obtain ⟨v, hv⟩ : ∃ v, l[k]? = some v := ⟨_, List.getElem?_eq_getElem (by omega)⟩
      have h1 : wr.cell? ⟨b, off + k, none⟩ = some (.int .i32 v) := (hbel.cell (by exact hb)).trans (hc k v hv)
      have h2 : wr.frozen? ⟨w.heap.size, k, none⟩ = false := hown.frozenAt k
      obtain ⟨u, h3⟩ : ∃ u, wr.cell? ⟨w.heap.size, k, none⟩ = some u := by rw [hown.cellAt k (by omega)]; exact ⟨_, List.getElem?_eq_getElem (by have := hown.1; omega)⟩
      have R := hown.stored k (.int .i32 v)
      rw [part_set .i32 l n k v hl hlt hv] at R
      have R2 := hbel.setCell (p := ⟨w.heap.size, k, none⟩) (Nat.le_refl _) (.int .i32 v)
      have HV : Hid (l[k]? = some v) := hv
      have HR := R.1
      clear R hv hc hown
      go_wp2
      go_roundw
      case rel => exact ⟨k + 1, by omega, by go_num, HR, R2⟩
      case measure => simp only [intOf]; omega
    · have e : k = n := by omega
      subst e
      rw [part_full .i32 l k hl] at hown
      go_wp2
      go_ret
      exact ⟨rfl, hown, hbel⟩
theorem clone10_zero (x : Addr) (c : Nat) (w : World) :
    Calls Try.prog 10 #[.slice (some x) 0 c] w fun e w' => e = .returned (.slice (some ⟨w.heap.size, 0, none⟩) 0 0) ∧ Below w.heap.size w w' := by
  obtain ⟨i0, hi, hz0, hz1, hz2⟩ := info_parts info10
  have hq := fun w => Lib.run_eql_slice_nil (P := Try.prog) w 23 21 (some x) 0 c 0 0 Try.underlying23
  go_enter Try.func10, Try.ntmps10
  go_wp2_with (at_make; refine wpList_make_full _ rfl _ _ 23 rfl w.heap.size 21 i0 (.int .i32 0) 1 Try.underlying23 hi hz0 hz1 .i64 .i64 _ _ 0 rfl rfl rfl rfl (by rw [hz2]; omega) (by unfold maxLen; omega) (Nat.le_refl _) ?_)
  intro w1 hown1 hgrow1
  have hb1 : Below w.heap.size w w1 := (Below.refl _ _).grown hgrow1 (Nat.le_refl _) (by intro k h; cases h)
  clear hown1 hgrow1
  go_wp2
  refine wp_loop_rounds 1 ?_
  rw [rounds_succ]
  go_wp2
  go_ret
  exact ⟨rfl, hb1⟩
theorem clone10_any (s : IS) (w : World) (h : IS.Ok .i32 w s) (hl : s.zs.length ≤ 1048576) : Calls Try.prog 10 #[.slice s.p s.zs.length s.c] w (CP .i32 w s) := by
  obtain ⟨p, c, zs⟩ := s
  cases p with
  | none =>
    by_cases h0 : 0 < zs.length
    · obtain ⟨b, o, e, _⟩ := h.cells h0; cases e
    · have e : zs = [] := List.eq_nil_of_length_eq_zero (by omega)
      subst e
      refine (clone10_nil c 0 w).mono fun e w' ⟨he, hw⟩ => ?_
      subst hw
      exact ⟨⟨none, 0, []⟩, he, rfl, by simp, ⟨fun h => by simp at h, by simp⟩, (fun g o sp h => by cases h), by simp, Below.refl _ _⟩
  | some x =>
    by_cases h0 : 0 < zs.length
    · obtain ⟨b, o, e, hc⟩ := h.cells h0
      cases e
      refine (clone10_some b o zs.length c zs w rfl hl (cell_lt (hc 0 zs[0] (List.getElem?_eq_getElem h0))) hc).mono fun e w' ⟨he, hown, hb⟩ => ?_
      exact ⟨⟨some ⟨w.heap.size, 0, none⟩, zs.length, zs⟩, he, rfl, by simp, ⟨row_of_own rfl hown, h.len⟩, (fun g o sp h => by cases h; exact Nat.le_refl _), Nat.le_refl _, hb⟩
    · have e : zs = [] := List.eq_nil_of_length_eq_zero (by omega)
      subst e
      refine (clone10_zero x c w).mono fun e w' ⟨he, hb⟩ => ?_
      exact ⟨⟨some ⟨w.heap.size, 0, none⟩, 0, []⟩, he, rfl, by simp, ⟨fun h => by simp at h, by simp⟩, (fun g o sp h => by cases h; exact Nat.le_refl _), by simp, hb⟩

/-! ### clone 21: slices of u32 -/
theorem info21 : (Try.prog.info? 46).map (fun i => (i.zero, i.size, i.bytes)) = some (some (.int .u32 0), 1, 4) := by kernel_rfl
theorem clone21_nil (c n : Nat) (w : World) : Calls Try.prog 21 #[.slice none n c] w fun e w' => e = .returned (.slice none 0 0) ∧ w' = w := by
  have hq := fun w => Lib.run_eql_slice_nil (P := Try.prog) w 38 46 none n c 0 0 Try.underlying38
  go_enter Try.func21, Try.ntmps21
  go_wp2
  go_ret
  exact ⟨rfl, rfl⟩
theorem clone21_some (b off n c : Nat) (l : List Int) (w : World) (hl : l.length = n) (hn : n ≤ 1048576) (hb : b < w.heap.size) (hc : ∀ (i : Nat) v, l[i]? = some v → w.cell? ⟨b, off + i, none⟩ = some (.int .u32 v)) :
    Calls Try.prog 21 #[.slice (some ⟨b, off, none⟩) n c] w fun e w' => e = .returned (.slice (some ⟨w.heap.size, 0, none⟩) n n) ∧
      w'.ownsRow w.heap.size 46 1 (.slice (some ⟨w.heap.size, 0, none⟩) n n) n (cellsOf .u32 l) ∧ Below w.heap.size w w' := by
  obtain ⟨i0, hi, hz0, hz1, hz2⟩ := info_parts info21
  have hq := fun w => Lib.run_eql_slice_nil (P := Try.prog) w 38 46 (some ⟨b, off, none⟩) n c 0 0 Try.underlying38
  go_enter Try.func21, Try.ntmps21
  go_wp2_with (at_make; refine wpList_make_full _ rfl _ _ 38 rfl w.heap.size 46 i0 (.int .u32 0) 1 Try.underlying38 hi hz0 hz1 .i64 .i64 _ _ n rfl rfl rfl rfl (by rw [hz2]; omega) (by unfold maxLen; omega) (Nat.le_refl _) ?_)
  intro w1 hown1 hgrow1
  have hb1 : Below w.heap.size w w1 := (Below.refl _ _).grown hgrow1 (Nat.le_refl _) (by intro k h; cases h)
  have hown2 : w1.ownsRow w.heap.size 46 1 (.slice (some ⟨w.heap.size, 0, none⟩) n n) n (part .u32 l n 0) := by
    rw [part_zero, ← made_zero]; exact hown1
  clear hown1 hgrow1
  go_wp2
  go_loopw [4] (fun i wr => ∃ k : Nat, k ≤ n ∧ i = .int .i64 k ∧ wr.ownsRow w.heap.size 46 1 (.slice (some ⟨w.heap.size, 0, none⟩) n n) n (part .u32 l n k) ∧ Below w.heap.size w wr) (fun i _ => n - (intOf i).toNat)
  case atStart => exact ⟨0, Nat.zero_le _, rfl, hown2, hb1⟩
  case round =>
    obtain ⟨k, hk, rfl, hown, hbel⟩ := hrel
    clear hown2 hb1
    by_cases hlt : k < n
    · obtain ⟨v, hv⟩ : ∃ v, l[k]? = some v := ⟨_, List.getElem?_eq_getElem (by omega)⟩
      have h1 : wr.cell? ⟨b, off + k, none⟩ = some (.int .u32 v) := (hbel.cell (by exact hb)).trans (hc k v hv)
      have h2 : wr.frozen? ⟨w.heap.size, k, none⟩ = false := hown.frozenAt k
      obtain ⟨u, h3⟩ : ∃ u, wr.cell? ⟨w.heap.size, k, none⟩ = some u := by rw [hown.cellAt k (by omega)]; exact ⟨_, List.getElem?_eq_getElem (by have := hown.1; omega)⟩
      have R := hown.stored k (.int .u32 v)
      rw [part_set .u32 l n k v hl hlt hv] at R
      have R2 := hbel.setCell (p := ⟨w.heap.size, k, none⟩) (Nat.le_refl _) (.int .u32 v)
      have HV : Hid (l[k]? = some v) := hv
      have HR := R.1
      clear R hv hc hown
      go_wp2
      go_roundw
      case rel => exact ⟨k + 1, by omega, by go_num, HR, R2⟩
      case measure => simp only [intOf]; omega
    · have e : k = n := by omega
      subst e
      rw [part_full .u32 l k hl] at hown
      go_wp2
      go_ret
      exact ⟨rfl, hown, hbel⟩
theorem clone21_zero (x : Addr) (c : Nat) (w : World) :
    Calls Try.prog 21 #[.slice (some x) 0 c] w fun e w' => e = .returned (.slice (some ⟨w.heap.size, 0, none⟩) 0 0) ∧ Below w.heap.size w w' := by
  obtain ⟨i0, hi, hz0, hz1, hz2⟩ := info_parts info21
  have hq := fun w => Lib.run_eql_slice_nil (P := Try.prog) w 38 46 (some x) 0 c 0 0 Try.underlying38
  go_enter Try.func21, Try.ntmps21
  go_wp2_with (at_make; refine wpList_make_full _ rfl _ _ 38 rfl w.heap.size 46 i0 (.int .u32 0) 1 Try.underlying38 hi hz0 hz1 .i64 .i64 _ _ 0 rfl rfl rfl rfl (by rw [hz2]; omega) (by unfold maxLen; omega) (Nat.le_refl _) ?_)
  intro w1 hown1 hgrow1
  have hb1 : Below w.heap.size w w1 := (Below.refl _ _).grown hgrow1 (Nat.le_refl _) (by intro k h; cases h)
  clear hown1 hgrow1
  go_wp2
  refine wp_loop_rounds 1 ?_
  rw [rounds_succ]
  go_wp2
  go_ret
  exact ⟨rfl, hb1⟩
theorem clone21_any (s : IS) (w : World) (h : IS.Ok .u32 w s) (hl : s.zs.length ≤ 1048576) : Calls Try.prog 21 #[.slice s.p s.zs.length s.c] w (CP .u32 w s) := by
  obtain ⟨p, c, zs⟩ := s
  cases p with
  | none =>
    by_cases h0 : 0 < zs.length
    · obtain ⟨b, o, e, _⟩ := h.cells h0; cases e
    · have e : zs = [] := List.eq_nil_of_length_eq_zero (by omega)
      subst e
      refine (clone21_nil c 0 w).mono fun e w' ⟨he, hw⟩ => ?_
      subst hw
      exact ⟨⟨none, 0, []⟩, he, rfl, by simp, ⟨fun h => by simp at h, by simp⟩, (fun g o sp h => by cases h), by simp, Below.refl _ _⟩
  | some x =>
    by_cases h0 : 0 < zs.length
    · obtain ⟨b, o, e, hc⟩ := h.cells h0
      cases e
      refine (clone21_some b o zs.length c zs w rfl hl (cell_lt (hc 0 zs[0] (List.getElem?_eq_getElem h0))) hc).mono fun e w' ⟨he, hown, hb⟩ => ?_
      exact ⟨⟨some ⟨w.heap.size, 0, none⟩, zs.length, zs⟩, he, rfl, by simp, ⟨row_of_own rfl hown, h.len⟩, (fun g o sp h => by cases h; exact Nat.le_refl _), Nat.le_refl _, hb⟩
    · have e : zs = [] := List.eq_nil_of_length_eq_zero (by omega)
      subst e
      refine (clone21_zero x c w).mono fun e w' ⟨he, hb⟩ => ?_
      exact ⟨⟨some ⟨w.heap.size, 0, none⟩, 0, []⟩, he, rfl, by simp, ⟨fun h => by simp at h, by simp⟩, (fun g o sp h => by cases h; exact Nat.le_refl _), by simp, hb⟩

/-! ### zzSameInts (23) -/
theorem same_no (p q : Option Addr) (n m c d : Nat) (w : World) (h : n ≠ m) : Calls Try.prog 23 #[.slice p n c, .slice q m d] w (Tells false w) := by
  have h2 : ((n : Int) != (m : Int)) = true := by rw [bne_iff_ne]; omega
  go_enter Try.func23, Try.ntmps23
  go_wp2
  go_ret
  exact ⟨rfl, Below.refl _ _⟩
theorem same_zero (p q : Option Addr) (c d : Nat) (w : World) : Calls Try.prog 23 #[.slice p 0 c, .slice q 0 d] w (Tells true w) := by
  go_enter Try.func23, Try.ntmps23
  go_wp2
  refine wp_loop_rounds 1 ?_
  rw [rounds_succ]
  go_wp2
  go_ret
  exact ⟨rfl, Below.refl _ _⟩
theorem same_pos (b o b' o' n c d : Nat) (xs ys : List Int) (w : World) (hx : xs.length = n) (hy : ys.length = n) (hn : n ≤ maxLen)
    (h1 : ∀ (i : Nat) z, xs[i]? = some z → w.cell? ⟨b, o + i, none⟩ = some (.int .i64 z)) (h2 : ∀ (i : Nat) z, ys[i]? = some z → w.cell? ⟨b', o' + i, none⟩ = some (.int .i64 z)) :
    Calls Try.prog 23 #[.slice (some ⟨b, o, none⟩) n c, .slice (some ⟨b', o', none⟩) n d] w (Tells (decide (xs = ys)) w) := by
  unfold maxLen at hn
  have h3 : ((n : Int) != (n : Int)) = false := by simp
  go_enter Try.func23, Try.ntmps23
  go_wp2
  go_loopw [5] (fun i wr => ∃ k : Nat, k ≤ n ∧ i = .int .i64 k ∧ Hid (∀ j : Nat, j < k → xs[j]? = ys[j]?) ∧ Below w.heap.size w wr) (fun i _ => n - (intOf i).toNat)
  case atStart => exact ⟨0, by omega, rfl, fun j h => by omega, Below.refl _ _⟩
  case round =>
    obtain ⟨k, hk, rfl, hall, hbel⟩ := hrel
    by_cases hlt : k < n
    · have hxk : xs[k]? = some xs[k] := List.getElem?_eq_getElem (by omega)
      have hyk : ys[k]? = some ys[k] := List.getElem?_eq_getElem (by omega)
      have c1 := cell_below hbel (h1 k _ hxk)
      have c2 := cell_below hbel (h2 k _ hyk)
      have EX : Hid (xs[k]? = some xs[k]) := hxk
      have EY : Hid (ys[k]? = some ys[k]) := hyk
      generalize xs[k] = x at c1 EX
      generalize ys[k] = y at c2 EY
      clear hxk hyk h1 h2
      have hkn : (k : Int) < (n : Int) := by omega
      cases hxy : (x != y)
      · go_wp2
        go_quiet (fail)
        go_wp2
        go_roundw
        case rel =>
          refine ⟨k + 1, by omega, by go_num, fun j hj => ?_, below_trans hbel (below_drewN _)⟩
          by_cases e : j = k
          · subst e; rw [EX.out, EY.out]; simpa using hxy
          · exact hall.out j (by omega)
        case measure => simp only [intOf]; omega
      · have hne : xs ≠ ys := by intro e; subst e; have := EX.out.symm.trans EY.out; simp at this; simp [this] at hxy
        go_wp2
        go_quiet (fail)
        go_wp2
        go_ret
        exact ⟨by simp [hne], below_trans hbel (below_drewN _)⟩
    · have heq : xs = ys := by
        apply List.ext_getElem?
        intro j
        by_cases hj : j < k
        · exact hall.out j hj
        · rw [List.getElem?_eq_none (by omega), List.getElem?_eq_none (by omega)]
      have HE : Hid (xs = ys) := heq
      clear heq h1 h2
      go_wp2
      go_ret
      exact ⟨by simp [HE.out], hbel⟩
theorem same_any (s t : IS) (w : World) (hs : IS.Ok .i64 w s) (ht : IS.Ok .i64 w t) :
    Calls Try.prog 23 #[.slice s.p s.zs.length s.c, .slice t.p t.zs.length t.c] w (Tells (decide (s.zs = t.zs)) w) := by
  by_cases hl : s.zs.length = t.zs.length
  · by_cases h0 : 0 < s.zs.length
    · obtain ⟨b, o, e, hc⟩ := hs.cells h0
      obtain ⟨b', o', e', hc'⟩ := ht.cells (by omega)
      rw [e, e', ← hl]
      exact same_pos b o b' o' _ _ _ _ _ w rfl hl.symm hs.len hc hc'
    · have e1 : s.zs = [] := List.eq_nil_of_length_eq_zero (by omega)
      have e2 : t.zs = [] := List.eq_nil_of_length_eq_zero (by omega)
      rw [e1, e2]
      exact same_zero _ _ _ _ w
  · have : decide (s.zs = t.zs) = false := by simp; intro e; rw [e] at hl; exact hl rfl
    rw [this]
    exact same_no _ _ _ _ _ _ w hl
end Go.Proofs.Qxb6601127a.Base

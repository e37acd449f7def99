import Derived.Test.Qxb6601477aReach
import Derived.Deep.RegionHeld3
import Derived.Deep.MidRow
namespace Go.Proofs.Qxb6601477a.Reach
open Go.ChangeShapes Go.WideShapes Go.ChangeAt Go.RowKit

/-- the least of two, place by place -/
def meet (hs ws : List Int) : List Int := (List.range 16).map fun i => if ws.getD i 0 < hs.getD i 0 then ws.getD i 0 else hs.getD i 0
def part (ms : List Int) (k : Nat) : List Int := ms.take k ++ List.replicate (16 - k) 0
theorem meet_len (hs ws : List Int) : (meet hs ws).length = 16 := by simp [meet]
theorem meet_at (hs ws : List Int) (k : Nat) (h : k < 16) : (meet hs ws)[k]? = some (if ws.getD k 0 < hs.getD k 0 then ws.getD k 0 else hs.getD k 0) := by simp [meet, h]
theorem part_len (ms : List Int) (k : Nat) (h : ms.length = 16) (hk : k ≤ 16) : (part ms k).length = 16 := by simp [part]; omega
theorem part_full (ms : List Int) (h : ms.length = 16) : part ms 16 = ms := by simp [part, List.take_of_length_le (Nat.le_of_eq h)]
theorem part_set (ms : List Int) (k : Nat) (v : Int) (h : ms.length = 16) (hk : k < 16) (hv : ms[k]? = some v) : (row (part ms k)).setIfInBounds k (.int .u8 v) = row (part ms (k + 1)) := by
  unfold row part
  have h1 : (ms.take k).length = k := by simp; omega
  rw [List.setIfInBounds_toArray, ← List.map_set, List.set_append_right _ _ (by omega), h1, Nat.sub_self, show 16 - k = (16 - (k + 1)) + 1 from by omega, List.replicate_succ, List.set_cons_zero, List.take_succ_eq_append_getElem (by omega)]
  have : ms[k] = v := by rw [List.getElem?_eq_getElem (by omega)] at hv; simpa using hv
  simp [this]
/-- the law: the meet is want exactly where have reaches want -/
theorem meet_law (hs ws : List Int) (h2 : ws.length = 16) : decide (meet hs ws = ws) = reachB hs ws := by
  rw [Bool.eq_iff_iff, decide_eq_true_eq]
  constructor
  · intro h
    refine reach_yes fun k hk => ?_
    have a := meet_at hs ws k hk
    rw [h, List.getElem?_eq_getElem (by omega)] at a
    have b : ws.getD k 0 = ws[k]'(by omega) := by simp [List.getD_eq_getElem?_getD, List.getElem?_eq_getElem (show k < ws.length by omega)]
    simp only [Option.some.injEq] at a
    rw [b]
    rw [b] at a
    split at a <;> omega
  · intro h
    unfold reachB at h
    rw [List.all_eq_true] at h
    apply List.ext_getElem?
    intro k
    by_cases hk : k < 16
    · rw [meet_at hs ws k hk, List.getElem?_eq_getElem (by omega)]
      have := h k (List.mem_range.2 hk)
      have b : ws.getD k 0 = ws[k]'(by omega) := by simp [List.getD_eq_getElem?_getD, List.getElem?_eq_getElem (show k < ws.length by omega)]
      simp only [decide_eq_true_eq] at this
      rw [← b]
      split
      · rfl
      · congr 1; omega
    · rw [List.getElem?_eq_none (by rw [meet_len]; omega), List.getElem?_eq_none (by omega)]
/-- the world of the loop: two boxes as they came, the third filled as far as k -/
structure At (w : World) (hs ws : List Int) (k : Nat) (wr : World) : Prop where
  fst : wr.heap[w.heap.size]? = some (.cells (row hs) 28 (0, 0))
  snd : wr.heap[w.heap.size + 1]? = some (.cells (row ws) 28 (0, 0))
  thd : wr.heap[w.heap.size + 2]? = some (.cells (row (part (meet hs ws) k)) 28 (0, 0))
  below : Below w.heap.size w wr
theorem At.step {w wr : World} {hs ws : List Int} {k : Nat} (h : At w hs ws k wr) (hk : k < 16) (v : Int) (hv : (meet hs ws)[k]? = some v) : At w hs ws (k + 1) (wr.setCell ⟨w.heap.size + 2, k, none⟩ (.int .u8 v)) :=
  ⟨(heap_setCell_other wr _ _ _ (by simp)).trans h.fst, (heap_setCell_other wr _ _ _ (by simp)).trans h.snd,
    by rw [heap_setCell_same wr _ k _ 28 (.int .u8 v) h.thd, part_set _ k v (meet_len _ _) hk hv], h.below.setCell (by simp) _⟩
theorem At.start (w : World) (hs ws : List Int) : At w hs ws 0 ((twoW w (row hs) (row ws)).alloc (.cells (row (List.replicate 16 0)) 28)) := by
  have s := two_size w (row hs) (row ws)
  refine ⟨?_, ?_, ?_, (two_below w _ _).alloc (by omega) _⟩
  · rw [Below.heap_alloc _ _ _ (by omega)]; exact two_fst _ _ _
  · rw [Below.heap_alloc _ _ _ (by omega)]; exact two_snd _ _ _
  · rw [← s]; exact heap_alloc_new _ _

/-- the cells, behind a plain name -/
def cl (zs : List Int) : List Value := zs.map (Value.int .u8)
theorem cl_len (zs : List Int) : (cl zs).length = zs.length := by simp [cl]
theorem range_of {w : World} {g : Nat} {zs : List Int} (h : w.heap[g]? = some (.cells (row zs) 28 (0, 0))) : w.rangeAt g 0 (cl zs) := by
  intro j v hv
  rw [Nat.zero_add, cell_of_row _ _ j _ 28 (0, 0) h]
  simpa [row, cl] using hv
theorem range_below {w w' : World} {B g : Nat} {cs : List Value} (hb : Below B w w') (hg : g < B) (h : w.rangeAt g 0 cs) : w'.rangeAt g 0 cs :=
  fun j v hv => (hb.cell (p := ⟨g, 0 + j, none⟩) hg).trans (h j v hv)
theorem zz_cl (hs ws : List Int) (w : World) (h1 : hs.length = 16) (h2 : ws.length = 16) :
    Calls Try.prog 17 #[.agg (cl hs).toArray, .agg (cl ws).toArray] w (Tells (reachB hs ws) w) := zz_any hs ws w h1 h2
theorem all_eq : ∀ (xs ys : List Int), xs.length = ys.length → ((List.range xs.length).all fun i => xs.getD i 0 == ys.getD i 0) = decide (xs = ys)
  | [], [], _ => rfl
  | x :: xs, y :: ys, h => by
    have ih := all_eq xs ys (by simpa using h)
    rw [List.length_cons, List.range_succ_eq_map, List.all_cons, List.all_map]
    simp only [List.getD_cons_zero, Function.comp_def, List.getD_cons_succ, ih]
    rw [Bool.eq_iff_iff]; simp
  | [], _ :: _, h => by simp at h
  | _ :: _, [], h => by simp at h
theorem eq_rows (w : World) (d : Nat) (xs ys : List Int) (hx : xs.length = 16) (hy : ys.length = 16) :
    (Op.equalIn (d + 2) 28 (.agg (cl xs).toArray) (.agg (cl ys).toArray)).run Try.prog w = .ok (decide (xs = ys)) w := by
  rw [← all_eq xs ys (hx.trans hy.symm), hx, List.range_eq_range', Op.equalIn]
  simp only [Sem.run_bind, run_underlying Try.underlying28, Result.andThen_ok, Try.sizeOf5, Std.Legacy.Range.forIn_eq_forIn_range', Std.Legacy.Range.size, Nat.sub_zero, Nat.add_sub_cancel, Nat.div_one]
  have hl : ∀ i ∈ List.range' 0 16 1, i < 16 := fun i hi => by simpa using (List.mem_range'_1.1 hi).2
  generalize List.range' 0 16 1 = l at hl ⊢
  induction l with
  | nil => simp
  | cons i l ih =>
    have hi : i < 16 := hl i (by simp)
    have px : (Go.part 5 (cl xs).toArray (i * 1)).run Try.prog w = .ok (.int .u8 (xs.getD i 0)) w := by
      simp [Go.part, isAgg, run_underlying Try.underlying5, cl, List.getD, List.getElem?_eq_getElem (show i < xs.length by omega)]
    have py : (Go.part 5 (cl ys).toArray (i * 1)).run Try.prog w = .ok (.int .u8 (ys.getD i 0)) w := by
      simp [Go.part, isAgg, run_underlying Try.underlying5, cl, List.getD, List.getElem?_eq_getElem (show i < ys.length by omega)]
    have pe : (Op.equalIn (d + 1) 5 (.int .u8 (xs.getD i 0)) (.int .u8 (ys.getD i 0))).run Try.prog w = .ok (xs.getD i 0 == ys.getD i 0) w :=
      run_equalIn_int w d 5 .u8 .u8 _ _ Try.underlying5
    simp only [List.forIn_cons, Sem.run_bind, px, py, pe, Result.andThen_ok, List.all_cons]
    cases hb : (xs.getD i 0 == ys.getD i 0)
    · simp
    · simp only [Bool.not_true, Bool.false_eq_true, if_false, Sem.run_pure, Result.andThen_ok, Bool.true_and]
      exact ih fun j hj => hl j (by simp [hj])
set_option linter.unusedSimpArgs false in
theorem law_walk (hs ws : List Int) (w : World) (h1 : hs.length = 16) (h2 : ws.length = 16) :
    Calls Try.prog 5 #[.agg (row hs), .agg (row ws)] w (Tells true w) := by
  go_enter Try.func5, Try.ntmps5
  go_wp2
  go_loopw [6] (fun i wr => ∃ k : Nat, k ≤ 16 ∧ i = .int .i64 k ∧ Hid (At w hs ws k wr)) (fun i _ => 16 - (intOf i).toNat)
  case atStart => exact ⟨0, by omega, rfl, At.start w hs ws⟩
  case round =>
    obtain ⟨k, hk, rfl, hat⟩ := hrel
    by_cases hlt : k < 16
    · have c1 : wr.cell? ⟨w.heap.size, k, none⟩ = some (.int .u8 (hs.getD k 0)) := cell_in hat.out.fst (by omega)
      have c2 : wr.cell? ⟨w.heap.size + 1, k, none⟩ = some (.int .u8 (ws.getD k 0)) := cell_in hat.out.snd (by omega)
      have c3 : wr.cell? ⟨w.heap.size + 2, k, none⟩ = some (.int .u8 ((part (meet hs ws) k).getD k 0)) := cell_in hat.out.thd (by rw [part_len _ _ (meet_len _ _) (by omega)]; exact hlt)
      have f3 : wr.frozen? ⟨w.heap.size + 2, k, none⟩ = false := frozen_of_row wr _ k _ 28 hat.out.thd
      have hm := meet_at hs ws k hlt
      have HS : Hid (∀ v, (meet hs ws)[k]? = some v → At w hs ws (k + 1) (wr.setCell ⟨w.heap.size + 2, k, none⟩ (.int .u8 v))) := fun v hv => hat.out.step hlt v hv
      generalize hs.getD k 0 = x at c1 hm
      generalize ws.getD k 0 = y at c2 hm
      generalize (part (meet hs ws) k).getD k 0 = z at c3
      by_cases hxy : y < x
      · have HS1 : Hid (At w hs ws (k + 1) (wr.setCell ⟨w.heap.size + 2, k, none⟩ (.int .u8 y))) := HS.out y (by rw [hm, if_pos hxy])
        clear HS hm
        go_wp2
        go_roundw
        case rel => exact ⟨k + 1, by omega, by go_num, HS1⟩
        case measure => simp only [intOf]; omega
      · have HS1 : Hid (At w hs ws (k + 1) (wr.setCell ⟨w.heap.size + 2, k, none⟩ (.int .u8 x))) := HS.out x (by rw [hm, if_neg hxy])
        clear HS hm
        go_wp2
        go_roundw
        case rel => exact ⟨k + 1, by omega, by go_num, HS1⟩
        case measure => simp only [intOf]; omega
    · have hk16 : k = 16 := by omega
      subst hk16
      have a1 := hat.out.fst
      have a2 := hat.out.snd
      have a3 := hat.out.thd
      rw [part_full _ (meet_len _ _)] at a3
      have r1 := range_of a1
      have r2 := range_of a2
      have r3 := range_of a3
      have hsz : w.heap.size + 3 ≤ wr.heap.size := (Array.getElem?_eq_some_iff.1 a3).1
      have he : ∀ W : World, (Op.equalIn 10000 28 (.agg (cl (meet hs ws)).toArray) (.agg (cl ws).toArray)).run Try.prog W = .ok (reachB hs ws) W := by
        intro W; rw [eq_rows W 9998 _ _ (meet_len _ _) h2, meet_law hs ws h2]
      have hu := Try.underlying28
      have hi1 : (Try.prog.info? 28).map (·.size) = some (cl hs).length := by rw [cl_len, h1]; exact info28
      have hi2 : (Try.prog.info? 28).map (·.size) = some (cl ws).length := by rw [cl_len, h2]; exact info28
      have hi3 : (Try.prog.info? 28).map (·.size) = some (cl (meet hs ws)).length := by rw [cl_len, meet_len]; exact info28
      have HB : Hid (Below w.heap.size w wr) := hat.out.below
      clear a1 a2 a3 hat
      go_wp2
      refine wp_region_held_drew (S := fun W => W.rangeAt w.heap.size 0 (cl hs) ∧ W.rangeAt (w.heap.size + 1) 0 (cl ws) ∧ W.rangeAt (w.heap.size + 2) 0 (cl (meet hs ws))) (by kernel_rfl) ⟨r1, r2, r3⟩ (fun hHeld => ?_)
      refine wpAnyH_take (i := 0) rfl (by kernel_rfl) (by kernel_rfl) (by kernel_rfl) (fun _ _ _ h => h) (yieldsIf_load_mid (by rfl) 28 _ rfl w.heap.size 0 rfl (cl hs) _ (fun _ h => h.1) hu rfl hi1) hHeld ?_
      try simp only [Act.put, List.setIfInBounds_toArray, List.set_cons_zero, List.set_cons_succ]
      refine wpAnyH_take (i := 1) rfl (by kernel_rfl) (by kernel_rfl) (by kernel_rfl) (fun _ _ _ h => h) (yieldsIf_load_mid (by rfl) 28 _ rfl (w.heap.size + 1) 0 rfl (cl ws) _ (fun _ h => h.2.1) hu rfl hi2) hHeld ?_
      try simp only [Act.put, List.setIfInBounds_toArray, List.set_cons_zero, List.set_cons_succ]
      refine wpAnyH_take (i := 3) rfl (by kernel_rfl) (by kernel_rfl) (by kernel_rfl) (fun _ _ _ h => h) (yieldsIf_load_mid (by rfl) 28 _ rfl (w.heap.size + 2) 0 rfl (cl (meet hs ws)) _ (fun _ h => h.2.2) hu rfl hi3) hHeld ?_
      try simp only [Act.put, List.setIfInBounds_toArray, List.set_cons_zero, List.set_cons_succ]
      refine wpAnyH_take (i := 4) rfl (by kernel_rfl) (by kernel_rfl) (by kernel_rfl) (fun _ _ _ h => h) (yieldsIf_load_mid (by rfl) 28 _ rfl (w.heap.size + 1) 0 rfl (cl ws) _ (fun _ h => h.2.1) hu rfl hi2) hHeld ?_
      try simp only [Act.put, List.setIfInBounds_toArray, List.set_cons_zero, List.set_cons_succ]
      refine wpAnyH_take (i := 5) (v := .bool (reachB hs ws)) rfl (by kernel_rfl) (by kernel_rfl) (by kernel_rfl) (fun _ _ _ h => h) (Or.inl ⟨by rfl, ?_⟩) hHeld ?_
      · intro W hW
        go_simp
      try simp only [Act.put, List.setIfInBounds_toArray, List.set_cons_zero, List.set_cons_succ]
      refine wpAnyH_ready (rs := [2]) (by kernel_rfl) (by simp) (AllReadyH.cons rfl (fun K hK => ?_) AllReadyH.nil)
      go_simp
      refine (zz_cl hs ws _ h1 h2).mono ?_
      rintro e w2 ⟨rfl, hb⟩
      refine hK.out _ _ ⟨range_below hb (by show _ < wr.heap.size; omega) r1, range_below hb (by show _ < wr.heap.size; omega) r2, range_below hb (by show _ < wr.heap.size; omega) r3⟩ (fun hHeld2 => ?_)
      clear hK K
      try simp only [Act.put, List.setIfInBounds_toArray, List.set_cons_zero, List.set_cons_succ]
      refine wpAnyH_ready (rs := [6]) (by kernel_rfl) (by simp) (AllReadyH.cons rfl (fun K hK => ?_) AllReadyH.nil)
      go_simp
      refine hK.out _ _ hHeld2 (fun _ => ?_)
      clear hK K
      refine wpAnyH_ready (rs := [7]) (by kernel_rfl) (by simp) (AllReadyH.cons rfl (fun K hK => ?_) AllReadyH.nil)
      go_simp
      refine hK.out _ _ hHeld2 (fun _ => ?_)
      clear hK K
      refine wpAnyH_done (by kernel_rfl) ?_ _
      go_wp2
      go_ret
      exact ⟨rfl, HB.out.drew.trans (hb.mono (by show w.heap.size ≤ wr.heap.size; omega))⟩
end Go.Proofs.Qxb6601477a.Reach

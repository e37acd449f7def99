import Derived.Test.Qxb6601234aBase
import Derived.Test.Qxb6601234aClone
namespace Go.Proofs.Qxb6601234a.Base
open Go.ChangeShapes Go.WideShapes Go.ChangeAt Go.RowKit

theorem own_below {w w' : World} {base e size n : Nat} {v : Value} {xs : List Value} (h : w.ownsRow base e size v n xs) (hb : Below w.heap.size w w') : w'.ownsRow base e size v n xs := by
  refine ⟨h.1, ?_⟩
  rcases h.2 with h' | ⟨g, cap, cur, h1, h2, h3, h4⟩
  · exact Or.inl h'
  · exact Or.inr ⟨g, cap, cur, h1, h2, (hb.block g (Array.getElem?_eq_some_iff.1 h3).1).trans h3, h4⟩
theorem BS.Ok.setCell {w : World} {s : BS} {B k : Nat} {v : Value} (h : BS.Ok w s) (hne : ∀ g o sp, s.p = some ⟨g, o, sp⟩ → g ≠ B) : BS.Ok (w.setCell ⟨B, k, none⟩ v) s :=
  ⟨fun hn => by
    obtain ⟨b, o, e, hc⟩ := h.cells hn
    exact ⟨b, o, e, fun i hi => by
      exact (World.cell?_of_block (heap_setCell_other w ⟨B, k, none⟩ b v (fun e' => hne b o none e e'))).trans (hc i hi)⟩, h.byte, h.len⟩
/-- what a clone of s is: it lies in new memory -/
structure Cloned (w : World) (s s' : BS) (w' : World) : Prop where
  zs : s'.zs = s.zs
  ok : BS.Ok w' s'
  new : ∀ g o sp, s'.p = some ⟨g, o, sp⟩ → w.heap.size ≤ g
  below : Below w.heap.size w w'
def CP (w : World) (s : BS) (e : Ending) (w' : World) : Prop := ∃ s', e = .returned (.slice s'.p s'.zs.length s'.c) ∧ Cloned w s s' w'
theorem ok_of_own {w : World} {g n : Nat} {l : List Int} (hl : l.length = n) (h : w.ownsRow g 5 1 (.slice (some ⟨g, 0, none⟩) n n) n (Clone.cellsOf l)) : Lib.BytesIn w (some ⟨g, 0, none⟩) n l := by
  intro hn
  refine ⟨g, 0, rfl, fun i hi => ?_⟩
  rw [Nat.zero_add, h.cellAt i (by omega)]
  simp [Clone.cellsOf, List.getD_eq_getElem?_getD, List.getElem?_eq_getElem (show i < l.length by omega)]
theorem clone_bs (s : BS) (w : World) (h : BS.Ok w s) (hl : s.zs.length ≤ 1048576) : Calls Try.prog 11 #[.slice s.p s.zs.length s.c] w (CP w s) := by
  obtain ⟨p, c, zs⟩ := s
  cases p with
  | none =>
    by_cases h0 : 0 < zs.length
    · obtain ⟨b, o, e, _⟩ := h.cells h0; cases e
    · have e : zs = [] := List.eq_nil_of_length_eq_zero (by omega)
      subst e
      refine (Clone.nil_any c 0 w).mono fun e w' ⟨he, hw⟩ => ?_
      subst hw
      exact ⟨⟨none, 0, []⟩, he, rfl, ⟨Lib.BytesIn.nil _ _ _, by simp, by simp⟩, (fun g o sp h => by cases h), Below.refl _ _⟩
  | some x =>
    by_cases h0 : 0 < zs.length
    · obtain ⟨b, o, e, hc⟩ := h.cells h0
      cases e
      refine (Clone.some_any b o zs.length c zs w rfl hl (cell_lt (hc 0 h0)) ?_).mono fun e w' ⟨he, hown, hb⟩ => ?_
      · intro i v hv
        obtain ⟨hi, hv⟩ := List.getElem?_eq_some_iff.1 hv
        rw [hc i hi]
        simp [List.getD_eq_getElem?_getD, List.getElem?_eq_getElem hi, hv]
      · exact ⟨⟨some ⟨w.heap.size, 0, none⟩, zs.length, zs⟩, he, rfl, ⟨ok_of_own rfl hown, h.byte, h.len⟩, (fun g o sp h => by cases h; exact Nat.le_refl _), hb⟩
    · have e : zs = [] := List.eq_nil_of_length_eq_zero (by omega)
      subst e
      refine (Clone.zero_any x c w).mono fun e w' ⟨he, hown, hb⟩ => ?_
      exact ⟨⟨some ⟨w.heap.size, 0, none⟩, 0, []⟩, he, rfl, ⟨Lib.BytesIn.nil _ _ _, by simp, by simp⟩, (fun g o sp h => by cases h; exact Nat.le_refl _), hb⟩

theorem info23 : (Try.prog.info? 23).map (fun i => (i.zero, i.size, i.bytes)) = some (some (.slice none 0 0), 1, 24) := by kernel_rfl
/-- after k rounds: k clones, then nil -/
def got (gs : List BS) (n : Nat) : List Value := gs.map BS.val ++ List.replicate (n - gs.length) (.slice none 0 0)
theorem got_zero (n : Nat) : got [] n = List.replicate n (.slice none 0 0) := by simp [got]
theorem got_full (gs : List BS) (n : Nat) (h : gs.length = n) : got gs n = gs.map BS.val := by simp [got, h]
theorem got_set (gs : List BS) (n : Nat) (s : BS) (h : gs.length < n) : (got gs n).set gs.length s.val = got (gs ++ [s]) n := by
  unfold got
  rw [List.set_append_right _ _ (by simp), List.length_map, Nat.sub_self, show n - gs.length = (n - (gs ++ [s]).length) + 1 from by simp; omega, List.replicate_succ, List.set_cons_zero]
  simp
/-- the clones so far: each lies in memory, above block B -/
def Good (B : Nat) (w : World) (gs : List BS) : Prop := ∀ s ∈ gs, BS.Ok w s ∧ s.zs.length ≤ 65536 ∧ ∀ g o sp, s.p = some ⟨g, o, sp⟩ → B < g
structure Row (B n : Nat) (w : World) (gs : List BS) : Prop where
  own : w.ownsRow B 23 1 (.slice (some ⟨B, 0, none⟩) n n) n (got gs n)
  good : Good B w gs
theorem Row.step {B n : Nat} {wr w1 : World} {gs : List BS} {s s' : BS} (h : Row B n wr gs) (hlt : gs.length < n) (hB : B < wr.heap.size) (hc : Cloned wr s s' w1) (hl : s.zs.length ≤ 65536) :
    Row B n (w1.setCell ⟨B, gs.length, none⟩ s'.val) (gs ++ [s']) := by
  have h1 := own_below h.own hc.below
  have h2 := (h1.stored gs.length s'.val).1
  rw [got_set gs n s' hlt] at h2
  refine ⟨h2, fun t ht => ?_⟩
  rcases List.mem_append.1 ht with ht | ht
  · obtain ⟨a, b, c⟩ := h.good t ht
    exact ⟨(a.below hc.below).setCell (fun g o sp e => by have := c g o sp e; omega), b, c⟩
  · simp at ht; subst ht
    refine ⟨hc.ok.setCell (fun g o sp e => by have := hc.new g o sp e; omega), by rw [hc.zs]; exact hl, fun g o sp e => by have := hc.new g o sp e; omega⟩
theorem Row.outer {B n : Nat} {w : World} {gs : List BS} (h : Row B n w gs) (hn : gs.length = n) : Outer w (some ⟨B, 0, none⟩) gs := by
  refine ⟨fun s hs => (h.good s hs).1, fun _ => ⟨B, 0, rfl, fun i s hs => ?_⟩⟩
  have h1 := h.own
  rw [got_full gs n hn] at h1
  obtain ⟨hi, e⟩ := List.getElem?_eq_some_iff.1 hs
  rw [Nat.zero_add, h1.cellAt i (by omega)]
  simp [hs]
/-! ### zzCloneResults (15) -/
def CR (n : Nat) (w : World) (e : Ending) (w' : World) : Prop :=
  ∃ P' C' rs', e = .returned (.slice P' n C') ∧ n ≤ C' ∧ rs'.length = n ∧ Outer w' P' rs' ∧ (∀ s ∈ rs', s.zs.length ≤ 65536) ∧ Below w.heap.size w w'
theorem clones_nil (C n : Nat) (w : World) : Calls Try.prog 15 #[.slice none n C] w fun e w' => e = .returned (.slice none 0 0) ∧ w' = w := by
  have hq := fun w => Lib.run_eql_slice_nil (P := Try.prog) w 27 23 none n C 0 0 Try.underlying27
  go_enter Try.func15, Try.ntmps15
  go_wp2
  go_ret
  exact ⟨rfl, rfl⟩
theorem clones_zero (x : Addr) (C : Nat) (w : World) : Calls Try.prog 15 #[.slice (some x) 0 C] w fun e w' => e = .returned (.slice (some ⟨w.heap.size, 0, none⟩) 0 0) ∧ Below w.heap.size w w' := by
  obtain ⟨i0, hi, hz0, hz1, hz2⟩ := info_parts info23
  have hq := fun w => Lib.run_eql_slice_nil (P := Try.prog) w 27 23 (some x) 0 C 0 0 Try.underlying27
  go_enter Try.func15, Try.ntmps15
  go_wp2_with (at_make; refine wpList_make_full _ rfl _ _ 27 rfl w.heap.size 23 i0 (.slice none 0 0) 1 Try.underlying27 hi hz0 hz1 .i64 .i64 _ _ 0 rfl rfl rfl rfl (by rw [hz2]; omega) (by unfold maxLen; omega) (Nat.le_refl _) ?_)
  intro w1 hown1 hgrow1
  have hb1 : Below w.heap.size w w1 := (Below.refl _ _).grown hgrow1 (Nat.le_refl _) (by intro k h; cases h)
  clear hown1 hgrow1
  go_wp2
  refine wp_loop_rounds 1 ?_
  rw [rounds_succ]
  go_wp2
  go_ret
  exact ⟨rfl, hb1⟩
theorem clones_pos (b o C : Nat) (rs : List BS) (w : World) (hr : Outer w (some ⟨b, o, none⟩) rs) (n : Nat) (hn : rs.length = n) (hm : n ≤ 4096) (h0 : 0 < n) (hl : ∀ s ∈ rs, s.zs.length ≤ 65536) :
    Calls Try.prog 15 #[.slice (some ⟨b, o, none⟩) n C] w (CR n w) := by
  obtain ⟨b', o', e, hc⟩ := hr.cells (by omega)
  cases e
  have hbw : b < w.heap.size := cell_lt (hc 0 rs[0] (List.getElem?_eq_getElem (by omega)))
  obtain ⟨i0, hi, hz0, hz1, hz2⟩ := info_parts info23
  have hq := fun w => Lib.run_eql_slice_nil (P := Try.prog) w 27 23 (some ⟨b, o, none⟩) n C 0 0 Try.underlying27
  go_enter Try.func15, Try.ntmps15
  go_wp2_with (at_make; refine wpList_make_full _ rfl _ _ 27 rfl w.heap.size 23 i0 (.slice none 0 0) 1 Try.underlying27 hi hz0 hz1 .i64 .i64 _ _ n rfl rfl rfl rfl (by rw [hz2]; omega) (by unfold maxLen; omega) (Nat.le_refl _) ?_)
  intro w1 hown1 hgrow1
  have hb1 : Below w.heap.size w w1 := (Below.refl _ _).grown hgrow1 (Nat.le_refl _) (by intro k h; cases h)
  have hrow1 : Row w.heap.size n w1 [] := by
    refine ⟨?_, fun s hs => by cases hs⟩
    rw [got_zero, ← Clone.made_zero]; exact hown1
  have hsz1 : w.heap.size < w1.heap.size := by
    rcases hrow1.own.2 with ⟨h, _⟩ | ⟨g, cap, cur, h1, h2, h3, _⟩
    · cases h
    · simp at h1; rw [← h1.1] at h3; exact (Array.getElem?_eq_some_iff.1 h3).1
  clear hown1 hgrow1
  have HL : Hid (rs.length = n) := hn
  clear hn
  go_wp2
  go_loopw [4] (fun i wr => ∃ k : Nat, k ≤ n ∧ i = .int .i64 k ∧ (∃ gs : List BS, gs.length = k ∧ Row w.heap.size n wr gs) ∧ Below w.heap.size w wr ∧ w.heap.size < wr.heap.size) (fun i _ => n - (intOf i).toNat)
  case atStart => exact ⟨0, Nat.zero_le _, rfl, ⟨[], rfl, hrow1⟩, hb1, hsz1⟩
  case round =>
    obtain ⟨k, hk, rfl, ⟨gs, hgs, hrow⟩, hbel, hsz⟩ := hrel
    clear hrow1 hb1 hsz1
    by_cases hlt : k < n
    · have hks : k < rs.length := by rw [HL.out]; exact hlt
      have hs : rs[k]? = some rs[k] := List.getElem?_eq_getElem hks
      have h1 : wr.cell? ⟨b, o + k, none⟩ = some (.slice rs[k].p rs[k].zs.length rs[k].c) := (hbel.cell (by exact hbw)).trans (hc k _ hs)
      have hok : BS.Ok wr rs[k] := (hr.each _ (List.getElem_mem hks)).below hbel
      have hl1 := hl rs[k] (List.getElem_mem hks)
      have HC : Hid (Calls Try.prog 11 #[.slice rs[k].p rs[k].zs.length rs[k].c] wr (CP wr rs[k])) := clone_bs rs[k] wr hok (by omega)
      generalize rs[k] = s at HC h1 hl1
      obtain ⟨p, c, zs⟩ := s
      simp only at HC h1 hl1
      have HR : Hid (Row w.heap.size n wr gs) := hrow
      have HG : Hid (gs.length = k) := hgs
      obtain ⟨u, h3⟩ : ∃ u, wr.cell? ⟨w.heap.size, k, none⟩ = some u := by rw [hrow.own.cellAt k (by omega)]; exact ⟨_, List.getElem?_eq_getElem (by have := hrow.own.1; omega)⟩
      have h4 : wr.frozen? ⟨w.heap.size, k, none⟩ = false := hrow.own.frozenAt k
      clear hc hs hok hks hrow hgs hl
      go_wp2_with fail
      refine HC.out.mono ?_
      rintro e w2 ⟨s', rfl, hcl⟩
      have h3' : w2.cell? ⟨w.heap.size, k, none⟩ = some u := cell_below hcl.below h3
      have h4' : w2.frozen? ⟨w.heap.size, k, none⟩ = false := (hcl.below.frozen (p := ⟨w.heap.size, k, none⟩) (by exact hsz)).trans h4
      have R : Hid (Row w.heap.size n (w2.setCell ⟨w.heap.size, k, none⟩ (.slice s'.p s'.zs.length s'.c)) (gs ++ [s'])) := by
        have h := HR.out.step (by rw [HG.out]; exact hlt) hsz hcl hl1
        rw [HG.out] at h; exact h
      have R2 : Hid (Below w.heap.size w (w2.setCell ⟨w.heap.size, k, none⟩ (.slice s'.p s'.zs.length s'.c))) := (hbel.trans (hcl.below.mono (by omega))).setCell (Nat.le_refl _) _
      have R3 : w.heap.size < w2.heap.size := by have := hcl.below.size; omega
      have HG2 : Hid ((gs ++ [s']).length = k + 1) := by show (gs ++ [s']).length = k + 1; rw [List.length_append, HG.out]; rfl
      clear hcl h1 h3 h4 HR HG HC hbel hr
      obtain ⟨p', c', zs'⟩ := s'
      simp only at R R2
      go_wp2
      go_roundw
      case rel => exact ⟨k + 1, by omega, by go_num, ⟨_, HG2.out, R.out⟩, R2.out, by simpa using R3⟩
      case measure => simp only [intOf]; omega
    · have e : k = n := by omega
      subst e
      have HO : Hid (CR k w (.returned (.slice (some ⟨w.heap.size, 0, none⟩) k k)) wr) := ⟨_, _, gs, rfl, Nat.le_refl _, hgs, hrow.outer hgs, fun s hs => (hrow.good s hs).2.1, hbel⟩
      clear hrow hgs hc hl
      go_wp2
      go_ret
      exact HO.out
theorem clones_any (P : Option Addr) (C : Nat) (rs : List BS) (w : World) (hr : Outer w P rs) (hm : rs.length ≤ 4096) (hl : ∀ s ∈ rs, s.zs.length ≤ 65536) :
    Calls Try.prog 15 #[.slice P rs.length C] w (CR rs.length w) := by
  by_cases h0 : 0 < rs.length
  · obtain ⟨b, o, rfl, _⟩ := hr.cells h0
    exact clones_pos b o C rs w hr _ rfl hm h0 hl
  · have e : rs = [] := List.eq_nil_of_length_eq_zero (by omega)
    subst e
    cases P with
    | none =>
      refine (clones_nil C 0 w).mono fun e w' ⟨he, hw⟩ => ?_
      subst hw
      exact ⟨none, 0, [], he, Nat.le_refl _, rfl, ⟨by simp, by simp⟩, by simp, Below.refl _ _⟩
    | some x =>
      refine (clones_zero x C w).mono fun e w' ⟨he, hb⟩ => ?_
      exact ⟨_, 0, [], he, Nat.le_refl _, rfl, ⟨by simp, by simp⟩, by simp, hb⟩
end Go.Proofs.Qxb6601234a.Base

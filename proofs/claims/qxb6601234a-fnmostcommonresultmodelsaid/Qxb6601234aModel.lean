import Derived.Test.Qxb6601234aVote
namespace Go.Proofs.Qxb6601234a.Base
open Go.ChangeShapes Go.WideShapes Go.ChangeAt Go.RowKit

/-- how often the content at j stands in all -/
def tot (cs : List (List Int)) (j : Nat) : Nat := cnt cs (cs.getD j [])
theorem tot_of {cs : List (List Int)} {j : Nat} {z : List Int} (h : cs[j]? = some z) : tot cs j = cnt cs z := by
  unfold tot; rw [List.getD_eq_getElem?_getD, h]; rfl
def rowOf (f : Nat → Nat) (n k : Nat) : List Value := (List.range k).map (fun j => Value.int .i64 (f j : Int)) ++ List.replicate (n - k) (.int .i64 0)
theorem rowOf_zero (f : Nat → Nat) (n : Nat) : rowOf f n 0 = List.replicate n (.int .i64 0) := by simp [rowOf]
theorem rowOf_set (f : Nat → Nat) (n k : Nat) (hk : k < n) : (rowOf f n k).set k (.int .i64 (f k : Int)) = rowOf f n (k + 1) := by
  unfold rowOf
  rw [List.set_append_right _ _ (by simp), List.length_map, List.length_range, Nat.sub_self, show n - k = (n - (k + 1)) + 1 from by omega, List.replicate_succ, List.set_cons_zero, List.range_succ]
  simp
theorem rowOf_at (f : Nat → Nat) (n j : Nat) (hj : j < n) : (rowOf f n n)[j]? = some (.int .i64 (f j : Int)) := by simp [rowOf, hj]
theorem info3 : (Try.prog.info? 3).map (fun i => (i.zero, i.size, i.bytes)) = some (some (.int .i64 0), 1, 8) := by kernel_rfl
/-- the counts laid so far -/
structure Num (w : World) (B n : Nat) (f : Nat → Nat) (k : Nat) (wr : World) : Prop where
  own : wr.ownsRow B 3 1 (.slice (some ⟨B, 0, none⟩) n n) n (rowOf f n k)
  below : Below w.heap.size w wr
theorem Num.later {w wr w4 : World} {B n k : Nat} {f : Nat → Nat} (h : Num w B n f k wr) (hb : Below wr.heap.size wr w4) : Num w B n f k w4 :=
  ⟨own_below h.own hb, h.below.trans (hb.mono h.below.size)⟩
theorem Num.step {w wr : World} {B n k : Nat} {f : Nat → Nat} (h : Num w B n f k wr) (hB : w.heap.size ≤ B) (hk : k < n) : Num w B n f (k + 1) (wr.setCell ⟨B, k, none⟩ (.int .i64 (f k : Int))) :=
  ⟨by rw [← rowOf_set f n k hk]; exact (h.own.stored k _).1, h.below.setCell hB _⟩
theorem Num.free {w wr : World} {B n k : Nat} {f : Nat → Nat} (h : Num w B n f k wr) (j : Nat) (hj : j < n) : wr.frozen? ⟨B, j, none⟩ = false ∧ ∃ u, wr.cell? ⟨B, j, none⟩ = some u :=
  ⟨h.own.frozenAt j, by rw [h.own.cellAt j (by omega)]; exact ⟨_, List.getElem?_eq_getElem (by have := h.own.1; omega)⟩⟩
theorem Num.get {w wr : World} {B n : Nat} {f : Nat → Nat} (h : Num w B n f n wr) (j : Nat) (hj : j < n) : wr.cell? ⟨B, j, none⟩ = some (.int .i64 (f j : Int)) := by
  rw [h.own.cellAt j (by omega), rowOf_at f n j hj]
/-- t is the greatest of the first k -/
def Top (f : Nat → Nat) (k t : Nat) : Prop := (∀ j, j < k → f j ≤ t) ∧ (t = 0 ∨ ∃ j, j < k ∧ f j = t)
theorem top_keep {f : Nat → Nat} {k t : Nat} (h : Top f k t) (hk : f k ≤ t) : Top f (k + 1) t :=
  ⟨fun j hj => by by_cases e : j = k; · rw [e]; exact hk
                  · exact h.1 j (by omega), h.2.elim Or.inl fun ⟨j, a, b⟩ => Or.inr ⟨j, by omega, b⟩⟩
theorem top_new {f : Nat → Nat} {k t : Nat} (h : Top f k t) (hk : t < f k) : Top f (k + 1) (f k) :=
  ⟨fun j hj => by by_cases e : j = k; · rw [e]; exact Nat.le_refl _
                  · have := h.1 j (by omega); omega, Or.inr ⟨k, by omega, rfl⟩⟩
theorem top_win {rs : List BS} {m i t : Nat} {s : BS} (hw : Win rs m i s) (h : Top (tot (conts rs)) rs.length t) : t = m := by
  have hil : i < rs.length := (List.getElem?_eq_some_iff.1 hw.at_i).1
  have a := h.1 i hil
  rw [tot_of (conts_get hw.at_i), ← hw.num] at a
  rcases h.2 with h0 | ⟨j, hj, e⟩
  · have := hw.pos; omega
  · have hj' : j < (conts rs).length := by rw [conts_len]; exact hj
    have b := hw.most j _ (List.getElem?_eq_getElem hj')
    rw [← tot_of (List.getElem?_eq_getElem hj')] at b
    omega
/-- the first place that holds t, if among the first k -/
def At (f : Nat → Nat) (n k t : Nat) (a : Int) : Prop := (a = -1 ∧ ∀ j, j < k → f j ≠ t) ∨ ∃ q : Nat, a = q ∧ q < n ∧ f q = t ∧ ∀ j, j < q → f j ≠ t
theorem at_win {rs : List BS} {m i q : Nat} {s : BS} (hw : Win rs m i s) (h1 : q < rs.length) (h2 : tot (conts rs) q = m) (h3 : ∀ j, j < q → tot (conts rs) j ≠ m) : q = i := by
  rcases Nat.lt_trichotomy q i with h | h | h
  · have hq : q < (conts rs).length := by rw [conts_len]; exact h1
    have := hw.first q _ h (List.getElem?_eq_getElem hq)
    rw [← tot_of (List.getElem?_eq_getElem hq)] at this; omega
  · exact h
  · exact absurd (by rw [tot_of (conts_get hw.at_i)]; exact hw.num.symm) (h3 i h)

set_option maxHeartbeats 1600000 in
theorem model_core (P : Option Addr) (C : Nat) (rs : List BS) (w : World) (hr : Outer w P rs) (n : Nat) (hn : rs.length = n) (hm : n ≤ maxLen)
    (HB : Hid (Calls Try.prog 13 #[.slice P n C] w (SomeBool w))) (HT : Hid (Calls Try.prog 14 #[.slice P n C] w (TB rs w))) :
    Calls Try.prog 4 #[.slice P n C] w (Tells true w) := by
  unfold maxLen at hm
  go_enter Try.func4, Try.ntmps4
  go_wp2_with fail
  refine HB.out.mono ?_
  rintro e w' ⟨b, rfl, hw⟩
  subst hw
  cases b
  · go_wp2
    go_ret
    exact ⟨rfl, Below.refl _ _⟩
  go_wp2_with fail
  refine HT.out.mono ?_
  rintro e w' ⟨hw, hd⟩
  subst hw
  rcases hd with rfl | ⟨rfl, hn1, hl1⟩
  · go_wp2
    go_ret
    exact ⟨rfl, Below.refl _ _⟩
  have HC : Hid (Calls Try.prog 15 #[.slice P n C] w' (CR n w')) := by have h := clones_any P C rs w' hr hn1 hl1; rw [hn] at h; exact h
  clear HB HT
  go_wp2_with fail
  refine HC.out.mono ?_
  rintro e w1 ⟨P1, C1, rs1, rfl, hC1, hlen1, hout1, hbig1, hbel1⟩
  clear HC
  have hn2 : n ≤ 4096 := by omega
  obtain ⟨i0, hi, hz0, hz1, hz2⟩ := info_parts info3
  by_cases h0 : n = 0
  · subst h0
    have e1 : rs1 = [] := List.eq_nil_of_length_eq_zero hlen1
    subst e1
    have HZ : Hid (∀ P C w, Calls Try.prog 16 #[.slice P 0 C] w fun e w' => e = .returned (.tuple #[.slice none 0 0, .int .i64 0]) ∧ w' = w) := by
      intro P C w
      refine (zzMost_any P C [] w ⟨by simp, by simp⟩ (by simp) (by simp)).mono fun e w' ⟨m, v, he, hb, hw⟩ => ?_
      rcases hb with ⟨_, rfl, rfl⟩ | ⟨i, s, h, _⟩
      · exact ⟨he, hw⟩
      · simp at h
    have hq := fun w => Lib.run_eql_slice_nil (P := Try.prog) w 23 5 none 0 0 0 0 Try.underlying23
    clear hr hn hn1 hl1 hlen1 hout1 hbig1
    go_wp2_with fail
    refine (HZ.out _ _ _).mono ?_
    rintro e w2 ⟨rfl, rfl⟩
    go_wp2_with (at_make; refine wpList_make_full _ rfl _ _ 32 rfl w2.heap.size 3 i0 (.int .i64 0) 1 Try.underlying32 hi hz0 hz1 .i64 .i64 _ _ 0 rfl rfl rfl rfl (by rw [hz2]; omega) (by unfold maxLen; omega) (Nat.le_refl _) ?_)
    intro w3 hown3 hgrow3
    have hb3 : Below w2.heap.size w2 w3 := (Below.refl _ _).grown hgrow3 (Nat.le_refl _) (by intro k h; cases h)
    clear hown3 hgrow3
    go_wp2
    refine wp_loop_rounds 1 ?_
    rw [rounds_succ]
    go_wp2
    refine wp_loop_rounds 1 ?_
    rw [rounds_succ]
    go_wp2
    go_ret
    exact ⟨rfl, below_trans hbel1 hb3⟩
  obtain ⟨b1, o1, rfl, hc1⟩ := hout1.cells (by omega)
  have HM : Hid (Calls Try.prog 16 #[.slice (some ⟨b1, o1, none⟩) n C1] w1 fun e w' => ∃ (m : Nat) (i : Nat) (s : BS), e = .returned (.tuple #[.slice s.p s.zs.length s.c, .int .i64 m]) ∧ Win rs1 m i s ∧ w' = w1) := by
    have h := most_win (some ⟨b1, o1, none⟩) C1 rs1 w1 hout1 (by omega) (by omega) (by omega); rw [hlen1] at h; exact h
  have HC1 : Hid (∀ i s, rs1[i]? = some s → w1.cell? ⟨b1, o1 + i, none⟩ = some s.val) := hc1
  have HL : Hid (rs1.length = n) := hlen1
  have HO : Hid (Outer w1 (some ⟨b1, o1, none⟩) rs1) := hout1
  clear hc1 hlen1 hout1 hbig1 hr hl1
  go_wp2_with fail
  refine HM.out.mono ?_
  rintro e w'' ⟨m, i, s, rfl, hwin, hw⟩
  subst hw
  clear HM
  go_wp2_with (at_make; refine wpList_make_full _ rfl _ _ 32 rfl w''.heap.size 3 i0 (.int .i64 0) 1 Try.underlying32 hi hz0 hz1 .i64 .i64 _ _ n rfl rfl rfl rfl (by rw [hz2]; omega) (by unfold maxLen; omega) (Nat.le_refl _) ?_)
  intro w3 hown3 hgrow3
  have H3 : Hid (Num w'' w''.heap.size n (tot (conts rs1)) 0 w3) := ⟨by rw [rowOf_zero, ← Clone.made_zero]; exact hown3, (Below.refl _ _).grown hgrow3 (Nat.le_refl _) (by intro k h; cases h)⟩
  have hml : m ≤ n := by have := hwin.le; rw [HL.out] at this; exact this
  have HW : Hid (Win rs1 m i s) := hwin
  have HTL : Hid (∀ j, tot (conts rs1) j ≤ n) := by intro j; have := cnt_le (conts rs1) ((conts rs1).getD j []); rw [conts_len, HL.out] at this; exact this
  clear hown3 hgrow3 hwin hn hn1
  go_wp2
  go_loopw [7, 8] (fun y i wr => ∃ k t : Nat, k ≤ n ∧ t ≤ n ∧ i = .int .i64 k ∧ y = .int .i64 t ∧ Hid (Top (tot (conts rs1)) k t) ∧ Hid (Num w'' w''.heap.size n (tot (conts rs1)) k wr)) (fun _ i _ => n - (intOf i).toNat)
  case atStart => exact ⟨0, 0, Nat.zero_le _, Nat.zero_le _, rfl, rfl, ⟨fun j h => by omega, Or.inl rfl⟩, H3⟩
  case round =>
    obtain ⟨k, t, hk, htn, rfl, rfl, htop, hnum⟩ := hrel
    clear H3
    by_cases hlt : k < n
    · have hks : k < rs1.length := by rw [HL.out]; exact hlt
      have h1 : wr.cell? ⟨b1, o1 + k, none⟩ = some (.slice rs1[k].p rs1[k].zs.length rs1[k].c) := cell_below hnum.out.below (HC1.out k _ (List.getElem?_eq_getElem hks))
      have HOr : Hid (Outer wr (some ⟨b1, o1, none⟩) rs1) := HO.out.below hnum.out.below
      have HCN : Hid (Calls Try.prog 17 #[.slice (some ⟨b1, o1, none⟩) n C1, .slice rs1[k].p rs1[k].zs.length rs1[k].c] wr (Says (tot (conts rs1) k) wr)) := by
        have h := count_any (some ⟨b1, o1, none⟩) C1 rs1 rs1[k] wr HOr.out (HOr.out.each _ (List.getElem_mem hks)) (by rw [HL.out]; omega)
        rw [HL.out, ← tot_of (conts_get (List.getElem?_eq_getElem hks))] at h; exact h
      generalize rs1[k] = r at h1 HCN
      have hfn := HTL.out k
      generalize hf : tot (conts rs1) k = f at HCN hfn
      have HF : Hid (tot (conts rs1) k = f) := hf
      clear hf
      go_wp2_with fail
      refine HCN.out.mono ?_
      rintro e w4 ⟨rfl, hb4⟩
      have hnum4 := hnum.out.later hb4
      obtain ⟨h2, u, h3⟩ := hnum4.free k hlt
      have HN5 : Hid (Num w'' w''.heap.size n (tot (conts rs1)) (k + 1) (w4.setCell ⟨w''.heap.size, k, none⟩ (.int .i64 (f : Int)))) := by
        have h := hnum4.step (Nat.le_refl _) hlt
        rw [HF.out] at h; exact h
      clear hnum4 hb4 h1 HCN HOr
      by_cases hgt : t < f
      · go_wp2
        go_roundw
        case rel => exact ⟨k + 1, f, by omega, by omega, by go_num, rfl, by have h := top_new htop.out (show t < tot (conts rs1) k by rw [HF.out]; exact hgt); rw [HF.out] at h; exact h, HN5⟩
        case measure => simp only [intOf]; omega
      · go_wp2
        go_roundw
        case rel => exact ⟨k + 1, t, by omega, by omega, by go_num, rfl, top_keep htop.out (by rw [HF.out]; omega), HN5⟩
        case measure => simp only [intOf]; omega
    · have hkn : k = n := by omega
      subst hkn
      have htm : t = m := top_win HW.out (by rw [HL.out]; exact htop.out)
      subst htm
      go_wp2
      go_loop [9, 10] (fun a i => ∃ (q : Nat) (av : Int), q ≤ k ∧ i = .int .i64 q ∧ a = .int .i64 av ∧ -1 ≤ av ∧ av < k ∧ Hid (At (tot (conts rs1)) k q t av)) (fun _ i => k - (intOf i).toNat)
      case atStart => exact ⟨0, -1, by omega, rfl, rfl, by omega, by omega, Or.inl ⟨rfl, fun j h => by omega⟩⟩
      case round =>
        obtain ⟨q, av, hq, rfl, rfl, hav1, hav2, hat⟩ := hrel
        have hik : i < k := by have := (List.getElem?_eq_some_iff.1 HW.out.at_i).1; rw [HL.out] at this; exact this
        have hfi : tot (conts rs1) i = t := by rw [tot_of (conts_get HW.out.at_i)]; exact HW.out.num.symm
        by_cases hneg : av < 0
        · have hav : av = -1 := by omega
          subst hav
          have hno : ∀ j, j < q → tot (conts rs1) j ≠ t := by
            rcases hat.out with ⟨_, h⟩ | ⟨p, h, _⟩
            · exact h
            · omega
          have hqk : q < k := by
            rcases Nat.lt_or_ge q k with h | h
            · exact h
            · exact absurd hfi (hno i (by omega))
          have h1 := hnum.out.get q hqk
          have HNO : Hid (∀ j, j < q → tot (conts rs1) j ≠ t) := hno
          have hfn := HTL.out q
          generalize hf : tot (conts rs1) q = f at h1 hfn
          have HF : Hid (tot (conts rs1) q = f) := hf
          clear hf hno hfi
          by_cases heq : f = t
          · have heq' : ((f : Int) == (t : Int)) = true := by simp [heq]
            have HE : Hid (f = t) := heq
            clear heq
            go_wp2
            go_round
            case rel => exact ⟨q + 1, q, by omega, by go_num, rfl, by omega, by omega, Or.inr ⟨q, rfl, hqk, HF.out.trans HE.out, HNO.out⟩⟩
            case measure => simp only [intOf]; omega
          · have heq' : ((f : Int) == (t : Int)) = false := by simp; omega
            go_wp2
            go_round
            case rel =>
              refine ⟨q + 1, -1, by omega, by go_num, rfl, by omega, by omega, Or.inl ⟨rfl, fun j hj => ?_⟩⟩
              by_cases e : j = q
              · rw [e, HF.out]; exact heq
              · exact HNO.out j (by omega)
            case measure => simp only [intOf]; omega
        · obtain ⟨p, hp, hpk, hp1, hp2⟩ : ∃ p : Nat, av = p ∧ p < k ∧ tot (conts rs1) p = t ∧ ∀ j, j < p → tot (conts rs1) j ≠ t := by
            rcases hat.out with ⟨h, _⟩ | ⟨p, a, b, c, d⟩
            · omega
            · exact ⟨p, a, b, c, d⟩
          have hpi : p = i := at_win HW.out (by rw [HL.out]; exact hpk) hp1 hp2
          subst hpi
          subst hp
          have h1 : wr.cell? ⟨b1, o1 + p, none⟩ = some (.slice s.p s.zs.length s.c) := cell_below hnum.out.below (HC1.out p _ HW.out.at_i)
          have hsok : BS.Ok wr s := (HO.out.each s (List.mem_of_getElem? HW.out.at_i)).below hnum.out.below
          have HSM : Hid (Calls Try.prog 18 #[.slice s.p s.zs.length s.c, .slice s.p s.zs.length s.c] wr (Tells true wr)) := by
            have h := same_any s s wr hsok hsok
            rw [show decide (s.zs = s.zs) = true from by simp] at h; exact h
          have hqn := fun w => Lib.run_eql_slice_nil (P := Try.prog) w 23 5 s.p s.zs.length s.c 0 0 Try.underlying23
          have HB5 : Hid (Below w'.heap.size w' wr) := below_trans hbel1 hnum.out.below
          clear hp1 hp2 hfi hat hsok hneg
          by_cases hqk : q < k
          · go_wp2_with (go_at_call 18; refine HSM.out.mono ?_; rintro e w6 ⟨rfl, hb6⟩)
            go_ret
            exact ⟨rfl, below_trans HB5.out hb6⟩
          · go_wp2_with (go_at_call 18; refine HSM.out.mono ?_; rintro e w6 ⟨rfl, hb6⟩)
            go_ret
            exact ⟨rfl, below_trans HB5.out hb6⟩
theorem model_law (P : Option Addr) (C : Nat) (rs : List BS) (w : World) (hr : Outer w P rs) (hm : rs.length ≤ maxLen) : Calls Try.prog 4 #[.slice P rs.length C] w (Tells true w) :=
  model_core P C rs w hr _ rfl hm (zzBytes13_any P C rs w hr hm) (tooBig_any P C rs w hr hm)
end Go.Proofs.Qxb6601234a.Base

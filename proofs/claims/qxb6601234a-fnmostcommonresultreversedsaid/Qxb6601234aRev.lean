import Derived.Test.Qxb6601234aVote
namespace Go.Proofs.Qxb6601234a.Base
open Go.ChangeShapes Go.WideShapes Go.ChangeAt Go.RowKit

theorem rev_take {rs : List BS} {k n : Nat} (hn : rs.length = n) (hk : k < n) (h : n - 1 - k < rs.length) : rs.reverse.take k ++ [rs[n - 1 - k]] = rs.reverse.take (k + 1) := by
  rw [List.take_succ_eq_append_getElem (by simp; omega), List.getElem_reverse]
  simp only [hn]

set_option maxHeartbeats 1000000 in
theorem rev_core (P : Option Addr) (C : Nat) (rs : List BS) (w : World) (hr : Outer w P rs) (n : Nat) (hn : rs.length = n) (hm : n ≤ maxLen)
    (HB : Hid (Calls Try.prog 19 #[.slice P n C] w (SomeBool w))) (HT : Hid (Calls Try.prog 14 #[.slice P n C] w (TB rs w))) :
    Calls Try.prog 5 #[.slice P n C] w (Tells true w) := by
  unfold maxLen at hm
  go_enter Try.func5, Try.ntmps5
  go_wp2_with fail
  refine HB.out.mono ?_
  rintro e w' ⟨b, rfl, hw⟩
  subst hw
  cases b
  · go_wp2
    go_ret
    exact ⟨rfl, Below.refl _ _⟩
  go_wp2_with fail
  refine HT.out.mono ?_
  rintro e w' ⟨hw, hd⟩
  subst hw
  rcases hd with rfl | ⟨rfl, hn1, hl1⟩
  · go_wp2
    go_ret
    exact ⟨rfl, Below.refl _ _⟩
  have HC : Hid (Calls Try.prog 15 #[.slice P n C] w' (CR n w')) := by have h := clones_any P C rs w' hr hn1 hl1; rw [hn] at h; exact h
  clear HB HT
  go_wp2_with fail
  refine HC.out.mono ?_
  rintro e w1 ⟨P1, C1, rs1, rfl, hC1, hlen1, hout1, hbig1, hbel1⟩
  clear HC
  have hn2 : n ≤ 4096 := by omega
  obtain ⟨i0, hi, hz0, hz1, hz2⟩ := info_parts info23
  by_cases h0 : n = 0
  · subst h0
    have e1 : rs1 = [] := List.eq_nil_of_length_eq_zero hlen1
    subst e1
    have HZ : Hid (∀ P C w, Calls Try.prog 16 #[.slice P 0 C] w fun e w' => e = .returned (.tuple #[.slice none 0 0, .int .i64 0]) ∧ w' = w) := by
      intro P C w
      refine (zzMost_any P C [] w ⟨by simp, by simp⟩ (by simp) (by simp)).mono fun e w' ⟨m, v, he, hb, hw⟩ => ?_
      rcases hb with ⟨_, rfl, rfl⟩ | ⟨i, s, h, _⟩
      · exact ⟨he, hw⟩
      · simp at h
    have hq := fun w => Lib.run_eql_slice_nil (P := Try.prog) w 23 5 none 0 0 0 0 Try.underlying23
    clear hr hn hn1 hl1 hlen1 hout1 hbig1
    go_wp2_with fail
    refine (HZ.out _ _ _).mono ?_
    rintro e w2 ⟨rfl, rfl⟩
    go_wp2_with (at_make; refine wpList_make_full _ rfl _ _ 27 rfl w2.heap.size 23 i0 (.slice none 0 0) 1 Try.underlying27 hi hz0 hz1 .i64 .i64 _ _ 0 rfl rfl rfl rfl (by rw [hz2]; omega) (by unfold maxLen; omega) (Nat.le_refl _) ?_)
    intro w3 hown3 hgrow3
    have hb3 : Below w2.heap.size w2 w3 := (Below.refl _ _).grown hgrow3 (Nat.le_refl _) (by intro k h; cases h)
    clear hown3 hgrow3
    go_wp2
    refine wp_loop_rounds 1 ?_
    rw [rounds_succ]
    go_wp2_with fail
    refine (HZ.out _ _ _).mono ?_
    rintro e w4 ⟨rfl, rfl⟩
    go_wp2
    go_ret
    exact ⟨rfl, below_trans hbel1 hb3⟩
  have hn0 : ((n : Int) == 0) = false := by simp; omega
  obtain ⟨b1, o1, rfl, hc1⟩ := hout1.cells (by omega)
  have HM : Hid (Calls Try.prog 16 #[.slice (some ⟨b1, o1, none⟩) n C1] w1 fun e w' => ∃ (m : Nat) (i : Nat) (s : BS), e = .returned (.tuple #[.slice s.p s.zs.length s.c, .int .i64 m]) ∧ Win rs1 m i s ∧ w' = w1) := by
    have h := most_win (some ⟨b1, o1, none⟩) C1 rs1 w1 hout1 (by omega) (by omega) (by omega); rw [hlen1] at h; exact h
  have HC1 : Hid (∀ i s, rs1[i]? = some s → w1.cell? ⟨b1, o1 + i, none⟩ = some s.val) := hc1
  have HL : Hid (rs1.length = n) := hlen1
  have HO : Hid (Outer w1 (some ⟨b1, o1, none⟩) rs1) := hout1
  clear hc1 hlen1 hout1 hbig1 hr hl1
  go_wp2_with fail
  refine HM.out.mono ?_
  rintro e w'' ⟨m, i, s, rfl, hwin, hw⟩
  subst hw
  clear HM
  go_wp2_with (at_make; refine wpList_make_full _ rfl _ _ 27 rfl w''.heap.size 23 i0 (.slice none 0 0) 1 Try.underlying27 hi hz0 hz1 .i64 .i64 _ _ n rfl rfl rfl rfl (by rw [hz2]; omega) (by unfold maxLen; omega) (Nat.le_refl _) ?_)
  intro w3 hown3 hgrow3
  have H3 : Hid (Laid w'' w''.heap.size n [] w3) := ⟨made_own hown3, (Below.refl _ _).grown hgrow3 (Nat.le_refl _) (by intro k h; cases h)⟩
  have hml : m ≤ n := by have := hwin.le; rw [HL.out] at this; exact this
  have hmp := hwin.pos
  have HW : Hid (Win rs1 m i s) := hwin
  clear hown3 hgrow3 hwin hn hn1
  go_wp2
  go_loopw [7] (fun i wr => ∃ k : Nat, k ≤ n ∧ i = .int .i64 k ∧ Hid (Laid w'' w''.heap.size n (rs1.reverse.take k) wr)) (fun i _ => n - (intOf i).toNat)
  case atStart => exact ⟨0, Nat.zero_le _, rfl, H3⟩
  case round =>
    obtain ⟨k, hk, rfl, hlaid⟩ := hrel
    clear H3
    by_cases hlt : k < n
    · have hks : n - 1 - k < rs1.length := by rw [HL.out]; omega
      have h1 : wr.cell? ⟨b1, o1 + (n - 1 - k), none⟩ = some (.slice rs1[n - 1 - k].p rs1[n - 1 - k].zs.length rs1[n - 1 - k].c) := cell_below hlaid.out.below (HC1.out (n - 1 - k) _ (List.getElem?_eq_getElem hks))
      obtain ⟨h2, u, h3⟩ := hlaid.out.free k (by omega)
      have HS : Hid (Laid w'' w''.heap.size n (rs1.reverse.take (k + 1)) (wr.setCell ⟨w''.heap.size, k, none⟩ (.slice rs1[n - 1 - k].p rs1[n - 1 - k].zs.length rs1[n - 1 - k].c))) := by
        have hl := HL.out
        have h := hlaid.out.step (Nat.le_refl _) rs1[n - 1 - k] (by simp; omega)
        rw [show (rs1.reverse.take k).length = k from by simp; omega, rev_take HL.out hlt hks] at h
        exact h
      generalize rs1[n - 1 - k] = r at h1 HS
      obtain ⟨p, c, zs⟩ := r
      simp only at h1 HS
      go_wp2
      go_roundw
      case rel => exact ⟨k + 1, by omega, by go_num, HS⟩
      case measure => simp only [intOf]; omega
    · have hkn : k = n := by omega
      subst hkn
      have hlaid2 : Laid w'' w''.heap.size k rs1.reverse wr := by have h := hlaid.out; rw [List.take_of_length_le (by rw [List.length_reverse, HL.out]; exact Nat.le_refl _)] at h; exact h
      have hlr : rs1.reverse.length = k := by rw [List.length_reverse]; exact HL.out
      have hO5 : Outer wr (some ⟨w''.heap.size, 0, none⟩) rs1.reverse := hlaid2.outer hlr fun t ht => (HO.out.each t (List.mem_reverse.1 ht)).below hlaid2.below
      have HM2 : Hid (Calls Try.prog 16 #[.slice (some ⟨w''.heap.size, 0, none⟩) k k] wr fun e w' => ∃ s2 : BS, e = .returned (.tuple #[.slice s2.p s2.zs.length s2.c, .int .i64 m]) ∧ (s2 ∈ rs1 ∧ cnt (conts rs1) s2.zs = m) ∧ w' = wr) := by
        have h := most_win (some ⟨w''.heap.size, 0, none⟩) k rs1.reverse wr hO5 (by omega) (by omega) (by omega)
        rw [hlr] at h
        refine h.mono fun e w' ⟨m2, i2, s2, he, hwin2, hw⟩ => ?_
        obtain ⟨e1, e2⟩ := reversed HW.out hwin2
        subst e1
        exact ⟨s2, he, ⟨List.mem_reverse.1 (List.mem_of_getElem? hwin2.at_i), e2⟩, hw⟩
      have HOr : Hid (Outer wr (some ⟨b1, o1, none⟩) rs1) := HO.out.below hlaid2.below
      have HCN : Hid (∀ s2 : BS, s2 ∈ rs1 → cnt (conts rs1) s2.zs = m → ∀ w6, Below wr.heap.size wr w6 → Calls Try.prog 17 #[.slice (some ⟨b1, o1, none⟩) k C1, .slice s2.p s2.zs.length s2.c] w6 (Says m w6)) := by
        intro s2 hs2 hcn w6 hb6
        have hO6 := HOr.out.below hb6
        have h := count_any (some ⟨b1, o1, none⟩) C1 rs1 s2 w6 hO6 (hO6.each s2 hs2) (by rw [HL.out]; omega)
        rw [hcn, HL.out] at h; exact h
      have HB5 : Hid (Below w'.heap.size w' wr) := below_trans hbel1 hlaid2.below
      have HS1 : Hid (s ∈ rs1 ∧ cnt (conts rs1) s.zs = m) := ⟨List.mem_of_getElem? HW.out.at_i, HW.out.num.symm⟩
      clear hlaid2 hlaid hO5 HO HC1 HL hlr HOr
      go_wp2_with fail
      refine HM2.out.mono ?_
      rintro e w5 ⟨s2, rfl, hs2, hw⟩
      subst hw
      have HS2 : Hid (s2 ∈ rs1 ∧ cnt (conts rs1) s2.zs = m) := hs2
      clear hs2
      go_wp2_with fail
      refine (HCN.out s HS1.out.1 HS1.out.2 _ (Below.refl _ _)).mono ?_
      rintro e w6 ⟨rfl, hb6⟩
      go_wp2_with fail
      refine (HCN.out s2 HS2.out.1 HS2.out.2 _ hb6).mono ?_
      rintro e w7 ⟨rfl, hb7⟩
      go_wp2
      go_ret
      exact ⟨rfl, below_trans (below_trans HB5.out hb6) hb7⟩
theorem rev_law (P : Option Addr) (C : Nat) (rs : List BS) (w : World) (hr : Outer w P rs) (hm : rs.length ≤ maxLen) : Calls Try.prog 5 #[.slice P rs.length C] w (Tells true w) :=
  rev_core P C rs w hr _ rfl hm (zzBytes19_any P C rs w hr hm) (tooBig_any P C rs w hr hm)
end Go.Proofs.Qxb6601234a.Base

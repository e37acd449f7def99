import Derived.Test.Qxb6601234aPlain
import Derived.Test.Qxb6601234aClones
namespace Go.Proofs.Qxb6601234a.Base
open Go.ChangeShapes Go.WideShapes Go.ChangeAt Go.RowKit

/-- the winner of rs, in the walk's words -/
theorem most_win (P : Option Addr) (C : Nat) (rs : List BS) (w : World) (hr : Outer w P rs) (hm : rs.length ≤ 8192) (hC : rs.length ≤ C) (h0 : 0 < rs.length) :
    Calls Try.prog 16 #[.slice P rs.length C] w fun e w' => ∃ (m : Nat) (i : Nat) (s : BS), e = .returned (.tuple #[.slice s.p s.zs.length s.c, .int .i64 m]) ∧ Win rs m i s ∧ w' = w :=
  (zzMost_any P C rs w hr hm hC).mono fun e w' ⟨m, v, he, hb, hw⟩ => by
    obtain ⟨i, s, hwin, hv⟩ := win_of_best h0 hb
    exact ⟨m, i, s, by rw [he, hv]; rfl, hwin, hw⟩
theorem made_own {w w1 : World} {n : Nat} (h : w1.ownsRow w.heap.size 23 1 (.slice (some ⟨w.heap.size, 0, none⟩) n n) n (madeCells #[.slice none 0 0] n).toList) : w1.ownsRow w.heap.size 23 1 (.slice (some ⟨w.heap.size, 0, none⟩) n n) n (got [] n) := by
  rw [got_zero, ← Clone.made_zero]; exact h
/-- a row of slices, some of them laid: each step lays one more of rs -/
structure Laid (w : World) (B n : Nat) (gs : List BS) (wr : World) : Prop where
  own : wr.ownsRow B 23 1 (.slice (some ⟨B, 0, none⟩) n n) n (got gs n)
  below : Below w.heap.size w wr
theorem Laid.size {w wr : World} {B n : Nat} {gs : List BS} (h : Laid w B n gs wr) : B < wr.heap.size := by
  rcases h.own.2 with ⟨h, _⟩ | ⟨g, cap, cur, h1, h2, h3, _⟩
  · cases h
  · simp at h1; rw [← h1.1] at h3; exact (Array.getElem?_eq_some_iff.1 h3).1
theorem Laid.step {w wr : World} {B n : Nat} {gs : List BS} (h : Laid w B n gs wr) (hB : w.heap.size ≤ B) (s : BS) (hlt : gs.length < n) : Laid w B n (gs ++ [s]) (wr.setCell ⟨B, gs.length, none⟩ s.val) :=
  ⟨by rw [← got_set gs n s hlt]; exact (h.own.stored gs.length s.val).1, h.below.setCell hB _⟩
theorem Laid.free {w wr : World} {B n : Nat} {gs : List BS} (h : Laid w B n gs wr) (k : Nat) (hk : k < n) : wr.frozen? ⟨B, k, none⟩ = false ∧ ∃ u, wr.cell? ⟨B, k, none⟩ = some u :=
  ⟨h.own.frozenAt k, by rw [h.own.cellAt k (by omega)]; exact ⟨_, List.getElem?_eq_getElem (by have := h.own.1; omega)⟩⟩
theorem Laid.later {w wr w4 : World} {B n : Nat} {gs : List BS} (h : Laid w B n gs wr) (hb : Below wr.heap.size wr w4) : Laid w B n gs w4 :=
  ⟨own_below h.own hb, h.below.trans (hb.mono h.below.size)⟩
theorem Laid.outer {w wr : World} {B n : Nat} {gs : List BS} (h : Laid w B n gs wr) (hn : gs.length = n) (hok : ∀ s ∈ gs, BS.Ok wr s) : Outer wr (some ⟨B, 0, none⟩) gs := by
  refine ⟨hok, fun _ => ⟨B, 0, rfl, fun i s hs => ?_⟩⟩
  have h1 := h.own
  rw [got_full gs n hn] at h1
  obtain ⟨hi, e⟩ := List.getElem?_eq_some_iff.1 hs
  rw [Nat.zero_add, h1.cellAt i (by omega)]
  simp [hs]

set_option maxHeartbeats 1000000 in
theorem vote_core (P : Option Addr) (C : Nat) (rs : List BS) (w : World) (hr : Outer w P rs) (n : Nat) (hn : rs.length = n) (hm : n ≤ maxLen)
    (HB : Hid (Calls Try.prog 20 #[.slice P n C] w (SomeBool w))) (HT : Hid (Calls Try.prog 14 #[.slice P n C] w (TB rs w))) :
    Calls Try.prog 6 #[.slice P n C] w (Tells true w) := by
  unfold maxLen at hm
  go_enter Try.func6, Try.ntmps6
  go_wp2_with fail
  refine HB.out.mono ?_
  rintro e w' ⟨b, rfl, hw⟩
  subst hw
  cases b
  · go_wp2
    go_ret
    exact ⟨rfl, Below.refl _ _⟩
  go_wp2_with fail
  refine HT.out.mono ?_
  rintro e w' ⟨hw, hd⟩
  subst hw
  rcases hd with rfl | ⟨rfl, hn1, hl1⟩
  · go_wp2
    go_ret
    exact ⟨rfl, Below.refl _ _⟩
  by_cases h0 : n = 0
  · subst h0
    go_wp2
    go_ret
    exact ⟨rfl, Below.refl _ _⟩
  have hn0 : ((n : Int) == 0) = false := by simp; omega
  have HC : Hid (Calls Try.prog 15 #[.slice P n C] w' (CR n w')) := by have h := clones_any P C rs w' hr hn1 hl1; rw [hn] at h; exact h
  clear HB HT
  go_wp2_with fail
  refine HC.out.mono ?_
  rintro e w1 ⟨P1, C1, rs1, rfl, hC1, hlen1, hout1, hbig1, hbel1⟩
  clear HC
  obtain ⟨b1, o1, rfl, hc1⟩ := hout1.cells (by omega)
  have HM : Hid (Calls Try.prog 16 #[.slice (some ⟨b1, o1, none⟩) n C1] w1 fun e w' => ∃ (m : Nat) (i : Nat) (s : BS), e = .returned (.tuple #[.slice s.p s.zs.length s.c, .int .i64 m]) ∧ Win rs1 m i s ∧ w' = w1) := by
    have h := most_win (some ⟨b1, o1, none⟩) C1 rs1 w1 hout1 (by omega) (by omega) (by omega); rw [hlen1] at h; exact h
  have HC1 : Hid (∀ i s, rs1[i]? = some s → w1.cell? ⟨b1, o1 + i, none⟩ = some s.val) := hc1
  have HL : Hid (rs1.length = n) := hlen1
  have HO : Hid (Outer w1 (some ⟨b1, o1, none⟩) rs1) := hout1
  have HBG : Hid (∀ s ∈ rs1, s.zs.length ≤ 65536) := hbig1
  clear hc1 hlen1 hout1 hbig1 hr hl1
  go_wp2_with fail
  refine HM.out.mono ?_
  rintro e w'' ⟨m, i, s, rfl, hwin, hw⟩
  subst hw
  clear HM
  obtain ⟨i0, hi, hz0, hz1, hz2⟩ := info_parts info23
  go_wp2_with (at_make; refine wpList_make_full _ rfl _ _ 27 rfl w''.heap.size 23 i0 (.slice none 0 0) 1 Try.underlying27 hi hz0 hz1 .i64 .i64 _ _ (n + 1) rfl rfl (by omega) (by omega) (by rw [hz2]; omega) (by unfold maxLen; omega) (Nat.le_refl _) ?_)
  intro w3 hown3 hgrow3
  have hL3 : Laid w'' w''.heap.size (n + 1) [] w3 := ⟨made_own hown3, (Below.refl _ _).grown hgrow3 (Nat.le_refl _) (by intro k h; cases h)⟩
  have H3 : Hid (Laid w'' w''.heap.size (n + 1) [] w3) := hL3
  have hml : m ≤ n := by have := hwin.le; rw [HL.out] at this; exact this
  have HW : Hid (Win rs1 m i s) := hwin
  have hn2 : n ≤ 4096 := by omega
  clear hL3 hown3 hgrow3 hwin hn hn1
  go_wp2
  go_loopw [7] (fun i wr => ∃ k : Nat, k ≤ n ∧ i = .int .i64 k ∧ Hid (Laid w'' w''.heap.size (n + 1) (rs1.take k) wr)) (fun i _ => n - (intOf i).toNat)
  case atStart => exact ⟨0, Nat.zero_le _, rfl, H3⟩
  case round =>
    obtain ⟨k, hk, rfl, hlaid⟩ := hrel
    clear H3
    by_cases hlt : k < n
    · have hks : k < rs1.length := by rw [HL.out]; exact hlt
      have h1 : wr.cell? ⟨b1, o1 + k, none⟩ = some (.slice rs1[k].p rs1[k].zs.length rs1[k].c) := cell_below hlaid.out.below (HC1.out k _ (List.getElem?_eq_getElem hks))
      obtain ⟨h2, u, h3⟩ := hlaid.out.free k (by omega)
      have HS : Hid (Laid w'' w''.heap.size (n + 1) (rs1.take (k + 1)) (wr.setCell ⟨w''.heap.size, k, none⟩ (.slice rs1[k].p rs1[k].zs.length rs1[k].c))) := by
        have h := hlaid.out.step (Nat.le_refl _) rs1[k] (by simp; omega)
        rw [show (rs1.take k).length = k from by simp; omega, ← List.take_succ_eq_append_getElem hks] at h
        exact h
      generalize rs1[k] = r at h1 HS
      obtain ⟨p, c, zs⟩ := r
      simp only at h1 HS
      go_wp2
      go_roundw
      case rel => exact ⟨k + 1, by omega, by go_num, HS⟩
      case measure => simp only [intOf]; omega
    · have hkn : k = n := by omega
      subst hkn
      have hlaid2 : Laid w'' w''.heap.size (k + 1) rs1 wr := by have h := hlaid.out; rw [List.take_of_length_le (by rw [HL.out]; exact Nat.le_refl _)] at h; exact h
      have hsok : BS.Ok w'' s := HO.out.each s (List.mem_of_getElem? HW.out.at_i)
      have hsb := HBG.out s (List.mem_of_getElem? HW.out.at_i)
      have HCL : Hid (Calls Try.prog 11 #[.slice s.p s.zs.length s.c] wr (CP wr s)) := clone_bs s wr (hsok.below hlaid2.below) (by omega)
      have HLD : Hid (Laid w'' w''.heap.size (k + 1) rs1 wr) := hlaid2
      have HSO : Hid (BS.Ok w'' s) := hsok
      clear hlaid2 hlaid hsok
      go_wp2_with fail
      refine HCL.out.mono ?_
      rintro e w4 ⟨s', rfl, hcl⟩
      have hL4 := HLD.out.later hcl.below
      obtain ⟨h2, u, h3⟩ := hL4.free k (by omega)
      have hlen1 : rs1.length = k := HL.out
      have hL5 : Laid w'' w''.heap.size (k + 1) (rs1 ++ [s']) (w4.setCell ⟨w''.heap.size, k, none⟩ (.slice s'.p s'.zs.length s'.c)) := by
        have h := hL4.step (Nat.le_refl _) s' (by omega)
        rw [hlen1] at h; exact h
      have hBw : w''.heap.size < wr.heap.size := HLD.out.size
      have hO5 : Outer (w4.setCell ⟨w''.heap.size, k, none⟩ (.slice s'.p s'.zs.length s'.c)) (some ⟨w''.heap.size, 0, none⟩) (rs1 ++ [s']) := by
        refine hL5.outer (by simp [hlen1]) fun t ht => ?_
        rcases List.mem_append.1 ht with ht | ht
        · exact (HO.out.each t ht).below hL5.below
        · simp at ht; subst ht
          exact hcl.ok.setCell (fun g o sp e => by have := hcl.new g o sp e; omega)
      have HM2 : Hid (Calls Try.prog 16 #[.slice (some ⟨w''.heap.size, 0, none⟩) (k + 1) (k + 1)] (w4.setCell ⟨w''.heap.size, k, none⟩ (.slice s'.p s'.zs.length s'.c)) fun e w' => e = .returned (.tuple #[.slice s.p s.zs.length s.c, .int .i64 ((m : Int) + 1)]) ∧ w' = w4.setCell ⟨w''.heap.size, k, none⟩ (.slice s'.p s'.zs.length s'.c)) := by
        have h := most_win (some ⟨w''.heap.size, 0, none⟩) (k + 1) (rs1 ++ [s']) _ hO5 (by simp; omega) (by simp; omega) (by simp)
        rw [show (rs1 ++ [s']).length = k + 1 from by simp [hlen1]] at h
        refine h.mono fun e w' ⟨m2, i2, s2, he, hwin2, hw⟩ => ?_
        obtain ⟨e1, e2⟩ := one_more HW.out hcl.zs hwin2
        subst e1 e2
        exact ⟨he, hw⟩
      have HSM : Hid (Calls Try.prog 18 #[.slice s.p s.zs.length s.c, .slice s.p s.zs.length s.c] (w4.setCell ⟨w''.heap.size, k, none⟩ (.slice s'.p s'.zs.length s'.c)) (Tells true (w4.setCell ⟨w''.heap.size, k, none⟩ (.slice s'.p s'.zs.length s'.c)))) := by
        have h := same_any s s (w4.setCell ⟨w''.heap.size, k, none⟩ (.slice s'.p s'.zs.length s'.c)) (HSO.out.below hL5.below) (HSO.out.below hL5.below)
        rw [show decide (s.zs = s.zs) = true from by simp] at h; exact h
      have hq := fun w => Lib.run_eql_slice_nil (P := Try.prog) w 23 5 s.p s.zs.length s.c 0 0 Try.underlying23
      have HB5 : Hid (Below w'.heap.size w' (w4.setCell ⟨w''.heap.size, k, none⟩ (.slice s'.p s'.zs.length s'.c))) := below_trans hbel1 hL5.below
      clear hL5 hL4 hO5 hcl HCL HLD HO HC1 HL hlen1
      go_wp2_with fail
      refine HM2.out.mono ?_
      rintro e w5 ⟨rfl, rfl⟩
      go_wp2_with (go_at_call 18; refine HSM.out.mono ?_; rintro e w6 ⟨rfl, hb6⟩)
      go_ret
      exact ⟨rfl, below_trans HB5.out hb6⟩
theorem vote_law (P : Option Addr) (C : Nat) (rs : List BS) (w : World) (hr : Outer w P rs) (hm : rs.length ≤ maxLen) : Calls Try.prog 6 #[.slice P rs.length C] w (Tells true w) :=
  vote_core P C rs w hr _ rfl hm (zzBytes20_any P C rs w hr hm) (tooBig_any P C rs w hr hm)
end Go.Proofs.Qxb6601234a.Base

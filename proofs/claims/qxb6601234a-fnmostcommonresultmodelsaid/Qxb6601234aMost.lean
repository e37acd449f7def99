import Derived.Test.Qxb6601234aCount
namespace Go.Proofs.Qxb6601234a.Base
open Go.ChangeShapes Go.WideShapes Go.ChangeAt Go.RowKit

/-- how often the content at i stands from i on -/
def sfx (cs : List (List Int)) (i : Nat) : Nat := cnt (cs.drop i) (cs.getD i [])
/-- what the outer loop has found after k rounds -/
def Best (rs : List BS) (k m : Nat) (v : Value) : Prop :=
  (k = 0 ∧ m = 0 ∧ v = .slice none 0 0) ∨
  ∃ i s, i < k ∧ rs[i]? = some s ∧ v = s.val ∧ m = sfx (conts rs) i ∧ (∀ j, j < k → sfx (conts rs) j ≤ m) ∧ ∀ j, j < i → sfx (conts rs) j < m
def MC (rs : List BS) (w : World) (e : Ending) (w' : World) : Prop := ∃ (m : Nat) (v : Value), e = .returned (.tuple #[v, .int .i64 m]) ∧ Best rs rs.length m v ∧ w' = w

theorem sfx_pos (cs : List (List Int)) (i : Nat) (h : i < cs.length) : 0 < sfx cs i := by
  unfold sfx cnt
  rw [List.getD_eq_getElem?_getD, List.getElem?_eq_getElem h, List.drop_eq_getElem_cons h]
  exact List.count_pos_iff.2 List.mem_cons_self
theorem sfx_le (cs : List (List Int)) (i : Nat) : sfx cs i ≤ cs.length - i := by
  have := cnt_le (cs.drop i) (cs.getD i [])
  unfold sfx; simpa using this
theorem best_keep {rs : List BS} {k m : Nat} {v : Value} (h : Best rs k m v) (hk : k < rs.length) (hs : sfx (conts rs) k ≤ m) : Best rs (k + 1) m v := by
  rcases h with ⟨rfl, rfl, _⟩ | ⟨i, s, h1, h2, h3, h4, h5, h6⟩
  · have := sfx_pos (conts rs) 0 (by rw [conts_len]; exact hk); omega
  · refine Or.inr ⟨i, s, by omega, h2, h3, h4, fun j hj => ?_, h6⟩
    by_cases e : j = k
    · rw [e]; exact hs
    · exact h5 j (by omega)
theorem best_new {rs : List BS} {k m : Nat} {v : Value} {s : BS} (h : Best rs k m v) (hk : rs[k]? = some s) (hs : m < sfx (conts rs) k) : Best rs (k + 1) (sfx (conts rs) k) s.val := by
  refine Or.inr ⟨k, s, by omega, hk, rfl, rfl, fun j hj => ?_, fun j hj => ?_⟩
  · by_cases e : j = k
    · rw [e]; exact Nat.le_refl _
    · rcases h with ⟨rfl, _⟩ | ⟨i, s', h1, h2, h3, h4, h5, h6⟩
      · omega
      · have := h5 j (by omega); omega
  · rcases h with ⟨rfl, _⟩ | ⟨i, s', h1, h2, h3, h4, h5, h6⟩
    · omega
    · have := h5 j (by omega); omega
theorem cnt_drop_take (cs : List (List Int)) (z : List Int) (k q : Nat) (h : k + q < cs.length) : cnt ((cs.drop k).take (q + 1)) z = cnt ((cs.drop k).take q) z + if decide (cs[k + q] = z) = true then 1 else 0 := by
  have := cnt_take (cs.drop k) z q (by simp; omega)
  rw [this, List.getElem_drop]
theorem most_pos (b o C : Nat) (rs : List BS) (w : World) (hr : Outer w (some ⟨b, o, none⟩) rs) (n : Nat) (hn : rs.length = n) (hm : n ≤ 8192) (h0 : 0 < n) (hC : n ≤ C) :
    Calls Try.prog 30 #[.slice (some ⟨b, o, none⟩) n C] w (MC rs w) := by
  obtain ⟨b', o', e, hc⟩ := hr.cells (by omega)
  cases e
  have HL : Hid (rs.length = n) := hn
  clear hn
  go_enter Try.func30, Try.ntmps30
  go_wp2
  go_loop [4, 5, 13] (fun v y i => ∃ k m : Nat, k ≤ n ∧ i = .int .i64 k ∧ y = .int .i64 m ∧ m ≤ n ∧ Hid (Best rs k m v)) (fun _ _ i => n - (intOf i).toNat)
  case atStart => exact ⟨0, 0, by omega, rfl, rfl, by omega, Or.inl ⟨rfl, rfl, rfl⟩⟩
  case round =>
    obtain ⟨k, m, hk, rfl, rfl, hmn, hbest⟩ := hrel
    by_cases hlt : k < n
    · have hks : k < rs.length := by rw [HL.out]; exact hlt
      have hs1 : rs[k]? = some rs[k] := List.getElem?_eq_getElem hks
      have h1 : w.cell? ⟨b, o + k, none⟩ = some (.slice rs[k].p rs[k].zs.length rs[k].c) := hc k _ hs1
      have HB : Hid (Outer w (some ⟨b, o, none⟩) rs) := hr
      have HC : Hid (∀ i s, rs[i]? = some s → w.cell? ⟨b, o + i, none⟩ = some s.val) := hc
      have HS : Hid (rs[k]? = some rs[k]) := hs1
      have HK : Hid (sfx (conts rs) k = cnt ((conts rs).drop k) rs[k].zs) := by
        show sfx (conts rs) k = _
        unfold sfx; rw [List.getD_eq_getElem?_getD, List.getElem?_eq_getElem (by rw [conts_len]; exact hks), conts_at rs k hks]; rfl
      have HO : Hid (BS.Ok w rs[k]) := hr.each _ (List.getElem_mem hks)
      generalize rs[k] = r at h1 HS HK HO
      clear hc hs1 hr
      go_wp2
      go_loop [8, 22] (fun c j => ∃ q y : Nat, q ≤ n - k ∧ j = .int .i64 q ∧ c = .int .i64 y ∧ y ≤ q ∧ Hid (y = cnt (((conts rs).drop k).take q) r.zs)) (fun _ j => n - k - (intOf j).toNat)
      case atStart => exact ⟨0, 0, by omega, rfl, rfl, by omega, by simp [Hid, cnt]⟩
      case round =>
        obtain ⟨q, y, hq, rfl, rfl, hyq, hy⟩ := hrel
        by_cases hqlt : q < n - k
        · have hkq : k + q < rs.length := by rw [HL.out]; omega
          have h2 : w.cell? ⟨b, o + k + q, none⟩ = some (.slice rs[k + q].p rs[k + q].zs.length rs[k + q].c) := by
            rw [Nat.add_assoc]; exact HC.out (k + q) _ (List.getElem?_eq_getElem hkq)
          have HE : Hid (∀ w2, w2 = w → Calls Try.prog 32 #[.slice r.p r.zs.length r.c, .slice rs[k + q].p rs[k + q].zs.length rs[k + q].c] w2 fun e w' => e = .returned (.bool (decide (r.zs = rs[k + q].zs))) ∧ w' = w2) := by
            intro w2 e; subst e
            exact equal_any r rs[k + q] w2 HO.out (HB.out.each _ (List.getElem_mem hkq))
          have HT : Hid (cnt (((conts rs).drop k).take (q + 1)) r.zs = cnt (((conts rs).drop k).take q) r.zs + if decide (r.zs = rs[k + q].zs) = true then 1 else 0) := by
            have h := cnt_drop_take (conts rs) r.zs k q (by rw [conts_len]; exact hkq)
            rw [conts_at rs (k + q) hkq] at h
            rw [show decide (r.zs = rs[k + q].zs) = decide (rs[k + q].zs = r.zs) from by simp [eq_comm]]
            exact h
          generalize rs[k + q] = r2 at HE h2 HT
          cases hd : decide (r.zs = r2.zs)
          all_goals rw [hd] at HE HT
          · clear hd
            go_wp2_with (go_at_call 32; refine (HE.out _ rfl).mono ?_; rintro e w2 ⟨rfl, rfl⟩)
            go_round
            case rel => exact ⟨q + 1, y, by omega, by go_num, rfl, by omega, by show y = _; rw [HT.out, hy.out]; simp⟩
            case measure => simp only [intOf]; omega
          · clear hd
            go_wp2_with (go_at_call 32; refine (HE.out _ rfl).mono ?_; rintro e w2 ⟨rfl, rfl⟩)
            go_round
            case rel => exact ⟨q + 1, y + 1, by omega, by go_num, by go_num, by omega, by show y + 1 = _; rw [HT.out, hy.out]; simp⟩
            case measure => simp only [intOf]; omega
        · have hyf : y = sfx (conts rs) k := by rw [hy.out, HK.out, List.take_of_length_le (by simp [conts_len, HL.out]; omega)]
          have HY : Hid (y = sfx (conts rs) k) := hyf
          clear hyf
          by_cases hgt : m < y
          · have HN : Hid (Best rs (k + 1) y (.slice r.p r.zs.length r.c)) := by
              have h := best_new hbest.out HS.out (by rw [← HY.out]; exact hgt)
              rw [← HY.out] at h; exact h
            go_wp2
            go_round
            case rel => exact ⟨k + 1, y, by omega, by go_num, rfl, by omega, HN⟩
            case measure => simp only [intOf]; omega
          · have HN : Hid (Best rs (k + 1) m u4) := best_keep hbest.out hks (by rw [← HY.out]; omega)
            go_wp2
            go_round
            case rel => exact ⟨k + 1, m, by omega, by go_num, rfl, by omega, HN⟩
            case measure => simp only [intOf]; omega
    · have HN : Hid (MC rs w (.returned (.tuple #[u4, .int .i64 m])) w) := ⟨m, u4, rfl, by rw [HL.out, ← show k = n from by omega]; exact hbest.out, rfl⟩
      clear hc
      go_wp2
      go_ret2
      exact HN.out
theorem most_zero (P : Option Addr) (C : Nat) (w : World) : Calls Try.prog 30 #[.slice P 0 C] w (MC [] w) := by
  go_enter Try.func30, Try.ntmps30
  go_wp2
  refine wp_loop_rounds 1 ?_
  rw [rounds_succ]
  go_wp2
  go_ret2
  exact ⟨0, _, rfl, Or.inl ⟨rfl, rfl, rfl⟩, rfl⟩
theorem most_any (P : Option Addr) (C : Nat) (rs : List BS) (w : World) (hr : Outer w P rs) (hm : rs.length ≤ 8192) (hC : rs.length ≤ C) : Calls Try.prog 30 #[.slice P rs.length C] w (MC rs w) := by
  by_cases h0 : 0 < rs.length
  · obtain ⟨b, o, rfl, _⟩ := hr.cells h0
    exact most_pos b o C rs w hr _ rfl hm h0 hC
  · have e : rs = [] := List.eq_nil_of_length_eq_zero (by omega)
    subst e
    exact most_zero _ _ w
theorem zzMost_any (P : Option Addr) (C : Nat) (rs : List BS) (w : World) (hr : Outer w P rs) (hm : rs.length ≤ 8192) (hC : rs.length ≤ C) : Calls Try.prog 16 #[.slice P rs.length C] w (MC rs w) := by
  go_enter Try.func16, Try.ntmps16
  go_wp2_with (go_at_call 30; refine (most_any P C rs _ hr hm hC).mono ?_; rintro e w' ⟨m, v, rfl, hb, hw⟩; subst hw)
  go_ret2
  exact ⟨m, v, rfl, hb, rfl⟩
end Go.Proofs.Qxb6601234a.Base

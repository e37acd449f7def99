import Derived.Test.Qxb6601234aSame
namespace Go.Proofs.Qxb6601234a.Base
open Go.ChangeShapes Go.WideShapes Go.ChangeAt Go.RowKit

/-- how often z is among cs -/
def cnt (cs : List (List Int)) (z : List Int) : Nat := cs.count z
theorem cnt_take (cs : List (List Int)) (z : List Int) (k : Nat) (h : k < cs.length) : cnt (cs.take (k + 1)) z = cnt (cs.take k) z + if decide (cs[k] = z) = true then 1 else 0 := by
  unfold cnt
  rw [List.take_succ_eq_append_getElem h, List.count_append, List.count_singleton]
  by_cases e : cs[k] = z
  · simp [e]
  · simp [e]
theorem cnt_le (cs : List (List Int)) (z : List Int) : cnt cs z ≤ cs.length := List.count_le_length
def conts (rs : List BS) : List (List Int) := rs.map BS.zs
theorem conts_len (rs : List BS) : (conts rs).length = rs.length := by simp [conts]
theorem conts_at (rs : List BS) (k : Nat) (h : k < rs.length) : (conts rs)[k]'(by rw [conts_len]; exact h) = rs[k].zs := by simp [conts]
/-- it answers the number m; nothing that was there turns -/
def Says (m : Nat) (w : World) (e : Ending) (w' : World) : Prop := e = .returned (.int .i64 m) ∧ Below w.heap.size w w'
theorem count_zero (P : Option Addr) (C : Nat) (p : Option Addr) (n c : Nat) (w : World) : Calls Try.prog 17 #[.slice P 0 C, .slice p n c] w (Says 0 w) := by
  go_enter Try.func17, Try.ntmps17
  go_wp2
  refine wp_loop_rounds 1 ?_
  rw [rounds_succ]
  go_wp2
  go_ret
  exact ⟨rfl, Below.refl _ _⟩
theorem count_pos (b o C : Nat) (rs : List BS) (s : BS) (w : World) (hr : Outer w (some ⟨b, o, none⟩) rs) (hs : BS.Ok w s) (n : Nat) (hn : rs.length = n) (hm : n ≤ 8192) (h0 : 0 < n) :
    Calls Try.prog 17 #[.slice (some ⟨b, o, none⟩) n C, .slice s.p s.zs.length s.c] w (Says (cnt (conts rs) s.zs) w) := by
  obtain ⟨b', o', e, hc⟩ := hr.cells (by omega)
  cases e
  have HL : Hid (rs.length = n) := hn
  clear hn
  go_enter Try.func17, Try.ntmps17
  go_wp2
  go_loopw [5, 6] (fun c j wr => ∃ k m : Nat, k ≤ n ∧ j = .int .i64 k ∧ c = .int .i64 m ∧ m ≤ k ∧ Hid (m = cnt ((conts rs).take k) s.zs) ∧ Below w.heap.size w wr) (fun _ j _ => n - (intOf j).toNat)
  case atStart => exact ⟨0, 0, by omega, rfl, rfl, by omega, by simp [Hid, cnt], Below.refl _ _⟩
  case round =>
    obtain ⟨k, m, hk, rfl, rfl, hmk, hcm, hbel⟩ := hrel
    by_cases hlt : k < n
    · have hks : k < rs.length := by rw [HL.out]; exact hlt
      have hs1 : rs[k]? = some rs[k] := List.getElem?_eq_getElem hks
      have h1 : wr.cell? ⟨b, o + k, none⟩ = some (.slice rs[k].p rs[k].zs.length rs[k].c) := cell_below hbel (hc k _ hs1)
      have HC : Hid (Calls Try.prog 18 #[.slice rs[k].p rs[k].zs.length rs[k].c, .slice s.p s.zs.length s.c] wr (Tells (decide (rs[k].zs = s.zs)) wr)) :=
        same_any rs[k] s wr ((hr.each _ (List.getElem_mem hks)).below hbel) (hs.below hbel)
      have HT : Hid (cnt ((conts rs).take (k + 1)) s.zs = cnt ((conts rs).take k) s.zs + if decide (rs[k].zs = s.zs) = true then 1 else 0) := by
        have h := cnt_take (conts rs) s.zs k (by rw [conts_len]; exact hks)
        rw [conts_at rs k hks] at h; exact h
      generalize rs[k] = r at HC h1 HT
      clear hc hs1 hr hs
      cases hd : decide (r.zs = s.zs)
      all_goals rw [hd] at HC HT
      · clear hd
        go_wp2_with (go_at_call 18; refine HC.out.mono ?_; rintro e w2 ⟨rfl, hb2⟩)
        go_roundw
        case rel => exact ⟨k + 1, m, by omega, by go_num, rfl, by omega, by show m = _; rw [HT.out, hcm.out]; simp, below_trans hbel hb2⟩
        case measure => simp only [intOf]; omega
      · clear hd
        go_wp2_with (go_at_call 18; refine HC.out.mono ?_; rintro e w2 ⟨rfl, hb2⟩)
        go_roundw
        case rel => exact ⟨k + 1, m + 1, by omega, by go_num, by go_num, by omega, by show m + 1 = _; rw [HT.out, hcm.out]; simp, below_trans hbel hb2⟩
        case measure => simp only [intOf]; omega
    · have hf : m = cnt (conts rs) s.zs := by rw [hcm.out, List.take_of_length_le (by rw [conts_len, HL.out]; omega)]
      have HF : Hid (m = cnt (conts rs) s.zs) := hf
      clear hf hc
      go_wp2
      go_ret
      exact ⟨by rw [← HF.out]; rfl, hbel⟩
theorem count_any (P : Option Addr) (C : Nat) (rs : List BS) (s : BS) (w : World) (hr : Outer w P rs) (hs : BS.Ok w s) (hm : rs.length ≤ 8192) :
    Calls Try.prog 17 #[.slice P rs.length C, .slice s.p s.zs.length s.c] w (Says (cnt (conts rs) s.zs) w) := by
  by_cases h0 : 0 < rs.length
  · obtain ⟨b, o, rfl, _⟩ := hr.cells h0
    exact count_pos b o C rs s w hr hs _ rfl hm h0
  · have e : rs = [] := List.eq_nil_of_length_eq_zero (by omega)
    subst e
    exact count_zero _ _ _ _ _ w
/-! ### bytes.Equal (32) in these words -/
theorem bytesOf_inj : ∀ (xs ys : List Int), (∀ z ∈ xs, 0 ≤ z ∧ z ≤ 255) → (∀ z ∈ ys, 0 ≤ z ∧ z ≤ 255) → Lib.bytesOf xs = Lib.bytesOf ys → xs = ys
  | [], [], _, _, _ => rfl
  | [], y :: ys, _, _, h => by simp [Lib.bytesOf] at h
  | x :: xs, [], _, _, h => by simp [Lib.bytesOf] at h
  | x :: xs, y :: ys, hx, hy, h => by
    have h' : UInt8.ofNat x.toNat = UInt8.ofNat y.toNat ∧ Lib.bytesOf xs = Lib.bytesOf ys := by simpa [Lib.bytesOf] using h
    have bx := hx x (by simp)
    have by' := hy y (by simp)
    have e : x = y := by
      have := congrArg UInt8.toNat h'.1
      simp at this
      omega
    rw [e, bytesOf_inj xs ys (fun z hz => hx z (by simp [hz])) (fun z hz => hy z (by simp [hz])) h'.2]
theorem bytesOf_eq (xs ys : List Int) (hx : ∀ z ∈ xs, 0 ≤ z ∧ z ≤ 255) (hy : ∀ z ∈ ys, 0 ≤ z ∧ z ≤ 255) : (Lib.bytesOf xs == Lib.bytesOf ys) = decide (xs = ys) := by
  rw [Bool.eq_iff_iff]
  simp only [beq_iff_eq, decide_eq_true_eq]
  exact ⟨bytesOf_inj xs ys hx hy, fun h => by rw [h]⟩
theorem equal_any (s t : BS) (w : World) (hs : BS.Ok w s) (ht : BS.Ok w t) :
    Calls Try.prog 32 #[.slice s.p s.zs.length s.c, .slice t.p t.zs.length t.c] w fun e w' => e = .returned (.bool (decide (s.zs = t.zs))) ∧ w' = w := by
  have h := Try.bytes_Equal_all s.p t.p s.zs.length s.c t.zs.length t.c s.zs t.zs w rfl rfl hs.cells ht.cells
  rw [bytesOf_eq _ _ hs.byte ht.byte] at h
  exact h
end Go.Proofs.Qxb6601234a.Base

import Derived.Test.Qxb6601234aRows
import Derived.Test.Qxb6601234aShelf
import Derived.WalkKit
import Derived.ProofKit
import Derived.WalkSpells
namespace Go.Proofs.Qxb6601234a.Base
open Go.ChangeShapes Go.WideShapes Go.ChangeAt Go.RowKit

/-- a slice of bytes as a value: its address, its spare, its bytes -/
structure BS where
  p : Option Addr
  c : Nat
  zs : List Int
def BS.val (s : BS) : Value := .slice s.p s.zs.length s.c
/-- it lies in memory -/
structure BS.Ok (w : World) (s : BS) : Prop where
  cells : Lib.BytesIn w s.p s.zs.length s.zs
  byte : ∀ z ∈ s.zs, 0 ≤ z ∧ z ≤ 255
  len : s.zs.length ≤ maxLen
/-- a slice of such slices -/
structure Outer (w : World) (P : Option Addr) (rs : List BS) : Prop where
  each : ∀ s ∈ rs, BS.Ok w s
  cells : 0 < rs.length → ∃ b o, P = some ⟨b, o, none⟩ ∧ ∀ i s, rs[i]? = some s → w.cell? ⟨b, o + i, none⟩ = some s.val
theorem cell_lt {w : World} {b o : Nat} {v : Value} (h : w.cell? ⟨b, o, none⟩ = some v) : b < w.heap.size := by
  rcases Nat.lt_or_ge b w.heap.size with h' | h'
  · exact h'
  · simp [World.cell?, Array.getElem?_eq_none h'] at h
theorem cell_below {w w' : World} (hb : Below w.heap.size w w') {b o : Nat} {v : Value} (h : w.cell? ⟨b, o, none⟩ = some v) : w'.cell? ⟨b, o, none⟩ = some v :=
  (hb.cell (p := ⟨b, o, none⟩) (cell_lt h)).trans h
theorem BS.Ok.below {w w' : World} {s : BS} (h : BS.Ok w s) (hb : Below w.heap.size w w') : BS.Ok w' s :=
  ⟨fun hn => by obtain ⟨b, o, e, hc⟩ := h.cells hn; exact ⟨b, o, e, fun i hi => cell_below hb (hc i hi)⟩, h.byte, h.len⟩
theorem Outer.below {w w' : World} {P : Option Addr} {rs : List BS} (h : Outer w P rs) (hb : Below w.heap.size w w') : Outer w' P rs :=
  ⟨fun s hs => (h.each s hs).below hb, fun hn => by obtain ⟨b, o, e, hc⟩ := h.cells hn; exact ⟨b, o, e, fun i s hs => cell_below hb (hc i s hs)⟩⟩
theorem below_trans {w w1 w2 : World} (h1 : Below w.heap.size w w1) (h2 : Below w1.heap.size w1 w2) : Below w.heap.size w w2 :=
  h1.trans (h2.mono h1.size)
/-- it answers some bool, and nothing turns -/
def SomeBool (w : World) (e : Ending) (w' : World) : Prop := ∃ b : Bool, e = .returned (.bool b) ∧ w' = w

theorem zzBytes13_pos (b o C : Nat) (rs : List BS) (w : World) (hr : Outer w (some ⟨b, o, none⟩) rs) (n : Nat) (hn : rs.length = n) (hm : n ≤ maxLen) (h0 : 0 < n) :
    Calls Try.prog 13 #[.slice (some ⟨b, o, none⟩) n C] w (SomeBool w) := by
  unfold maxLen at hm
  obtain ⟨b', o', e, hc⟩ := hr.cells (by omega)
  cases e
  have hlen := fun s hs => (hr.each s hs).len
  by_cases hb : n ≤ 1048576
  · go_enter Try.func13, Try.ntmps13
    go_wp2
    go_loop [3, 4] (fun z i => ∃ k y : Nat, k ≤ n ∧ y ≤ 1048576 ∧ z = .int .i64 y ∧ i = .int .i64 k) (fun _ i => n - (intOf i).toNat)
    case atStart => exact ⟨0, n, by omega, by omega, rfl, rfl⟩
    case round =>
      obtain ⟨k, y, hk, hy, rfl, rfl⟩ := hrel
      by_cases hlt : k < n
      · have hs : rs[k]? = some rs[k] := List.getElem?_eq_getElem (by omega)
        have h1 := hc k _ hs
        have h2 := hlen rs[k] (List.getElem_mem _)
        unfold maxLen at h2
        unfold BS.val at h1
        generalize rs[k].zs.length = m at h1 h2
        generalize rs[k].p = p at h1
        generalize rs[k].c = c at h1
        clear hc hs hlen
        go_wp2
        · go_ret
          exact ⟨false, rfl, rfl⟩
        · go_ret
          exact ⟨false, rfl, rfl⟩
        · go_round
          case rel => exact ⟨k + 1, y + m, by omega, by omega, by go_num, by go_num⟩
          case measure => simp only [intOf]; omega
      · go_wp2
        go_ret
        exact ⟨true, rfl, rfl⟩
  · go_enter Try.func13, Try.ntmps13
    go_wp2
    go_ret
    exact ⟨false, rfl, rfl⟩
theorem zzBytes13_zero (P : Option Addr) (C : Nat) (w : World) : Calls Try.prog 13 #[.slice P 0 C] w (SomeBool w) := by
  go_enter Try.func13, Try.ntmps13
  go_wp2
  refine wp_loop_rounds 1 ?_
  rw [rounds_succ]
  go_wp2
  go_ret
  exact ⟨true, rfl, rfl⟩
theorem zzBytes13_any (P : Option Addr) (C : Nat) (rs : List BS) (w : World) (hr : Outer w P rs) (hm : rs.length ≤ maxLen) :
    Calls Try.prog 13 #[.slice P rs.length C] w (SomeBool w) := by
  by_cases h0 : 0 < rs.length
  · obtain ⟨b, o, rfl, _⟩ := hr.cells h0
    exact zzBytes13_pos b o C rs w hr _ rfl hm h0
  · rw [show rs.length = 0 from by omega]
    exact zzBytes13_zero P C w
theorem zzBytes19_pos (b o C : Nat) (rs : List BS) (w : World) (hr : Outer w (some ⟨b, o, none⟩) rs) (n : Nat) (hn : rs.length = n) (hm : n ≤ maxLen) (h0 : 0 < n) :
    Calls Try.prog 19 #[.slice (some ⟨b, o, none⟩) n C] w (SomeBool w) := by
  unfold maxLen at hm
  obtain ⟨b', o', e, hc⟩ := hr.cells (by omega)
  cases e
  have hlen := fun s hs => (hr.each s hs).len
  by_cases hb : n ≤ 1048576
  · go_enter Try.func19, Try.ntmps19
    go_wp2
    go_loop [3, 4] (fun z i => ∃ k y : Nat, k ≤ n ∧ y ≤ 1048576 ∧ z = .int .i64 y ∧ i = .int .i64 k) (fun _ i => n - (intOf i).toNat)
    case atStart => exact ⟨0, n, by omega, by omega, rfl, rfl⟩
    case round =>
      obtain ⟨k, y, hk, hy, rfl, rfl⟩ := hrel
      by_cases hlt : k < n
      · have hs : rs[k]? = some rs[k] := List.getElem?_eq_getElem (by omega)
        have h1 := hc k _ hs
        have h2 := hlen rs[k] (List.getElem_mem _)
        unfold maxLen at h2
        unfold BS.val at h1
        generalize rs[k].zs.length = m at h1 h2
        generalize rs[k].p = p at h1
        generalize rs[k].c = c at h1
        clear hc hs hlen
        go_wp2
        · go_ret
          exact ⟨false, rfl, rfl⟩
        · go_ret
          exact ⟨false, rfl, rfl⟩
        · go_round
          case rel => exact ⟨k + 1, y + m, by omega, by omega, by go_num, by go_num⟩
          case measure => simp only [intOf]; omega
      · go_wp2
        go_ret
        exact ⟨true, rfl, rfl⟩
  · go_enter Try.func19, Try.ntmps19
    go_wp2
    go_ret
    exact ⟨false, rfl, rfl⟩
theorem zzBytes19_zero (P : Option Addr) (C : Nat) (w : World) : Calls Try.prog 19 #[.slice P 0 C] w (SomeBool w) := by
  go_enter Try.func19, Try.ntmps19
  go_wp2
  refine wp_loop_rounds 1 ?_
  rw [rounds_succ]
  go_wp2
  go_ret
  exact ⟨true, rfl, rfl⟩
theorem zzBytes19_any (P : Option Addr) (C : Nat) (rs : List BS) (w : World) (hr : Outer w P rs) (hm : rs.length ≤ maxLen) :
    Calls Try.prog 19 #[.slice P rs.length C] w (SomeBool w) := by
  by_cases h0 : 0 < rs.length
  · obtain ⟨b, o, rfl, _⟩ := hr.cells h0
    exact zzBytes19_pos b o C rs w hr _ rfl hm h0
  · rw [show rs.length = 0 from by omega]
    exact zzBytes19_zero P C w
theorem zzBytes20_pos (b o C : Nat) (rs : List BS) (w : World) (hr : Outer w (some ⟨b, o, none⟩) rs) (n : Nat) (hn : rs.length = n) (hm : n ≤ maxLen) (h0 : 0 < n) :
    Calls Try.prog 20 #[.slice (some ⟨b, o, none⟩) n C] w (SomeBool w) := by
  unfold maxLen at hm
  obtain ⟨b', o', e, hc⟩ := hr.cells (by omega)
  cases e
  have hlen := fun s hs => (hr.each s hs).len
  by_cases hb : n ≤ 1048576
  · go_enter Try.func20, Try.ntmps20
    go_wp2
    go_loop [3, 4] (fun z i => ∃ k y : Nat, k ≤ n ∧ y ≤ 1048576 ∧ z = .int .i64 y ∧ i = .int .i64 k) (fun _ i => n - (intOf i).toNat)
    case atStart => exact ⟨0, n, by omega, by omega, rfl, rfl⟩
    case round =>
      obtain ⟨k, y, hk, hy, rfl, rfl⟩ := hrel
      by_cases hlt : k < n
      · have hs : rs[k]? = some rs[k] := List.getElem?_eq_getElem (by omega)
        have h1 := hc k _ hs
        have h2 := hlen rs[k] (List.getElem_mem _)
        unfold maxLen at h2
        unfold BS.val at h1
        generalize rs[k].zs.length = m at h1 h2
        generalize rs[k].p = p at h1
        generalize rs[k].c = c at h1
        clear hc hs hlen
        go_wp2
        · go_ret
          exact ⟨false, rfl, rfl⟩
        · go_ret
          exact ⟨false, rfl, rfl⟩
        · go_round
          case rel => exact ⟨k + 1, y + m, by omega, by omega, by go_num, by go_num⟩
          case measure => simp only [intOf]; omega
      · go_wp2
        go_ret
        exact ⟨true, rfl, rfl⟩
  · go_enter Try.func20, Try.ntmps20
    go_wp2
    go_ret
    exact ⟨false, rfl, rfl⟩
theorem zzBytes20_zero (P : Option Addr) (C : Nat) (w : World) : Calls Try.prog 20 #[.slice P 0 C] w (SomeBool w) := by
  go_enter Try.func20, Try.ntmps20
  go_wp2
  refine wp_loop_rounds 1 ?_
  rw [rounds_succ]
  go_wp2
  go_ret
  exact ⟨true, rfl, rfl⟩
theorem zzBytes20_any (P : Option Addr) (C : Nat) (rs : List BS) (w : World) (hr : Outer w P rs) (hm : rs.length ≤ maxLen) :
    Calls Try.prog 20 #[.slice P rs.length C] w (SomeBool w) := by
  by_cases h0 : 0 < rs.length
  · obtain ⟨b, o, rfl, _⟩ := hr.cells h0
    exact zzBytes20_pos b o C rs w hr _ rfl hm h0
  · rw [show rs.length = 0 from by omega]
    exact zzBytes20_zero P C w
/-! ### zzResultsTooBig (14) -/
def TB (rs : List BS) (w : World) (e : Ending) (w' : World) : Prop :=
  w' = w ∧ (e = .returned (.bool true) ∨ (e = .returned (.bool false) ∧ rs.length ≤ 4096 ∧ ∀ s ∈ rs, s.zs.length ≤ 65536))
theorem tooBig_pos (b o C : Nat) (rs : List BS) (w : World) (hr : Outer w (some ⟨b, o, none⟩) rs) (n : Nat) (hn : rs.length = n) (hm : n ≤ maxLen) (h0 : 0 < n) :
    Calls Try.prog 14 #[.slice (some ⟨b, o, none⟩) n C] w (TB rs w) := by
  unfold maxLen at hm
  obtain ⟨b', o', e, hc⟩ := hr.cells (by omega)
  cases e
  have hlen := fun s hs => (hr.each s hs).len
  by_cases hb : n ≤ 4096
  · have HN : Hid (rs.length = n) := hn
    go_enter Try.func14, Try.ntmps14
    go_wp2
    go_loop [3, 4] (fun z i => ∃ k y : Nat, k ≤ n ∧ y ≤ 65536 ∧ z = .int .i64 y ∧ i = .int .i64 k ∧ Hid (∀ i s, i < k → rs[i]? = some s → s.zs.length ≤ 65536)) (fun _ i => n - (intOf i).toNat)
    case atStart => exact ⟨0, 0, by omega, by omega, rfl, rfl, fun i s h => by omega⟩
    case round =>
      obtain ⟨k, y, hk, hy, rfl, rfl, hall⟩ := hrel
      by_cases hlt : k < n
      · have hs : rs[k]? = some rs[k] := List.getElem?_eq_getElem (by omega)
        have h1 := hc k _ hs
        have h2 := hlen rs[k] (List.getElem_mem _)
        have HM : Hid (∀ m, m = rs[k].zs.length → m ≤ 65536 → ∀ i s, i < k + 1 → rs[i]? = some s → s.zs.length ≤ 65536) := by
          intro m hm1 hm2 i s hi hs'
          by_cases e : i = k
          · subst e; rw [hs] at hs'; cases hs'; omega
          · exact hall.out i s (by omega) hs'
        unfold maxLen at h2
        unfold BS.val at h1
        generalize hmm : rs[k].zs.length = m at h1 h2 HM
        generalize rs[k].p = p at h1
        generalize rs[k].c = c at h1
        have HM2 := HM.out m rfl
        have HM3 : Hid (m ≤ 65536 → ∀ i s, i < k + 1 → rs[i]? = some s → s.zs.length ≤ 65536) := HM2
        clear hc hs hlen HM HM2 hmm
        go_wp2
        · go_ret
          exact ⟨rfl, Or.inl rfl⟩
        · go_ret
          exact ⟨rfl, Or.inl rfl⟩
        · go_round
          case rel => exact ⟨k + 1, y + m, by omega, by omega, by go_num, by go_num, HM3.out (by omega)⟩
          case measure => simp only [intOf]; omega
      · have hfin : ∀ s ∈ rs, s.zs.length ≤ 65536 := by
          intro s hs
          obtain ⟨i, hi, e⟩ := List.getElem_of_mem hs
          exact hall.out i s (by omega) (by rw [List.getElem?_eq_getElem hi, e])
        have HF : Hid (∀ s ∈ rs, s.zs.length ≤ 65536) := hfin
        clear hfin hc hlen
        go_wp2
        go_ret
        exact ⟨rfl, Or.inr ⟨rfl, by omega, HF.out⟩⟩
  · go_enter Try.func14, Try.ntmps14
    go_wp2
    go_ret
    exact ⟨rfl, Or.inl rfl⟩
theorem tooBig_any (P : Option Addr) (C : Nat) (rs : List BS) (w : World) (hr : Outer w P rs) (hm : rs.length ≤ maxLen) :
    Calls Try.prog 14 #[.slice P rs.length C] w (TB rs w) := by
  by_cases h0 : 0 < rs.length
  · obtain ⟨b, o, rfl, _⟩ := hr.cells h0
    exact tooBig_pos b o C rs w hr _ rfl hm h0
  · have e : rs = [] := List.eq_nil_of_length_eq_zero (by omega)
    subst e
    go_enter Try.func14, Try.ntmps14
    go_wp2
    refine wp_loop_rounds 1 ?_
    rw [rounds_succ]
    go_wp2
    go_ret
    exact ⟨rfl, Or.inr ⟨rfl, by simp, by simp⟩⟩
end Go.Proofs.Qxb6601234a.Base

import Derived.Test.Qxb6601234aBase
import Derived.OpenShut
import Derived.Deep.Matrix
namespace Go.Proofs.Qxb6601234a.Base
open Go.ChangeShapes Go.WideShapes Go.ChangeAt Go.RowKit
theorem cells5 : Try.prog.cellsOf 5 = 1 := by kernel_rfl
theorem cells23 : Try.prog.cellsOf 23 = 1 := by kernel_rfl
/-- a [][]byte that came in, in the walks' words -/
theorem open_results {H : Type} {enc : TypeId × Value → H} {W : World} {base fuel len cap : Nat} {held : Bool} {a : Option Addr} {x : DataW H × List MemPlace}
    (h : DataW.trod enc Try.prog W base (fun _ => true) held fuel 27 [.slice a len cap] = some x) : ∃ rs : List BS, rs.length = len ∧ Outer W a rs ∧ len ≤ maxLen := by
  rcases Go.Deep.open_int_rows Try.underlying27 Try.underlying23 Try.underlying5 cells23 cells5 h with ⟨hcs, _⟩ | ⟨ad, l, c, A, L, C, Z, hcs, _, hl, hm, _, hx⟩
  · simp at hcs
    obtain ⟨rfl, rfl, rfl⟩ := hcs
    exact ⟨[], rfl, ⟨by simp, by simp⟩, Nat.zero_le _⟩
  · simp at hcs
    obtain ⟨rfl, rfl, rfl⟩ := hcs
    have hlen : ∀ r, r < cap → ((Z r).take (L r)).length = L r := by
      intro r hr
      obtain ⟨_, h1, _, h2, _⟩ := hx r hr
      simp; omega
    refine ⟨(List.range len).map fun r => ⟨A r, C r, (Z r).take (L r)⟩, by simp, ⟨fun s hs => ?_, fun hn => ?_⟩, by omega⟩
    · obtain ⟨r, hr, rfl⟩ := List.mem_map.1 hs
      have hr' : r < cap := by have := List.mem_range.1 hr; omega
      obtain ⟨_, h1, h2, h3, h4, h5, h6⟩ := hx r hr'
      refine ⟨fun hn => ?_, fun z hz => bounds_u8 (h4 z (List.mem_of_mem_take hz)), ?_⟩
      · simp only [hlen r hr'] at hn
        cases hA : A r with
        | none => have := h5 hA; omega
        | some a' =>
          have hc := (h6 a' hA).2
          simp only [hlen r hr']
          refine Lib.BytesIn.of_cells (fun i hi => ?_) hn
          rw [hc i (by omega), List.getD_eq_getElem?_getD, List.getD_eq_getElem?_getD, List.getElem?_take, if_pos hi]
      · simp only [hlen r hr']; omega
    · simp at hn
      have h0 := (hx 0 (by omega)).1
      obtain ⟨b, o, sp⟩ := ad
      obtain rfl : sp = none := by simpa [Addr.add] using World.cell?_spot h0
      refine ⟨b, o, rfl, fun i s hs => ?_⟩
      obtain ⟨hi, e⟩ := List.getElem?_eq_some_iff.1 hs
      simp at hi e
      subst e
      have h1 := (hx i (by omega)).1
      rw [add_plain] at h1
      rw [h1]
      unfold BS.val
      simp only [hlen i (by omega)]
end Go.Proofs.Qxb6601234a.Base

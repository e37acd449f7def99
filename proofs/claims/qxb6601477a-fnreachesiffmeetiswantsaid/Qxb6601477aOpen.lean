import Derived.Test.Qxb6601477aReach
import Derived.OpenShut
import Derived.Deep.Slices
namespace Go.Proofs.Qxb6601477a.Reach
open Go.ChangeShapes Go.WideShapes Go.ChangeAt Go.RowKit
theorem cells28 : Try.prog.cellsOf 28 = 16 := by kernel_rfl
theorem cells5 : Try.prog.cellsOf 5 = 1 := by kernel_rfl
/-- a [16]uint8 that came in, in the walks' words -/
theorem open_row {H : Type} {enc : TypeId × Value → H} {W : World} {r : Reach} {b0 base : Nat} {spare : Nat → Bool} {held : Bool} {v : Value} {d : DataW H} {p : List MemPlace}
    (hv : Value.okWide Try.prog W r b0 28 v) (h : DataW.Trod enc Try.prog W base spare held 28 v d p) : ∃ zs : List Int, zs.length = 16 ∧ v = .agg (row zs) := by
  simp only [Value.okWide, Try.underlying28] at hv
  obtain ⟨cs, rfl, hsz, _⟩ := hv
  rw [cells28] at hsz
  obtain ⟨fuel, hf⟩ := h
  obtain ⟨xs, m, _, _, _, hxl, hx⟩ := DataW.trod_array Try.underlying28 hf
  have each : ∀ i, i < 16 → ∃ n : Int, cs[i]? = some (.int .u8 n) := by
    intro i hi
    have h1 := hx i hi
    rw [cells5, Nat.mul_one, List.getElem?_eq_getElem (by omega)] at h1
    obtain ⟨n, hn, _⟩ := DataW.trod_int Try.underlying5 h1
    refine ⟨n, ?_⟩
    have h2 : ((cs.toList.drop i).take 1)[0]? = some (.int .u8 n) := by
      have : (Value.agg cs).cells.toList = cs.toList := rfl
      rw [← this, hn]; rfl
    simpa using h2
  obtain ⟨f, hf'⟩ := Go.Deep.choose_lt each
  refine ⟨(List.range 16).map f, by simp, ?_⟩
  congr 1
  apply Array.ext_getElem?
  intro i
  by_cases hi : i < 16
  · rw [hf' i hi]; simp [row, hi]
  · rw [Array.getElem?_eq_none (by omega), Array.getElem?_eq_none (by simp [row]; omega)]
end Go.Proofs.Qxb6601477a.Reach

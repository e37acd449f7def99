import Derived.Test.Qxb6600332aRows
import Derived.Test.Qxb6600332aShelf
import Derived.WalkKit
import Derived.ProofKit
import Derived.WalkSpells
import Derived.Deep.RegionWith
import Derived.Deep.Cut
namespace Go.Proofs.Qxb6600332a.Circ
open Go.ChangeShapes Go.WideShapes Go.ChangeAt Go.RowKit

def sWhere : ByteArray := { data := #[119, 104, 101, 114, 101] }
def sWhen : ByteArray := { data := #[119, 104, 101, 110] }
def sHow : ByteArray := { data := #[104, 111, 119] }
def L (b0 b1 b2 : Bool) : Nat → List ByteArray
  | 0 => []
  | 1 => if b0 then [sWhere] else []
  | 2 => (if b0 then [sWhere] else []) ++ (if b1 then [sWhen] else [])
  | _ => (if b0 then [sWhere] else []) ++ (if b1 then [sWhen] else []) ++ (if b2 then [sHow] else [])
theorem L_le (b0 b1 b2 : Bool) (k : Nat) : (L b0 b1 b2 k).length ≤ 3 := by
  match k with
  | 0 => simp [L]
  | 1 => cases b0 <;> simp [L]
  | 2 => cases b0 <;> cases b1 <;> simp [L]
  | k + 3 => cases b0 <;> cases b1 <;> cases b2 <;> simp [L]
theorem info9 : (Try.prog.info? 9).map (fun i => (i.zero, i.size, i.bytes)) = some (some (.string { data := #[] }), 1, 16) := by kernel_rfl
theorem own_ge {w : World} {B e s : Nat} {v : Value} {n : Nat} {xs : List Value} (h : w.ownsRow B e s v n xs) : ∀ k, v.ownBlock = some k → B ≤ k := by
  intro k hk
  rcases h.2 with ⟨rfl, _⟩ | ⟨g, cap, cur, rfl, hg, _⟩
  · simp [Value.ownBlock] at hk
  · simp [Value.ownBlock] at hk; omega
theorem below_push {B e s : Nat} {W wr w1 : World} {v : Value} {n : Nat} {xs : List Value} {o : Obj} (hown : wr.ownsRow B e s v n xs) (hbel : Below B W wr) (hB : B ≤ W.heap.size) (hg : (wr.alloc o).grownBy w1 v.ownBlock) : Below B W w1 := by
  have h1 := hbel.size
  exact (hbel.alloc (by omega) o).grown hg (by simp; omega) (own_ge hown)
/-- behind one append: the words gathered are one more -/
theorem push_rel {B e : Nat} {w1 : World} {v' : Value} {X Y : List ByteArray} {x : ByteArray} (h : w1.ownsRow B e 1 v' (X.length + 1) (X.map Value.string ++ [.string x])) (hY : Y = X ++ [x]) : w1.ownsRow B e 1 v' Y.length (Y.map Value.string) := by
  subst hY; simpa using h

theorem own_zero {w : World} {B e : Nat} {v : Value} {xs : List Value} (h : w.ownsRow B e 1 v 0 xs) : ∃ a c, v = .slice a 0 c := by
  rcases h.2 with ⟨rfl, _⟩ | ⟨g, cap, cur, rfl, hg, _⟩
  · exact ⟨_, _, rfl⟩
  · exact ⟨_, _, rfl⟩
theorem own_some {w : World} {B e n : Nat} {v : Value} {xs : List Value} (h : w.ownsRow B e 1 v n xs) (hn : 0 < n) : ∃ g cap, v = .slice (some ⟨g, 0, none⟩) n cap ∧ n ≤ cap ∧ g < w.heap.size ∧ ∀ j x, xs[j]? = some x → w.cell? ⟨g, j, none⟩ = some x := by
  rcases h.2 with ⟨rfl, h0⟩ | ⟨g, cap, cur, rfl, hg, hb, hc, _, hs, ht⟩
  · omega
  · refine ⟨g, cap, rfl, hc, ?_, fun j x hx => ?_⟩
    · exact (Array.getElem?_eq_some_iff.1 hb).1
    · have hl : xs.length = n := by have := h.1; omega
      have hj : j < n := by have := (List.getElem?_eq_some_iff.1 hx).1; omega
      rw [h.cellAt j (by omega), hx]
theorem ret_str {a b : ByteArray} (h : a = b) : Ending.returned (.string a) = .returned (.string b) := by rw [h]
theorem one_cell {wr : World} {g : Nat} {a : ByteArray} (h : wr.cell? ⟨g, 0, none⟩ = some (.string a)) : ∀ (j : Nat) x, [a][j]? = some x → wr.drew.cell? ⟨g, 0 + j, none⟩ = some (.string x) := by
  intro j x hx
  match j, hx with
  | 0, hx => simp at hx; subst hx; exact h
theorem two_cell {wr : World} {g : Nat} {a b : ByteArray} (h : wr.cell? ⟨g, 0, none⟩ = some (.string a)) (h' : wr.cell? ⟨g, 1, none⟩ = some (.string b)) : ∀ (j : Nat) x, [a, b][j]? = some x → wr.drew.cell? ⟨g, 0 + j, none⟩ = some (.string x) := by
  intro j x hx
  match j, hx with
  | 0, hx => simp at hx; subst hx; exact h
  | 1, hx => simp at hx; subst hx; exact h'
def txt (b0 b1 b2 : Bool) : ByteArray := match b0, b1, b2 with
  | false, false, false => { data := #[] }
  | true, false, false => { data := #[100, 101, 112, 101, 110, 100, 115, 32, 111, 110, 32, 119, 104, 101, 114, 101, 32, 105, 116, 32, 99, 111, 110, 110, 101, 99, 116, 115] }
  | false, true, false => { data := #[100, 101, 112, 101, 110, 100, 115, 32, 111, 110, 32, 119, 104, 101, 110, 32, 105, 116, 32, 99, 111, 110, 110, 101, 99, 116, 115] }
  | true, true, false => { data := #[100, 101, 112, 101, 110, 100, 115, 32, 111, 110, 32, 119, 104, 101, 114, 101, 32, 97, 110, 100, 32, 119, 104, 101, 110, 32, 105, 116, 32, 99, 111, 110, 110, 101, 99, 116, 115] }
  | false, false, true => { data := #[100, 101, 112, 101, 110, 100, 115, 32, 111, 110, 32, 104, 111, 119, 32, 105, 116, 32, 99, 111, 110, 110, 101, 99, 116, 115] }
  | true, false, true => { data := #[100, 101, 112, 101, 110, 100, 115, 32, 111, 110, 32, 119, 104, 101, 114, 101, 32, 97, 110, 100, 32, 104, 111, 119, 32, 105, 116, 32, 99, 111, 110, 110, 101, 99, 116, 115] }
  | false, true, true => { data := #[100, 101, 112, 101, 110, 100, 115, 32, 111, 110, 32, 119, 104, 101, 110, 32, 97, 110, 100, 32, 104, 111, 119, 32, 105, 116, 32, 99, 111, 110, 110, 101, 99, 116, 115] }
  | true, true, true => { data := #[100, 101, 112, 101, 110, 100, 115, 32, 111, 110, 32, 119, 104, 101, 114, 101, 44, 32, 119, 104, 101, 110, 32, 97, 110, 100, 32, 104, 111, 119, 32, 105, 116, 32, 99, 111, 110, 110, 101, 99, 116, 115] }
set_option maxHeartbeats 2000000 in
theorem string_any (c : Int) (b0 b1 b2 : Bool) (h0 : (bits BinOp.and IntKind.u8 c 1 != 0) = b0) (h1 : (bits BinOp.and IntKind.u8 c 2 != 0) = b1) (h2 : (bits BinOp.and IntKind.u8 c 4 != 0) = b2) (w : World) :
    Calls Try.prog 17 #[.int .u8 c] w fun e w' => e = .returned (.string (txt b0 b1 b2)) ∧ Below w.heap.size w w' := by
  obtain ⟨i0, hi, hz0, hz1, hz2⟩ := info_parts info9
  go_enter Try.func17, Try.ntmps17
  go_wp2
  obtain ⟨W, hW⟩ : ∃ W, W = w.alloc (.cells #[.string sWhere, .string sWhen, .string sHow] 9) := ⟨_, rfl⟩
  have HW : Hid (W = w.alloc (.cells #[.string sWhere, .string sWhen, .string sHow] 9)) := hW
  have hWs : W.heap.size = w.heap.size + 1 := by rw [hW]; simp
  have hW0 : W.cell? ⟨w.heap.size, 0, none⟩ = some (.string sWhere) := by rw [hW]; simp
  have hW1 : W.cell? ⟨w.heap.size, 1, none⟩ = some (.string sWhen) := by rw [hW]; simp
  have hW2 : W.cell? ⟨w.heap.size, 2, none⟩ = some (.string sHow) := by rw [hW]; simp
  have HS : Hid (W.heap.size = w.heap.size + 1) := hWs
  clear hW hWs
  go_loopw [3, 10] (fun v i wr => ∃ k : Nat, k ≤ 3 ∧ i = .int .i64 k ∧ wr.ownsRow (w.heap.size + 1) 9 1 v (L b0 b1 b2 k).length ((L b0 b1 b2 k).map Value.string) ∧ Below (w.heap.size + 1) W wr)
    (fun _ i _ => 3 - (intOf i).toNat)
  case atStart => exact ⟨0, by omega, rfl, World.ownsRow_nil _ _ _ _, by rw [HW.out]; exact Below.refl _ _⟩
  case round =>
    obtain ⟨k, hk, rfl, hown, hbel⟩ := hrel
    have hc0 : wr.cell? ⟨w.heap.size, 0, none⟩ = some (.string sWhere) := (hbel.cell (by simp)).trans hW0
    have hc1 : wr.cell? ⟨w.heap.size, 1, none⟩ = some (.string sWhen) := (hbel.cell (by simp)).trans hW1
    have hc2 : wr.cell? ⟨w.heap.size, 2, none⟩ = some (.string sHow) := (hbel.cell (by simp)).trans hW2
    have hsz : w.heap.size + 1 ≤ wr.heap.size := by have := hbel.size; rw [HS.out] at this; exact this
    have hB : w.heap.size + 1 ≤ W.heap.size := by rw [HS.out]; omega
    have hLl := L_le b0 b1 b2 k
    clear hW0 hW1 hW2
    match k, hk with
    | 0, _ =>
      cases b0
      · go_wp2
        go_roundw
        case rel => exact ⟨1, by omega, rfl, by simpa [L] using hown, hbel⟩
        case measure => simp [intOf]
      · go_wp2_with (at_builtin; refine wpList_append_own _ rfl _ _ 32 rfl (w.heap.size + 1) 9 i0 (.string { data := #[] }) 1 16 Try.underlying32 hi hz0 hz1 hz2 rfl (by decide) _ _ _ rfl (hown.alloc _) ⟨wr.heap.size, 0, none⟩ 1 1 [.string sWhere] rfl rfl (cell_one_new _ _ _) (by intro u hu; simp at hu; subst hu; rfl) (by unfold maxLen; omega) (by omega) (by simp; omega) ?_)
        intro v' w1 hown' hgrow _
        have R := below_push hown hbel hB hgrow
        have R2 := push_rel (Y := L true b1 b2 1) hown' (by simp [L])
        clear hown' hgrow hown hbel hc0 hc1 hc2
        go_wp2
        go_roundw
        case rel => exact ⟨1, by omega, rfl, R2, R⟩
        case measure => simp [intOf]
    | 1, _ =>
      cases b1
      · go_wp2
        go_roundw
        case rel => exact ⟨2, by omega, rfl, by simpa [L] using hown, hbel⟩
        case measure => simp [intOf]
      · go_wp2_with (at_builtin; refine wpList_append_own _ rfl _ _ 32 rfl (w.heap.size + 1) 9 i0 (.string { data := #[] }) 1 16 Try.underlying32 hi hz0 hz1 hz2 rfl (by decide) _ _ _ rfl (hown.alloc _) ⟨wr.heap.size, 0, none⟩ 1 1 [.string sWhen] rfl rfl (cell_one_new _ _ _) (by intro u hu; simp at hu; subst hu; rfl) (by unfold maxLen; omega) (by omega) (by simp; omega) ?_)
        intro v' w1 hown' hgrow _
        have R := below_push hown hbel hB hgrow
        have R2 := push_rel (Y := L b0 true b2 2) hown' (by simp [L])
        clear hown' hgrow hown hbel hc0 hc1 hc2
        go_wp2
        go_roundw
        case rel => exact ⟨2, by omega, rfl, R2, R⟩
        case measure => simp [intOf]
    | 2, _ =>
      cases b2
      · go_wp2
        go_roundw
        case rel => exact ⟨3, by omega, rfl, by simpa [L] using hown, hbel⟩
        case measure => simp [intOf]
      · go_wp2_with (at_builtin; refine wpList_append_own _ rfl _ _ 32 rfl (w.heap.size + 1) 9 i0 (.string { data := #[] }) 1 16 Try.underlying32 hi hz0 hz1 hz2 rfl (by decide) _ _ _ rfl (hown.alloc _) ⟨wr.heap.size, 0, none⟩ 1 1 [.string sHow] rfl rfl (cell_one_new _ _ _) (by intro u hu; simp at hu; subst hu; rfl) (by unfold maxLen; omega) (by omega) (by simp; omega) ?_)
        intro v' w1 hown' hgrow _
        have R := below_push hown hbel hB hgrow
        have R2 := push_rel (Y := L b0 b1 true 3) hown' (by simp [L])
        clear hown' hgrow hown hbel hc0 hc1 hc2
        go_wp2
        go_roundw
        case rel => exact ⟨3, by omega, rfl, R2, R⟩
        case measure => simp [intOf]
    | 3, _ =>
      have hbel' : Below w.heap.size w wr := ((Below.refl _ _).alloc (Nat.le_refl _) _).trans (HW.out ▸ hbel.mono (by omega))
      clear hbel hc0 hc1 hc2
      cases b0 <;> cases b1 <;> cases b2
      · obtain ⟨v, cap, e⟩ := own_zero hown
        subst e
        go_wp2
        go_ret
        exact ⟨rfl, hbel'⟩
      · obtain ⟨g, cap, hv, hcap, hg, hc⟩ := own_some hown (by decide)
        have c0 : wr.cell? ⟨g, 0, none⟩ = some (.string sHow) := hc 0 _ rfl
        clear hown hc
        subst hv
        go_wp2
        go_ret
        exact ⟨rfl, hbel'⟩
      · obtain ⟨g, cap, hv, hcap, hg, hc⟩ := own_some hown (by decide)
        have c0 : wr.cell? ⟨g, 0, none⟩ = some (.string sWhen) := hc 0 _ rfl
        clear hown hc
        subst hv
        go_wp2
        go_ret
        exact ⟨rfl, hbel'⟩
      · have hown2 : wr.ownsRow (w.heap.size + 1) 9 1 u3 2 [.string sWhen, .string sHow] := hown
        obtain ⟨g, cap, hv, hcap, hg, hc⟩ := own_some hown2 (by decide)
        have c0 : wr.cell? ⟨g, 0, none⟩ = some (.string sWhen) := hc 0 _ rfl
        have c1 : wr.cell? ⟨g, 1, none⟩ = some (.string sHow) := hc 1 _ rfl
        have HJ : Hid (∀ (j : Nat) x, [sWhen][j]? = some x → wr.drew.cell? ⟨g, 0 + j, none⟩ = some (.string x)) := one_cell c0
        clear hown hown2 hc
        subst hv
        go_wp2_with fail
        go_region_with (go_at_call 22; refine (Try.strings_Join g 0 cap [sWhen] _ _ HJ.out hg (by simp) (by simp; omega) (by decide +kernel)).mono ?_; rintro e w' ⟨rfl, hj⟩; have c1' : w'.cell? ⟨g, 1, none⟩ = some (.string sHow) := (hj.cell hg).trans c1)
        all_goals
          go_wp2
          go_ret
          exact ⟨ret_str (by decide +kernel), hbel'.drew.trans (hj.mono (by show w.heap.size ≤ wr.heap.size; omega))⟩
      · obtain ⟨g, cap, hv, hcap, hg, hc⟩ := own_some hown (by decide)
        have c0 : wr.cell? ⟨g, 0, none⟩ = some (.string sWhere) := hc 0 _ rfl
        clear hown hc
        subst hv
        go_wp2
        go_ret
        exact ⟨rfl, hbel'⟩
      · have hown2 : wr.ownsRow (w.heap.size + 1) 9 1 u3 2 [.string sWhere, .string sHow] := hown
        obtain ⟨g, cap, hv, hcap, hg, hc⟩ := own_some hown2 (by decide)
        have c0 : wr.cell? ⟨g, 0, none⟩ = some (.string sWhere) := hc 0 _ rfl
        have c1 : wr.cell? ⟨g, 1, none⟩ = some (.string sHow) := hc 1 _ rfl
        have HJ : Hid (∀ (j : Nat) x, [sWhere][j]? = some x → wr.drew.cell? ⟨g, 0 + j, none⟩ = some (.string x)) := one_cell c0
        clear hown hown2 hc
        subst hv
        go_wp2_with fail
        go_region_with (go_at_call 22; refine (Try.strings_Join g 0 cap [sWhere] _ _ HJ.out hg (by simp) (by simp; omega) (by decide +kernel)).mono ?_; rintro e w' ⟨rfl, hj⟩; have c1' : w'.cell? ⟨g, 1, none⟩ = some (.string sHow) := (hj.cell hg).trans c1)
        all_goals
          go_wp2
          go_ret
          exact ⟨ret_str (by decide +kernel), hbel'.drew.trans (hj.mono (by show w.heap.size ≤ wr.heap.size; omega))⟩
      · have hown2 : wr.ownsRow (w.heap.size + 1) 9 1 u3 2 [.string sWhere, .string sWhen] := hown
        obtain ⟨g, cap, hv, hcap, hg, hc⟩ := own_some hown2 (by decide)
        have c0 : wr.cell? ⟨g, 0, none⟩ = some (.string sWhere) := hc 0 _ rfl
        have c1 : wr.cell? ⟨g, 1, none⟩ = some (.string sWhen) := hc 1 _ rfl
        have HJ : Hid (∀ (j : Nat) x, [sWhere][j]? = some x → wr.drew.cell? ⟨g, 0 + j, none⟩ = some (.string x)) := one_cell c0
        clear hown hown2 hc
        subst hv
        go_wp2_with fail
        go_region_with (go_at_call 22; refine (Try.strings_Join g 0 cap [sWhere] _ _ HJ.out hg (by simp) (by simp; omega) (by decide +kernel)).mono ?_; rintro e w' ⟨rfl, hj⟩; have c1' : w'.cell? ⟨g, 1, none⟩ = some (.string sWhen) := (hj.cell hg).trans c1)
        all_goals
          go_wp2
          go_ret
          exact ⟨ret_str (by decide +kernel), hbel'.drew.trans (hj.mono (by show w.heap.size ≤ wr.heap.size; omega))⟩
      · have hown2 : wr.ownsRow (w.heap.size + 1) 9 1 u3 3 [.string sWhere, .string sWhen, .string sHow] := hown
        obtain ⟨g, cap, hv, hcap, hg, hc⟩ := own_some hown2 (by decide)
        have c0 : wr.cell? ⟨g, 0, none⟩ = some (.string sWhere) := hc 0 _ rfl
        have c1 : wr.cell? ⟨g, 1, none⟩ = some (.string sWhen) := hc 1 _ rfl
        have c2 : wr.cell? ⟨g, 2, none⟩ = some (.string sHow) := hc 2 _ rfl
        have HJ : Hid (∀ (j : Nat) x, [sWhere, sWhen][j]? = some x → wr.drew.cell? ⟨g, 0 + j, none⟩ = some (.string x)) := two_cell c0 c1
        clear hown hown2 hc
        subst hv
        go_wp2_with fail
        go_region_with (go_at_call 22; refine (Try.strings_Join g 0 cap [sWhere, sWhen] _ _ HJ.out hg (by simp) (by simp; omega) (by decide +kernel)).mono ?_; rintro e w' ⟨rfl, hj⟩; have c2' : w'.cell? ⟨g, 2, none⟩ = some (.string sHow) := (hj.cell hg).trans c2)
        all_goals
          go_wp2
          go_ret
          exact ⟨ret_str (by decide +kernel), hbel'.drew.trans (hj.mono (by show w.heap.size ≤ wr.heap.size; omega))⟩
end Go.Proofs.Qxb6600332a.Circ

/-
  PointerText of package impl: the text itself where it is empty or begins with /, else not ok.
-/
import Derived.Test.YteacbdelbgoaaaaNew
import Derived.Test.YteacbdelbgoaaaaShelf
namespace Go.Proofs.Yteacbdelbgoaaaa
open Go.RowKit

theorem join_pre (c : UInt8) : ∀ (xs : List ByteArray) (t : ByteArray), Lib.join ((xs ++ [t]).map (·.data.toList)) [c] = pre c xs ++ t.data.toList
  | [], t => by simp [pre, Lib.join_one]
  | x :: r, t => by
    have ih := join_pre c r t
    obtain ⟨y, r', hr⟩ : ∃ y r', r ++ [t] = y :: r' := by cases r <;> exact ⟨_, _, rfl⟩
    rw [List.cons_append, List.map_cons, Lib.join_cons, pre, List.map_cons, List.flatten_cons, ← pre.eq_1, List.append_assoc, List.append_assoc]
    rw [hr] at ih ⊢
    rw [List.map_cons] at ih ⊢
    rw [Lib.join_cons] at ih
    rw [← ih, Lib.joinTail, List.map_cons, List.flatten_cons, ← Lib.joinTail.eq_1]
    simp

def StrOut (l : List UInt8) (w : World) (e : Ending) (w' : World) : Prop := ∃ s : ByteArray, e = .returned (.string s) ∧ s.data.toList = l ∧ Below w.heap.size w w'

set_option maxRecDepth 100000 in
theorem text_root (b : Nat) (w : World) (hc : w.cell? ⟨b, 0, none⟩ = some (.slice none 0 0)) : Calls Try.prog 8 #[.pointer (some ⟨b, 0, none⟩)] w (StrOut [] w) := by
  go_enter Try.func8, Try.ntmps8
  go_wp2
  go_ret
  exact ⟨_, rfl, rfl, Below.refl _ _⟩

set_option maxRecDepth 100000 in
theorem text_some (b g cap : Nat) (xs : List ByteArray) (t : ByteArray) (s : ByteArray) (w : World) (hs : s.size ≤ 4294967296) (hc : w.cell? ⟨b, 0, none⟩ = some (.slice (some ⟨g, 0, none⟩) (xs.length + 1) cap))
    (hown : w.ownsRow 0 9 1 (.slice (some ⟨g, 0, none⟩) (xs.length + 1) cap) (xs.length + 1) (strV (xs ++ [t]))) (heq : 47 :: (pre 47 xs ++ t.data.toList) = s.data.toList) (hx : xs.length ≤ s.size) :
    Calls Try.prog 8 #[.pointer (some ⟨b, 0, none⟩)] w (StrOut s.data.toList w) := by
  have hj : Lib.join ((xs ++ [t]).map (·.data.toList)) [47] = pre 47 xs ++ t.data.toList := join_pre 47 xs t
  have H0 : (((xs.length : Nat) : Int) + 1 == 0) = false := by rw [beq_eq_false_iff_ne]; omega
  have hl : (pre 47 xs ++ t.data.toList).length ≤ 4294967296 := by
    have := congrArg List.length heq
    rw [List.length_cons] at this
    have e : s.data.toList.length = s.size := Array.length_toList
    omega
  obtain ⟨_, _, hgl⟩ := hown.lt g rfl |> fun h => (⟨trivial, h.1, h.2⟩ : True ∧ 0 ≤ g ∧ g < w.heap.size)
  have hcap : xs.length + 1 ≤ cap := by
    obtain ⟨_, _, hv, _, h⟩ := owned_at hown (by omega)
    cases hv
    exact h
  have hcells : ∀ (j : Nat) x, (xs ++ [t])[j]? = some x → w.cell? ⟨g, 0 + j, none⟩ = some (.string x) := fun j x hj => by
    have h := hown.cells (g := g) rfl j (.string x) (by simp only [strV, List.getElem?_map, hj]; rfl)
    have hadd : (⟨g, 0, none⟩ : Addr).add j = ⟨g, 0 + j, none⟩ := by unfold Addr.add; split <;> simp_all
    rw [← hadd]; exact h
  have hL : (xs ++ [t]).length = xs.length + 1 := by simp
  have h1 := Try.strings_Join g 0 cap (xs ++ [t]) ⟨#[47]⟩ w hcells hgl (by rw [hL]; omega) (by rw [hL]; exact hcap) (by rw [show (⟨#[47]⟩ : ByteArray).data.toList = [47] from rfl, hj]; omega)
  rw [show (⟨#[47]⟩ : ByteArray).data.toList = [47] from rfl, hj, hL] at h1
  obtain ⟨u, hu⟩ : ∃ u : List UInt8, u = pre 47 xs ++ t.data.toList := ⟨_, rfl⟩
  have hul : u.length ≤ 4294967296 := by rw [hu]; exact hl
  rw [← hu] at h1 heq
  have HJ := hid h1
  have HE := hid heq
  clear hcells heq hj hown h1 hu hL hcap hl
  go_enter Try.func8, Try.ntmps8
  go_wp2_with fail
  refine HJ.out.mono ?_
  rintro e w' ⟨rfl, hb⟩
  go_wp2
  go_ret
  exact ⟨_, rfl, by simpa using HE.out, hb⟩

/-- Whether a text is a pointer: it is empty, or begins with /. -/
def isP (s : ByteArray) : Bool := decide (s.size = 0 ∨ ∃ h : 0 < s.size, s[0].toNat = 47)

def PTextOut (s : ByteArray) (w : World) (e : Ending) (w' : World) : Prop :=
  ∃ (r : ByteArray) (ok : Bool), e = .returned (.tuple #[.string r, .bool ok]) ∧ ok = isP s ∧ (ok = true → r = s) ∧ Below w.heap.size w w'

theorem same_of {r s : ByteArray} (h : r.data.toList = s.data.toList) : r = s := by
  apply ByteArray.ext
  exact Array.toList_inj.1 h

set_option maxRecDepth 100000 in
theorem ptext_any (s : ByteArray) (w : World) (hs : s.size ≤ 4294967296) : Calls Try.prog 5 #[.string s] w (PTextOut s w) := by
  by_cases h0 : s.size = 0
  · have HP := hid (show true = isP s from (decide_eq_true (.inl h0)).symm)
    have HS := hid (show ∀ r : ByteArray, r.data.toList = [] → r = s from fun r hr => same_of (hr.trans (List.eq_nil_of_length_eq_zero h0).symm))
    go_enter Try.func5, Try.ntmps5
    go_wp2_with fail
    refine (new_root s _ h0).mono ?_
    clear h0
    rintro e w' ⟨rfl, hb⟩
    go_wp2_with fail
    refine (text_root _ _ (new_cell _ _ _)).mono ?_
    rintro e w2 ⟨r, rfl, hr, hb2⟩
    have HR := hid (HS.out r hr)
    clear hr
    go_wp2
    go_ret2
    exact ⟨_, _, rfl, HP.out, fun _ => HR.out, (hb.alloc hb.size _).trans (hb2.mono (by have := hb.size; simp; omega))⟩
  · have h0' : 0 < s.size := by omega
    clear h0
    by_cases h47 : s[0].toNat = 47
    · have HP := hid (show true = isP s from (decide_eq_true (.inr ⟨h0', h47⟩)).symm)
      go_enter Try.func5, Try.ntmps5
      go_wp2_with fail
      refine (new_some s _ hs h0' h47).mono ?_
      clear h47
      rintro e w' ⟨g, cap, xs, t, rfl, hown, hb, heq, hx⟩
      have HE := hid heq
      clear heq
      go_wp2_with fail
      refine (text_some _ g cap xs t s _ hs (new_cell _ _ _) ((owns_mono hown (Nat.zero_le _)).alloc _) HE.out hx).mono ?_
      rintro e w2 ⟨r, rfl, hr, hb2⟩
      have HR := hid (same_of hr)
      clear hr
      go_wp2
      go_ret2
      exact ⟨_, _, rfl, HP.out, fun _ => HR.out, (hb.alloc hb.size _).trans (hb2.mono (by have := hb.size; simp; omega))⟩
    · have HP := hid (show false = isP s from (decide_eq_false (by rintro (h | ⟨_, h⟩) <;> omega)).symm)
      go_enter Try.func5, Try.ntmps5
      go_wp2_with fail
      refine (new_none s _ h0' h47).mono ?_
      clear h47
      rintro e w' ⟨b, rfl, hb⟩
      go_wp2
      go_ret2
      exact ⟨_, _, rfl, HP.out, (fun h => by cases h), hb.alloc hb.size _⟩
end Go.Proofs.Yteacbdelbgoaaaa

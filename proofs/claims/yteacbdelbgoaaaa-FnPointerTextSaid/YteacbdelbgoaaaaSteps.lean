/-
  steps of package spec: what it returns.
-/
import Derived.Test.YteacbdelbgoaaaaMapLit
namespace Go.Proofs.Yteacbdelbgoaaaa
open Go.RowKit

/-- Nothing is told (code 1), or the text is a pointer just if it is empty or begins with / (code 0). -/
def StepsOut (s : ByteArray) (w : World) (e : Ending) (w' : World) : Prop :=
  ∃ (v : Value) (is : Bool) (code : Int), e = .returned (.tuple #[v, .bool is, .int .i64 code]) ∧ (code = 1 ∨ code = 0 ∧ is = decide (s.size = 0 ∨ ∃ h : 0 < s.size, s[0].toNat = 47)) ∧ Below w.heap.size w w'

/-- What holds at a round's head: k bytes have been read. -/
structure StepsAt (B : Nat) (w : World) (s : ByteArray) (k n : Nat) (t : ByteArray) (v : Value) (xs : List Value) (wr : World) : Prop where
  pos : k ≤ s.size
  few : n ≤ k
  short : t.size ≤ k
  own : wr.ownsRow B 9 1 v n xs
  below : Below B w wr

theorem steps_append {B : Nat} {w wr w1 : World} {s t : ByteArray} {k n : Nat} {v v' : Value} {xs : List Value} {o : Obj} (h : StepsAt B w s k n t v xs wr) (hB : B ≤ wr.heap.size) (hk : k < s.size)
    (hown : w1.ownsRow B 9 1 v' (n + 1) (xs ++ [.string t])) (hg : (wr.alloc o).grownBy w1 v.ownBlock) : StepsAt B w s (k + 1) (n + 1) ⟨#[]⟩ v' (xs ++ [.string t]) w1 :=
  ⟨hk, Nat.succ_le_succ h.few, Nat.zero_le _, hown, (h.below.alloc hB o).grown hg (by simp; omega) (fun j hj => (h.own.lt j hj).1)⟩

theorem steps_own {B : Nat} {w wr w1 : World} {s t u : ByteArray} {k n m : Nat} {v : Value} {xs : List Value} (h : StepsAt B w s k n t v xs wr) (hk : k + m ≤ s.size) (hu : u.size ≤ m)
    (hb : Below B wr w1) (hown : w1.ownsRow B 9 1 v n xs) : StepsAt B w s (k + m) n (t ++ u) v xs w1 :=
  ⟨hk, by have := h.few; omega, by have := h.short; simp [ByteArray.size_append]; omega, hown, h.below.trans hb⟩

set_option maxRecDepth 100000 in
set_option maxHeartbeats 400000 in
theorem steps_slash (s : ByteArray) (w : World) (hs : s.size ≤ 4294967296) (h0 : 0 < s.size) (h47 : (s[0].toNat : Int) = 47) : Calls Try.prog 6 #[.string s] w (StepsOut s w) := by
  obtain ⟨i0, hi, hz0, hz1, hz2⟩ := info_parts info9
  have H47 : (((s[0].toNat : Nat) : Int) != 47) = false := by rw [h47]; rfl
  have hne := not_empty s h0
  have hB : ∀ pos, w.heap.size ≤ (w.iter s pos).heap.size := fun pos => (iter_below w s pos).size
  have hp := hid h47
  have hmm := @run_makeMap Try.prog
  have hfin := hid (show decide (s.size = 0 ∨ ∃ h : 0 < s.size, s[0].toNat = 47) = true from decide_eq_true (.inr ⟨h0, by omega⟩))
  clear h47
  go_enter Try.func6, Try.ntmps6
  go_wp2_with fail
  refine (size_any s _).mono ?_
  rintro e w' ⟨n, b, pos, rfl, rfl⟩
  by_cases hn : 60 < n
  · go_wp2
    go_ret3
    exact ⟨_, _, _, rfl, .inl rfl, iter_below _ _ _⟩
  · cases b
    · go_wp2
      go_ret3
      exact ⟨_, _, _, rfl, .inl rfl, iter_below _ _ _⟩
    · go_wp2_with fail
      refine (isptr_any s _ hs h0 hp.out).mono ?_
      rintro e w' ⟨b, rfl, hgood, rfl⟩
      cases b
      · go_wp2
        go_ret3
        exact ⟨_, _, _, rfl, .inl rfl, iter_below _ _ _⟩
      · have HG := hid (hgood rfl)
        clear hgood
        go_wp2
        have HB := hB pos
        obtain ⟨w0, hw0⟩ : ∃ w0, w0 = w.iter s pos := ⟨_, rfl⟩
        have hb0 : Below w.heap.size w w0 := by rw [hw0]; exact iter_below _ _ _
        rw [← hw0] at HB ⊢
        clear hw0 hB
        go_loopw [7, 8, 9] (fun v own i wr => ∃ (k n : Nat) (t : ByteArray) (xs : List Value), i = .int .i64 k ∧ own = .string t ∧ StepsAt w.heap.size w s k n t v xs wr) (fun _ _ i _ => s.size - (intOf i).toNat)
        case atStart => exact ⟨1, 0, ⟨#[]⟩, [], rfl, rfl, by omega, by omega, Nat.zero_le _, World.ownsRow_made _ _ _ HB (by decide) rfl, hb0.alloc HB _⟩
        case round =>
          obtain ⟨k, n, t, xs, rfl, rfl, hr⟩ := hrel
          have hown := hr.own
          have hk := hr.pos
          have hn := hr.few
          have ht := hr.short
          have hBr : w.heap.size ≤ wr.heap.size := hr.below.size
          have HR := hid hr
          clear hr
          by_cases hlt : k < s.size
          · by_cases c47 : s[k].toNat = 47
            · go_wp2_with (at_builtin; refine wpList_append_own _ rfl (.tmp 48) (.tmp 50) 27 rfl w.heap.size 9 i0 (.string ⟨#[]⟩) 1 16 Try.underlying27 hi hz0 hz1 hz2 rfl (by decide) _ _ _ rfl (hown.alloc _) ⟨wr.heap.size, 0, none⟩ 1 1 [.string t] rfl rfl ?c1 ?c2 ?c3 ?c4 ?c5 ?_)
              case c1 => exact new_one _ _ _
              case c2 => simp [Value.oneCell']
              case c3 => unfold maxLen; omega
              case c4 => omega
              case c5 => simp; omega
              intro v' w1 hown1 hg1 _
              have hst := hid (steps_append HR.out hBr hlt hown1 hg1)
              clear hown1 hg1 hown
              go_wp2
              go_roundw
              case rel => exact ⟨k + 1, n + 1, _, _, by go_num, rfl, hst.out⟩
              case measure => simp [intOf]; omega
            · by_cases c126 : s[k].toNat = 126
              · obtain ⟨hlt2, h4⟩ := HG.out k hlt c126
                have hst := hid (fun u hu w1 hb hg => steps_own (m := 2) (w1 := w1) (u := u) HR.out (by omega) hu hb hg)
                rcases h4 with h4 | h4
                · have e2 : (s[k + 1].toNat : Int) = 48 := by omega
                  have l1 := lit1 wr
                  have l2 := lit2 wr
                  have l3 := lit48 wr
                  clear h4
                  go_wp2
                  go_roundw
                  case rel => exact ⟨k + 2, n, _, _, by go_num, rfl, hst.out _ (by decide) _ ((Below.refl _ _).alloc hBr _) (hown.alloc _)⟩
                  case measure => simp [intOf]; omega
                · have e2 : (s[k + 1].toNat : Int) = 49 := by omega
                  have l1 := lit1 wr
                  have l2 := lit2 wr
                  have l3 := lit49 wr
                  clear h4
                  go_wp2
                  go_roundw
                  case rel => exact ⟨k + 2, n, _, _, by go_num, rfl, hst.out _ (by decide) _ ((Below.refl _ _).alloc hBr _) (hown.alloc _)⟩
                  case measure => simp [intOf]; omega
              · have hst := hid (fun u hu w1 hb hg => steps_own (m := 1) (w1 := w1) (u := u) HR.out (by omega) hu hb hg)
                go_wp2
                go_roundw
                case rel => exact ⟨k + 1, n, _, _, by go_num, rfl, hst.out _ (by simp [ByteArray.size_extract]; omega) _ (Below.refl _ _) hown⟩
                case measure => simp [intOf]; omega
          · have hke : k = s.size := by omega
            go_wp2_with (at_builtin; refine wpList_append_own _ rfl (.tmp 67) (.tmp 69) 27 rfl w.heap.size 9 i0 (.string ⟨#[]⟩) 1 16 Try.underlying27 hi hz0 hz1 hz2 rfl (by decide) _ _ _ rfl (hown.alloc _) ⟨wr.heap.size, 0, none⟩ 1 1 [.string t] rfl rfl ?d1 ?d2 ?d3 ?d4 ?d5 ?_)
            case d1 => exact new_one _ _ _
            case d2 => simp [Value.oneCell']
            case d3 => unfold maxLen; omega
            case d4 => omega
            case d5 => simp; omega
            intro v' w1 hown1 hg1 _
            have hbl := ((HR.out.below.alloc hBr _).grown hg1 (by simp; omega) (fun j hj => (hown.lt j hj).1))
            clear hown1 hg1 hown
            go_wp2
            go_ret3
            exact ⟨_, _, _, rfl, .inr ⟨rfl, hfin.out.symm⟩, hbl⟩

theorem empty_of (s : ByteArray) (h0 : s.size = 0) : s.toList.isEmpty = true := by
  rw [ByteArray.toList_eq, List.isEmpty_iff]
  apply List.eq_nil_of_length_eq_zero
  exact h0

set_option maxRecDepth 100000 in
set_option maxHeartbeats 400000 in
theorem steps_empty (s : ByteArray) (w : World) (h0 : s.size = 0) : Calls Try.prog 6 #[.string s] w (StepsOut s w) := by
  have hne := empty_of s h0
  have hfin := hid (show decide (s.size = 0 ∨ ∃ h : 0 < s.size, s[0].toNat = 47) = true from decide_eq_true (.inl h0))
  clear h0
  go_enter Try.func6, Try.ntmps6
  go_wp2_with fail
  refine (size_any s _).mono ?_
  rintro e w' ⟨n, b, pos, rfl, rfl⟩
  by_cases hn : 60 < n
  · go_wp2
    go_ret3
    exact ⟨_, _, _, rfl, .inl rfl, iter_below _ _ _⟩
  · cases b
    · go_wp2
      go_ret3
      exact ⟨_, _, _, rfl, .inl rfl, iter_below _ _ _⟩
    · go_wp2
      go_ret3
      exact ⟨_, _, _, rfl, .inr ⟨rfl, hfin.out.symm⟩, iter_below _ _ _⟩

set_option maxRecDepth 100000 in
set_option maxHeartbeats 400000 in
theorem steps_other (s : ByteArray) (w : World) (h0 : 0 < s.size) (h47 : ¬ s[0].toNat = 47) : Calls Try.prog 6 #[.string s] w (StepsOut s w) := by
  have hne := not_empty s h0
  have H47 : (((s[0].toNat : Nat) : Int) != 47) = true := by rw [bne_iff_ne]; omega
  have hfin := hid (show decide (s.size = 0 ∨ ∃ h : 0 < s.size, s[0].toNat = 47) = false from decide_eq_false (by rintro (h | ⟨_, h⟩) <;> omega))
  go_enter Try.func6, Try.ntmps6
  go_wp2_with fail
  refine (size_any s _).mono ?_
  rintro e w' ⟨n, b, pos, rfl, rfl⟩
  by_cases hn : 60 < n
  · go_wp2
    go_ret3
    exact ⟨_, _, _, rfl, .inl rfl, iter_below _ _ _⟩
  · cases b
    · go_wp2
      go_ret3
      exact ⟨_, _, _, rfl, .inl rfl, iter_below _ _ _⟩
    · go_wp2
      go_ret3
      exact ⟨_, _, _, rfl, .inr ⟨rfl, hfin.out.symm⟩, iter_below _ _ _⟩

theorem steps_any (s : ByteArray) (w : World) (hs : s.size ≤ 4294967296) : Calls Try.prog 6 #[.string s] w (StepsOut s w) := by
  by_cases h0 : s.size = 0
  · exact steps_empty s w h0
  · have h0' : 0 < s.size := by omega
    by_cases h47 : s[0].toNat = 47
    · exact steps_slash s w hs h0' (by omega)
    · exact steps_other s w h0' h47

/-- The law's two facts: whether something is told, and whether the text is a pointer. -/
def ToldOut (s : ByteArray) (w : World) (e : Ending) (w' : World) : Prop :=
  ∃ (is told : Bool), e = .returned (.tuple #[.bool is, .bool told]) ∧ (told = true → is = decide (s.size = 0 ∨ ∃ h : 0 < s.size, s[0].toNat = 47)) ∧ Below w.heap.size w w'

set_option maxHeartbeats 400000 in
theorem told_any (s : ByteArray) (w : World) (hs : s.size ≤ 4294967296) : Calls Try.prog 4 #[.string s] w (ToldOut s w) := by
  go_enter Try.func4, Try.ntmps4
  go_wp2_with fail
  refine (steps_any s _ hs).mono ?_
  rintro e w' ⟨v, is, code, rfl, hc, hb⟩
  have HC := hid hc
  clear hc
  go_wp2
  go_ret2
  refine ⟨_, _, rfl, fun h => ?_, hb⟩
  rcases HC.out with h1 | h1
  · simp [h1] at h
  · exact h1.2
end Go.Proofs.Yteacbdelbgoaaaa

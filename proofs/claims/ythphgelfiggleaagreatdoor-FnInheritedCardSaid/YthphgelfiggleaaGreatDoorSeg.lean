/-
  isLetter, isDigit, isSegment, cut of package spec: what they return.
-/
import Derived.Test.YthphgelfiggleaaGreatDoorNew
import Derived.BigQuiet
import Derived.Deep.QuietTactic
namespace Go.Proofs.YthphgelfiggleaaGreatDoor
open Go.RowKit

/-- A byte of a step of an address: a letter, a digit, -, _ or a point. -/
def SegN (n : Nat) : Prop := (97 ≤ n ∧ n ≤ 122) ∨ (65 ≤ n ∧ n ≤ 90) ∨ (48 ≤ n ∧ n ≤ 57) ∨ n = 45 ∨ n = 95 ∨ n = 46
def SegB (s : ByteArray) : Prop := ∀ c ∈ s.data.toList, SegN c.toNat

def BoolIf (P : Prop) (w : World) (e : Ending) (w' : World) : Prop := ∃ b, e = .returned (.bool b) ∧ (b = true → P) ∧ w = w'

theorem letter_of {n : Nat} (h : (97 ≤ n ∧ n ≤ 122) ∨ (65 ≤ n ∧ n ≤ 90)) : SegN n := h.elim .inl fun h => .inr (.inl h)
theorem digit_of {n : Nat} (h : 48 ≤ n ∧ n ≤ 57) : SegN n := .inr (.inr (.inl h))

set_option maxHeartbeats 400000 in
theorem letter_any (n : Nat) (w : World) : Calls Tryz.prog 13 #[.int .u8 n] w (BoolIf (SegN n) w) := by
  go_enter Tryz.func13, Tryz.ntmps13
  go_wp2
  all_goals go_ret
  all_goals first
    | exact ⟨_, rfl, fun h => letter_of (by first | omega | (simp at h; omega) | cases h), rfl⟩

set_option maxHeartbeats 400000 in
theorem digit_any (n : Nat) (w : World) : Calls Tryz.prog 22 #[.int .u8 n] w (BoolIf (SegN n) w) := by
  go_enter Tryz.func22, Tryz.ntmps22
  go_wp2
  all_goals go_ret
  all_goals exact ⟨_, rfl, fun h => digit_of (by first | omega | (simp at h; omega) | cases h), rfl⟩

theorem seg_snoc {s : ByteArray} {k : Nat} (hk : k < s.size) (hg : ∀ j, (h : j < s.size) → j < k → SegN s[j].toNat) (h : SegN s[k].toNat) : ∀ j, (h : j < s.size) → j < k + 1 → SegN s[j].toNat := by
  intro j hj hjk
  by_cases e : j = k
  · subst e; exact h
  · exact hg j hj (by omega)

theorem seg_all {s : ByteArray} {k : Nat} (hk : ¬ k < s.size) (hg : ∀ j, (h : j < s.size) → j < k → SegN s[j].toNat) : SegB s := by
  intro c hc
  obtain ⟨j, hj, rfl⟩ := List.getElem_of_mem hc
  have hj' : j < s.size := by simpa using hj
  exact hg j hj' (by omega)

theorem seg_of3 (n : Nat) (h : (((n : Int) != 45) = false ∨ ((n : Int) != 95) = false) ∨ ((n : Int) != 46) = false) : SegN n := by
  simp only [bne_eq_false_iff_eq] at h
  have e : n = 45 ∨ n = 95 ∨ n = 46 := by omega
  exact .inr (.inr (.inr e))

set_option maxRecDepth 100000 in
set_option maxHeartbeats 800000 in
theorem isseg_any (s : ByteArray) (w : World) (hs : s.size ≤ 4294967296) : Calls Tryz.prog 14 #[.string s] w (BoolIf (SegB s) w) := by
  go_enter Tryz.func14, Tryz.ntmps14
  go_wp2
  go_loop [3] (fun i => ∃ k : Nat, k ≤ s.size ∧ i = .int .i64 k ∧ ∀ j, (h : j < s.size) → j < k → SegN s[j].toNat) (fun i => s.size - (intOf i).toNat)
  case atStart => exact ⟨0, Nat.zero_le _, rfl, fun j _ h => by omega⟩
  case round =>
    obtain ⟨k, hk, rfl, hg⟩ := hrel
    have HG := hid hg
    clear hg
    by_cases hlt : k < s.size
    · go_wp2_with (first
        | (go_at_call 13; refine (letter_any _ _).mono ?_; rintro e w' ⟨b1, rfl, hb1, rfl⟩; have HB1 := hid hb1; clear hb1; cases b1)
        | (go_at_call 22; refine (digit_any _ _).mono ?_; rintro e w' ⟨b2, rfl, hb2, rfl⟩; have HB2 := hid hb2; clear hb2; cases b2))
      all_goals first
        | (have hN : SegN s[k].toNat := by
             first
             | exact HB1.out trivial
             | exact HB2.out trivial
             | (have e : s[k].toNat = 45 ∨ s[k].toNat = 95 := by omega
                exact .inr (.inr (.inr (e.elim .inl fun h => .inr (.inl h)))))
             | exact seg_of3 _ (by assumption)
           have HG2 := hid (seg_snoc hlt HG.out hN)
           go_round
           case rel => exact ⟨k + 1, by omega, by go_num, HG2.out⟩
           case measure => simp [intOf]; omega)
        | (go_ret
           exact ⟨false, rfl, (fun h => by cases h), rfl⟩)
    · have HA := hid (seg_all hlt HG.out)
      go_wp2
      go_ret
      exact ⟨true, rfl, fun _ => HA.out, rfl⟩

/-- What cut returns: what is ahead of place T, and what is from there on. -/
def CutOut (s : ByteArray) (T : Nat) (w : World) (e : Ending) (w' : World) : Prop :=
  ∃ a b : ByteArray, e = .returned (.tuple #[.string a, .string b]) ∧ a.data.toList = s.data.toList.take T ∧ b.data.toList = s.data.toList.drop T ∧ Below w.heap.size w w'

theorem take_of (s : ByteArray) (T : Nat) : (s.extract 0 T).data.toList = s.data.toList.take T := by simp
theorem drop_of (s : ByteArray) (T : Nat) : (s.extract T s.size).data.toList = s.data.toList.drop T := by
  rw [ByteArray.data_extract, Array.toList_extract]
  show List.take (s.size - T) (List.drop T s.data.toList) = _
  exact List.take_of_length_le (by rw [List.length_drop, Array.length_toList]; exact Nat.le_refl _)

theorem below_drewN {B : Nat} {a w : World} (h : Below B a w) (n : Nat) : Below B a (w.drewN n) := ⟨h.os, h.tape, h.output, h.size, h.block⟩

set_option maxRecDepth 100000 in
set_option maxHeartbeats 800000 in
theorem cut_any (s : ByteArray) (c : UInt8) (T : Nat) (w : World) (hs : s.size ≤ 4294967296) (hT : Ix s c T) : Calls Tryz.prog 12 #[.string s, .int .u8 c.toNat] w (CutOut s T w) := by
  go_enter Tryz.func12, Tryz.ntmps12
  go_wp2
  go_loop [6] (fun i => ∃ k : Nat, k ≤ T ∧ i = .int .i64 k) (fun i => s.size - (intOf i).toNat)
  case atStart => exact ⟨0, Nat.zero_le _, rfl⟩
  case round =>
    obtain ⟨k, hk, rfl⟩ := hrel
    have hTs := hT.le
    by_cases hkT : k < T
    · have hlt : k < s.size := by omega
      have hne : ¬ s[k].toNat = c.toNat := fun h => hT.ahead k hlt hkT (UInt8.toNat_inj.1 h)
      have hb : (((s[k].toNat : Nat) : Int) == ((c.toNat : Nat) : Int)) = false := by rw [beq_eq_false_iff_ne]; omega
      go_wp2
      go_round
      case rel => exact ⟨k + 1, by omega, by go_num⟩
      case measure => simp [intOf]; omega
    · obtain rfl : T = k := by omega
      by_cases hlt : T < s.size
      · have hb : (((s[T].toNat : Nat) : Int) == ((c.toNat : Nat) : Int)) = true := by rw [hT.at_ hlt]; exact beq_self_eq_true _
        go_wp2
        go_quiet (fail)
        go_wp2
        go_ret2
        exact ⟨_, _, rfl, take_of s T, drop_of s T, below_drewN (Below.refl _ _) _⟩
      · obtain rfl : T = s.size := by omega
        go_wp2
        go_ret2
        exact ⟨_, _, rfl, by rw [List.take_of_length_le (by rw [Array.length_toList]; exact Nat.le_refl _)], by rw [List.drop_of_length_le (by rw [Array.length_toList]; exact Nat.le_refl _)], Below.refl _ _⟩
end Go.Proofs.YthphgelfiggleaaGreatDoor

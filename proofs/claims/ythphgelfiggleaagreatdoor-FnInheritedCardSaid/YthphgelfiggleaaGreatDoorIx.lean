/-
  zzIndex of packages gojsonpointer and neturl at a separator of one byte returns the place of its first instance, or -1.
-/
import Derived.Test.YthphgelfiggleaaGreatDoorProg
import Derived.WalkKit
import Derived.WalkLawsBesides
import Derived.WalkSpells
import Derived.LoopTactic
import Derived.Outline
namespace Go.Proofs.YthphgelfiggleaaGreatDoor
open Go.RowKit

theorem hid {p : Prop} (h : p) : Hid p := h

/-- T is the place of the first c in s, or the size of s where there is none. -/
structure Ix (s : ByteArray) (c : UInt8) (T : Nat) : Prop where
  le : T ≤ s.size
  ahead : ∀ j, (h : j < s.size) → j < T → s[j] ≠ c
  at_ : ∀ h : T < s.size, s[T] = c

theorem ix_ex (s : ByteArray) (c : UInt8) : ∃ T, Ix s c T := by
  have h : ∀ d k, d + k = s.size → (∀ j, (h : j < s.size) → j < k → s[j] ≠ c) → ∃ T, Ix s c T := by
    intro d
    induction d with
    | zero => intro k hk hj; exact ⟨k, ⟨by omega, hj, fun h => by omega⟩⟩
    | succ d ih =>
      intro k hk hj
      by_cases e : s[k]'(by omega) = c
      · exact ⟨k, ⟨by omega, hj, fun _ => e⟩⟩
      · refine ih (k + 1) (by omega) fun j hjs hjk => ?_
        by_cases ej : j = k
        · subst ej; exact e
        · exact hj j hjs (by omega)
  exact h s.size 0 rfl fun j _ h => by omega

theorem one_byte (s : ByteArray) (k : Nat) (h : k < s.size) : (s.extract k (k + 1)).toList = [s[k]] := by
  rw [ByteArray.toList_eq]
  apply List.ext_getElem?
  intro i
  rcases i with _ | i
  · simp [ByteArray.getElem_eq_getElem_data, h]
  · simp; omega

theorem byte_eq (s : ByteArray) (k : Nat) (h : k < s.size) (c : UInt8) : ((s.extract k (k + 1)).toList == [c]) = decide (s[k] = c) := by
  rw [one_byte s k h]
  by_cases e : s[k] = c <;> simp [e]

set_option maxHeartbeats 400000 in
theorem ix_some (s : ByteArray) (c : UInt8) (T : Nat) (w : World) (hs : s.size ≤ 1099511627776) (hT : Ix s c T) (hlT : T < s.size) :
    Calls Tryz.prog 60 #[.string s, .string ⟨#[c]⟩] w fun e w' => e = .returned (.int .i64 T) ∧ w = w' := by
  go_enter Tryz.func60, Tryz.ntmps60
  go_wp2
  go_loop [5] (fun i => ∃ k : Nat, k ≤ T ∧ i = .int .i64 k) (fun i => s.size - (intOf i).toNat)
  case atStart => exact ⟨0, Nat.zero_le _, rfl⟩
  case round =>
    obtain ⟨k, hk, rfl⟩ := hrel
    have hlt : k < s.size := by omega
    by_cases hkT : k < T
    · have hb : ((s.extract k (k + 1)).toList == [c]) = false := by
        rw [byte_eq s k hlt c]; simpa using hT.ahead k hlt hkT
      go_wp2
      go_round
      case rel => exact ⟨k + 1, by omega, by go_num⟩
      case measure => simp [intOf]; omega
    · obtain rfl : T = k := by omega
      have hb : ((s.extract T (T + 1)).toList == [c]) = true := by
        rw [byte_eq s T hlt c]; simpa using hT.at_ hlt
      go_wp2
      go_ret
      exact ⟨rfl, rfl⟩

set_option maxHeartbeats 400000 in
theorem ix_none (s : ByteArray) (c : UInt8) (w : World) (hs : s.size ≤ 1099511627776) (hT : Ix s c s.size) :
    Calls Tryz.prog 60 #[.string s, .string ⟨#[c]⟩] w fun e w' => e = .returned (.int .i64 (-1)) ∧ w = w' := by
  go_enter Tryz.func60, Tryz.ntmps60
  go_wp2
  go_loop [5] (fun i => ∃ k : Nat, k ≤ s.size ∧ i = .int .i64 k) (fun i => s.size - (intOf i).toNat)
  case atStart => exact ⟨0, Nat.zero_le _, rfl⟩
  case round =>
    obtain ⟨k, hk, rfl⟩ := hrel
    by_cases hkT : k < s.size
    · have hb : ((s.extract k (k + 1)).toList == [c]) = false := by
        rw [byte_eq s k hkT c]; simpa using hT.ahead k hkT hkT
      go_wp2
      go_round
      case rel => exact ⟨k + 1, by omega, by go_num⟩
      case measure => simp [intOf]; omega
    · go_wp2
      go_ret
      exact ⟨rfl, rfl⟩
set_option maxHeartbeats 400000 in
theorem nx_some (s : ByteArray) (c : UInt8) (T : Nat) (w : World) (hs : s.size ≤ 1099511627776) (hT : Ix s c T) (hlT : T < s.size) :
    Calls Tryz.prog 53 #[.string s, .string ⟨#[c]⟩] w fun e w' => e = .returned (.int .i64 T) ∧ w = w' := by
  go_enter Tryz.func53, Tryz.ntmps53
  go_wp2
  go_loop [5] (fun i => ∃ k : Nat, k ≤ T ∧ i = .int .i64 k) (fun i => s.size - (intOf i).toNat)
  case atStart => exact ⟨0, Nat.zero_le _, rfl⟩
  case round =>
    obtain ⟨k, hk, rfl⟩ := hrel
    have hlt : k < s.size := by omega
    by_cases hkT : k < T
    · have hb : ((s.extract k (k + 1)).toList == [c]) = false := by
        rw [byte_eq s k hlt c]; simpa using hT.ahead k hlt hkT
      go_wp2
      go_round
      case rel => exact ⟨k + 1, by omega, by go_num⟩
      case measure => simp [intOf]; omega
    · obtain rfl : T = k := by omega
      have hb : ((s.extract T (T + 1)).toList == [c]) = true := by
        rw [byte_eq s T hlt c]; simpa using hT.at_ hlt
      go_wp2
      go_ret
      exact ⟨rfl, rfl⟩

set_option maxHeartbeats 400000 in
theorem nx_none (s : ByteArray) (c : UInt8) (w : World) (hs : s.size ≤ 1099511627776) (hT : Ix s c s.size) :
    Calls Tryz.prog 53 #[.string s, .string ⟨#[c]⟩] w fun e w' => e = .returned (.int .i64 (-1)) ∧ w = w' := by
  go_enter Tryz.func53, Tryz.ntmps53
  go_wp2
  go_loop [5] (fun i => ∃ k : Nat, k ≤ s.size ∧ i = .int .i64 k) (fun i => s.size - (intOf i).toNat)
  case atStart => exact ⟨0, Nat.zero_le _, rfl⟩
  case round =>
    obtain ⟨k, hk, rfl⟩ := hrel
    by_cases hkT : k < s.size
    · have hb : ((s.extract k (k + 1)).toList == [c]) = false := by
        rw [byte_eq s k hkT c]; simpa using hT.ahead k hkT hkT
      go_wp2
      go_round
      case rel => exact ⟨k + 1, by omega, by go_num⟩
      case measure => simp [intOf]; omega
    · go_wp2
      go_ret
      exact ⟨rfl, rfl⟩
end Go.Proofs.YthphgelfiggleaaGreatDoor

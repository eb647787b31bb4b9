/-
  isPointer, size of package spec: what they return.
-/
import Derived.Test.YteacbdelbgoaaaaSplit
namespace Go.Proofs.Yteacbdelbgoaaaa
open Go.RowKit

/-- Behind each ~ stands a 0 or a 1. -/
def GoodAt (s : ByteArray) (j : Nat) : Prop := ∀ h : j < s.size, s[j].toNat = 126 → ∃ h' : j + 1 < s.size, s[j + 1].toNat = 48 ∨ s[j + 1].toNat = 49

def PtrOut (s : ByteArray) (w : World) (e : Ending) (w' : World) : Prop := ∃ b, e = .returned (.bool b) ∧ (b = true → ∀ j, GoodAt s j) ∧ w = w'

theorem good_snoc {s : ByteArray} {k : Nat} (hg : ∀ j, j < k → GoodAt s j) (h : GoodAt s k) : ∀ j, j < k + 1 → GoodAt s j := by
  intro j hj
  by_cases e : j = k
  · subst e; exact h
  · exact hg j (by omega)

theorem good_all {s : ByteArray} {k : Nat} (hg : ∀ j, j < k → GoodAt s j) (hk : ¬ k < s.size) : ∀ j, GoodAt s j := fun j h => hg j (by omega) h

theorem not_empty (s : ByteArray) (h0 : 0 < s.size) : s.toList.isEmpty = false := by
  rw [ByteArray.toList_eq, List.isEmpty_eq_false_iff]
  intro h
  have := congrArg List.length h
  rw [Array.length_toList, List.length_nil] at this
  have e : s.data.size = s.size := rfl
  omega

set_option maxHeartbeats 400000 in
theorem isptr_any (s : ByteArray) (w : World) (hs : s.size ≤ 4294967296) (h0 : 0 < s.size) (h47 : (s[0].toNat : Int) = 47) : Calls Try.prog 10 #[.string s] w (PtrOut s w) := by
  have H47 : (((s[0].toNat : Nat) : Int) != 47) = false := by rw [h47]; rfl
  have hne := not_empty s h0
  clear h47
  go_enter Try.func10, Try.ntmps10
  go_wp2
  go_loop [3] (fun i => ∃ k : Nat, k ≤ s.size ∧ i = .int .i64 k ∧ ∀ j, j < k → GoodAt s j) (fun i => s.size - (intOf i).toNat)
  case atStart => exact ⟨0, Nat.zero_le _, rfl, fun j h => by omega⟩
  case round =>
    obtain ⟨k, hk, rfl, hg⟩ := hrel
    have HG := hid hg
    clear hg
    by_cases hlt : k < s.size
    · by_cases h126 : s[k].toNat = 126
      · by_cases hend : k + 1 < s.size
        · by_cases h48 : s[k + 1].toNat = 48 ∨ s[k + 1].toNat = 49
          · have hgk : GoodAt s k := fun _ _ => ⟨hend, h48⟩
            have HG2 := hid (good_snoc HG.out hgk)
            clear HG hgk
            rcases h48 with h48 | h48
            · go_wp2
              go_round
              case rel => exact ⟨k + 1, by omega, by go_num, HG2.out⟩
              case measure => simp [intOf]; omega
            · go_wp2
              go_round
              case rel => exact ⟨k + 1, by omega, by go_num, HG2.out⟩
              case measure => simp [intOf]; omega
          · have h1 : (((s[k + 1].toNat : Nat) : Int) != 48) = true := by rw [bne_iff_ne]; omega
            have h2 : (((s[k + 1].toNat : Nat) : Int) != 49) = true := by rw [bne_iff_ne]; omega
            have h3 : ¬ s[k + 1].toNat = 48 := fun h => h48 (.inl h)
            have h4 : ¬ s[k + 1].toNat = 49 := fun h => h48 (.inr h)
            clear h48
            go_wp2
            go_ret
            exact ⟨false, rfl, by simp, rfl⟩
        · have hend : k + 1 = s.size := by omega
          go_wp2
          go_ret
          exact ⟨false, rfl, by simp, rfl⟩
      · have HG2 := hid (good_snoc HG.out (fun _ h => absurd h h126))
        go_wp2
        go_round
        case rel => exact ⟨k + 1, by omega, by go_num, HG2.out⟩
        case measure => simp [intOf]; omega
    · have HA := hid (good_all HG.out hlt)
      go_wp2
      go_ret
      exact ⟨true, rfl, fun _ => HA.out, rfl⟩

def SizeOut (s : ByteArray) (w : World) (e : Ending) (w' : World) : Prop := ∃ (n : Int) (b : Bool) (pos : Nat), e = .returned (.tuple #[.int .i64 n, .bool b]) ∧ w' = w.iter s pos

theorem width_pos (s : ByteArray) (pos : Nat) (h : pos < s.size) : 1 ≤ (Utf8.decode s pos).2 := by
  by_cases ha : (s[pos]'h).toNat < 128
  · rw [decode_ascii s pos h ha]
    exact Nat.le_refl _
  · exact (decode_high s pos h (by omega)).2

set_option maxRecDepth 100000 in
set_option maxHeartbeats 400000 in
theorem size_any (s : ByteArray) (w : World) : Calls Try.prog 9 #[.string s] w (SizeOut s w) := by
  go_enter Try.func9, Try.ntmps9
  go_wp2
  go_loopw [4, 5, 7] (fun n b _ w' => ∃ (pos : Nat) (n' : Int) (b' : Bool), w' = w.iter s pos ∧ n = .int .i64 n' ∧ b = .bool b') (fun _ _ _ w' => s.size - w'.iterPos w.heap.size)
  case atStart => exact ⟨0, _, _, rfl, rfl, rfl⟩
  case round =>
    obtain ⟨pos, n, b, rfl, rfl, rfl⟩ := hrel
    by_cases hp : pos < s.size
    · have hnx : ∀ ty, (Instr.next (.pointer (some ⟨w.heap.size, 0, none⟩)) true ty).run Try.prog (w.iter s pos) = _ := fun ty => run_next_any w s pos ty hp
      have hwd := hid (width_pos s pos hp)
      go_wp2
      all_goals
        go_roundw
        case rel => exact ⟨_, _, _, rfl, rfl, rfl⟩
        case measure =>
          have := hwd.out
          simp
          omega
    · have hnx : ∀ ty, (Instr.next (.pointer (some ⟨w.heap.size, 0, none⟩)) true ty).run Try.prog (w.iter s pos) = _ := fun ty => run_next_end w s pos ty hp
      go_wp2
      go_ret2
      exact ⟨_, _, _, rfl, rfl⟩

theorem iter_below (w : World) (s : ByteArray) (pos : Nat) : Below w.heap.size w (w.iter s pos) := (Below.refl _ _).alloc (Nat.le_refl _) _
end Go.Proofs.Yteacbdelbgoaaaa

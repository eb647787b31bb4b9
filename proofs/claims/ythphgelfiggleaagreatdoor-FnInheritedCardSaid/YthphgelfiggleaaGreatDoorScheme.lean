/-
  zzCut, zzContains, stringContainsCTLByte, getScheme, parseHost and parseAuthority of package neturl, at the plain references of which the law speaks.
-/
import Derived.Test.YthphgelfiggleaaGreatDoorEsc
import Derived.Test.YthphgelfiggleaaGreatDoorParse
import Derived.Test.YthphgelfiggleaaGreatDoorShelf
import Derived.Test.YthphgelfiggleaaGreatDoorPlain
namespace Go.Proofs.YthphgelfiggleaaGreatDoor
open Go.RowKit

/-- c stands nowhere in s. -/
theorem ix_of_no {s : ByteArray} {c : UInt8} (h : ∀ x ∈ s.data.toList, x.toNat ≠ c.toNat) : Ix s c s.size :=
  ⟨Nat.le_refl _, fun j hj _ e => h _ (byte_mem s j hj) (by rw [e]), fun h => absurd h (Nat.lt_irrefl _)⟩

set_option maxHeartbeats 400000 in
theorem zzcut_none (s : ByteArray) (c : UInt8) (w : World) (hs : s.size ≤ 4294967296) (hn : ∀ x ∈ s.data.toList, x.toNat ≠ c.toNat) :
    Calls Tryz.prog 37 #[.string s, .string ⟨#[c]⟩] w (Same (.tuple #[.string s, .string ⟨#[]⟩, .bool false]) w) := by
  have hT := ix_of_no hn
  clear hn
  go_enter Tryz.func37, Tryz.ntmps37
  go_wp2_with fail
  refine (nx_none s c w (by omega) hT).mono ?_
  rintro e w' ⟨rfl, rfl⟩
  go_wp2
  go_ret3
  exact ⟨rfl, rfl⟩

def CutSome (s : ByteArray) (T : Nat) (w : World) (e : Ending) (w' : World) : Prop :=
  ∃ a b : ByteArray, e = .returned (.tuple #[.string a, .string b, .bool true]) ∧ a.data.toList = s.data.toList.take T ∧ b.data.toList = s.data.toList.drop (T + 1) ∧ Below w.heap.size w w'

set_option maxHeartbeats 400000 in
theorem zzcut_some (s : ByteArray) (c : UInt8) (T : Nat) (w : World) (hs : s.size ≤ 4294967296) (hT : Ix s c T) (hlt : T < s.size) :
    Calls Tryz.prog 37 #[.string s, .string ⟨#[c]⟩] w (CutSome s T w) := by
  go_enter Tryz.func37, Tryz.ntmps37
  go_wp2_with fail
  refine (nx_some s c T w (by omega) hT hlt).mono ?_
  rintro e w' ⟨rfl, rfl⟩
  have h0 : (0 : Int) ≤ (T : Int) := by omega
  go_wp2
  go_quiet (fail)
  go_wp2
  go_ret3
  exact ⟨_, _, rfl, take_of s T, drop_of s (T + 1), below_drewN (Below.refl _ _) _⟩

set_option maxHeartbeats 400000 in
theorem zzcont_none (s : ByteArray) (c : UInt8) (w : World) (hs : s.size ≤ 4294967296) (hn : ∀ x ∈ s.data.toList, x.toNat ≠ c.toNat) :
    Calls Tryz.prog 38 #[.string s, .string ⟨#[c]⟩] w (Same (.bool false) w) := by
  have hT := ix_of_no hn
  clear hn
  go_enter Tryz.func38, Tryz.ntmps38
  go_wp2_with fail
  refine (nx_none s c w (by omega) hT).mono ?_
  rintro e w' ⟨rfl, rfl⟩
  go_wp2
  go_ret
  exact ⟨rfl, rfl⟩

set_option maxHeartbeats 400000 in
theorem ctl_none (s : ByteArray) (w : World) (hs : s.size ≤ 4294967296) (hn : ∀ x ∈ s.data.toList, 32 ≤ x.toNat ∧ x.toNat ≠ 127) :
    Calls Tryz.prog 54 #[.string s] w (Same (.bool false) w) := by
  have HN := hid hn
  clear hn
  go_enter Tryz.func54, Tryz.ntmps54
  go_wp2
  go_loop [3] (fun i => ∃ k : Nat, k ≤ s.size ∧ i = .int .i64 k) (fun i => s.size - (intOf i).toNat)
  case atStart => exact ⟨0, Nat.zero_le _, rfl⟩
  case round =>
    obtain ⟨k, hk, rfl⟩ := hrel
    by_cases hlt : k < s.size
    · obtain ⟨n1, n2⟩ := HN.out _ (byte_mem s k hlt)
      have b2 : (((s[k].toNat : Nat) : Int) == 127) = false := by rw [beq_eq_false_iff_ne]; omega
      go_wp2
      go_round
      case rel => exact ⟨k + 1, by omega, by go_num⟩
      case measure => simp [intOf]; omega
    · go_wp2
      go_ret
      exact ⟨rfl, rfl⟩

set_option maxRecDepth 100000 in
set_option maxHeartbeats 800000 in
/-- No scheme: a path. -/
theorem scheme_none (s : ByteArray) (w : World) (hs : s.size ≤ 4294967296) (hp : PathAll s) :
    Calls Tryz.prog 55 #[.string s] w (Same (.tuple #[.string ⟨#[]⟩, .string s, .nilIface]) w) := by
  have HN := hid hp
  clear hp
  go_enter Tryz.func55, Tryz.ntmps55
  go_wp2
  go_loop [5] (fun i => ∃ k : Nat, k ≤ s.size ∧ i = .int .i64 k) (fun i => s.size - (intOf i).toNat)
  case atStart => exact ⟨0, Nat.zero_le _, rfl⟩
  case round =>
    obtain ⟨k, hk, rfl⟩ := hrel
    by_cases hlt : k < s.size
    · have hpn := path_nums (HN.out _ (byte_mem s k hlt))
      have b1 : (((s[k].toNat : Nat) : Int) == 58) = false := by rw [beq_eq_false_iff_ne]; omega
      have b2 : (((s[k].toNat : Nat) : Int) == 43) = false := by rw [beq_eq_false_iff_ne]; omega
      clear hpn
      go_wp2
      all_goals first
        | (go_round
           case rel => exact ⟨k + 1, by omega, by go_num⟩
           case measure => simp [intOf]; omega)
        | (go_ret3
           exact ⟨rfl, rfl⟩)
    · go_wp2
      go_ret3
      exact ⟨rfl, rfl⟩

def SchemeOut (s : ByteArray) (w : World) (e : Ending) (w' : World) : Prop :=
  ∃ a b : ByteArray, e = .returned (.tuple #[.string a, .string b, .nilIface]) ∧ a.data.toList = [104, 116, 116, 112] ∧ b.data.toList = s.data.toList.drop 5 ∧ Below w.heap.size w w'

theorem http_bytes {s : ByteArray} {r : Bytes} (h : s.data.toList = http ++ r) : 7 ≤ s.size ∧ s.data.toList.take 4 = [104, 116, 116, 112] ∧ (∀ j, (hj : j < s.size) → j < 4 → 97 ≤ s[j].toNat ∧ s[j].toNat ≤ 122) ∧ ∀ h4 : 4 < s.size, s[4].toNat = 58 := by
  have hl := congrArg List.length h
  have hl7 : s.data.toList.length = s.size := Array.length_toList
  rw [hl7] at hl
  have hz : 7 ≤ s.size := by rw [hl, List.length_append]; simp [http]
  have hb : ∀ j, (hj : j < s.size) → s.data.toList[j]? = some s[j] := fun j hj => List.getElem?_eq_getElem (by rw [hl7]; exact hj)
  refine ⟨hz, by rw [h]; rfl, fun j hj h4 => ?_, fun h4 => ?_⟩
  · have h1 := hb j hj
    rw [h] at h1
    have hj4 : j = 0 ∨ j = 1 ∨ j = 2 ∨ j = 3 := by omega
    have e : s[j].toNat = 104 ∨ s[j].toNat = 116 ∨ s[j].toNat = 112 := by
      rcases hj4 with rfl | rfl | rfl | rfl
      · exact .inl (by rw [← Option.some.inj h1]; rfl)
      · exact .inr (.inl (by rw [← Option.some.inj h1]; rfl))
      · exact .inr (.inl (by rw [← Option.some.inj h1]; rfl))
      · exact .inr (.inr (by rw [← Option.some.inj h1]; rfl))
    omega
  · have h1 := hb 4 h4
    rw [h] at h1
    rw [← Option.some.inj h1]
    rfl

set_option maxRecDepth 100000 in
set_option maxHeartbeats 800000 in
/-- The scheme http. -/
theorem scheme_http (s : ByteArray) (r : Bytes) (w : World) (hs : s.size ≤ 4294967296) (hp : s.data.toList = http ++ r) : Calls Tryz.prog 55 #[.string s] w (SchemeOut s w) := by
  obtain ⟨h7, h4l, hb, h58⟩ := http_bytes hp
  have HB := hid hb
  have H58 := hid h58
  have HL := hid h4l
  clear hp hb h58 h4l
  go_enter Tryz.func55, Tryz.ntmps55
  go_wp2
  go_loop [5] (fun i => ∃ k : Nat, k ≤ 4 ∧ i = .int .i64 k) (fun i => s.size - (intOf i).toNat)
  case atStart => exact ⟨0, Nat.zero_le _, rfl⟩
  case round =>
    obtain ⟨k, hk, rfl⟩ := hrel
    have hlt : k < s.size := by omega
    by_cases hk4 : k < 4
    · obtain ⟨n1, n2⟩ := HB.out k hlt hk4
      go_wp2
      go_round
      case rel => exact ⟨k + 1, by omega, by go_num⟩
      case measure => simp [intOf]; omega
    · obtain rfl : k = 4 := by omega
      have n1 := H58.out hlt
      have b1 : (((s[4].toNat : Nat) : Int) == 58) = true := by rw [beq_iff_eq]; omega
      have b2 : (((s[4].toNat : Nat) : Int) == 43) = false := by rw [beq_eq_false_iff_ne]; omega
      have b3 : (((s[4].toNat : Nat) : Int) == 45) = false := by rw [beq_eq_false_iff_ne]; omega
      have b4 : (((s[4].toNat : Nat) : Int) == 46) = false := by rw [beq_eq_false_iff_ne]; omega
      have b5 : (57 : Int) < ((s[4].toNat : Nat) : Int) := by omega
      have b6 : ((s[4].toNat : Nat) : Int) < 65 := by omega
      clear n1
      go_wp2
      go_quiet (fail)
      go_wp2
      go_ret3
      exact ⟨_, _, rfl, by rw [take_of]; exact HL.out, drop_of s 5, below_drewN (Below.refl _ _) _⟩
end Go.Proofs.YthphgelfiggleaaGreatDoor

/-
  shouldEscape, unescape and escape of package neturl: plain paths, fragments and hosts come back as they are. Condition: the world holds the package's table.
-/
import Derived.Test.YthphgelfiggleaaGreatDoorFrag
import Derived.Lib.ConvBytes
namespace Go.Proofs.YthphgelfiggleaaGreatDoor
open Go.RowKit

/-- The table of package neturl, number by number. -/
def tabZ : List Int := [0, 0, 0, 0, 0, 0, 0, 0, 0, 0, 0, 0, 0, 0, 0, 0, 0, 0, 0, 0, 0, 0, 0, 0, 0, 0, 0, 0, 0, 0, 0, 0, 0, 76, 12, 0, 95, 0, 95, 12, 76, 76, 76, 95, 93, 127, 127, 65, 255, 255, 255, 255, 255, 255, 255, 255, 255, 255, 79, 93, 12, 95, 12, 64, 67, 255, 255, 255, 255, 255, 255, 127, 127, 127, 127, 127, 127, 127, 127, 127, 127, 127, 127, 127, 127, 127, 127, 127, 127, 127, 127, 12, 0, 12, 0, 127, 0, 255, 255, 255, 255, 255, 255, 127, 127, 127, 127, 127, 127, 127, 127, 127, 127, 127, 127, 127, 127, 127, 127, 127, 127, 127, 127, 0, 0, 0, 127, 0, 0, 0, 0, 0, 0, 0, 0, 0, 0, 0, 0, 0, 0, 0, 0, 0, 0, 0, 0, 0, 0, 0, 0, 0, 0, 0, 0, 0, 0, 0, 0, 0, 0, 0, 0, 0, 0, 0, 0, 0, 0, 0, 0, 0, 0, 0, 0, 0, 0, 0, 0, 0, 0, 0, 0, 0, 0, 0, 0, 0, 0, 0, 0, 0, 0, 0, 0, 0, 0, 0, 0, 0, 0, 0, 0, 0, 0, 0, 0, 0, 0, 0, 0, 0, 0, 0, 0, 0, 0, 0, 0, 0, 0, 0, 0, 0, 0, 0, 0, 0, 0, 0, 0, 0, 0, 0, 0, 0, 0, 0, 0, 0, 0, 0, 0, 0, 0, 0, 0, 0, 0, 0, 0, 0, 0, 0, 0, 0]

/-- The world holds the table of package neturl. -/
def Tab (w : World) : Prop := 0 < w.heap.size ∧ ∀ i, i < 256 → w.cell? ⟨0, i, none⟩ = some (.int .u8 (tabZ.getD i 0))

theorem Tab.keep {w w' : World} (h : Tab w) (hb : Below w.heap.size w w') : Tab w' :=
  ⟨Nat.lt_of_lt_of_le h.1 hb.size, fun i hi => (hb.cell (p := ⟨0, i, none⟩) h.1).trans (h.2 i hi)⟩
theorem Tab.drew {w : World} (h : Tab w) : Tab w.drew := h
theorem Tab.alloc {w : World} (h : Tab w) (o : Obj) : Tab (w.alloc o) := h.keep ((Below.refl _ _).alloc (Nat.le_refl _) o)

def segQ (n : Nat) : Bool := (97 ≤ n && n ≤ 122) || (65 ≤ n && n ≤ 90) || (48 ≤ n && n ≤ 57) || n == 45 || n == 95 || n == 46
theorem segQ_of {n : Nat} (h : SegN n) : segQ n = true := by
  unfold SegN at h
  simp only [segQ, Bool.or_eq_true, Bool.and_eq_true, decide_eq_true_eq, beq_iff_eq]
  omega
theorem tab_bits : ((List.range 256).all fun n => !(segQ n || n == 47) || (!(bits .and .u8 (tabZ.getD n 0) 1 == 0) && !(bits .and .u8 (tabZ.getD n 0) 64 == 0) && (!segQ n || !(bits .and .u8 (tabZ.getD n 0) 4 == 0)))) = true := by kernel_rfl

theorem path_bits {n : Nat} (hn : n < 256) (h : PathN n) : (bits .and .u8 (tabZ.getD n 0) 1 == 0) = false ∧ (bits .and .u8 (tabZ.getD n 0) 64 == 0) = false := by
  have h1 := List.all_eq_true.1 tab_bits n (List.mem_range.2 hn)
  have h2 : (segQ n || n == 47) = true := by
    rcases h with h | h
    · rw [segQ_of h]; rfl
    · rw [h]; rfl
  rw [h2] at h1
  simp only [Bool.not_true, Bool.false_or, Bool.and_eq_true, Bool.not_eq_true'] at h1
  exact h1.1

theorem seg_bits {n : Nat} (hn : n < 256) (h : SegN n) : (bits .and .u8 (tabZ.getD n 0) 4 == 0) = false := by
  have h1 := List.all_eq_true.1 tab_bits n (List.mem_range.2 hn)
  rw [segQ_of h] at h1
  simp only [Bool.true_or, Bool.not_true, Bool.false_or, Bool.and_eq_true, Bool.not_eq_true'] at h1
  exact h1.2

def Same (v : Value) (w : World) (e : Ending) (w' : World) : Prop := e = .returned v ∧ w = w'

set_option maxHeartbeats 400000 in
theorem shesc (c : Nat) (z m : Int) (w : World) (hc : w.cell? ⟨0, c, none⟩ = some (.int .u8 z)) (h256 : c < 256) (hz : (bits .and .u8 z m == 0) = false) :
    Calls Tryz.prog 51 #[.int .u8 c, .int .u8 m] w (Same (.bool false) w) := by
  go_enter Tryz.func51, Tryz.ntmps51
  go_wp2
  go_ret
  exact ⟨rfl, rfl⟩

def PathAll (s : ByteArray) : Prop := ∀ c ∈ s.data.toList, PathN c.toNat

theorem byte_mem (s : ByteArray) (k : Nat) (h : k < s.size) : s[k] ∈ s.data.toList := by
  have hl : k < s.data.toList.length := by rw [Array.length_toList]; exact h
  exact List.getElem_mem hl

theorem path_nums {n : Nat} (h : PathN n) : n ≠ 37 ∧ n ≠ 43 ∧ n < 128 ∧ n ≠ 32 ∧ 32 ≤ n ∧ n ≠ 127 ∧ n ≠ 58 ∧ n ≠ 35 ∧ n ≠ 63 ∧ n ≠ 42 ∧ n ≠ 64 ∧ n ≠ 91 := by
  unfold PathN SegN at h
  omega

set_option maxRecDepth 100000 in
set_option maxHeartbeats 800000 in
theorem unesc_path (s : ByteArray) (m : Int) (w : World) (hs : s.size ≤ 4294967296) (hm : m = 1 ∨ m = 64) (hp : PathAll s) :
    Calls Tryz.prog 45 #[.string s, .int .u8 m] w (Same (.tuple #[.string s, .nilIface]) w) := by
  have HPA := hid hp
  have m4 : (m == 4) = false := by rcases hm with rfl | rfl <;> rfl
  have m8 : (m == 8) = false := by rcases hm with rfl | rfl <;> rfl
  have m32 : (m == 32) = false := by rcases hm with rfl | rfl <;> rfl
  clear hp hm
  go_enter Tryz.func45, Tryz.ntmps45
  go_wp2
  go_loop [0, 6, 7, 8] (fun t n b i => ∃ k : Nat, k ≤ s.size ∧ i = .int .i64 k ∧ n = .int .i64 0 ∧ b = .bool false ∧ t = .string s) (fun _ _ _ i => s.size - (intOf i).toNat)
  case atStart => exact ⟨0, Nat.zero_le _, rfl, rfl, rfl, rfl⟩
  case round =>
    obtain ⟨k, hk, rfl, rfl, rfl, rfl⟩ := hrel
    by_cases hlt : k < s.size
    · obtain ⟨n1, n2, _⟩ := path_nums (HPA.out _ (byte_mem s k hlt))
      have b1 : (((s[k].toNat : Nat) : Int) == 37) = false := by rw [beq_eq_false_iff_ne]; omega
      have b2 : (((s[k].toNat : Nat) : Int) == 43) = false := by rw [beq_eq_false_iff_ne]; omega
      go_wp2
      go_round
      case rel => exact ⟨k + 1, by omega, by go_num, rfl, rfl, rfl⟩
      case measure => simp [intOf]; omega
    · go_wp2
      go_ret2
      exact ⟨rfl, rfl⟩

set_option maxRecDepth 100000 in
set_option maxHeartbeats 800000 in
theorem unesc_host (s : ByteArray) (w : World) (hs : s.size ≤ 4294967296) (hT : Tab w) (hp : SegB s) :
    Calls Tryz.prog 45 #[.string s, .int .u8 4] w (Same (.tuple #[.string s, .nilIface]) w) := by
  have HPA := hid hp
  have HTT := hid hT
  clear hp hT
  go_enter Tryz.func45, Tryz.ntmps45
  go_wp2
  go_loop [0, 6, 7, 8] (fun t n b i => ∃ k : Nat, k ≤ s.size ∧ i = .int .i64 k ∧ n = .int .i64 0 ∧ b = .bool false ∧ t = .string s) (fun _ _ _ i => s.size - (intOf i).toNat)
  case atStart => exact ⟨0, Nat.zero_le _, rfl, rfl, rfl, rfl⟩
  case round =>
    obtain ⟨k, hk, rfl, rfl, rfl, rfl⟩ := hrel
    by_cases hlt : k < s.size
    · have hsk := HPA.out _ (byte_mem s k hlt)
      obtain ⟨n1, n2, n3, _⟩ := path_nums (.inl hsk)
      have b1 : (((s[k].toNat : Nat) : Int) == 37) = false := by rw [beq_eq_false_iff_ne]; omega
      have b2 : (((s[k].toNat : Nat) : Int) == 43) = false := by rw [beq_eq_false_iff_ne]; omega
      have HC := hid (shesc s[k].toNat _ 4 w (HTT.out.2 _ (by omega)) (by omega) (seg_bits (by omega) hsk))
      clear hsk
      go_wp2_with (go_at_call 51; refine HC.out.mono ?_; rintro e w' ⟨rfl, rfl⟩)
      go_round
      case rel => exact ⟨k + 1, by omega, by go_num, rfl, rfl, rfl⟩
      case measure => simp [intOf]; omega
    · go_wp2
      go_ret2
      exact ⟨rfl, rfl⟩

def SameB (v : Value) (w : World) (e : Ending) (w' : World) : Prop := e = .returned v ∧ Below w.heap.size w w'

theorem bytes_below (w : World) (s : ByteArray) : Below w.heap.size w (Lib.bytesWorld w 5 s) :=
  ⟨rfl, rfl, rfl, by rw [Lib.bytesWorld_size]; omega, fun k hk => Lib.bytesWorld_at_old w 5 s k hk⟩

set_option maxRecDepth 100000 in
set_option maxHeartbeats 800000 in
theorem esc_any (s : ByteArray) (m : Int) (w : World) (hs : s.size ≤ 1000000) (hT : Tab w) (hp : ∀ c ∈ s.data.toList, (bits .and .u8 (tabZ.getD c.toNat 0) m == 0) = false) :
    Calls Tryz.prog 34 #[.string s, .int .u8 m] w (SameB (.string s) w) := by
  have HPA := hid hp
  have hcv := Lib.run_convert_string_bytes (P := Tryz.prog) w 9 64 5 s Tryz.underlying9 Tryz.underlying64 Tryz.underlying5
  have HTT := hid (hT.keep (bytes_below w s))
  have HBW := hid (bytes_below w s)
  have hcells := hid (Lib.bytesWorld_cell w 5 s)
  clear hp hT
  generalize Lib.bytesWorld w 5 s = wb at *
  go_enter Tryz.func34, Tryz.ntmps34
  go_wp2
  go_loop [5, 6, 19] (fun a b i => ∃ k : Nat, k ≤ s.size ∧ i = .int .i64 k ∧ a = .int .i64 0 ∧ b = .int .i64 0) (fun _ _ i => s.size - (intOf i).toNat)
  case atStart => exact ⟨0, Nat.zero_le _, rfl, rfl, rfl⟩
  case round =>
    obtain ⟨k, hk, rfl, rfl, rfl⟩ := hrel
    by_cases hlt : k < s.size
    · have hc := hcells.out k hlt
      have hgd : s.data.toList.getD k 0 = s[k] := by
        have hl : k < s.data.toList.length := by rw [Array.length_toList]; exact hlt
        rw [List.getD, List.getElem?_eq_getElem hl]
        rfl
      rw [hgd] at hc
      have hm := HPA.out _ (byte_mem s k hlt)
      have h256 := s[k].toNat_lt
      have HC := hid (shesc s[k].toNat _ m wb (HTT.out.2 _ h256) h256 hm)
      clear hm hgd
      go_wp2_with (go_at_call 51; refine HC.out.mono ?_; rintro e w' ⟨rfl, rfl⟩)
      go_round
      case rel => exact ⟨k + 1, by omega, by go_num, rfl, rfl⟩
      case measure => simp [intOf]; omega
    · go_wp2
      go_ret
      exact ⟨rfl, HBW.out⟩
end Go.Proofs.YthphgelfiggleaaGreatDoor

/-
  segments of package spec: the pieces of a path between its slashes, none of which holds a slash.
-/
import Derived.Test.YthphgelfiggleaaGreatDoorSeg
namespace Go.Proofs.YthphgelfiggleaaGreatDoor
open Go.RowKit

/-- No slash stands in x. -/
def NoSl (x : ByteArray) : Prop := ∀ c ∈ x.data.toList, c.toNat ≠ 47

/-- The pieces of l between its slashes are the xs. -/
structure Pieces (l : List UInt8) (xs : List ByteArray) : Prop where
  ne : xs ≠ []
  eq : pre 47 xs.dropLast ++ (xs.getLast?.getD ⟨#[]⟩).data.toList = l
  no : ∀ x ∈ xs, NoSl x

/-- What segments returns: a slice of its own whose strings are the pieces. -/
def SegsOut (s : ByteArray) (w : World) (e : Ending) (w' : World) : Prop :=
  ∃ (g cap : Nat) (xs : List ByteArray), e = .returned (.slice (some ⟨g, 0, none⟩) xs.length cap) ∧ w'.ownsRow w.heap.size 9 1 (.slice (some ⟨g, 0, none⟩) xs.length cap) xs.length (strV xs) ∧
    Below w.heap.size w w' ∧ Pieces s.data.toList xs ∧ xs.length ≤ s.size + 1

/-- What holds at a round's head: k bytes are read, xs the pieces, t the piece under way. -/
structure SegsAt (B : Nat) (w : World) (s : ByteArray) (k : Nat) (xs : List ByteArray) (t : ByteArray) (v : Value) (wr : World) : Prop where
  pos : k ≤ s.size
  few : xs.length ≤ k
  short : t.size ≤ k
  own : wr.ownsRow B 9 1 v xs.length (strV xs)
  below : Below B w wr
  eq : pre 47 xs ++ t.data.toList = s.data.toList.take k
  no : ∀ x ∈ xs, NoSl x
  not_ : NoSl t

theorem take_snoc (s : ByteArray) (k : Nat) (h : k < s.size) : s.data.toList.take (k + 1) = s.data.toList.take k ++ [s[k]] := by
  rw [List.take_succ_eq_append_getElem (by simpa using h)]
  rfl

theorem segs_cut {B : Nat} {w wr w1 : World} {s t : ByteArray} {k : Nat} {v v' : Value} {xs : List ByteArray} {o : Obj} (h : SegsAt B w s k xs t v wr) (hB : B ≤ wr.heap.size) (hk : k < s.size) (h47 : s[k].toNat = 47)
    (hown : w1.ownsRow B 9 1 v' (xs.length + 1) (strV xs ++ [.string t])) (hg : (wr.alloc o).grownBy w1 v.ownBlock) : SegsAt B w s (k + 1) (xs ++ [t]) ⟨#[]⟩ v' w1 := by
  refine ⟨hk, by rw [List.length_append]; exact Nat.succ_le_succ h.few, Nat.zero_le _, by rw [List.length_append, ← strV_snoc]; exact hown, (h.below.alloc hB o).grown hg (by simp; omega) (fun j hj => (h.own.lt j hj).1), ?_, ?_, fun c hc => by cases hc⟩
  · have e : s[k] = 47 := UInt8.toNat_inj.1 h47
    rw [take_snoc s k hk, ← h.eq, pre_snoc, e]
    simp
  · intro x hx
    rcases List.mem_append.1 hx with hx | hx
    · exact h.no x hx
    · rw [List.mem_singleton.1 hx]; exact h.not_

theorem segs_on {B : Nat} {w wr : World} {s t : ByteArray} {k : Nat} {v : Value} {xs : List ByteArray} (h : SegsAt B w s k xs t v wr) (hk : k < s.size) (h47 : ¬ s[k].toNat = 47) : SegsAt B w s (k + 1) xs (t ++ s.extract k (k + 1)) v wr := by
  have e1 : (s.extract k (k + 1)).data.toList = [s[k]] := by rw [← ByteArray.toList_eq]; exact one_byte s k hk
  refine ⟨hk, Nat.le_succ_of_le h.few, ?_, h.own, h.below, ?_, h.no, ?_⟩
  · have := h.short
    rw [ByteArray.size_append, ByteArray.size_extract]
    omega
  · rw [take_snoc s k hk, ← h.eq, ByteArray.data_append, Array.toList_append, e1, List.append_assoc]
  · intro c hc
    rw [ByteArray.data_append, Array.toList_append, e1] at hc
    rcases List.mem_append.1 hc with hc | hc
    · exact h.not_ c hc
    · rw [List.mem_singleton.1 hc]; exact h47

theorem segs_end {B : Nat} {w wr w1 : World} {s t : ByteArray} {v v' : Value} {xs : List ByteArray} {o : Obj} (h : SegsAt B w s s.size xs t v wr) (hB : B ≤ wr.heap.size)
    (hown : w1.ownsRow B 9 1 v' (xs.length + 1) (strV xs ++ [.string t])) (hg : (wr.alloc o).grownBy w1 v.ownBlock) :
    w1.ownsRow B 9 1 v' (xs ++ [t]).length (strV (xs ++ [t])) ∧ Below B w w1 ∧ Pieces s.data.toList (xs ++ [t]) ∧ (xs ++ [t]).length ≤ s.size + 1 := by
  refine ⟨by rw [List.length_append, ← strV_snoc]; exact hown, (h.below.alloc hB o).grown hg (by simp; omega) (fun j hj => (h.own.lt j hj).1), ⟨by simp, ?_, ?_⟩, by have := h.few; rw [List.length_append]; exact Nat.succ_le_succ this⟩
  · rw [List.dropLast_concat, List.getLast?_concat]
    show pre 47 xs ++ t.data.toList = _
    rw [h.eq, List.take_of_length_le (by rw [Array.length_toList]; exact Nat.le_refl _)]
  · intro x hx
    rcases List.mem_append.1 hx with hx | hx
    · exact h.no x hx
    · rw [List.mem_singleton.1 hx]; exact h.not_

set_option maxRecDepth 100000 in
set_option maxHeartbeats 800000 in
theorem segs_any (s : ByteArray) (w : World) (hs : s.size ≤ 4294967296) : Calls Tryz.prog 8 #[.string s] w (SegsOut s w) := by
  obtain ⟨i0, hi, hz0, hz1, hz2⟩ := info_parts info9
  go_enter Tryz.func8, Tryz.ntmps8
  go_wp2
  go_loopw [3, 4, 5] (fun v own i wr => ∃ (k : Nat) (t : ByteArray) (xs : List ByteArray), i = .int .i64 k ∧ own = .string t ∧ SegsAt w.heap.size w s k xs t v wr) (fun _ _ i _ => s.size - (intOf i).toNat)
  case atStart => exact ⟨0, ⟨#[]⟩, [], rfl, rfl, Nat.zero_le _, Nat.zero_le _, Nat.zero_le _, World.ownsRow_made _ _ _ (Nat.le_refl _) (by decide) rfl, (Below.refl _ _).alloc (Nat.le_refl _) _, by simp [pre], (fun _ h => by cases h), (fun _ h => by cases h)⟩
  case round =>
    obtain ⟨k, t, xs, rfl, rfl, hr⟩ := hrel
    have hown := hr.own
    have hk := hr.pos
    have hn := hr.few
    have ht := hr.short
    have hB : w.heap.size ≤ wr.heap.size := hr.below.size
    have HR := hid hr
    clear hr
    by_cases hlt : k < s.size
    · by_cases c47 : s[k].toNat = 47
      · go_wp2_with (at_builtin; refine wpList_append_own _ rfl (.tmp 17) (.tmp 19) 30 rfl w.heap.size 9 i0 (.string ⟨#[]⟩) 1 16 Tryz.underlying30 hi hz0 hz1 hz2 rfl (by decide) _ _ _ rfl (hown.alloc _) ⟨wr.heap.size, 0, none⟩ 1 1 [.string t] rfl rfl ?c1 ?c2 ?c3 ?c4 ?c5 ?_)
        case c1 => exact new_one _ _ _
        case c2 => simp [Value.oneCell']
        case c3 => unfold maxLen; omega
        case c4 => omega
        case c5 => simp; omega
        intro v' w1 hown1 hg1 _
        have hst := hid (segs_cut HR.out hB hlt c47 hown1 hg1)
        clear hown1 hg1 hown
        go_wp2
        go_roundw
        case rel => exact ⟨k + 1, _, _, by go_num, rfl, hst.out⟩
        case measure => simp [intOf]; omega
      · have hst := hid (segs_on HR.out hlt c47)
        go_wp2
        go_roundw
        case rel => exact ⟨k + 1, _, _, by go_num, rfl, hst.out⟩
        case measure => simp [intOf]; omega
    · obtain rfl : k = s.size := by omega
      go_wp2_with (at_builtin; refine wpList_append_own _ rfl (.tmp 28) (.tmp 30) 30 rfl w.heap.size 9 i0 (.string ⟨#[]⟩) 1 16 Tryz.underlying30 hi hz0 hz1 hz2 rfl (by decide) _ _ _ rfl (hown.alloc _) ⟨wr.heap.size, 0, none⟩ 1 1 [.string t] rfl rfl ?d1 ?d2 ?d3 ?d4 ?d5 ?_)
      case d1 => exact new_one _ _ _
      case d2 => simp [Value.oneCell']
      case d3 => unfold maxLen; omega
      case d4 => omega
      case d5 => simp; omega
      intro v' w1 hown1 hg1 _
      have hst := segs_end HR.out hB hown1 hg1
      obtain ⟨g, cap, hv, _, _⟩ := owned_at hst.1 (by simp)
      rw [hv] at hst ⊢
      have HS := hid hst
      clear hown1 hg1 hown hst hv
      go_wp2
      go_ret
      exact ⟨g, cap, xs ++ [t], rfl, HS.out⟩
end Go.Proofs.YthphgelfiggleaaGreatDoor

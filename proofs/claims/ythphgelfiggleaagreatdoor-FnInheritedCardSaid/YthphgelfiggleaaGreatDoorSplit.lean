/-
  zzSplit of package gojsonpointer at a separator of one byte returns pieces that, joined by it, are the string.
-/
import Derived.Test.YthphgelfiggleaaGreatDoorIx
import Derived.Lib.Join
namespace Go.Proofs.YthphgelfiggleaaGreatDoor
open Go.RowKit

theorem info9 : (Tryz.prog.info? 9).map (fun i => (i.zero, i.size, i.bytes)) = some (some (.string ⟨#[]⟩), 1, 16) := by kernel_rfl

/-- The pieces ahead, each with the separator behind it. -/
def pre (c : UInt8) (xs : List ByteArray) : List UInt8 := (xs.map fun x => x.data.toList ++ [c]).flatten
def strV (xs : List ByteArray) : List Value := xs.map Value.string
def strSize : Value → Nat | .string t => t.size | _ => 0

theorem pre_snoc (c : UInt8) (xs : List ByteArray) (x : ByteArray) : pre c (xs ++ [x]) = pre c xs ++ (x.data.toList ++ [c]) := by simp [pre]
theorem strV_snoc (xs : List ByteArray) (x : ByteArray) : strV xs ++ [.string x] = strV (xs ++ [x]) := by simp [strV]

/-- What holds at a round's head: the pieces in xs, the rest t. -/
structure SplitAt (B : Nat) (w : World) (s : ByteArray) (c : UInt8) (v : Value) (wr : World) (xs : List ByteArray) (t : ByteArray) : Prop where
  own : wr.ownsRow B 9 1 v xs.length (strV xs)
  below : Below B w wr
  eq : pre c xs ++ t.data.toList = s.data.toList
  len : xs.length + t.size ≤ s.size

theorem new_one (w : World) (x : Value) (t : TypeId) : ∀ j u, [x][j]? = some u → (w.alloc (.cells #[x] t)).cell? ((⟨w.heap.size, 0, none⟩ : Addr).add j) = some u := by
  intro j u hu
  rcases j with _ | j
  · simp at hu
    subst hu
    simp only [Addr.add]
    rw [if_pos trivial, World.cell?_alloc_at _ _ _ _ rfl]
    rfl
  · simp at hu

theorem cut_at (r : ByteArray) (c : UInt8) (T : Nat) (hT : Ix r c T) (hlt : T < r.size) :
    (r.extract 0 T).data.toList ++ [c] ++ (r.extract (T + 1) r.size).data.toList = r.data.toList := by
  have e : r.data.toList[T]? = some c := by
    rw [List.getElem?_eq_getElem (by simpa using hlt)]
    exact congrArg some (hT.at_ hlt)
  have h1 : r.data.toList = r.data.toList.take T ++ [c] ++ r.data.toList.drop (T + 1) := by
    rw [List.append_assoc, List.singleton_append]
    have h2 : r.data.toList.drop T = c :: r.data.toList.drop (T + 1) := by
      rw [List.drop_eq_getElem_cons (by simpa using hlt)]
      congr 1
      rw [List.getElem?_eq_getElem (by simpa using hlt)] at e
      exact Option.some.inj e
    rw [← h2, List.take_append_drop]
  have h3 : (r.extract 0 T).data.toList = r.data.toList.take T := by simp [ByteArray.data_extract]
  have h4 : (r.extract (T + 1) r.size).data.toList = r.data.toList.drop (T + 1) := by
    rw [ByteArray.data_extract, Array.toList_extract]
    show List.take (r.size - (T + 1)) (List.drop (T + 1) r.data.toList) = _
    exact List.take_of_length_le (by rw [List.length_drop, Array.length_toList]; exact Nat.le_refl _)
  rw [h3, h4]
  exact h1.symm

theorem split_step {B : Nat} {w wr w1 : World} {s r : ByteArray} {c : UInt8} {v v' : Value} {xs : List ByteArray} {T : Nat} {o : Obj} (h : SplitAt B w s c v wr xs r) (hT : Ix r c T) (hlt : T < r.size)
    (hB : B ≤ wr.heap.size) (hown : w1.ownsRow B 9 1 v' (xs.length + 1) (strV xs ++ [.string (r.extract 0 T)])) (hg : (wr.alloc o).grownBy w1 v.ownBlock) :
    SplitAt B w s c v' w1 (xs ++ [r.extract 0 T]) (r.extract (T + 1) r.size) := by
  refine ⟨by rw [List.length_append, ← strV_snoc]; exact hown, (h.below.alloc hB o).grown hg (by simp; omega) (fun k hk => (h.own.lt k hk).1), ?_, ?_⟩
  · rw [pre_snoc, List.append_assoc, cut_at r c T hT hlt]
    exact h.eq
  · have := h.len
    simp [ByteArray.size_extract]
    omega

theorem owned_at {w : World} {base : Nat} {e : TypeId} {size : Nat} {v : Value} {n : Nat} {xs : List Value} (h : w.ownsRow base e size v n xs) (hn : n ≠ 0) :
    ∃ g cap, v = .slice (some ⟨g, 0, none⟩) n cap ∧ base ≤ g ∧ n ≤ cap := by
  rcases h.2 with ⟨_, h0⟩ | ⟨g, cap, cur, hv, hb, _, hn', _⟩
  · exact absurd h0 hn
  · exact ⟨g, cap, hv, hb, hn'⟩

theorem split_end {B : Nat} {w wr w1 : World} {s r : ByteArray} {c : UInt8} {v v' : Value} {xs : List ByteArray} {o : Obj} (h : SplitAt B w s c v wr xs r)
    (hB : B ≤ wr.heap.size) (hown : w1.ownsRow B 9 1 v' (xs.length + 1) (strV xs ++ [.string r])) (hg : (wr.alloc o).grownBy w1 v.ownBlock) :
    w1.ownsRow B 9 1 v' (xs.length + 1) (strV (xs ++ [r])) ∧ Below B w w1 ∧ pre c xs ++ r.data.toList = s.data.toList ∧ xs.length + r.size ≤ s.size :=
  ⟨by rw [← strV_snoc]; exact hown, (h.below.alloc hB o).grown hg (by simp; omega) (fun k hk => (h.own.lt k hk).1), h.eq, h.len⟩

set_option maxRecDepth 100000 in
set_option maxHeartbeats 400000 in
theorem split_any (s : ByteArray) (c : UInt8) (w : World) (hs : s.size ≤ 4294967296) :
    Calls Tryz.prog 44 #[.string s, .string ⟨#[c]⟩] w fun e w' => ∃ g cap xs t, e = .returned (.slice (some ⟨g, 0, none⟩) (xs.length + 1) cap) ∧ w'.ownsRow w.heap.size 9 1 (.slice (some ⟨g, 0, none⟩) (xs.length + 1) cap) (xs.length + 1) (strV (xs ++ [t])) ∧ Below w.heap.size w w' ∧ pre c xs ++ t.data.toList = s.data.toList ∧ xs.length + t.size ≤ s.size := by
  obtain ⟨i0, hi, hz0, hz1, hz2⟩ := info_parts info9
  go_enter Tryz.func44, Tryz.ntmps44
  go_wp2
  go_loopw [0, 5, 8] (fun t v _ wr => ∃ (xs : List ByteArray) (r : ByteArray), t = .string r ∧ SplitAt w.heap.size w s c v wr xs r) (fun t _ _ _ => strSize t)
  case atStart => exact ⟨[], s, rfl, ⟨World.ownsRow_nil _ _ _ _, Below.refl _ _, by simp [pre], by simp⟩⟩
  case round =>
    obtain ⟨xs, r, rfl, hr⟩ := hrel
    obtain ⟨T, hT⟩ := ix_ex r c
    have hown := hr.own
    have hB : w.heap.size ≤ wr.heap.size := hr.below.size
    have hsz : xs.length + r.size ≤ 4294967296 := by have := hr.len; omega
    by_cases hlt : T < r.size
    · go_wp2_with (first
        | (go_at_call 60; refine (ix_some _ _ T _ (by omega) hT hlt).mono ?_; rintro e w' ⟨rfl, rfl⟩)
        | (at_builtin; refine wpList_append_own _ rfl (.tmp 46) (.tmp 50) 30 rfl w.heap.size 9 i0 (.string ⟨#[]⟩) 1 16 Tryz.underlying30 hi hz0 hz1 hz2 rfl (by decide) _ _ _ rfl (hown.alloc _) ⟨wr.heap.size, 0, none⟩ 1 1 [.string (r.extract 0 T)] rfl rfl ?c1 ?c2 ?c3 ?c4 ?c5 ?_))
      case c1 => exact new_one _ _ _
      case c2 => simp [Value.oneCell']
      case c3 => unfold maxLen; omega
      case c4 => omega
      case c5 => simp; omega
      intro v' w1 hown1 hg1 _
      have hst := split_step hr hT hlt hB hown1 hg1
      clear hown1 hg1 hr hown
      go_wp2
      go_roundw
      case rel => exact ⟨_, _, rfl, hst⟩
      case measure => simp [strSize, ByteArray.size_extract]; omega
    · obtain rfl : T = r.size := by have := hT.le; omega
      go_wp2_with (first
        | (go_at_call 60; refine (ix_none _ _ _ (by omega) hT).mono ?_; rintro e w' ⟨rfl, rfl⟩)
        | (at_builtin; refine wpList_append_own _ rfl (.tmp 42) (.tmp 44) 30 rfl w.heap.size 9 i0 (.string ⟨#[]⟩) 1 16 Tryz.underlying30 hi hz0 hz1 hz2 rfl (by decide) _ _ _ rfl (hown.alloc _) ⟨wr.heap.size, 0, none⟩ 1 1 [.string r] rfl rfl ?d1 ?d2 ?d3 ?d4 ?d5 ?_))
      case d1 => exact new_one _ _ _
      case d2 => simp [Value.oneCell']
      case d3 => unfold maxLen; omega
      case d4 => omega
      case d5 => simp; omega
      intro v' w1 hown1 hg1 _
      have hst := split_end hr hB hown1 hg1
      obtain ⟨g, cap, hv, _, _⟩ := owned_at hown1 (by omega)
      rw [hv] at hst ⊢
      clear hown1 hg1 hr hown hv
      go_wp2
      go_ret
      exact ⟨_, _, _, _, rfl, hst⟩
end Go.Proofs.YthphgelfiggleaaGreatDoor

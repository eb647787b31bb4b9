/-
  isFragment of package spec: true only at the empty text, and at #/ and bytes of steps and slashes behind.
-/
import Derived.Test.YthphgelfiggleaaGreatDoorSegs
namespace Go.Proofs.YthphgelfiggleaaGreatDoor
open Go.RowKit

/-- A byte of a path: of a step, or a slash. -/
def PathN (n : Nat) : Prop := SegN n ∨ n = 47
def FragOk (l : List UInt8) : Prop := l = [] ∨ ∃ g, l = 35 :: 47 :: g ∧ ∀ c ∈ g, PathN c.toNat

theorem pieces_path {l : List UInt8} {xs : List ByteArray} (h : Pieces l xs) (ha : ∀ x ∈ xs, SegB x) : ∀ c ∈ l, PathN c.toNat := by
  intro c hc
  rw [← h.eq] at hc
  rcases List.mem_append.1 hc with hc | hc
  · unfold pre at hc
    obtain ⟨y, hy, hcy⟩ := List.mem_flatten.1 hc
    obtain ⟨x, hx, rfl⟩ := List.mem_map.1 hy
    rcases List.mem_append.1 hcy with hcy | hcy
    · exact .inl (ha x (List.dropLast_subset _ hx) c hcy)
    · rw [List.mem_singleton.1 hcy]; exact .inr rfl
  · cases hg : xs.getLast? with
    | none => rw [hg] at hc; cases hc
    | some x =>
      rw [hg] at hc
      exact .inl (ha x (List.mem_of_getLast? hg) c hc)

theorem piece_size {l : List UInt8} {xs : List ByteArray} (h : Pieces l xs) : ∀ x ∈ xs, x.size ≤ l.length := by
  intro x hx
  have e : ∀ y : ByteArray, y.size = y.data.toList.length := fun y => (Array.length_toList).symm
  have hs : x ∈ xs.dropLast ∨ xs.getLast? = some x := by
    rw [← List.dropLast_concat_getLast h.ne] at hx
    rcases List.mem_append.1 hx with hx | hx
    · exact .inl hx
    · rw [List.mem_singleton.1 hx]; exact .inr (List.getLast?_eq_some_getLast h.ne)
  rw [← h.eq, List.length_append]
  rcases hs with hs | hs
  · have : (x.data.toList ++ [47]).length ≤ (pre 47 xs.dropLast).length := by
      unfold pre
      exact (List.sublist_flatten_of_mem (List.mem_map_of_mem (f := fun x : ByteArray => x.data.toList ++ [47]) hs)).length_le
    rw [List.length_append] at this
    rw [e]
    omega
  · rw [hs, e]
    show x.data.toList.length ≤ _ + x.data.toList.length
    omega

theorem all_snoc {xs : List ByteArray} {k : Nat} {x : ByteArray} {P : ByteArray → Prop} (hx : xs[k]? = some x) (hg : ∀ x ∈ xs.take k, P x) (h : P x) : ∀ x ∈ xs.take (k + 1), P x := by
  intro y hy
  rw [List.take_add_one, hx] at hy
  rcases List.mem_append.1 hy with hy | hy
  · exact hg y hy
  · obtain rfl : y = x := List.mem_singleton.1 hy
    exact h

def FragOut (s : ByteArray) (w : World) (e : Ending) (w' : World) : Prop := ∃ b, e = .returned (.bool b) ∧ (b = true → FragOk s.data.toList) ∧ Below w.heap.size w w'

theorem owned_cells {w : World} {B g n cap : Nat} {xs : List ByteArray} (h : w.ownsRow B 9 1 (.slice (some ⟨g, 0, none⟩) n cap) xs.length (strV xs)) : ∀ (j : Nat) (x : ByteArray), xs[j]? = some x → w.cell? ⟨g, j, none⟩ = some (.string x) := by
  intro j x hj
  have h1 := h.cells (g := g) rfl j (.string x) (by simp only [strV, List.getElem?_map, hj]; rfl)
  have hadd : (⟨g, 0, none⟩ : Addr).add j = ⟨g, j, none⟩ := by unfold Addr.add; split <;> simp_all
  rw [← hadd]; exact h1

theorem frag_split (s : ByteArray) (h2 : 2 ≤ s.size) (h35 : s[0].toNat = 35) (h47 : s[1].toNat = 47) : s.data.toList = 35 :: 47 :: (s.extract 2 s.size).data.toList := by
  rw [drop_of]
  have h0 : 0 < s.data.toList.length := by rw [Array.length_toList]; show 0 < s.size; omega
  have h1 : 1 < s.data.toList.length := by rw [Array.length_toList]; show 1 < s.size; omega
  have e0 : s.data.toList[0] = 35 := UInt8.toNat_inj.1 h35
  have e1 : s.data.toList[1] = 47 := UInt8.toNat_inj.1 h47
  have a := List.drop_eq_getElem_cons h0
  have b := List.drop_eq_getElem_cons h1
  rw [List.drop_zero, e0] at a
  rw [e1] at b
  exact a.trans (congrArg (List.cons 35) b)

theorem empty_of (s : ByteArray) (h0 : s.size = 0) : s.toList.isEmpty = true := by
  rw [ByteArray.toList_eq, List.isEmpty_iff]
  exact List.eq_nil_of_length_eq_zero h0

theorem not_empty (s : ByteArray) (h0 : 0 < s.size) : s.toList.isEmpty = false := by
  rw [ByteArray.toList_eq, List.isEmpty_eq_false_iff]
  intro h
  have := congrArg List.length h
  rw [Array.length_toList, List.length_nil] at this
  have e : s.data.size = s.size := rfl
  omega

set_option maxRecDepth 100000 in
set_option maxHeartbeats 800000 in
theorem isfrag_any (s : ByteArray) (w : World) (hs : s.size ≤ 4294967296) : Calls Tryz.prog 15 #[.string s] w (FragOut s w) := by
  by_cases h0 : s.size = 0
  · have he := empty_of s h0
    have HL := hid (show s.data.toList = [] from List.eq_nil_of_length_eq_zero h0)
    clear h0
    go_enter Tryz.func15, Tryz.ntmps15
    go_wp2
    go_ret
    exact ⟨true, rfl, fun _ => .inl HL.out, Below.refl _ _⟩
  · have he := not_empty s (by omega)
    by_cases h2 : s.size < 2
    · go_enter Tryz.func15, Tryz.ntmps15
      go_wp2
      go_ret
      exact ⟨false, rfl, (fun h => by cases h), Below.refl _ _⟩
    · have h2' : 2 ≤ s.size := by omega
      by_cases h35 : s[0].toNat = 35
      · by_cases h47 : s[1].toNat = 47
        · have HF := hid (frag_split s h2' h35 h47)
          go_enter Tryz.func15, Tryz.ntmps15
          go_wp2_with fail
          refine (segs_any _ _ (by simp [ByteArray.size_extract]; omega)).mono ?_
          rintro e w' ⟨g, cap, xs, rfl, hown, hb, hp, hx⟩
          have hcell := hid (owned_cells hown)
          have HP := hid hp
          have hlen : xs.length ≤ 4294967297 := by simp [ByteArray.size_extract] at hx; omega
          clear hown hp hx
          go_wp2
          go_loop [24] (fun i => ∃ k : Nat, k ≤ xs.length ∧ i = .int .i64 k ∧ ∀ x ∈ xs.take k, SegB x) (fun i => xs.length - (intOf i).toNat)
          case atStart => exact ⟨0, Nat.zero_le _, rfl, fun x h => by simp at h⟩
          case round =>
            obtain ⟨k, hk, rfl, hg⟩ := hrel
            have HG := hid hg
            clear hg
            by_cases hlt : k < xs.length
            · obtain ⟨x, hx⟩ : ∃ x, xs[k]? = some x := ⟨_, List.getElem?_eq_getElem hlt⟩
              have hc := hcell.out k x hx
              have hin : x.size ≤ 4294967296 := by
                have h1 := piece_size HP.out x (List.mem_of_getElem? hx)
                rw [drop_of, List.length_drop, Array.length_toList] at h1
                have e : s.data.size = s.size := rfl
                omega
              have HX := hid hx
              clear hx
              by_cases hx0 : x.size = 0
              · have hxe := empty_of x hx0
                go_wp2
                go_ret
                exact ⟨false, rfl, (fun h => by cases h), hb⟩
              · have hxe := not_empty x (by omega)
                go_wp2_with (go_at_call 14; refine (isseg_any _ _ hin).mono ?_; rintro e w' ⟨b1, rfl, hb1, rfl⟩; have HB1 := hid hb1; clear hb1; cases b1)
                all_goals first
                  | (have HG2 := hid (all_snoc HX.out HG.out (HB1.out trivial))
                     go_round
                     case rel => exact ⟨k + 1, by omega, by go_num, HG2.out⟩
                     case measure => simp [intOf]; omega)
                  | (go_ret
                     exact ⟨false, rfl, (fun h => by cases h), hb⟩)
            · go_wp2
              go_ret
              refine ⟨true, rfl, fun _ => .inr ⟨_, HF.out, pieces_path HP.out ?_⟩, hb⟩
              rw [List.take_of_length_le (by omega)] at HG
              exact HG.out
        · have H35 : (((s[0].toNat : Nat) : Int) != 35) = false := by rw [h35]; rfl
          have H47 : (((s[1].toNat : Nat) : Int) != 47) = true := by rw [bne_iff_ne]; omega
          clear h35
          go_enter Tryz.func15, Tryz.ntmps15
          go_wp2
          go_ret
          exact ⟨false, rfl, (fun h => by cases h), Below.refl _ _⟩
      · have H35 : (((s[0].toNat : Nat) : Int) != 35) = true := by rw [bne_iff_ne]; omega
        go_enter Tryz.func15, Tryz.ntmps15
        go_wp2
        go_ret
        exact ⟨false, rfl, (fun h => by cases h), Below.refl _ _⟩
end Go.Proofs.YthphgelfiggleaaGreatDoor

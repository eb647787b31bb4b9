/-
  Plain lists, no program: the addresses of which Resolved of package spec tells something, and the address that package neturl makes of them.
-/
import Derived.Test.YthphgelfiggleaaGreatDoorRw
namespace Go.Proofs.YthphgelfiggleaaGreatDoor

/-- The steps in the middle of a path are not empty. -/
def MidOk (p : Bytes) : Prop := ∀ x ∈ (splitSl p).tail.dropLast, x ≠ []

theorem pathok_mid {p : Bytes} (h : PathOk p) : MidOk p ∧ ∀ c ∈ p, PathN c.toNat := by
  obtain ⟨xs, hp, hs, hm⟩ := h
  refine ⟨fun x hx e => ?_, pieces_path hp hs⟩
  rw [← pieces_eq hp] at hx
  obtain ⟨j, hj, he⟩ := List.mem_iff_getElem.1 hx
  simp only [bl, List.length_dropLast, List.length_tail, List.length_map] at hj
  have h1 : (bl xs)[j + 1]? = some x := by
    have : (bl xs).tail.dropLast[j]? = some x := by rw [← he]; exact List.getElem?_eq_getElem _
    rw [List.getElem?_dropLast, if_pos (by simp only [bl, List.length_tail, List.length_map]; omega), List.getElem?_tail] at this
    exact this
  rw [bl, List.getElem?_map] at h1
  obtain ⟨y, hy, hyx⟩ := Option.map_eq_some_iff.1 h1
  have h2 := hm (j + 1) y hy (by omega) (by omega)
  have h3 : y.data.toList.length = y.size := Array.length_toList
  rw [hyx, e] at h3
  exact h2 h3.symm

theorem mid_no2 {p : Bytes} (h : MidOk p) : Lib.hasPrefix p [47, 47] = false := by
  rw [Bool.eq_false_iff]
  intro e
  unfold Lib.hasPrefix at e
  rw [List.isPrefixOf_iff_prefix] at e
  obtain ⟨r, rfl⟩ := e
  have hs : splitSl (47 :: 47 :: r) = [] :: [] :: splitSl r := by simp [splitSl]
  refine h [] ?_ rfl
  show [] ∈ (splitSl (47 :: 47 :: r)).tail.dropLast
  rw [hs, List.tail_cons, List.dropLast_cons_of_ne_nil (split_ne r)]
  exact .head _

theorem split_47 (q : Bytes) : splitSl (47 :: q) = [] :: splitSl q := by simp [splitSl]

theorem split_no : ∀ (q : Bytes), ∀ x ∈ splitSl q, NoS x
  | [], x, hx => by
    simp [splitSl] at hx
    subst hx
    intro c hc
    cases hc
  | c :: r, x, hx => by
    have ih := split_no r
    by_cases hc : c = 47
    · subst hc
      rw [split_47] at hx
      rcases List.mem_cons.1 hx with rfl | hx
      · intro c hc; cases hc
      · exact ih x hx
    · rw [splitSl, if_neg hc] at hx
      cases hr : splitSl r with
      | nil => exact absurd hr (split_ne r)
      | cons y ys =>
        rw [hr] at hx
        rcases List.mem_cons.1 hx with rfl | hx
        · intro d hd
          rcases List.mem_cons.1 hd with rfl | hd
          · exact hc
          · exact ih y (by rw [hr]; exact .head _) d hd
        · exact ih x (by rw [hr]; exact .tail _ hx)

theorem cat_split : ∀ (q : Bytes), cat (splitSl q) = 47 :: q
  | [] => rfl
  | c :: r => by
    have ih := cat_split r
    by_cases hc : c = 47
    · subst hc
      rw [split_47, cat_cons, ih]; rfl
    · rw [splitSl, if_neg hc]
      cases hr : splitSl r with
      | nil => exact absurd hr (split_ne r)
      | cons y ys =>
        rw [hr, cat_cons] at ih
        show cat ((c :: y) :: ys) = _
        rw [cat_cons]
        have := (List.cons.inj ih).2
        rw [List.cons_append, this]

theorem split_cat : ∀ (D : List Bytes) (r : Bytes), (∀ x ∈ D, NoS x) → splitSl (cat D ++ 47 :: r) = [] :: (D ++ splitSl r)
  | [], r, _ => split_47 r
  | x :: D, r, h => by
    have ih := split_cat D r fun y hy => h y (.tail _ hy)
    obtain ⟨s, hs⟩ : ∃ s, cat D ++ 47 :: r = 47 :: s := by
      cases D with
      | nil => exact ⟨r, rfl⟩
      | cons y D => rw [cat_cons]; exact ⟨_, rfl⟩
    rw [hs, split_47] at ih
    rw [cat_cons, List.cons_append, List.append_assoc, hs, split_47, (split_piece x fun c hc => ne47.2 (h x (.head _) c hc)).1 s, (List.cons.inj ih).2]
    rfl

theorem base_last (q : Bytes) : ∃ b, NoS b ∧ 47 :: q = baseS (47 :: q) ++ 47 :: b := by
  obtain ⟨o, b, hob⟩ := snoc_of (splitSl q) (split_ne q)
  refine ⟨b, split_no q b (by rw [hob]; simp), ?_⟩
  rw [baseS, split_47, List.tail_cons, hob, List.dropLast_concat, ← cat_snoc, ← hob, cat_split]

/-- What runL keeps has letters of what it was given alone. -/
theorem run_all {P : UInt8 → Prop} : ∀ (ys out : List Bytes), (∀ x ∈ out, ∀ c ∈ x, P c) → (∀ x ∈ ys, ∀ c ∈ x, P c) → ∀ x ∈ runL out ys, ∀ c ∈ x, P c
  | [], out, ho, _ => ho
  | y :: ys, out, ho, hy => by
    rw [runL]
    refine run_all ys _ ?_ fun x hx => hy x (.tail _ hx)
    have h0 : ∀ c ∈ ([] : Bytes), P c := fun c hc => by cases hc
    have add : ∀ (o : List Bytes) (z : Bytes), (∀ x ∈ o, ∀ c ∈ x, P c) → (∀ c ∈ z, P c) → ∀ x ∈ o ++ [z], ∀ c ∈ x, P c := fun o z h1 h2 x hx => by
      rcases List.mem_append.1 hx with hx | hx
      · exact h1 x hx
      · rw [List.mem_singleton.1 hx]; exact h2
    have hd : ∀ x ∈ out.dropLast, ∀ c ∈ x, P c := fun x hx => ho x (List.dropLast_subset _ hx)
    unfold stepL
    split
    · split
      · exact add _ _ ho h0
      · exact ho
    · split
      · split
        · exact add _ _ hd h0
        · exact hd
      · exact add _ _ ho (hy y (.head _))

theorem cat_drop_le (out : List Bytes) : (cat out.dropLast).length ≤ (cat out).length := by
  cases h : out.reverse with
  | nil =>
    have : out = [] := by simpa using h
    subst this; exact Nat.le_refl _
  | cons x o =>
    have : out = o.reverse ++ [x] := by
      have := congrArg List.reverse h
      simpa using this
    rw [this, List.dropLast_concat, cat_snoc, List.length_append]
    omega

theorem run_len : ∀ (ys out : List Bytes), (cat (runL out ys)).length ≤ (cat out).length + (cat ys).length
  | [], out => by rw [runL]; exact Nat.le_add_right _ _
  | y :: ys, out => by
    rw [runL]
    have ih := run_len ys (stepL ys.isEmpty out y)
    have hs : (cat (stepL ys.isEmpty out y)).length ≤ (cat out).length + (1 + y.length) := by
      have hd := cat_drop_le out
      unfold stepL
      split
      · split
        · rw [cat_snoc, List.length_append]; simp
        · omega
      · split
        · split
          · rw [cat_snoc, List.length_append]; simp; omega
          · omega
        · rw [cat_snoc, List.length_append]; simp; omega
    rw [cat_cons, List.length_cons, List.length_append]
    omega

theorem split_tail_len (p : Bytes) : (cat (splitSl p).tail).length ≤ p.length := by
  have h := congrArg List.length (cat_split p)
  cases hr : splitSl p with
  | nil => exact absurd hr (split_ne p)
  | cons y ys =>
    rw [hr, cat_cons, List.length_cons, List.length_append, List.length_cons] at h
    rw [List.tail_cons]
    omega

theorem merged_len (p : Bytes) : (mergedS p).length ≤ p.length := by
  have h1 := run_len (splitSl p).tail []
  have h2 := split_tail_len p
  rw [cat_nil, List.length_nil] at h1
  unfold mergedS mergedL
  omega

theorem mem_cat {out : List Bytes} {c : UInt8} (h : c ∈ cat out) : c = 47 ∨ ∃ x ∈ out, c ∈ x := by
  unfold cat at h
  obtain ⟨y, hy, hc⟩ := List.mem_flatten.1 h
  obtain ⟨x, hx, rfl⟩ := List.mem_map.1 hy
  rcases List.mem_cons.1 hc with hc | hc
  · exact .inl hc
  · exact .inr ⟨x, hx, hc⟩

theorem cat_mem {out : List Bytes} {c : UInt8} {x : Bytes} (hx : x ∈ out) (hc : c ∈ x) : c ∈ cat out := by
  unfold cat
  exact List.mem_flatten.2 ⟨47 :: x, List.mem_map.2 ⟨x, hx, rfl⟩, .tail _ hc⟩

theorem split_mem {p : Bytes} {x : Bytes} {c : UInt8} (hx : x ∈ splitSl p) (hc : c ∈ x) : c = 47 ∨ c ∈ p := by
  have h := cat_mem hx hc
  rw [cat_split] at h
  exact List.mem_cons.1 h

theorem pathn_47 : PathN (47 : UInt8).toNat := .inr rfl

theorem merged_path {p : Bytes} (h : ∀ c ∈ p, PathN c.toNat) : ∀ c ∈ mergedS p, PathN c.toNat := by
  intro c hc
  rcases mem_cat hc with rfl | ⟨x, hx, hcx⟩
  · exact pathn_47
  · refine run_all (P := fun c => PathN c.toNat) _ [] (fun x hx => by cases hx) (fun y hy d hd => ?_) x hx c hcx
    rcases split_mem (List.mem_of_mem_tail hy) hd with rfl | hp
    · exact pathn_47
    · exact h d hp

theorem merged_head (p : Bytes) : mergedS p = [] ∨ ∃ q, mergedS p = 47 :: q := by
  unfold mergedS mergedL
  cases runL [] (splitSl p).tail with
  | nil => exact .inl rfl
  | cons x o => rw [cat_cons]; exact .inr ⟨_, rfl⟩
end Go.Proofs.YthphgelfiggleaaGreatDoor

/-
  The pieces of a path are what a plain function makes of it: so any two partings of a path agree.
-/
import Derived.Test.YthphgelfiggleaaGreatDoorMerged
namespace Go.Proofs.YthphgelfiggleaaGreatDoor
open Go.RowKit

/-- The pieces of a path between its slashes. -/
def splitSl : Bytes → List Bytes
  | [] => [[]]
  | c :: r => if c = 47 then [] :: splitSl r else
    match splitSl r with
    | [] => [[c]]
    | x :: xs => (c :: x) :: xs

theorem split_ne (l : Bytes) : splitSl l ≠ [] := by
  cases l with
  | nil => simp [splitSl]
  | cons c r =>
    unfold splitSl
    split
    · simp
    · split <;> simp

/-- A piece without a slash, ahead of a slash or of the end. -/
theorem split_piece : ∀ (x : Bytes), (∀ c ∈ x, c.toNat ≠ 47) → (∀ r, splitSl (x ++ 47 :: r) = x :: splitSl r) ∧ splitSl x = [x]
  | [], _ => ⟨fun r => by simp [splitSl], rfl⟩
  | c :: x, h => by
    have ih := split_piece x fun d hd => h d (.tail _ hd)
    have hc : ¬ c = 47 := fun e => h c (.head _) (by rw [e]; rfl)
    constructor
    · intro r
      rw [List.cons_append, splitSl, if_neg hc, ih.1 r]
    · rw [splitSl, if_neg hc, ih.2]

theorem split_pre : ∀ (xs : List ByteArray) (t : ByteArray), (∀ x ∈ xs, NoSl x) → NoSl t → splitSl (pre 47 xs ++ t.data.toList) = bl xs ++ [t.data.toList]
  | [], t, _, ht => (split_piece _ ht).2
  | x :: xs, t, hx, ht => by
    have ih := split_pre xs t (fun y hy => hx y (.tail _ hy)) ht
    have e : pre 47 (x :: xs) ++ t.data.toList = x.data.toList ++ 47 :: (pre 47 xs ++ t.data.toList) := by simp [pre]
    rw [e, (split_piece _ (hx x (.head _))).1, ih]
    rfl

theorem pieces_eq {l : Bytes} {xs : List ByteArray} (h : Pieces l xs) : bl xs = splitSl l := by
  have hl := List.dropLast_concat_getLast h.ne
  have hg : xs.getLast? = some (xs.getLast h.ne) := List.getLast?_eq_some_getLast h.ne
  have he := h.eq
  rw [hg] at he
  rw [← he]
  show _ = splitSl (pre 47 xs.dropLast ++ (xs.getLast h.ne).data.toList)
  rw [split_pre _ _ (fun x hx => h.no x (List.dropLast_subset _ hx)) (h.no _ (List.getLast_mem h.ne))]
  have h2 := congrArg bl hl
  rw [← h2]
  simp [bl]

/-- What merged makes of a path. -/
def mergedS (p : Bytes) : Bytes := mergedL (splitSl p)

def MergedOut2 (p : Bytes) (w : World) (e : Ending) (w' : World) : Prop := ∃ r : ByteArray, e = .returned (.string r) ∧ r.data.toList = mergedS p ∧ r.size ≤ 500000000 ∧ Below w.heap.size w w'

theorem merged_all (s : ByteArray) (w : World) (hs : s.size ≤ 20000) : Calls Tryz.prog 7 #[.string s] w (MergedOut2 s.data.toList w) :=
  (merged_any s w hs).mono fun e w' ⟨r, xs, he, hp, hr, hz, hb⟩ => ⟨r, he, by rw [hr, pieces_eq hp]; rfl, hz, hb⟩
end Go.Proofs.YthphgelfiggleaaGreatDoor

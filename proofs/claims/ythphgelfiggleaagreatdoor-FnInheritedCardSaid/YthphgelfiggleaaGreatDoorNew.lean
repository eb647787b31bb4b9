/-
  NewJsonPointer of package gojsonpointer: no error and the pieces of the text behind its first /, or an error where it does not begin with /.
-/
import Derived.Test.YthphgelfiggleaaGreatDoorSplit
import Derived.RegionTactic
import Derived.Deep.RegionWith
namespace Go.Proofs.YthphgelfiggleaaGreatDoor
open Go.RowKit

def ErrOut (w : World) (e : Ending) (w' : World) : Prop := ∃ b : Addr, e = .returned (.iface 59 (.pointer (some b))) ∧ Below w.heap.size w w'

theorem errnew (s : ByteArray) (w : World) : Calls Tryz.prog 18 #[.string s] w (ErrOut w) := by
  go_enter Tryz.func18, Tryz.ntmps18
  go_wp2
  go_ret
  exact ⟨_, rfl, (Below.refl _ _).alloc (Nat.le_refl _) _⟩

theorem bcell {W w1 : World} (hb : Below W.heap.size W w1) : (∀ b o, b < W.heap.size → w1.cell? ⟨b, o, none⟩ = W.cell? ⟨b, o, none⟩) ∧ (∀ b o, b < W.heap.size → w1.frozen? ⟨b, o, none⟩ = W.frozen? ⟨b, o, none⟩) :=
  ⟨fun b o h => hb.cell (p := ⟨b, o, none⟩) h, fun b o h => hb.frozen (p := ⟨b, o, none⟩) h⟩

theorem new_cell (w : World) (v : Value) (t : TypeId) : (w.alloc (.cells #[v] t)).cell? ⟨w.heap.size, 0, none⟩ = some v := by
  rw [World.cell?_alloc_at _ _ _ _ rfl]
  rfl

def NoPtr (w : World) (e : Ending) (w' : World) : Prop := ∃ b : Addr, e = .returned (.tuple #[.agg #[.slice none 0 0], .iface 59 (.pointer (some b))]) ∧ Below w.heap.size w w'

set_option maxRecDepth 100000 in
theorem new_none (s : ByteArray) (w : World) (h0 : 0 < s.size) (h47 : ¬ s[0].toNat = 47) : Calls Tryz.prog 24 #[.string s] w (NoPtr w) := by
  have H0 : ((s.size : Int) == 0) = false := by rw [beq_eq_false_iff_ne]; omega
  go_enter Tryz.func24, Tryz.ntmps24
  go_wp2
  go_region_with (go_at_call 18; refine (errnew _ _).mono ?_; rintro e w' ⟨b, rfl, hb⟩; obtain ⟨hc, hf⟩ := bcell hb; have hz := hb.size)
  all_goals go_wp2
  all_goals
    have hcell : w'.cell? ⟨w.heap.size, 0, none⟩ = some (.slice none 0 0) := by
      rw [hc _ _ (by simp)]
      exact new_cell _ _ _
    refine bodyPost_ret (v := .tuple #[.agg #[.slice none 0 0], .iface 59 (.pointer (some b))]) ?_ rfl ⟨_, rfl, ?_⟩
  all_goals first
    | (simp [results, Tryz.results24, go_sem, hcell]; done)
    | exact ((((Below.refl _ _).alloc (Nat.le_refl _) _).drew).trans (hb.mono (by simp))).setCell (Nat.le_refl _) _

/-- A pointer was read: its pieces are the slice v. -/
def SomePtr (s : ByteArray) (w : World) (e : Ending) (w' : World) : Prop :=
  ∃ (g cap : Nat) (xs : List ByteArray) (t : ByteArray), e = .returned (.tuple #[.agg #[.slice (some ⟨g, 0, none⟩) (xs.length + 1) cap], .nilIface]) ∧
    w'.ownsRow w.heap.size 9 1 (.slice (some ⟨g, 0, none⟩) (xs.length + 1) cap) (xs.length + 1) (strV (xs ++ [t])) ∧ Below w.heap.size w w' ∧
    47 :: (pre 47 xs ++ t.data.toList) = s.data.toList ∧ xs.length ≤ s.size

def RootPtr (w : World) (e : Ending) (w' : World) : Prop := e = .returned (.tuple #[.agg #[.slice none 0 0], .nilIface]) ∧ Below w.heap.size w w'

set_option maxRecDepth 100000 in
theorem new_root (s : ByteArray) (w : World) (h0 : s.size = 0) : Calls Tryz.prog 24 #[.string s] w (RootPtr w) := by
  have H0 : ((s.size : Int) == 0) = true := by rw [beq_iff_eq]; omega
  clear h0
  go_enter Tryz.func24, Tryz.ntmps24
  go_wp2
  refine bodyPost_ret (v := .tuple #[.agg #[.slice none 0 0], .nilIface]) ?_ rfl ⟨rfl, (Below.refl _ _).alloc (Nat.le_refl _) _⟩
  simp [results, Tryz.results24, go_sem]

theorem tail_of (s : ByteArray) (h0 : 0 < s.size) (h47 : s[0].toNat = 47) : 47 :: (s.extract 1 s.size).data.toList = s.data.toList := by
  have h := cut_at s 47 0 ⟨Nat.zero_le _, fun j _ hj => by omega, fun _ => by apply UInt8.toNat_inj.1; exact h47⟩ h0
  have e : (s.extract 0 0).data.toList = [] := by simp
  rw [e] at h
  simpa using h

theorem owns_mono {w : World} {base base' : Nat} {e : TypeId} {size : Nat} {v : Value} {n : Nat} {xs : List Value} (h : w.ownsRow base e size v n xs) (hb : base' ≤ base) : w.ownsRow base' e size v n xs := by
  refine ⟨h.1, ?_⟩
  rcases h.2 with h0 | ⟨g, cap, cur, hv, hg, rest⟩
  · exact .inl h0
  · exact .inr ⟨g, cap, cur, hv, Nat.le_trans hb hg, rest⟩

set_option maxRecDepth 100000 in
theorem new_some (s : ByteArray) (w : World) (hs : s.size ≤ 4294967296) (h0 : 0 < s.size) (h47 : s[0].toNat = 47) : Calls Tryz.prog 24 #[.string s] w (SomePtr s w) := by
  have H0 : ((s.size : Int) == 0) = false := by rw [beq_eq_false_iff_ne]; omega
  have H47 : (((s[0].toNat : Nat) : Int) != 47) = false := by rw [h47]; rfl
  have ht := hid (tail_of s h0 h47)
  clear h47
  go_enter Tryz.func24, Tryz.ntmps24
  go_wp2_with fail
  refine (split_any _ _ _ (by simp [ByteArray.size_extract]; omega)).mono ?_
  rintro e w' ⟨g, cap, xs, t, rfl, hown, hb, heq, hlen⟩
  obtain ⟨hc, hf⟩ := bcell hb
  have hcell : w'.cell? ⟨w.heap.size, 0, none⟩ = some (.slice none 0 0) := by
    rw [hc _ _ (by simp)]
    exact new_cell _ _ _
  have hfr : w'.frozen? ⟨w.heap.size, 0, none⟩ = false := by
    rw [hf _ _ (by simp)]
    exact World.frozen?_alloc_at _ _ _ _ rfl
  clear hc hf
  have hx := hid heq
  clear heq
  go_wp2
  refine bodyPost_ret (v := .tuple #[.agg #[.slice (some ⟨g, 0, none⟩) (xs.length + 1) cap], .nilIface]) ?_ rfl ⟨g, cap, xs, t, rfl, ?_, ?_, ?_, ?_⟩
  · simp [results, Tryz.results24, go_sem, hcell]
  · exact owns_mono (ownsRow_setCell_below hown (by simp) _) (by simp)
  · exact (((Below.refl _ _).alloc (Nat.le_refl _) _).trans (hb.mono (by simp))).setCell (Nat.le_refl _) _
  · rw [hx.out]; exact ht.out
  · simp [ByteArray.size_extract] at hlen; omega
end Go.Proofs.YthphgelfiggleaaGreatDoor

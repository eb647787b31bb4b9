/-
  LastIndexByte of package bytes on a slice of bytes that lies in one block.
-/
import Derived.Test.YthphgelfiggleaaGreatDoorPu
namespace Go.Proofs.YthphgelfiggleaaGreatDoor
open Go.RowKit

/-- The cells of block g from o on hold the bytes. -/
def BytesAt (w : World) (g o : Nat) (l : Bytes) : Prop := ∀ j c, l[j]? = some c → w.cell? ⟨g, o + j, none⟩ = some (.int .u8 c.toNat)

def LastOut (l : Bytes) (w : World) (e : Ending) (w' : World) : Prop :=
  ∃ r : Int, e = .returned (.int .i64 r) ∧ ((r = -1 ∧ ∀ c ∈ l, c ≠ 47) ∨ ∃ a b, l = a ++ 47 :: b ∧ (∀ c ∈ b, c ≠ 47) ∧ r = a.length) ∧ w = w'

set_option maxRecDepth 100000 in
set_option maxHeartbeats 800000 in
theorem lastb2_any (g o cap : Nat) (l : Bytes) (w : World) (hs : l.length ≤ 1000000) (h : BytesAt w g o l) :
    Calls Tryz.prog 65 #[.slice (some ⟨g, o, none⟩) l.length cap, .int .u8 47] w (LastOut l w) := by
  have HB := hid h
  clear h
  go_enter Tryz.func65, Tryz.ntmps65
  go_wp2
  go_loop [5] (fun i => ∃ k : Nat, k ≤ l.length ∧ i = .int .i64 ((k : Int) - 1) ∧ ∀ c ∈ l.drop k, c ≠ 47) (fun i => (intOf i + 1).toNat)
  case atStart => exact ⟨l.length, Nat.le_refl _, rfl, by rw [List.drop_length]; intro c hc; cases hc⟩
  case round =>
    obtain ⟨k, hk, rfl, hno⟩ := hrel
    have HN := hid hno
    clear hno
    rcases k with _ | k
    · have h0 : ¬ (0 : Int) ≤ ((0 : Nat) : Int) - 1 := by omega
      go_wp2
      go_ret
      exact ⟨-1, rfl, .inl ⟨rfl, HN.out⟩, rfl⟩
    · obtain ⟨c, hc⟩ : ∃ c, l[k]? = some c := ⟨_, List.getElem?_eq_getElem (by omega)⟩
      have e1 : ((k + 1 : Nat) : Int) - 1 = k := by omega
      have hcell := HB.out k c hc
      have HC := hid hc
      clear hc
      simp only [e1]
      by_cases h47 : c = 47
      · have b1 : (((c.toNat : Nat) : Int) == 47) = true := by rw [h47]; rfl
        go_wp2
        go_ret
        refine ⟨k, rfl, .inr ⟨l.take k, l.drop (k + 1), ?_, HN.out, ?_⟩, rfl⟩
        · have e2 := List.getElem?_eq_some_iff.1 HC.out
          rw [← h47, ← e2.2, ← List.drop_eq_getElem_cons e2.1, List.take_append_drop]
        · rw [List.length_take]; omega
      · have b1 : (((c.toNat : Nat) : Int) == 47) = false := by
          rw [beq_eq_false_iff_ne]
          intro e
          exact h47 (UInt8.toNat_inj.1 (by have e2 : (47 : UInt8).toNat = 47 := rfl; omega))
        go_wp2
        go_round
        case rel => exact ⟨k, by omega, by go_num, fun x hx => by
          have e2 := List.getElem?_eq_some_iff.1 HC.out
          rw [List.drop_eq_getElem_cons e2.1] at hx
          rcases List.mem_cons.1 hx with hx | hx
          · rw [hx, e2.2]; exact h47
          · exact HN.out x hx⟩
        case measure => simp [intOf]

set_option maxRecDepth 100000 in
set_option maxHeartbeats 800000 in
theorem lastb_any (g o cap : Nat) (l : Bytes) (w : World) (hs : l.length ≤ 1000000) (h : BytesAt w g o l) :
    Calls Tryz.prog 47 #[.slice (some ⟨g, o, none⟩) l.length cap, .int .u8 47] w (LastOut l w) := by
  have c1 := hid (lastb2_any g o cap l w hs h)
  clear h
  go_enter Tryz.func47, Tryz.ntmps47
  go_wp2_with fail
  refine c1.out.mono ?_
  rintro e w' ⟨r, rfl, hr, rfl⟩
  go_wp2
  go_ret
  exact ⟨r, rfl, hr, rfl⟩
end Go.Proofs.YthphgelfiggleaaGreatDoor

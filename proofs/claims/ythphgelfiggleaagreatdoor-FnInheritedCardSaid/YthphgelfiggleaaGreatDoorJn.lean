/-
  gojsonreference: NewJsonReference, GetUrl and String at the addresses of which the law speaks. Condition: the world holds neturl's table.
-/
import Derived.Test.YthphgelfiggleaaGreatDoorJr
namespace Go.Proofs.YthphgelfiggleaaGreatDoor
open Go.RowKit

def ref0 : Obj := .cells #[.pointer none, .slice none 0 0, .bool false, .bool false, .bool false, .bool false, .bool false] 36

def RefOut (sch ho pa fr : ByteArray) (w : World) (e : Ending) (w' : World) : Prop :=
  ∃ (b : Nat) (p : Option Go.Addr) (n c : Nat) (x2 x3 x4 x5 x6 : Bool), e = .returned (.tuple #[.agg #[.pointer (some ⟨b, 0, none⟩), .slice p n c, .bool x2, .bool x3, .bool x4, .bool x5, .bool x6], .nilIface]) ∧ UrlAt w' b sch ho pa fr ∧ Below w.heap.size w w' ∧ w.heap.size ≤ b

set_option maxRecDepth 100000 in
set_option maxHeartbeats 800000 in
theorem newref_any (s sch ho pa fr : ByteArray) (w : World) (hT : Tab w) (ha : Addr s.data.toList sch ho pa fr) : Calls Tryz.prog 9 #[.string s] w (RefOut sch ho pa fr w) := by
  have HT := hid (show Tab ((w.alloc ref0).alloc ref0) from (hT.alloc _).alloc _)
  have HB := hid (show Below w.heap.size w ((w.alloc ref0).alloc ref0) from ((Below.refl _ _).alloc (Nat.le_refl _) _).alloc (by simp) _)
  have HN := hid (show ((w.alloc ref0).alloc ref0).heap[w.heap.size + 1]? = some ref0 from by
    have := block_new (w.alloc ref0) ref0
    rwa [show (w.alloc ref0).heap.size = w.heap.size + 1 by simp] at this)
  have HM := hid (show ((w.alloc ref0).alloc ref0).heap[w.heap.size]? = some ref0 from by
    rw [Below.heap_alloc _ _ _ (by simp)]
    exact block_new w ref0)
  have HZ := hid (show ((w.alloc ref0).alloc ref0).heap.size = w.heap.size + 2 from by simp)
  have HA := hid ha
  unfold ref0 at HT HB HN HM HZ
  clear hT ha
  go_enter Tryz.func9, Tryz.ntmps9
  go_wp2_with fail
  generalize (w.alloc _).alloc _ = W at *
  refine (parseref_any (w.heap.size + 1) s sch ho pa fr W HT.out HN.out (by omega) HA.out).mono ?_
  rintro e w1 ⟨rfl, b, hst⟩
  have hm : w1.heap[w.heap.size]? = _ := (hst.grown.block w.heap.size (by rw [HZ.out]; omega) (by intro e; have := Option.some.inj e; omega)).trans HM.out
  obtain ⟨d0, d1, d2, d3, d4, d5, d6⟩ := ref_c hm
  obtain ⟨g0, g1, g2, g3, g4, g5, g6⟩ := ref_f hm
  obtain ⟨p, n, c, x2, x3, x4, x5, x6, hc⟩ := hst.ref
  obtain ⟨c0, c1, c2, c3, c4, c5, c6⟩ := ref_c hc
  have HS := hid hst
  have HBB := hid (HB.out.grown hst.grown (by rw [HZ.out]; omega) (fun k hk => by cases hk; omega))
  clear hst hm hc
  go_wp2
  have hne : w.heap.size ≠ b := by have := HS.out.lo; rw [HZ.out] at this; omega
  refine bodyPost_ret (v := .tuple #[.agg #[.pointer (some ⟨b, 0, none⟩), .slice p n c, .bool x2, .bool x3, .bool x4, .bool x5, .bool x6], .nilIface]) ?_ rfl ⟨b, p, n, c, x2, x3, x4, x5, x6, rfl, ?_, ?_, ?_⟩
  · simp [results, Tryz.results9, go_sem, d0, d1, d2, d3, d4, d5, d6]
  · exact ((((((HS.out.url.other hne _ _).other hne _ _).other hne _ _).other hne _ _).other hne _ _).other hne _ _).other hne _ _
  · exact ((((((HBB.out.setCell (Nat.le_refl _) _).setCell (Nat.le_refl _) _).setCell (Nat.le_refl _) _).setCell (Nat.le_refl _) _).setCell (Nat.le_refl _) _).setCell (Nat.le_refl _) _).setCell (Nat.le_refl _) _
  · have := HS.out.lo
    rw [HZ.out] at this
    omega

/-- Block r holds a reference whose address is in block b: GetUrl answers it. -/
theorem geturl_any (r b : Nat) (w : World) (h : w.cell? ⟨r, 0, none⟩ = some (.pointer (some ⟨b, 0, none⟩))) : Calls Tryz.prog 17 #[.pointer (some ⟨r, 0, none⟩)] w (Same (.pointer (some ⟨b, 0, none⟩)) w) := by
  go_enter Tryz.func17, Tryz.ntmps17
  go_wp2
  go_ret
  exact ⟨rfl, rfl⟩

set_option maxRecDepth 100000 in
set_option maxHeartbeats 800000 in
theorem refstr_any (r b : Nat) (ho pa fr : ByteArray) (w : World) (h : w.cell? ⟨r, 0, none⟩ = some (.pointer (some ⟨b, 0, none⟩))) (hT : Tab w) (U : UrlAt w b httpB ho pa fr) (hg : SegB ho) (hn : ho.size ≠ 0) (hz : ho.size ≤ 1000) (hp : PathAll pa) (hpz : pa.size ≤ 1000) (hf : PathAll fr) (hfz : fr.size ≤ 1000)
    (hq : pa.data.toList = [] ∨ ∃ q, pa.data.toList = 47 :: q) : Calls Tryz.prog 11 #[.pointer (some ⟨r, 0, none⟩)] w (StrOut ho pa fr w) := by
  have c20 := hid (string_any b ho pa fr w hT U hg hn hz hp hpz hf hfz hq)
  clear hT U hg hn hp hf hq
  go_enter Tryz.func11, Tryz.ntmps11
  go_wp2_with fail
  refine c20.out.mono ?_
  rintro e w1 ⟨t, rfl, ht, hb⟩
  have HT := hid ht
  clear ht
  go_wp2
  go_ret
  exact ⟨t, rfl, HT.out, hb⟩
end Go.Proofs.YthphgelfiggleaaGreatDoor

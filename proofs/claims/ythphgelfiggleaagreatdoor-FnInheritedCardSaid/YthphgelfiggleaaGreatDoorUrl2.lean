/-
  setFragment, EscapedPath and EscapedFragment of package neturl, at the plain addresses of which the law speaks. Condition: the world holds the package's table.
-/
import Derived.Test.YthphgelfiggleaaGreatDoorUrl
namespace Go.Proofs.YthphgelfiggleaaGreatDoor
open Go.RowKit

set_option maxRecDepth 100000 in
set_option maxHeartbeats 800000 in
theorem setfrag_any (b : Nat) (sch ho pa fr p : ByteArray) (w : World) (hs : p.size ≤ 1000000) (hb : 0 < b) (hT : Tab w) (hU : UrlAt w b sch ho pa fr) (hp : PathAll p) :
    Calls Tryz.prog 43 #[.pointer (some ⟨b, 0, none⟩), .string p] w (SetOut b sch ho pa p w) := by
  have hc4 := hU.cell 5 _ rfl
  have hf4 := hU.free 5
  have hf7 := hU.free 8
  have hc7 := hU.cell 8 _ rfl
  have c1 := hid (unesc_path p 64 w (by omega) (.inr rfl) hp)
  have HU := hid (hU.store 5 (.string p) sch ho pa p rfl)
  have c2 := hid (esc_any p 64 (w.setCell ⟨b, 5, none⟩ (.string p)) hs (hT.store hb _ _) (path_esc hp).2)
  have hq : (p.toList == p.toList) = true := by simp
  clear hU hT hp
  go_enter Tryz.func43, Tryz.ntmps43
  go_wp2_with fail
  refine c1.out.mono ?_
  rintro e w' ⟨rfl, rfl⟩
  go_wp2_with fail
  refine c2.out.mono ?_
  rintro e w2 ⟨rfl, hb2⟩
  have HU2 := hid (HU.out.keep hb2)
  have d7 := HU2.out.cell 8 _ rfl
  have g7 := HU2.out.free 8
  have HG := hid (grown_trans (grown_store w b 5 (.string p)) (grown_below (r := some b) hb2))
  clear hb2 hc4 hf4 hf7 hc7
  go_wp2
  go_ret
  exact ⟨rfl, HU2.out.store 8 _ sch ho pa p rfl, grown_trans HG.out (grown_store _ _ _ _)⟩

theorem star_not {p : ByteArray} (hp : PathAll p) : (p.toList == [42]) = false := by
  rw [beq_eq_false_iff_ne]
  intro h
  rw [ByteArray.toList_eq] at h
  have := path_nums (hp 42 (by rw [h]; exact .head _))
  have e : (42 : UInt8).toNat = 42 := rfl
  omega

set_option maxRecDepth 100000 in
set_option maxHeartbeats 800000 in
theorem escpath_any (b : Nat) (sch ho pa fr : ByteArray) (w : World) (hs : pa.size ≤ 1000000) (hT : Tab w) (hU : UrlAt w b sch ho pa fr) (hp : PathAll pa) :
    Calls Tryz.prog 27 #[.pointer (some ⟨b, 0, none⟩)] w (SameB (.string pa) w) := by
  have hc4 := hU.cell 4 (.string pa) rfl
  have hc7 := hU.cell 7 (.string ⟨#[]⟩) rfl
  have c2 := hid (esc_any pa 1 w hs hT (path_esc hp).1)
  have hq := star_not hp
  clear hU hT hp
  go_enter Tryz.func27, Tryz.ntmps27
  go_wp2_with fail
  refine c2.out.mono ?_
  rintro e w2 ⟨rfl, hb2⟩
  go_wp2
  go_ret
  exact ⟨rfl, hb2⟩

set_option maxRecDepth 100000 in
set_option maxHeartbeats 800000 in
theorem escfrag_any (b : Nat) (sch ho pa fr : ByteArray) (w : World) (hs : fr.size ≤ 1000000) (hT : Tab w) (hU : UrlAt w b sch ho pa fr) (hp : PathAll fr) :
    Calls Tryz.prog 39 #[.pointer (some ⟨b, 0, none⟩)] w (SameB (.string fr) w) := by
  have hc4 := hU.cell 5 (.string fr) rfl
  have hc7 := hU.cell 8 (.string ⟨#[]⟩) rfl
  have c2 := hid (esc_any fr 64 w hs hT (path_esc hp).2)
  clear hU hT hp
  go_enter Tryz.func39, Tryz.ntmps39
  go_wp2_with fail
  refine c2.out.mono ?_
  rintro e w2 ⟨rfl, hb2⟩
  go_wp2
  go_ret
  exact ⟨rfl, hb2⟩
end Go.Proofs.YthphgelfiggleaaGreatDoor

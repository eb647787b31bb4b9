/-
  gojsonreference: Inherits at the addresses of which the law speaks. Condition: the world holds neturl's table.
-/
import Derived.Test.YthphgelfiggleaaGreatDoorJn
namespace Go.Proofs.YthphgelfiggleaaGreatDoor
open Go.RowKit

/-- What is known of the parent (http, ho1, pa1), the child (sch2, ho2, pa2, fr2) and what comes of them (ho, full). -/
structure Kin (ho1 pa1 sch2 ho2 pa2 fr2 ho full : ByteArray) : Prop where
  into : ToFull ho1 pa1 sch2 ho2 pa2 ho full
  fit : PathFit full
  all : PathAll full
  few : full.size ≤ 300
  seg : SegB ho
  hon : ho.size ≠ 0
  hos : ho.size ≤ 100
  p1 : PathAll pa1
  p2 : PathAll pa2
  z1 : pa1.size ≤ 300
  z2 : pa2.size ≤ 300
  ho2e : sch2 = ⟨#[]⟩ → ho2 = ⟨#[]⟩
  frag : PathAll fr2
  frz : fr2.size ≤ 100
  lead : fr2.size = 0 ∨ ∃ q, fr2.data.toList = 47 :: q

theorem resref_any {ho1 pa1 sch2 ho2 pa2 fr2 ho full : ByteArray} (k : Kin ho1 pa1 sch2 ho2 pa2 fr2 ho full) (bu br : Nat) (w : World) (hT : Tab w) (U1 : UrlAt w bu httpB ho1 pa1 ⟨#[]⟩) (U2 : UrlAt w br sch2 ho2 pa2 fr2) :
    Calls Tryz.prog 19 #[.pointer (some ⟨bu, 0, none⟩), .pointer (some ⟨br, 0, none⟩)] w (ResRefOut ho full fr2 w) := by
  rcases k.into with ⟨rfl, rfl, rfl⟩ | ⟨rfl, rfl, hF⟩
  · exact resref_http bu br _ _ fr2 w hT U2 k.p2 k.fit k.few
  · rw [k.ho2e rfl] at U2
    exact resref_rel bu br _ pa1 pa2 fr2 full w hT U1 U2 k.p1 k.p2 hF k.fit k.all k.z1 k.z2 k.few

theorem kin_addr {ho1 pa1 sch2 ho2 pa2 fr2 ho full pa : ByteArray} (k : Kin ho1 pa1 sch2 ho2 pa2 fr2 ho full) (h : pa.data.toList = (if full.size = 0 then [] else mergedS full.data.toList)) :
    PathAll pa ∧ pa.size ≤ 300 ∧ (pa.data.toList = [] ∨ ∃ q, pa.data.toList = 47 :: q) ∧ Addr (textL ho pa fr2) httpB ho pa fr2 := by
  have hp : PathAll pa := (resp_path h k.all k.few).1
  have hz : pa.size ≤ 300 := by
    have hl := szl pa
    have hm := merged_len full.data.toList
    have := k.few
    rw [szl] at hm
    rw [h] at hl
    by_cases h0 : full.size = 0
    · rw [if_pos h0] at hl; simp at hl; omega
    · rw [if_neg h0] at hl; omega
  have hq : pa.data.toList = [] ∨ ∃ q, pa.data.toList = 47 :: q := by
    rw [h]
    by_cases h0 : full.size = 0
    · rw [if_pos h0]; exact .inl rfl
    · rw [if_neg h0]; exact merged_head _
  refine ⟨hp, hz, hq, ⟨⟨.inr ⟨rfl, k.hon, k.seg, hq⟩, hp⟩, k.frag, rfl, k.lead, ?_⟩⟩
  have h1 := k.hos
  have h2 := k.frz
  rw [textL, baseL, if_neg k.hon, List.length_append, List.length_append, List.length_append, szl, szl]
  have h3 : http.length = 7 := rfl
  by_cases h0 : fr2.size = 0
  · rw [if_pos h0, List.length_nil]; omega
  · rw [if_neg h0, List.length_cons, szl]; omega

def InhOut (ho full fr2 : ByteArray) (w : World) (e : Ending) (w' : World) : Prop :=
  ∃ (q b : Nat) (pa : ByteArray), e = .returned (.tuple #[.pointer (some ⟨q, 0, none⟩), .nilIface]) ∧ w'.cell? ⟨q, 0, none⟩ = some (.pointer (some ⟨b, 0, none⟩)) ∧ pa.data.toList = (if full.size = 0 then [] else mergedS full.data.toList) ∧ UrlAt w' b httpB ho pa fr2 ∧ Below w.heap.size w w'

set_option maxRecDepth 100000 in
set_option maxHeartbeats 800000 in
theorem inherits_any {ho1 pa1 sch2 ho2 pa2 fr2 ho full : ByteArray} (k : Kin ho1 pa1 sch2 ho2 pa2 fr2 ho full) (r bu br : Nat) (p : Option Go.Addr) (n c : Nat) (x2 x3 x4 x5 x6 : Bool) (w : World) (hT : Tab w) (hr : w.cell? ⟨r, 0, none⟩ = some (.pointer (some ⟨bu, 0, none⟩))) (hrl : r < w.heap.size)
    (U1 : UrlAt w bu httpB ho1 pa1 ⟨#[]⟩) (U2 : UrlAt w br sch2 ho2 pa2 fr2) :
    Calls Tryz.prog 10 #[.pointer (some ⟨r, 0, none⟩), .agg #[.pointer (some ⟨br, 0, none⟩), .slice p n c, .bool x2, .bool x3, .bool x4, .bool x5, .bool x6]] w (InhOut ho full fr2 w) := by
  obtain ⟨o, ho⟩ : ∃ o, o = Obj.cells #[.pointer (some ⟨br, 0, none⟩), .slice p n c, .bool x2, .bool x3, .bool x4, .bool x5, .bool x6] 36 := ⟨_, rfl⟩
  have HB := hid ((Below.refl w.heap.size w).alloc (Nat.le_refl _) o)
  have hz : (w.alloc o).heap.size = w.heap.size + 1 := by simp
  have hc : (w.alloc o).cell? ⟨w.heap.size, 0, none⟩ = some (.pointer (some ⟨br, 0, none⟩)) := by
    rw [ho, World.cell?_alloc_at _ _ _ _ rfl]; rfl
  have hr2 : (w.alloc o).cell? ⟨r, 0, none⟩ = some (.pointer (some ⟨bu, 0, none⟩)) := by
    rw [HB.out.cell (p := ⟨r, 0, none⟩) hrl]; exact hr
  have HT := hid (hT.alloc o)
  have V1 := hid (U1.keep HB.out)
  have V2 := hid (U2.keep HB.out)
  have hbl := U1.lt
  clear hT hr U1 U2
  rw [ho] at HB hz hc hr2 HT V1 V2
  clear ho o
  go_enter Tryz.func10, Tryz.ntmps10
  go_wp2_with fail
  generalize w.alloc (.cells _ 36) = W at *
  refine (geturl_any _ _ _ hc).mono ?_
  rintro e w' ⟨rfl, rfl⟩
  go_wp2_with fail
  refine (geturl_any _ _ _ hr2).mono ?_
  rintro e w' ⟨rfl, rfl⟩
  go_wp2_with fail
  refine (geturl_any _ _ _ hr2).mono ?_
  rintro e w' ⟨rfl, rfl⟩
  obtain ⟨u0, u1, u2, u3, u4, u5, u6, u7, u8, u9, u10⟩ := V1.out.c
  go_wp2_with fail
  have HUA := hid (UA.copy (sch := httpB) (ho := ho1) (pa := pa1) (fr := ⟨#[]⟩) HT.out _)
  have HBA := hid ((Below.refl W.heap.size W).alloc (Nat.le_refl _) (.cells (urlCells httpB ho1 pa1 ⟨#[]⟩) 53))
  unfold urlCells at HUA HBA
  generalize W.alloc (.cells _ 53) = W2 at *
  have hc2 : W2.cell? ⟨w.heap.size, 0, none⟩ = some (.pointer (some ⟨br, 0, none⟩)) := by
    rw [HBA.out.cell (p := ⟨w.heap.size, 0, none⟩) (by show w.heap.size < _; omega)]; exact hc
  have V3 := hid (V2.out.keep HBA.out)
  have HB2 := hid (HB.out.trans (HBA.out.mono HB.out.size))
  have HUA2 := hid (hz ▸ HUA.out.url)
  have HT2 := hid HUA.out.tab
  clear hc hr2 u0 u1 u2 u3 u4 u5 u6 u7 u8 u9 u10 HB HT V1 V2 HUA HBA
  refine (geturl_any _ _ _ hc2).mono ?_
  rintro e w' ⟨rfl, rfl⟩
  go_wp2_with fail
  refine (resref_any k _ _ _ HT2.out HUA2.out V3.out).mono ?_
  rintro e w3 ⟨bz, pa, rfl, hpa, hu3, hb3, _⟩
  obtain ⟨q1, q2, q3, q4⟩ := kin_addr k hpa
  have HPA := hid hpa
  have HT3 := hid (HT2.out.keep hb3)
  have HB3 := hid (HB2.out.trans (hb3.mono HB2.out.size))
  have HU3 := hid hu3
  have HQ := hid q4
  clear hu3 hb3 hpa HT2 HUA2 V3 HB2 hc2
  go_wp2_with fail
  refine (string_any bz ho pa fr2 w3 HT3.out HU3.out k.seg k.hon (by have := k.hos; omega) q1 (by omega) k.frag (by have := k.frz; omega) q3).mono ?_
  rintro e w4 ⟨t, rfl, ht, hb4⟩
  have HT4 := hid (HT3.out.keep hb4)
  have HB4 := hid (HB3.out.trans (hb4.mono HB3.out.size))
  have HA := hid (show Addr t.data.toList httpB ho pa fr2 by rw [ht]; exact HQ.out)
  clear ht hb4 HT3 HB3 HU3 HQ q1 q2 q3 q4
  go_wp2_with fail
  refine (newref_any t httpB ho pa fr2 w4 HT4.out HA.out).mono ?_
  rintro e w5 ⟨b, p', n', c', y2, y3, y4, y5, y6, rfl, hu5, hb5, _⟩
  have HB5 := hid (HB4.out.trans (hb5.mono HB4.out.size))
  have HU5 := hid (hu5.keep ((Below.refl _ _).alloc (Nat.le_refl _) (.cells #[.pointer (some ⟨b, 0, none⟩), .slice p' n' c', .bool y2, .bool y3, .bool y4, .bool y5, .bool y6] 36)))
  clear hu5 hb5 HT4 HB4 HA
  go_wp2
  go_ret2
  refine ⟨_, b, pa, rfl, ?_, HPA.out, HU5.out, HB5.out.alloc HB5.out.size _⟩
  rw [World.cell?_alloc_at _ _ _ _ rfl]
  rfl
end Go.Proofs.YthphgelfiggleaaGreatDoor

/-
  Inherited of package impl, and FnInherited of package laws: it answers true. Condition: the world holds neturl's table.
-/
import Derived.Test.YthphgelfiggleaaGreatDoorIn
namespace Go.Proofs.YthphgelfiggleaaGreatDoor
open Go.RowKit

def ImplOut (ho full fr2 : ByteArray) (w : World) (e : Ending) (w' : World) : Prop :=
  ∃ (r pa : ByteArray), e = .returned (.tuple #[.string r, .bool true]) ∧ pa.data.toList = (if full.size = 0 then [] else mergedS full.data.toList) ∧ r.data.toList = textL ho pa fr2 ∧ Below w.heap.size w w'

set_option maxRecDepth 100000 in
set_option maxHeartbeats 800000 in
theorem inherited_any {ho1 pa1 sch2 ho2 pa2 fr2 ho full : ByteArray} (k : Kin ho1 pa1 sch2 ho2 pa2 fr2 ho full) (s t : ByteArray) (w : World) (hT : Tab w) (A1 : Addr s.data.toList httpB ho1 pa1 ⟨#[]⟩) (A2 : Addr t.data.toList sch2 ho2 pa2 fr2) :
    Calls Tryz.prog 5 #[.string s, .string t] w (ImplOut ho full fr2 w) := by
  have HT := hid hT
  have HA2 := hid A2
  have c1 := hid (newref_any s httpB ho1 pa1 ⟨#[]⟩ w hT A1)
  clear hT A1 A2
  go_enter Tryz.func5, Tryz.ntmps5
  go_wp2_with fail
  refine c1.out.mono ?_
  rintro e w1 ⟨bu, p, n, c, x2, x3, x4, x5, x6, rfl, hu, hb, hlo⟩
  obtain ⟨o, ho'⟩ : ∃ o, o = Obj.cells #[.pointer (some ⟨bu, 0, none⟩), .slice p n c, .bool x2, .bool x3, .bool x4, .bool x5, .bool x6] 36 := ⟨_, rfl⟩
  have HBo := hid ((Below.refl w1.heap.size w1).alloc (Nat.le_refl _) o)
  have hc : (w1.alloc o).cell? ⟨w1.heap.size, 0, none⟩ = some (.pointer (some ⟨bu, 0, none⟩)) := by
    rw [ho', World.cell?_alloc_at _ _ _ _ rfl]; rfl
  have HT1 := hid ((HT.out.keep hb).alloc o)
  have V1 := hid (hu.keep HBo.out)
  have HB1 := hid (hb.trans (HBo.out.mono hb.size))
  have hz : w1.heap.size < (w1.alloc o).heap.size := by simp
  rw [ho'] at hc HT1 V1 HB1 hz
  clear ho' o HBo hu hb hlo c1
  go_wp2_with fail
  generalize w1.alloc (.cells _ 36) = W at *
  refine (newref_any t sch2 ho2 pa2 fr2 W HT1.out HA2.out).mono ?_
  rintro e w2 ⟨br, p', n', c', y2, y3, y4, y5, y6, rfl, hu2, hb2, _⟩
  obtain ⟨o, ho'⟩ : ∃ o, o = Obj.cells #[.pointer (some ⟨br, 0, none⟩), .slice p' n' c', .bool y2, .bool y3, .bool y4, .bool y5, .bool y6] 36 := ⟨_, rfl⟩
  have HBo := hid ((Below.refl w2.heap.size w2).alloc (Nat.le_refl _) o)
  have hc1 : (w2.alloc o).cell? ⟨w1.heap.size, 0, none⟩ = some (.pointer (some ⟨bu, 0, none⟩)) := by
    rw [HBo.out.cell (p := ⟨w1.heap.size, 0, none⟩) (Nat.lt_of_lt_of_le hz hb2.size), hb2.cell (p := ⟨w1.heap.size, 0, none⟩) hz]; exact hc
  have HT2 := hid ((HT1.out.keep hb2).alloc o)
  have V2 := hid ((V1.out.keep hb2).keep HBo.out)
  have V3 := hid (hu2.keep HBo.out)
  have HB2 := hid ((HB1.out.trans (hb2.mono HB1.out.size)).trans (HBo.out.mono (Nat.le_trans HB1.out.size hb2.size)))
  have hz2 : w1.heap.size < (w2.alloc o).heap.size := by
    have := hb2.size
    simp
    omega
  rw [ho'] at hc1 HT2 V2 V3 HB2 hz2
  clear ho' o HBo hu2 hb2 HT1 V1 HB1 hc hz
  go_wp2_with fail
  generalize w2.alloc (.cells _ 36) = W2 at *
  refine (inherits_any k _ bu br _ _ _ _ _ _ _ _ W2 HT2.out hc1 hz2 V2.out V3.out).mono ?_
  rintro e w3 ⟨q, b, pa, rfl, hcq, hpa, hu3, hb3⟩
  obtain ⟨q1, q2, q3, _⟩ := kin_addr k hpa
  have c11 := hid (refstr_any q b ho pa fr2 w3 hcq (HT2.out.keep hb3) hu3 k.seg k.hon (by have := k.hos; omega) q1 (by omega) k.frag (by have := k.frz; omega) q3)
  have HPA := hid hpa
  have HB3 := hid (HB2.out.trans (hb3.mono HB2.out.size))
  clear hcq hpa hu3 hb3 q1 q2 q3 HT2 V2 V3 HB2 hc1 hz2
  go_wp2_with fail
  refine c11.out.mono ?_
  rintro e w4 ⟨r, rfl, hr, hb4⟩
  have HR := hid hr
  have HB4 := hid (HB3.out.trans (hb4.mono HB3.out.size))
  clear hr hb4 HB3 c11
  go_wp2
  go_ret2
  exact ⟨r, pa, rfl, HPA.out, HR.out, HB4.out⟩

theorem kin_of {s t hp pp hc pc fc : Bytes} {ho1 pa1 fr1 sch1 sch2 ho2 pa2 fr2 ho full : ByteArray} (t1 : TA s hp pp [] sch1 ho1 pa1 fr1) (t2 : TA t hc pc fc sch2 ho2 pa2 fr2) (c : Comes hp pp hc pc fc ho1 pa1 sch2 ho2 pa2 fr2 ho full) : Kin ho1 pa1 sch2 ho2 pa2 fr2 ho full := by
  obtain ⟨_, z2, _⟩ := t1.sizes
  obtain ⟨_, z5, z6⟩ := t2.sizes
  refine ⟨c.into, c.fit, c.all, c.few, c.seg, c.hon, c.hos, t1.addr.ok.path, t2.addr.ok.path, by omega, by omega, fun h => ?_, t2.addr.frag, z6, t2.addr.lead⟩
  rcases t2.addr.ok.host with ⟨_, h2, _⟩ | ⟨h2, _⟩
  · exact h2
  · rw [h] at h2
    exact absurd (congrArg ByteArray.size h2) (by decide)

def TrueOut (w : World) (e : Ending) (w' : World) : Prop := e = .returned (.bool true) ∧ Below w.heap.size w w'

set_option maxRecDepth 100000 in
set_option maxHeartbeats 800000 in
theorem law_any (a0 a1 : ByteArray) (w : World) (hT : Tab w) : Calls Tryz.prog 3 #[.string a0, .string a1] w (TrueOut w) := by
  have HT := hid hT
  clear hT
  by_cases h0 : (2147483647 : Int) < (a0.size : Int)
  · go_enter Tryz.func3, Tryz.ntmps3
    go_wp2
    go_ret
    exact ⟨rfl, Below.refl _ _⟩
  · by_cases h1 : (2147483647 : Int) < (a1.size : Int)
    · go_enter Tryz.func3, Tryz.ntmps3
      go_wp2
      go_ret
      exact ⟨rfl, Below.refl _ _⟩
    · go_enter Tryz.func3, Tryz.ntmps3
      go_wp2_with fail
      refine (res_any a0 a1 w).mono ?_
      rintro e w1 ⟨r, told, rfl, htold, hb1⟩
      cases told
      · clear htold
        go_wp2
        go_ret
        exact ⟨rfl, hb1⟩
      · obtain ⟨hp, pp, hc, pc, fc, hboth, hres⟩ := htold rfl
        obtain ⟨sch1, ho1, pa1, fr1, t1⟩ := told_addr hboth.one
        obtain ⟨sch2, ho2, pa2, fr2, t2⟩ := told_addr hboth.two
        obtain ⟨rfl, rfl, ho, full, hcomes⟩ := comes_of hboth t1 t2
        have c5 := hid (inherited_any (kin_of t1 t2 hcomes) a0 a1 w1 (HT.out.keep hb1) t1.addr t2.addr)
        have HS := hid hcomes.same
        have HRES := hid hres
        have HB1 := hid hb1
        clear htold hboth hres t1 t2 hcomes hb1
        go_wp2_with fail
        refine c5.out.mono ?_
        rintro e w2 ⟨r2, pa, rfl, hpa, hr2, hb2⟩
        have heq : (r2.toList == r.toList) = true := by
          rw [ByteArray.toList_eq, ByteArray.toList_eq, hr2, HS.out pa hpa, HRES.out]
          exact beq_self_eq_true _
        have HB2 := hid (HB1.out.trans (hb2.mono HB1.out.size))
        clear hpa hr2 hb2 c5
        go_wp2
        go_ret
        exact ⟨rfl, HB2.out⟩
end Go.Proofs.YthphgelfiggleaaGreatDoor

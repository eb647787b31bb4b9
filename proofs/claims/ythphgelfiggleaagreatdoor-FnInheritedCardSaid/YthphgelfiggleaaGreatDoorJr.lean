/-
  gojsonreference: parse and NewJsonReference at the addresses of which the law speaks. Condition: the world holds neturl's table.
-/
import Derived.Test.YthphgelfiggleaaGreatDoorSt
import Derived.Test.YthphgelfiggleaaGreatDoorNew
namespace Go.Proofs.YthphgelfiggleaaGreatDoor
open Go.RowKit

/-- Block r holds a reference whose address is in block b. -/
def RefIs (W : World) (r b : Nat) : Prop :=
  ∃ (p : Option Go.Addr) (n c : Nat) (x2 x3 x4 x5 x6 : Bool), W.heap[r]? = some (.cells #[.pointer (some ⟨b, 0, none⟩), .slice p n c, .bool x2, .bool x3, .bool x4, .bool x5, .bool x6] 36 (0, 0))

section
variable {W : World} {r : Nat} {x0 l x2 x3 x4 x5 x6 : Value}
theorem ref_c (h : W.heap[r]? = some (.cells #[x0, l, x2, x3, x4, x5, x6] 36 (0, 0))) : W.cell? ⟨r, 0, none⟩ = some x0 ∧ W.cell? ⟨r, 1, none⟩ = some l ∧ W.cell? ⟨r, 2, none⟩ = some x2 ∧ W.cell? ⟨r, 3, none⟩ = some x3 ∧ W.cell? ⟨r, 4, none⟩ = some x4 ∧ W.cell? ⟨r, 5, none⟩ = some x5 ∧ W.cell? ⟨r, 6, none⟩ = some x6 := by
  refine ⟨?_, ?_, ?_, ?_, ?_, ?_, ?_⟩ <;> (rw [cell_of_row W r _ _ 36 (0, 0) h]; rfl)
theorem ref_f {cs : Array Value} (h : W.heap[r]? = some (.cells cs 36 (0, 0))) : W.frozen? ⟨r, 0, none⟩ = false ∧ W.frozen? ⟨r, 1, none⟩ = false ∧ W.frozen? ⟨r, 2, none⟩ = false ∧ W.frozen? ⟨r, 3, none⟩ = false ∧ W.frozen? ⟨r, 4, none⟩ = false ∧ W.frozen? ⟨r, 5, none⟩ = false ∧ W.frozen? ⟨r, 6, none⟩ = false := by
  refine ⟨?_, ?_, ?_, ?_, ?_, ?_, ?_⟩ <;> simp [World.frozen?, h]
end

/-- A reference in block r, its address in block b; all else that w has is as it was. -/
structure RefSt (w : World) (r b : Nat) (sch ho pa fr : ByteArray) (W : World) : Prop where
  tab : Tab W
  url : UrlAt W b sch ho pa fr
  ref : RefIs W r b
  grown : w.grownBy W (some r)
  lo : w.heap.size ≤ b
  lt : r < w.heap.size
  pos : 0 < r

section
variable {w W W' : World} {r b : Nat} {sch ho pa fr : ByteArray}
theorem RefSt.keep (h : RefSt w r b sch ho pa fr W) (hb : Below W.heap.size W W') : RefSt w r b sch ho pa fr W' := by
  obtain ⟨p, n, c, x2, x3, x4, x5, x6, hc⟩ := h.ref
  exact ⟨h.tab.keep hb, h.url.keep hb, ⟨p, n, c, x2, x3, x4, x5, x6, (hb.block r (Nat.lt_of_lt_of_le h.lt h.grown.size)).trans hc⟩, grown_trans h.grown (grown_below hb), h.lo, h.lt, h.pos⟩
theorem RefSt.storeAny (h : RefSt w r b sch ho pa fr W) (i : Nat) (v : Value) (hr : RefIs (W.setCell ⟨r, i, none⟩ v) r b) : RefSt w r b sch ho pa fr (W.setCell ⟨r, i, none⟩ v) :=
  ⟨h.tab.store h.pos i v, h.url.other (by have := h.lo; have := h.lt; omega) i v, hr, grown_trans h.grown (grown_store _ _ _ _), h.lo, h.lt, h.pos⟩
theorem RefSt.store1 (h : RefSt w r b sch ho pa fr W) (p : Option Go.Addr) (n c : Nat) : RefSt w r b sch ho pa fr (W.setCell ⟨r, 1, none⟩ (.slice p n c)) := by
  obtain ⟨p', n', c', x2, x3, x4, x5, x6, hc⟩ := h.ref
  exact h.storeAny 1 _ ⟨_, _, _, _, _, _, _, _, heap_setCell_same W r 1 _ 36 _ hc⟩
theorem RefSt.store2 (h : RefSt w r b sch ho pa fr W) (v : Bool) : RefSt w r b sch ho pa fr (W.setCell ⟨r, 2, none⟩ (.bool v)) := by
  obtain ⟨p, n, c, x2, x3, x4, x5, x6, hc⟩ := h.ref
  exact h.storeAny 2 _ ⟨_, _, _, _, _, _, _, _, heap_setCell_same W r 2 _ 36 _ hc⟩
theorem RefSt.store3 (h : RefSt w r b sch ho pa fr W) (v : Bool) : RefSt w r b sch ho pa fr (W.setCell ⟨r, 3, none⟩ (.bool v)) := by
  obtain ⟨p, n, c, x2, x3, x4, x5, x6, hc⟩ := h.ref
  exact h.storeAny 3 _ ⟨_, _, _, _, _, _, _, _, heap_setCell_same W r 3 _ 36 _ hc⟩
theorem RefSt.store4 (h : RefSt w r b sch ho pa fr W) (v : Bool) : RefSt w r b sch ho pa fr (W.setCell ⟨r, 4, none⟩ (.bool v)) := by
  obtain ⟨p, n, c, x2, x3, x4, x5, x6, hc⟩ := h.ref
  exact h.storeAny 4 _ ⟨_, _, _, _, _, _, _, _, heap_setCell_same W r 4 _ 36 _ hc⟩
theorem RefSt.store5 (h : RefSt w r b sch ho pa fr W) (v : Bool) : RefSt w r b sch ho pa fr (W.setCell ⟨r, 5, none⟩ (.bool v)) := by
  obtain ⟨p, n, c, x2, x3, x4, x5, x6, hc⟩ := h.ref
  exact h.storeAny 5 _ ⟨_, _, _, _, _, _, _, _, heap_setCell_same W r 5 _ 36 _ hc⟩
theorem RefSt.store6 (h : RefSt w r b sch ho pa fr W) (v : Bool) : RefSt w r b sch ho pa fr (W.setCell ⟨r, 6, none⟩ (.bool v)) := by
  obtain ⟨p, n, c, x2, x3, x4, x5, x6, hc⟩ := h.ref
  exact h.storeAny 6 _ ⟨_, _, _, _, _, _, _, _, heap_setCell_same W r 6 _ 36 _ hc⟩
theorem RefSt.st2 {v : Bool} (h : RefSt w r b sch ho pa fr W) (hw : W.setCell ⟨r, 2, none⟩ (.bool v) = W') : RefSt w r b sch ho pa fr W' := hw ▸ h.store2 v
theorem RefSt.st3 {v : Bool} (h : RefSt w r b sch ho pa fr W) (hw : W.setCell ⟨r, 3, none⟩ (.bool v) = W') : RefSt w r b sch ho pa fr W' := hw ▸ h.store3 v
theorem RefSt.st4 {v : Bool} (h : RefSt w r b sch ho pa fr W) (hw : W.setCell ⟨r, 4, none⟩ (.bool v) = W') : RefSt w r b sch ho pa fr W' := hw ▸ h.store4 v
theorem RefSt.st5 {v : Bool} (h : RefSt w r b sch ho pa fr W) (hw : W.setCell ⟨r, 5, none⟩ (.bool v) = W') : RefSt w r b sch ho pa fr W' := hw ▸ h.store5 v
theorem RefSt.st6 {v : Bool} (h : RefSt w r b sch ho pa fr W) (hw : W.setCell ⟨r, 6, none⟩ (.bool v) = W') : RefSt w r b sch ho pa fr W' := hw ▸ h.store6 v
end

def ParseRefOut (r : Nat) (sch ho pa fr : ByteArray) (w : World) (e : Ending) (w' : World) : Prop := e = .returned .nilIface ∧ ∃ b, RefSt w r b sch ho pa fr w'

theorem ref_first {w w1 : World} {r b : Nat} {sch ho pa fr : ByteArray} (hT : Tab w) (hr : w.heap[r]? = some (.cells #[.pointer none, .slice none 0 0, .bool false, .bool false, .bool false, .bool false, .bool false] 36 (0, 0))) (hr0 : 0 < r)
    (hu : UrlAt w1 b sch ho pa fr) (hb : Below w.heap.size w w1) (hlo : w.heap.size ≤ b) : RefSt w r b sch ho pa fr (w1.setCell ⟨r, 0, none⟩ (.pointer (some ⟨b, 0, none⟩))) := by
  have hlt : r < w.heap.size := (Array.getElem?_eq_some_iff.1 hr).1
  exact ⟨(hT.keep hb).store hr0 _ _, hu.other (by omega) _ _, ⟨_, _, _, _, _, _, _, _, heap_setCell_same w1 r 0 _ 36 _ ((hb.block r hlt).trans hr)⟩, grown_trans (grown_below hb) (grown_store _ _ _ _), hlo, hlt, hr0⟩

set_option maxRecDepth 100000 in
set_option maxHeartbeats 1600000 in
theorem parseref_any (r : Nat) (s sch ho pa fr : ByteArray) (w : World) (hT : Tab w) (hr : w.heap[r]? = some (.cells #[.pointer none, .slice none 0 0, .bool false, .bool false, .bool false, .bool false, .bool false] 36 (0, 0))) (hr0 : 0 < r)
    (ha : Addr s.data.toList sch ho pa fr) : Calls Tryz.prog 16 #[.pointer (some ⟨r, 0, none⟩), .string s] w (ParseRefOut r sch ho pa fr w) := by
  have hsz : s.size ≤ 1000 := by have := ha.short; rw [szl] at this; exact this
  have hfz : fr.size ≤ 1000 := by
    have := ha.short
    rw [ha.text, textL, List.length_append] at this
    by_cases h0 : fr.size = 0
    · omega
    · rw [if_neg h0, List.length_cons, szl] at this; omega
  have c23 := hid (purl_any s sch ho pa fr w hsz hT ha.ok ha.frag ha.text)
  have HT := hid hT
  have HR := hid hr
  have hlead := ha.lead
  have hhost : (sch = ⟨#[]⟩ ∧ ho = ⟨#[]⟩) ∨ (sch = httpB ∧ ho.size ≠ 0) := ha.ok.host.imp (fun h => ⟨h.1, h.2.1⟩) (fun h => ⟨h.1, h.2.1⟩)
  have ehttp : httpB.toList.isEmpty = false := not_empty httpB (by decide)
  have efile : (httpB.toList == [102, 105, 108, 101]) = false := by rw [ByteArray.toList_eq]; rfl
  have e0 : (⟨#[]⟩ : ByteArray).toList.isEmpty = true := empty_of _ rfl
  have e0f : ((⟨#[]⟩ : ByteArray).toList == [102, 105, 108, 101]) = false := by rw [ByteArray.toList_eq]; rfl
  clear hT hr ha
  go_enter Tryz.func16, Tryz.ntmps16
  go_wp2_with fail
  refine c23.out.mono ?_
  rintro e w1 ⟨b, rfl, hu, hb, hlo⟩
  have hlt : r < w.heap.size := (Array.getElem?_eq_some_iff.1 HR.out).1
  obtain ⟨c0, c1, c2, c3, c4, c5, c6⟩ := ref_c ((hb.block r hlt).trans HR.out)
  obtain ⟨f0, f1, f2, f3, f4, f5, f6⟩ := ref_f ((hb.block r hlt).trans HR.out)
  have R0 := hid (ref_first HT.out HR.out hr0 hu hb hlo)
  clear hu hb hlo c23
  go_upto_region 2 with (fail)
  clear c0 c1 c2 c3 c4 c5 c6 f0 f1 f2 f3 f4 f5 f6
  generalize World.setCell _ _ _ = w2 at *
  obtain ⟨lp, ln, lc, x2, x3, x4, x5, x6, hcells⟩ := R0.out.ref
  obtain ⟨c0, c1, c2, c3, c4, c5, c6⟩ := ref_c hcells
  obtain ⟨f0, f1, f2, f3, f4, f5, f6⟩ := ref_f hcells
  obtain ⟨u0, u1, u2, u3, u4, u5, u6, u7, u8, u9, u10⟩ := R0.out.url.c
  clear hcells
  rcases hhost with ⟨rfl, rfl⟩ | ⟨rfl, hho⟩
  · by_cases hpe : pa.size = 0
    · have epa := empty_of pa hpe
      by_cases hfe : fr.size = 0
      · have efr := empty_of fr hfe
        go_upto_region 10 with (fail)
        go_upto_region 11 with (fail)
        generalize hw : World.setCell _ _ _ = wa
        have RA := hid (R0.out.st5 hw)
        clear hw R0
        clear c0 c1 c2 c3 c4 c5 c6 f0 f1 f2 f3 f4 f5 f6 u0 u1 u2 u3 u4 u5 u6 u7 u8 u9 u10
        obtain ⟨lp, ln, lc, x2, x3, x4, x5, x6, hcells⟩ := RA.out.ref
        obtain ⟨c0, c1, c2, c3, c4, c5, c6⟩ := ref_c hcells
        obtain ⟨f0, f1, f2, f3, f4, f5, f6⟩ := ref_f hcells
        obtain ⟨u0, u1, u2, u3, u4, u5, u6, u7, u8, u9, u10⟩ := RA.out.url.c
        clear hcells
        have hpi : ¬ (0 : Int) < (pa.size : Int) := by omega
        go_upto_region 12 with (fail)
        generalize hw : World.setCell _ _ _ = wb
        have RB := hid (RA.out.st6 hw)
        clear hw RA
        clear c0 c1 c2 c3 c4 c5 c6 f0 f1 f2 f3 f4 f5 f6 u0 u1 u2 u3 u4 u5 u6 u7 u8 u9 u10
        obtain ⟨lp, ln, lc, x2, x3, x4, x5, x6, hcells⟩ := RB.out.ref
        obtain ⟨c0, c1, c2, c3, c4, c5, c6⟩ := ref_c hcells
        obtain ⟨f0, f1, f2, f3, f4, f5, f6⟩ := ref_f hcells
        obtain ⟨u0, u1, u2, u3, u4, u5, u6, u7, u8, u9, u10⟩ := RB.out.url.c
        clear hcells
        rcases hlead with hf0 | ⟨q, hq⟩
        · go_wp2_with fail
          refine (new_root fr _ hf0).mono ?_
          rintro e w8 ⟨rfl, hb8⟩
          have RZ := hid (RB.out.keep hb8)
          clear hb8 RB
          clear c0 c1 c2 c3 c4 c5 c6 f0 f1 f2 f3 f4 f5 f6 u0 u1 u2 u3 u4 u5 u6 u7 u8 u9 u10
          obtain ⟨lp, ln, lc, x2, x3, x4, x5, x6, hcells⟩ := RZ.out.ref
          obtain ⟨c0, c1, c2, c3, c4, c5, c6⟩ := ref_c hcells
          obtain ⟨f0, f1, f2, f3, f4, f5, f6⟩ := ref_f hcells
          obtain ⟨u0, u1, u2, u3, u4, u5, u6, u7, u8, u9, u10⟩ := RZ.out.url.c
          clear hcells
          go_wp2
          go_ret
          exact ⟨rfl, b, RZ.out.store1 _ _ _⟩
        · exact absurd (szl fr) (by rw [hq, hfe]; simp)
      · have efr := not_empty fr (by omega)
        go_upto_region 10 with (fail)
        generalize hw : World.setCell _ _ _ = w3
        have R1 := hid (R0.out.st4 hw)
        clear hw R0
        clear c0 c1 c2 c3 c4 c5 c6 f0 f1 f2 f3 f4 f5 f6 u0 u1 u2 u3 u4 u5 u6 u7 u8 u9 u10
        obtain ⟨lp, ln, lc, x2, x3, x4, x5, x6, hcells⟩ := R1.out.ref
        obtain ⟨c0, c1, c2, c3, c4, c5, c6⟩ := ref_c hcells
        obtain ⟨f0, f1, f2, f3, f4, f5, f6⟩ := ref_f hcells
        obtain ⟨u0, u1, u2, u3, u4, u5, u6, u7, u8, u9, u10⟩ := R1.out.url.c
        clear hcells
        go_upto_region 11 with (fail)
        generalize hw : World.setCell _ _ _ = wa
        have RA := hid (R1.out.st5 hw)
        clear hw R1
        clear c0 c1 c2 c3 c4 c5 c6 f0 f1 f2 f3 f4 f5 f6 u0 u1 u2 u3 u4 u5 u6 u7 u8 u9 u10
        obtain ⟨lp, ln, lc, x2, x3, x4, x5, x6, hcells⟩ := RA.out.ref
        obtain ⟨c0, c1, c2, c3, c4, c5, c6⟩ := ref_c hcells
        obtain ⟨f0, f1, f2, f3, f4, f5, f6⟩ := ref_f hcells
        obtain ⟨u0, u1, u2, u3, u4, u5, u6, u7, u8, u9, u10⟩ := RA.out.url.c
        clear hcells
        have hpi : ¬ (0 : Int) < (pa.size : Int) := by omega
        go_upto_region 12 with (fail)
        generalize hw : World.setCell _ _ _ = wb
        have RB := hid (RA.out.st6 hw)
        clear hw RA
        clear c0 c1 c2 c3 c4 c5 c6 f0 f1 f2 f3 f4 f5 f6 u0 u1 u2 u3 u4 u5 u6 u7 u8 u9 u10
        obtain ⟨lp, ln, lc, x2, x3, x4, x5, x6, hcells⟩ := RB.out.ref
        obtain ⟨c0, c1, c2, c3, c4, c5, c6⟩ := ref_c hcells
        obtain ⟨f0, f1, f2, f3, f4, f5, f6⟩ := ref_f hcells
        obtain ⟨u0, u1, u2, u3, u4, u5, u6, u7, u8, u9, u10⟩ := RB.out.url.c
        clear hcells
        rcases hlead with hf0 | ⟨q, hq⟩
        · exact absurd hf0 hfe
        · have hf1 : 0 < fr.size := by have := szl fr; rw [hq] at this; simp at this; omega
          have h47 : fr[0].toNat = 47 := by
            have h2 : fr.data.toList[0]? = some fr[0] := List.getElem?_eq_getElem (by rw [szl]; exact hf1)
            rw [hq] at h2
            rw [← Option.some.inj h2]; rfl
          have c24 := fun w => hid (new_some fr w (by omega) hf1 h47)
          clear h47 hq
          go_wp2_with fail
          refine (c24 _).out.mono ?_
          rintro e w8 ⟨g, cap, xs, t, rfl, _, hb8, _, _⟩
          have RZ := hid (RB.out.keep hb8)
          clear hb8 RB
          clear c0 c1 c2 c3 c4 c5 c6 f0 f1 f2 f3 f4 f5 f6 u0 u1 u2 u3 u4 u5 u6 u7 u8 u9 u10
          obtain ⟨lp, ln, lc, x2, x3, x4, x5, x6, hcells⟩ := RZ.out.ref
          obtain ⟨c0, c1, c2, c3, c4, c5, c6⟩ := ref_c hcells
          obtain ⟨f0, f1, f2, f3, f4, f5, f6⟩ := ref_f hcells
          obtain ⟨u0, u1, u2, u3, u4, u5, u6, u7, u8, u9, u10⟩ := RZ.out.url.c
          clear hcells
          go_wp2
          go_ret
          exact ⟨rfl, b, RZ.out.store1 _ _ _⟩
    · have epa := not_empty pa (by omega)
      go_upto_region 10 with (fail)
      generalize hw : World.setCell _ _ _ = w3
      have R1 := hid (R0.out.st3 hw)
      clear hw R0
      clear c0 c1 c2 c3 c4 c5 c6 f0 f1 f2 f3 f4 f5 f6 u0 u1 u2 u3 u4 u5 u6 u7 u8 u9 u10
      obtain ⟨lp, ln, lc, x2, x3, x4, x5, x6, hcells⟩ := R1.out.ref
      obtain ⟨c0, c1, c2, c3, c4, c5, c6⟩ := ref_c hcells
      obtain ⟨f0, f1, f2, f3, f4, f5, f6⟩ := ref_f hcells
      obtain ⟨u0, u1, u2, u3, u4, u5, u6, u7, u8, u9, u10⟩ := R1.out.url.c
      clear hcells
      go_upto_region 11 with (fail)
      generalize hw : World.setCell _ _ _ = wa
      have RA := hid (R1.out.st5 hw)
      clear hw R1
      clear c0 c1 c2 c3 c4 c5 c6 f0 f1 f2 f3 f4 f5 f6 u0 u1 u2 u3 u4 u5 u6 u7 u8 u9 u10
      obtain ⟨lp, ln, lc, x2, x3, x4, x5, x6, hcells⟩ := RA.out.ref
      obtain ⟨c0, c1, c2, c3, c4, c5, c6⟩ := ref_c hcells
      obtain ⟨f0, f1, f2, f3, f4, f5, f6⟩ := ref_f hcells
      obtain ⟨u0, u1, u2, u3, u4, u5, u6, u7, u8, u9, u10⟩ := RA.out.url.c
      clear hcells
      have hpi : (0 : Int) < (pa.size : Int) := by omega
      have hpi2 : 0 < pa.size := by omega
      go_upto_region 12 with (fail)
      generalize hw : World.setCell _ _ _ = wb
      have RB := hid (RA.out.st6 hw)
      clear hw RA
      clear c0 c1 c2 c3 c4 c5 c6 f0 f1 f2 f3 f4 f5 f6 u0 u1 u2 u3 u4 u5 u6 u7 u8 u9 u10
      obtain ⟨lp, ln, lc, x2, x3, x4, x5, x6, hcells⟩ := RB.out.ref
      obtain ⟨c0, c1, c2, c3, c4, c5, c6⟩ := ref_c hcells
      obtain ⟨f0, f1, f2, f3, f4, f5, f6⟩ := ref_f hcells
      obtain ⟨u0, u1, u2, u3, u4, u5, u6, u7, u8, u9, u10⟩ := RB.out.url.c
      clear hcells
      rcases hlead with hf0 | ⟨q, hq⟩
      · go_wp2_with fail
        refine (new_root fr _ hf0).mono ?_
        rintro e w8 ⟨rfl, hb8⟩
        have RZ := hid (RB.out.keep hb8)
        clear hb8 RB
        clear c0 c1 c2 c3 c4 c5 c6 f0 f1 f2 f3 f4 f5 f6 u0 u1 u2 u3 u4 u5 u6 u7 u8 u9 u10
        obtain ⟨lp, ln, lc, x2, x3, x4, x5, x6, hcells⟩ := RZ.out.ref
        obtain ⟨c0, c1, c2, c3, c4, c5, c6⟩ := ref_c hcells
        obtain ⟨f0, f1, f2, f3, f4, f5, f6⟩ := ref_f hcells
        obtain ⟨u0, u1, u2, u3, u4, u5, u6, u7, u8, u9, u10⟩ := RZ.out.url.c
        clear hcells
        go_wp2
        go_ret
        exact ⟨rfl, b, RZ.out.store1 _ _ _⟩
      · have hf1 : 0 < fr.size := by have := szl fr; rw [hq] at this; simp at this; omega
        have h47 : fr[0].toNat = 47 := by
          have h2 : fr.data.toList[0]? = some fr[0] := List.getElem?_eq_getElem (by rw [szl]; exact hf1)
          rw [hq] at h2
          rw [← Option.some.inj h2]; rfl
        have c24 := fun w => hid (new_some fr w (by omega) hf1 h47)
        clear h47 hq
        go_wp2_with fail
        refine (c24 _).out.mono ?_
        rintro e w8 ⟨g, cap, xs, t, rfl, _, hb8, _, _⟩
        have RZ := hid (RB.out.keep hb8)
        clear hb8 RB
        clear c0 c1 c2 c3 c4 c5 c6 f0 f1 f2 f3 f4 f5 f6 u0 u1 u2 u3 u4 u5 u6 u7 u8 u9 u10
        obtain ⟨lp, ln, lc, x2, x3, x4, x5, x6, hcells⟩ := RZ.out.ref
        obtain ⟨c0, c1, c2, c3, c4, c5, c6⟩ := ref_c hcells
        obtain ⟨f0, f1, f2, f3, f4, f5, f6⟩ := ref_f hcells
        obtain ⟨u0, u1, u2, u3, u4, u5, u6, u7, u8, u9, u10⟩ := RZ.out.url.c
        clear hcells
        go_wp2
        go_ret
        exact ⟨rfl, b, RZ.out.store1 _ _ _⟩
  · have eho := not_empty ho (by omega)
    go_upto_region 10 with (fail)
    generalize hw : World.setCell _ _ _ = w3
    have R1 := hid (R0.out.st2 hw)
    clear hw R0
    clear c0 c1 c2 c3 c4 c5 c6 f0 f1 f2 f3 f4 f5 f6 u0 u1 u2 u3 u4 u5 u6 u7 u8 u9 u10
    obtain ⟨lp, ln, lc, x2, x3, x4, x5, x6, hcells⟩ := R1.out.ref
    obtain ⟨c0, c1, c2, c3, c4, c5, c6⟩ := ref_c hcells
    obtain ⟨f0, f1, f2, f3, f4, f5, f6⟩ := ref_f hcells
    obtain ⟨u0, u1, u2, u3, u4, u5, u6, u7, u8, u9, u10⟩ := R1.out.url.c
    clear hcells
    go_upto_region 11 with (fail)
    generalize hw : World.setCell _ _ _ = wa
    have RA := hid (R1.out.st5 hw)
    clear hw R1
    clear c0 c1 c2 c3 c4 c5 c6 f0 f1 f2 f3 f4 f5 f6 u0 u1 u2 u3 u4 u5 u6 u7 u8 u9 u10
    obtain ⟨lp, ln, lc, x2, x3, x4, x5, x6, hcells⟩ := RA.out.ref
    obtain ⟨c0, c1, c2, c3, c4, c5, c6⟩ := ref_c hcells
    obtain ⟨f0, f1, f2, f3, f4, f5, f6⟩ := ref_f hcells
    obtain ⟨u0, u1, u2, u3, u4, u5, u6, u7, u8, u9, u10⟩ := RA.out.url.c
    clear hcells
    by_cases hp0 : pa.size = 0
    · have hpi : ¬ (0 : Int) < (pa.size : Int) := by omega
      go_upto_region 12 with (fail)
      generalize hw : World.setCell _ _ _ = wb
      have RB := hid (RA.out.st6 hw)
      clear hw RA
      clear c0 c1 c2 c3 c4 c5 c6 f0 f1 f2 f3 f4 f5 f6 u0 u1 u2 u3 u4 u5 u6 u7 u8 u9 u10
      obtain ⟨lp, ln, lc, x2, x3, x4, x5, x6, hcells⟩ := RB.out.ref
      obtain ⟨c0, c1, c2, c3, c4, c5, c6⟩ := ref_c hcells
      obtain ⟨f0, f1, f2, f3, f4, f5, f6⟩ := ref_f hcells
      obtain ⟨u0, u1, u2, u3, u4, u5, u6, u7, u8, u9, u10⟩ := RB.out.url.c
      clear hcells
      rcases hlead with hf0 | ⟨q, hq⟩
      · go_wp2_with fail
        refine (new_root fr _ hf0).mono ?_
        rintro e w8 ⟨rfl, hb8⟩
        have RZ := hid (RB.out.keep hb8)
        clear hb8 RB
        clear c0 c1 c2 c3 c4 c5 c6 f0 f1 f2 f3 f4 f5 f6 u0 u1 u2 u3 u4 u5 u6 u7 u8 u9 u10
        obtain ⟨lp, ln, lc, x2, x3, x4, x5, x6, hcells⟩ := RZ.out.ref
        obtain ⟨c0, c1, c2, c3, c4, c5, c6⟩ := ref_c hcells
        obtain ⟨f0, f1, f2, f3, f4, f5, f6⟩ := ref_f hcells
        obtain ⟨u0, u1, u2, u3, u4, u5, u6, u7, u8, u9, u10⟩ := RZ.out.url.c
        clear hcells
        go_wp2
        go_ret
        exact ⟨rfl, b, RZ.out.store1 _ _ _⟩
      · have hf1 : 0 < fr.size := by have := szl fr; rw [hq] at this; simp at this; omega
        have h47 : fr[0].toNat = 47 := by
          have h2 : fr.data.toList[0]? = some fr[0] := List.getElem?_eq_getElem (by rw [szl]; exact hf1)
          rw [hq] at h2
          rw [← Option.some.inj h2]; rfl
        have c24 := fun w => hid (new_some fr w (by omega) hf1 h47)
        clear h47 hq
        go_wp2_with fail
        refine (c24 _).out.mono ?_
        rintro e w8 ⟨g, cap, xs, t, rfl, _, hb8, _, _⟩
        have RZ := hid (RB.out.keep hb8)
        clear hb8 RB
        clear c0 c1 c2 c3 c4 c5 c6 f0 f1 f2 f3 f4 f5 f6 u0 u1 u2 u3 u4 u5 u6 u7 u8 u9 u10
        obtain ⟨lp, ln, lc, x2, x3, x4, x5, x6, hcells⟩ := RZ.out.ref
        obtain ⟨c0, c1, c2, c3, c4, c5, c6⟩ := ref_c hcells
        obtain ⟨f0, f1, f2, f3, f4, f5, f6⟩ := ref_f hcells
        obtain ⟨u0, u1, u2, u3, u4, u5, u6, u7, u8, u9, u10⟩ := RZ.out.url.c
        clear hcells
        go_wp2
        go_ret
        exact ⟨rfl, b, RZ.out.store1 _ _ _⟩
    · have hpi : (0 : Int) < (pa.size : Int) := by omega
      have hpi2 : 0 < pa.size := by omega
      go_upto_region 12 with (fail)
      generalize hw : World.setCell _ _ _ = wb
      have RB := hid (RA.out.st6 hw)
      clear hw RA
      clear c0 c1 c2 c3 c4 c5 c6 f0 f1 f2 f3 f4 f5 f6 u0 u1 u2 u3 u4 u5 u6 u7 u8 u9 u10
      obtain ⟨lp, ln, lc, x2, x3, x4, x5, x6, hcells⟩ := RB.out.ref
      obtain ⟨c0, c1, c2, c3, c4, c5, c6⟩ := ref_c hcells
      obtain ⟨f0, f1, f2, f3, f4, f5, f6⟩ := ref_f hcells
      obtain ⟨u0, u1, u2, u3, u4, u5, u6, u7, u8, u9, u10⟩ := RB.out.url.c
      clear hcells
      rcases hlead with hf0 | ⟨q, hq⟩
      · go_wp2_with fail
        refine (new_root fr _ hf0).mono ?_
        rintro e w8 ⟨rfl, hb8⟩
        have RZ := hid (RB.out.keep hb8)
        clear hb8 RB
        clear c0 c1 c2 c3 c4 c5 c6 f0 f1 f2 f3 f4 f5 f6 u0 u1 u2 u3 u4 u5 u6 u7 u8 u9 u10
        obtain ⟨lp, ln, lc, x2, x3, x4, x5, x6, hcells⟩ := RZ.out.ref
        obtain ⟨c0, c1, c2, c3, c4, c5, c6⟩ := ref_c hcells
        obtain ⟨f0, f1, f2, f3, f4, f5, f6⟩ := ref_f hcells
        obtain ⟨u0, u1, u2, u3, u4, u5, u6, u7, u8, u9, u10⟩ := RZ.out.url.c
        clear hcells
        go_wp2
        go_ret
        exact ⟨rfl, b, RZ.out.store1 _ _ _⟩
      · have hf1 : 0 < fr.size := by have := szl fr; rw [hq] at this; simp at this; omega
        have h47 : fr[0].toNat = 47 := by
          have h2 : fr.data.toList[0]? = some fr[0] := List.getElem?_eq_getElem (by rw [szl]; exact hf1)
          rw [hq] at h2
          rw [← Option.some.inj h2]; rfl
        have c24 := fun w => hid (new_some fr w (by omega) hf1 h47)
        clear h47 hq
        go_wp2_with fail
        refine (c24 _).out.mono ?_
        rintro e w8 ⟨g, cap, xs, t, rfl, _, hb8, _, _⟩
        have RZ := hid (RB.out.keep hb8)
        clear hb8 RB
        clear c0 c1 c2 c3 c4 c5 c6 f0 f1 f2 f3 f4 f5 f6 u0 u1 u2 u3 u4 u5 u6 u7 u8 u9 u10
        obtain ⟨lp, ln, lc, x2, x3, x4, x5, x6, hcells⟩ := RZ.out.ref
        obtain ⟨c0, c1, c2, c3, c4, c5, c6⟩ := ref_c hcells
        obtain ⟨f0, f1, f2, f3, f4, f5, f6⟩ := ref_f hcells
        obtain ⟨u0, u1, u2, u3, u4, u5, u6, u7, u8, u9, u10⟩ := RZ.out.url.c
        clear hcells
        go_wp2
        go_ret
        exact ⟨rfl, b, RZ.out.store1 _ _ _⟩
end Go.Proofs.YthphgelfiggleaaGreatDoor

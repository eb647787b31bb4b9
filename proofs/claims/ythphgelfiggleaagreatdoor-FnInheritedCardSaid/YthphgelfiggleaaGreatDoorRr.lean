/-
  ResolveReference of package neturl at the addresses of which the law speaks. Condition: the world holds the package's table.
-/
import Derived.Test.YthphgelfiggleaaGreatDoorAd
namespace Go.Proofs.YthphgelfiggleaaGreatDoor
open Go.RowKit

def ResRefOut (ho full fr : ByteArray) (w : World) (e : Ending) (w' : World) : Prop :=
  ∃ (b : Nat) (pa : ByteArray), e = .returned (.pointer (some ⟨b, 0, none⟩)) ∧ pa.data.toList = (if full.size = 0 then [] else mergedS full.data.toList) ∧ UrlAt w' b httpB ho pa fr ∧ Below w.heap.size w w' ∧ w.heap.size ≤ b

theorem UA.copy {w : World} (hT : Tab w) {sch ho pa fr : ByteArray} (o : Obj) (ho' : o = .cells (urlCells sch ho pa fr) 53 := by rfl) : UA w w.heap.size sch ho pa fr (w.alloc o) := by
  subst ho'
  refine ⟨(Below.refl _ _).alloc (Nat.le_refl _) _, hT.alloc _, ?_, Nat.le_refl _, hT.1⟩
  show (w.heap.push _)[w.heap.size]? = some _
  simp

theorem resp_path {full r : ByteArray} (hr : r.data.toList = (if full.size = 0 then [] else mergedS full.data.toList)) (hp : PathAll full) (hs : full.size ≤ 300) : PathAll r ∧ r.size ≤ 1000000 := by
  have hl := szl r
  have hm := merged_len full.data.toList
  rw [szl] at hm
  by_cases h0 : full.size = 0
  · rw [if_pos h0] at hr
    rw [hr] at hl
    exact ⟨(fun c hc => by rw [hr] at hc; cases hc), by simp at hl; omega⟩
  · rw [if_neg h0] at hr
    rw [hr] at hl
    exact ⟨(fun c hc => by rw [hr] at hc; exact merged_path hp c hc), by omega⟩

set_option maxRecDepth 100000 in
set_option maxHeartbeats 800000 in
theorem resref_http (bu br : Nat) (ho2 pa2 fr2 : ByteArray) (w : World) (hT : Tab w) (U2 : UrlAt w br httpB ho2 pa2 fr2) (hp : PathAll pa2) (hfit : PathFit pa2) (hs : pa2.size ≤ 300) :
    Calls Tryz.prog 19 #[.pointer (some ⟨bu, 0, none⟩), .pointer (some ⟨br, 0, none⟩)] w (ResRefOut ho2 pa2 fr2 w) := by
  obtain ⟨k0, k1, k2, k3, k4, k5, k6, k7, k8, k9, k10⟩ := U2.c
  have HU := hid (UA.copy (sch := httpB) (ho := ho2) (pa := pa2) (fr := fr2) hT _)
  have HR := hid (U2.keep ((Below.refl _ _).alloc (Nat.le_refl _) (.cells (urlCells httpB ho2 pa2 fr2) 53)))
  unfold urlCells at HU HR
  have ehttp : httpB.toList.isEmpty = false := not_empty httpB (by decide)
  obtain ⟨h0, h1, h2, h3, h4, h5, h6, h7, h8, h9, h10⟩ := HR.out.c
  clear U2
  go_enter Tryz.func19, Tryz.ntmps19
  go_wp2_with fail
  generalize hb : w.heap.size = b at *
  generalize w.alloc (.cells _ 53) = W at *
  refine (escpath_any br httpB ho2 pa2 fr2 W (by omega) HU.out.tab HR.out hp).mono ?_
  rintro e w1 ⟨rfl, hb1⟩
  have HU1 := hid (HU.out.keep hb1)
  have HR1 := hid (HR.out.keep hb1)
  clear hb1 HU HR h0 h1 h2 h3 h4 h5 h6 h7 h8 h9 h10
  go_wp2_with fail
  refine (respath_any pa2 ⟨#[]⟩ pa2 w1 (by omega) (by decide) (by omega) (.inl ⟨rfl, rfl⟩) hfit).mono ?_
  rintro e w2 ⟨r, rfl, hr, hb2⟩
  have HU2 := hid (HU1.out.keep hb2)
  have HRP := hid (resp_path hr hp hs)
  have HRL := hid hr
  clear hb2 HU1 hr
  go_wp2_with fail
  refine (setpath_any b _ _ _ _ r _ HRP.out.2 (Nat.lt_of_lt_of_le HU2.out.pos HU2.out.lo) HU2.out.tab HU2.out.url HRP.out.1).mono ?_
  rintro e w6 ⟨rfl, hu6, hg6⟩
  have HU6 := hid (HU2.out.set hu6 hg6)
  clear hu6 hg6 HU2
  go_wp2
  go_ret
  exact ⟨b, r, rfl, HRL.out, HU6.out.url, HU6.out.below, HU6.out.lo⟩

theorem UrlAt.other {w : World} {b b' : Nat} {sch ho pa fr : ByteArray} (h : UrlAt w b sch ho pa fr) (hne : b' ≠ b) (i : Nat) (v : Value) : UrlAt (w.setCell ⟨b', i, none⟩ v) b sch ho pa fr :=
  (heap_setCell_other w _ b v (fun e => hne e.symm)).trans h

theorem UrlAt.ff {w : World} {b : Nat} {sch ho pa fr : ByteArray} (h : UrlAt w b sch ho pa fr) : w.frozen? ⟨b, 0, none⟩ = false ∧ w.frozen? ⟨b, 2, none⟩ = false ∧ w.frozen? ⟨b, 3, none⟩ = false ∧ w.frozen? ⟨b, 5, none⟩ = false ∧ w.frozen? ⟨b, 6, none⟩ = false ∧ w.frozen? ⟨b, 8, none⟩ = false :=
  ⟨h.free 0, h.free 2, h.free 3, h.free 5, h.free 6, h.free 8⟩

theorem empty_is (s : ByteArray) (h : s.toList.isEmpty = true) : s = ⟨#[]⟩ := by
  rw [ByteArray.toList_eq, List.isEmpty_iff] at h
  exact ba_ext h

/-- The new address in block b, the parent in bu, the child in br. -/
structure RR (w : World) (b bu br : Nat) (sch ho pa fr ho1 pa1 pa2 fr2 : ByteArray) (W : World) : Prop where
  ua : UA w b sch ho pa fr W
  u : UrlAt W bu httpB ho1 pa1 ⟨#[]⟩
  r : UrlAt W br ⟨#[]⟩ ⟨#[]⟩ pa2 fr2
  lu : bu < w.heap.size
  lr : br < w.heap.size

section
variable {w W W' : World} {b bu br : Nat} {sch ho pa fr ho1 pa1 pa2 fr2 : ByteArray}
theorem RR.store (h : RR w b bu br sch ho pa fr ho1 pa1 pa2 fr2 W) (i : Nat) (v : Value) (sch' ho' pa' fr' : ByteArray) (hv : (urlCells sch ho pa fr).setIfInBounds i v = urlCells sch' ho' pa' fr') : RR w b bu br sch' ho' pa' fr' ho1 pa1 pa2 fr2 (W.setCell ⟨b, i, none⟩ v) :=
  ⟨h.ua.store i v _ _ _ _ hv, h.u.other (by have := h.lu; have := h.ua.lo; omega) i v, h.r.other (by have := h.lr; have := h.ua.lo; omega) i v, h.lu, h.lr⟩
theorem RR.keep (h : RR w b bu br sch ho pa fr ho1 pa1 pa2 fr2 W) (hb : Below W.heap.size W W') : RR w b bu br sch ho pa fr ho1 pa1 pa2 fr2 W' :=
  ⟨h.ua.keep hb, h.u.keep hb, h.r.keep hb, h.lu, h.lr⟩
end

set_option maxRecDepth 100000 in
set_option maxHeartbeats 800000 in
theorem resref_rel (bu br : Nat) (ho1 pa1 pa2 fr2 full : ByteArray) (w : World) (hT : Tab w) (U1 : UrlAt w bu httpB ho1 pa1 ⟨#[]⟩) (U2 : UrlAt w br ⟨#[]⟩ ⟨#[]⟩ pa2 fr2) (hp1 : PathAll pa1) (hp2 : PathAll pa2) (hF : FullIs pa1 pa2 full) (hfit : PathFit full) (hp : PathAll full)
    (hs1 : pa1.size ≤ 300) (hs2 : pa2.size ≤ 300) (hs : full.size ≤ 300) :
    Calls Tryz.prog 19 #[.pointer (some ⟨bu, 0, none⟩), .pointer (some ⟨br, 0, none⟩)] w (ResRefOut ho1 full fr2 w) := by
  obtain ⟨k0, k1, k2, k3, k4, k5, k6, k7, k8, k9, k10⟩ := U2.c
  have HR0 := hid (show RR w w.heap.size bu br ⟨#[]⟩ ⟨#[]⟩ pa2 fr2 ho1 pa1 pa2 fr2 (w.alloc (.cells (urlCells ⟨#[]⟩ ⟨#[]⟩ pa2 fr2) 53)) from
    ⟨UA.copy hT _, U1.keep ((Below.refl _ _).alloc (Nat.le_refl _) _), U2.keep ((Below.refl _ _).alloc (Nat.le_refl _) _), U1.lt, U2.lt⟩)
  unfold urlCells at HR0
  have e0 : (⟨#[]⟩ : ByteArray).toList.isEmpty = true := empty_of _ rfl
  obtain ⟨ep, hep⟩ : ∃ ep : Bool, pa2.toList.isEmpty = ep := ⟨_, rfl⟩
  obtain ⟨ef, hef⟩ : ∃ ef : Bool, fr2.toList.isEmpty = ef := ⟨_, rfl⟩
  have HF := hid hF
  clear U1 U2 hF
  go_enter Tryz.func19, Tryz.ntmps19
  go_upto_region 2 with (fail)
  generalize hb : w.heap.size = b at *
  generalize w.alloc (.cells _ 53) = W at *
  clear k0 k1 k2 k3 k4 k5 k6 k7 k8 k9 k10
  obtain ⟨h0, h1, h2, h3, h4, h5, h6, h7, h8, h9, h10⟩ := HR0.out.r.c
  obtain ⟨i0, i1, i2, i3, i4, i5, i6, i7, i8, i9, i10⟩ := HR0.out.u.c
  obtain ⟨m0, m1, m2, m3, m4, m5, m6, m7, m8, m9, m10⟩ := HR0.out.ua.url.c
  obtain ⟨f0, f2, f3, f5, f6, f8⟩ := HR0.out.ua.url.ff
  go_upto_region 4 with (fail)
  have HR1 := hid (HR0.out.store 0 (.string httpB) httpB ⟨#[]⟩ pa2 fr2 rfl)
  clear HR0
  clear h0 h1 h2 h3 h4 h5 h6 h7 h8 h9 h10 i0 i1 i2 i3 i4 i5 i6 i7 i8 i9 i10 m0 m1 m2 m3 m4 m5 m6 m7 m8 m9 m10 f0 f2 f3 f5 f6 f8
  generalize W.setCell _ _ = W1 at *
  obtain ⟨h0, h1, h2, h3, h4, h5, h6, h7, h8, h9, h10⟩ := HR1.out.r.c
  obtain ⟨i0, i1, i2, i3, i4, i5, i6, i7, i8, i9, i10⟩ := HR1.out.u.c
  obtain ⟨m0, m1, m2, m3, m4, m5, m6, m7, m8, m9, m10⟩ := HR1.out.ua.url.c
  obtain ⟨f0, f2, f3, f5, f6, f8⟩ := HR1.out.ua.url.ff
  cases ep
  · go_upto_region 24 with (fail)
    have HRa := hid (HR1.out.store 3 (.string ho1) httpB ho1 pa2 fr2 rfl)
    clear HR1
    clear h0 h1 h2 h3 h4 h5 h6 h7 h8 h9 h10 i0 i1 i2 i3 i4 i5 i6 i7 i8 i9 i10 m0 m1 m2 m3 m4 m5 m6 m7 m8 m9 m10 f0 f2 f3 f5 f6 f8
    generalize World.setCell _ _ _ = Wa at *
    obtain ⟨h0, h1, h2, h3, h4, h5, h6, h7, h8, h9, h10⟩ := HRa.out.r.c
    obtain ⟨i0, i1, i2, i3, i4, i5, i6, i7, i8, i9, i10⟩ := HRa.out.u.c
    obtain ⟨m0, m1, m2, m3, m4, m5, m6, m7, m8, m9, m10⟩ := HRa.out.ua.url.c
    obtain ⟨f0, f2, f3, f5, f6, f8⟩ := HRa.out.ua.url.ff
    go_upto_region 25 with (fail)
    have HRb := hid (HRa.out.store 2 (.pointer none) httpB ho1 pa2 fr2 rfl)
    clear HRa
    clear h0 h1 h2 h3 h4 h5 h6 h7 h8 h9 h10 i0 i1 i2 i3 i4 i5 i6 i7 i8 i9 i10 m0 m1 m2 m3 m4 m5 m6 m7 m8 m9 m10 f0 f2 f3 f5 f6 f8
    generalize World.setCell _ _ _ = Wb at *
    obtain ⟨h0, h1, h2, h3, h4, h5, h6, h7, h8, h9, h10⟩ := HRb.out.r.c
    obtain ⟨i0, i1, i2, i3, i4, i5, i6, i7, i8, i9, i10⟩ := HRb.out.u.c
    obtain ⟨m0, m1, m2, m3, m4, m5, m6, m7, m8, m9, m10⟩ := HRb.out.ua.url.c
    obtain ⟨f0, f2, f3, f5, f6, f8⟩ := HRb.out.ua.url.ff
    clear h0 h1 h2 h3 h4 h5 h6 h7 h8 h9 h10 i0 i1 i2 i3 i4 i5 i6 i7 i8 i9 i10 m0 m1 m2 m3 m4 m5 m6 m7 m8 m9 m10 f0 f2 f3 f5 f6 f8
    go_wp2_with fail
    refine (escpath_any bu _ _ _ _ Wb (by omega) HRb.out.ua.tab HRb.out.u hp1).mono ?_
    rintro e w1 ⟨rfl, hb1⟩
    have HRc := hid (HRb.out.keep hb1)
    clear hb1 HRb
    go_wp2_with fail
    refine (escpath_any br _ _ _ _ w1 (by omega) HRc.out.ua.tab HRc.out.r hp2).mono ?_
    rintro e w2 ⟨rfl, hb2⟩
    have HRd := hid (HRc.out.keep hb2)
    clear hb2 HRc
    go_wp2_with fail
    refine (respath_any pa1 pa2 full w2 (by omega) (by omega) (by omega) HF.out hfit).mono ?_
    rintro e w3 ⟨r, rfl, hr, hb3⟩
    have HRe := hid (HRd.out.keep hb3)
    have HRP := hid (resp_path hr hp hs)
    have HRL := hid hr
    clear hb3 HRd hr
    go_wp2_with fail
    refine (setpath_any b _ _ _ _ r _ HRP.out.2 (Nat.lt_of_lt_of_le HRe.out.ua.pos HRe.out.ua.lo) HRe.out.ua.tab HRe.out.ua.url HRP.out.1).mono ?_
    rintro e w6 ⟨rfl, hu6, hg6⟩
    have HU6 := hid (HRe.out.ua.set hu6 hg6)
    clear hu6 hg6 HRe
    go_wp2
    go_ret
    exact ⟨b, r, rfl, HRL.out, HU6.out.url, hb ▸ HU6.out.below, hb ▸ HU6.out.lo⟩
  · cases ef
    · go_upto_region 14 with (fail)
      have HR2 := hid (HR1.out.store 6 (.string ⟨#[]⟩) httpB ⟨#[]⟩ pa2 fr2 rfl)
      clear HR1
      clear h0 h1 h2 h3 h4 h5 h6 h7 h8 h9 h10 i0 i1 i2 i3 i4 i5 i6 i7 i8 i9 i10 m0 m1 m2 m3 m4 m5 m6 m7 m8 m9 m10 f0 f2 f3 f5 f6 f8
      generalize World.setCell _ _ _ = W2 at *
      obtain ⟨h0, h1, h2, h3, h4, h5, h6, h7, h8, h9, h10⟩ := HR2.out.r.c
      obtain ⟨i0, i1, i2, i3, i4, i5, i6, i7, i8, i9, i10⟩ := HR2.out.u.c
      obtain ⟨m0, m1, m2, m3, m4, m5, m6, m7, m8, m9, m10⟩ := HR2.out.ua.url.c
      obtain ⟨f0, f2, f3, f5, f6, f8⟩ := HR2.out.ua.url.ff
      go_upto_region 24 with (fail)
      have HRa := hid (HR2.out.store 3 (.string ho1) httpB ho1 pa2 fr2 rfl)
      clear HR2
      clear h0 h1 h2 h3 h4 h5 h6 h7 h8 h9 h10 i0 i1 i2 i3 i4 i5 i6 i7 i8 i9 i10 m0 m1 m2 m3 m4 m5 m6 m7 m8 m9 m10 f0 f2 f3 f5 f6 f8
      generalize World.setCell _ _ _ = Wa at *
      obtain ⟨h0, h1, h2, h3, h4, h5, h6, h7, h8, h9, h10⟩ := HRa.out.r.c
      obtain ⟨i0, i1, i2, i3, i4, i5, i6, i7, i8, i9, i10⟩ := HRa.out.u.c
      obtain ⟨m0, m1, m2, m3, m4, m5, m6, m7, m8, m9, m10⟩ := HRa.out.ua.url.c
      obtain ⟨f0, f2, f3, f5, f6, f8⟩ := HRa.out.ua.url.ff
      go_upto_region 25 with (fail)
      have HRb := hid (HRa.out.store 2 (.pointer none) httpB ho1 pa2 fr2 rfl)
      clear HRa
      clear h0 h1 h2 h3 h4 h5 h6 h7 h8 h9 h10 i0 i1 i2 i3 i4 i5 i6 i7 i8 i9 i10 m0 m1 m2 m3 m4 m5 m6 m7 m8 m9 m10 f0 f2 f3 f5 f6 f8
      generalize World.setCell _ _ _ = Wb at *
      obtain ⟨h0, h1, h2, h3, h4, h5, h6, h7, h8, h9, h10⟩ := HRb.out.r.c
      obtain ⟨i0, i1, i2, i3, i4, i5, i6, i7, i8, i9, i10⟩ := HRb.out.u.c
      obtain ⟨m0, m1, m2, m3, m4, m5, m6, m7, m8, m9, m10⟩ := HRb.out.ua.url.c
      obtain ⟨f0, f2, f3, f5, f6, f8⟩ := HRb.out.ua.url.ff
      clear h0 h1 h2 h3 h4 h5 h6 h7 h8 h9 h10 i0 i1 i2 i3 i4 i5 i6 i7 i8 i9 i10 m0 m1 m2 m3 m4 m5 m6 m7 m8 m9 m10 f0 f2 f3 f5 f6 f8
      go_wp2_with fail
      refine (escpath_any bu _ _ _ _ Wb (by omega) HRb.out.ua.tab HRb.out.u hp1).mono ?_
      rintro e w1 ⟨rfl, hb1⟩
      have HRc := hid (HRb.out.keep hb1)
      clear hb1 HRb
      go_wp2_with fail
      refine (escpath_any br _ _ _ _ w1 (by omega) HRc.out.ua.tab HRc.out.r hp2).mono ?_
      rintro e w2 ⟨rfl, hb2⟩
      have HRd := hid (HRc.out.keep hb2)
      clear hb2 HRc
      go_wp2_with fail
      refine (respath_any pa1 pa2 full w2 (by omega) (by omega) (by omega) HF.out hfit).mono ?_
      rintro e w3 ⟨r, rfl, hr, hb3⟩
      have HRe := hid (HRd.out.keep hb3)
      have HRP := hid (resp_path hr hp hs)
      have HRL := hid hr
      clear hb3 HRd hr
      go_wp2_with fail
      refine (setpath_any b _ _ _ _ r _ HRP.out.2 (Nat.lt_of_lt_of_le HRe.out.ua.pos HRe.out.ua.lo) HRe.out.ua.tab HRe.out.ua.url HRP.out.1).mono ?_
      rintro e w6 ⟨rfl, hu6, hg6⟩
      have HU6 := hid (HRe.out.ua.set hu6 hg6)
      clear hu6 hg6 HRe
      go_wp2
      go_ret
      exact ⟨b, r, rfl, HRL.out, HU6.out.url, hb ▸ HU6.out.below, hb ▸ HU6.out.lo⟩
    · obtain rfl : fr2 = ⟨#[]⟩ := empty_is fr2 hef
      go_upto_region 14 with (fail)
      have HR2 := hid (HR1.out.store 6 (.string ⟨#[]⟩) httpB ⟨#[]⟩ pa2 ⟨#[]⟩ rfl)
      clear HR1
      clear h0 h1 h2 h3 h4 h5 h6 h7 h8 h9 h10 i0 i1 i2 i3 i4 i5 i6 i7 i8 i9 i10 m0 m1 m2 m3 m4 m5 m6 m7 m8 m9 m10 f0 f2 f3 f5 f6 f8
      generalize World.setCell _ _ _ = W2 at *
      obtain ⟨h0, h1, h2, h3, h4, h5, h6, h7, h8, h9, h10⟩ := HR2.out.r.c
      obtain ⟨i0, i1, i2, i3, i4, i5, i6, i7, i8, i9, i10⟩ := HR2.out.u.c
      obtain ⟨m0, m1, m2, m3, m4, m5, m6, m7, m8, m9, m10⟩ := HR2.out.ua.url.c
      obtain ⟨f0, f2, f3, f5, f6, f8⟩ := HR2.out.ua.url.ff
      go_upto_region 16 with (fail)
      have HR3 := hid (HR2.out.store 5 (.string ⟨#[]⟩) httpB ⟨#[]⟩ pa2 ⟨#[]⟩ rfl)
      clear HR2
      clear h0 h1 h2 h3 h4 h5 h6 h7 h8 h9 h10 i0 i1 i2 i3 i4 i5 i6 i7 i8 i9 i10 m0 m1 m2 m3 m4 m5 m6 m7 m8 m9 m10 f0 f2 f3 f5 f6 f8
      generalize World.setCell _ _ _ = W3 at *
      obtain ⟨h0, h1, h2, h3, h4, h5, h6, h7, h8, h9, h10⟩ := HR3.out.r.c
      obtain ⟨i0, i1, i2, i3, i4, i5, i6, i7, i8, i9, i10⟩ := HR3.out.u.c
      obtain ⟨m0, m1, m2, m3, m4, m5, m6, m7, m8, m9, m10⟩ := HR3.out.ua.url.c
      obtain ⟨f0, f2, f3, f5, f6, f8⟩ := HR3.out.ua.url.ff
      go_upto_region 17 with (fail)
      have HR4 := hid (HR3.out.store 8 (.string ⟨#[]⟩) httpB ⟨#[]⟩ pa2 ⟨#[]⟩ rfl)
      clear HR3
      clear h0 h1 h2 h3 h4 h5 h6 h7 h8 h9 h10 i0 i1 i2 i3 i4 i5 i6 i7 i8 i9 i10 m0 m1 m2 m3 m4 m5 m6 m7 m8 m9 m10 f0 f2 f3 f5 f6 f8
      generalize World.setCell _ _ _ = W4 at *
      obtain ⟨h0, h1, h2, h3, h4, h5, h6, h7, h8, h9, h10⟩ := HR4.out.r.c
      obtain ⟨i0, i1, i2, i3, i4, i5, i6, i7, i8, i9, i10⟩ := HR4.out.u.c
      obtain ⟨m0, m1, m2, m3, m4, m5, m6, m7, m8, m9, m10⟩ := HR4.out.ua.url.c
      obtain ⟨f0, f2, f3, f5, f6, f8⟩ := HR4.out.ua.url.ff
      go_upto_region 24 with (fail)
      have HRa := hid (HR4.out.store 3 (.string ho1) httpB ho1 pa2 ⟨#[]⟩ rfl)
      clear HR4
      clear h0 h1 h2 h3 h4 h5 h6 h7 h8 h9 h10 i0 i1 i2 i3 i4 i5 i6 i7 i8 i9 i10 m0 m1 m2 m3 m4 m5 m6 m7 m8 m9 m10 f0 f2 f3 f5 f6 f8
      generalize World.setCell _ _ _ = Wa at *
      obtain ⟨h0, h1, h2, h3, h4, h5, h6, h7, h8, h9, h10⟩ := HRa.out.r.c
      obtain ⟨i0, i1, i2, i3, i4, i5, i6, i7, i8, i9, i10⟩ := HRa.out.u.c
      obtain ⟨m0, m1, m2, m3, m4, m5, m6, m7, m8, m9, m10⟩ := HRa.out.ua.url.c
      obtain ⟨f0, f2, f3, f5, f6, f8⟩ := HRa.out.ua.url.ff
      go_upto_region 25 with (fail)
      have HRb := hid (HRa.out.store 2 (.pointer none) httpB ho1 pa2 ⟨#[]⟩ rfl)
      clear HRa
      clear h0 h1 h2 h3 h4 h5 h6 h7 h8 h9 h10 i0 i1 i2 i3 i4 i5 i6 i7 i8 i9 i10 m0 m1 m2 m3 m4 m5 m6 m7 m8 m9 m10 f0 f2 f3 f5 f6 f8
      generalize World.setCell _ _ _ = Wb at *
      obtain ⟨h0, h1, h2, h3, h4, h5, h6, h7, h8, h9, h10⟩ := HRb.out.r.c
      obtain ⟨i0, i1, i2, i3, i4, i5, i6, i7, i8, i9, i10⟩ := HRb.out.u.c
      obtain ⟨m0, m1, m2, m3, m4, m5, m6, m7, m8, m9, m10⟩ := HRb.out.ua.url.c
      obtain ⟨f0, f2, f3, f5, f6, f8⟩ := HRb.out.ua.url.ff
      clear h0 h1 h2 h3 h4 h5 h6 h7 h8 h9 h10 i0 i1 i2 i3 i4 i5 i6 i7 i8 i9 i10 m0 m1 m2 m3 m4 m5 m6 m7 m8 m9 m10 f0 f2 f3 f5 f6 f8
      go_wp2_with fail
      refine (escpath_any bu _ _ _ _ Wb (by omega) HRb.out.ua.tab HRb.out.u hp1).mono ?_
      rintro e w1 ⟨rfl, hb1⟩
      have HRc := hid (HRb.out.keep hb1)
      clear hb1 HRb
      go_wp2_with fail
      refine (escpath_any br _ _ _ _ w1 (by omega) HRc.out.ua.tab HRc.out.r hp2).mono ?_
      rintro e w2 ⟨rfl, hb2⟩
      have HRd := hid (HRc.out.keep hb2)
      clear hb2 HRc
      go_wp2_with fail
      refine (respath_any pa1 pa2 full w2 (by omega) (by omega) (by omega) HF.out hfit).mono ?_
      rintro e w3 ⟨r, rfl, hr, hb3⟩
      have HRe := hid (HRd.out.keep hb3)
      have HRP := hid (resp_path hr hp hs)
      have HRL := hid hr
      clear hb3 HRd hr
      go_wp2_with fail
      refine (setpath_any b _ _ _ _ r _ HRP.out.2 (Nat.lt_of_lt_of_le HRe.out.ua.pos HRe.out.ua.lo) HRe.out.ua.tab HRe.out.ua.url HRP.out.1).mono ?_
      rintro e w6 ⟨rfl, hu6, hg6⟩
      have HU6 := hid (HRe.out.ua.set hu6 hg6)
      clear hu6 hg6 HRe
      go_wp2
      go_ret
      exact ⟨b, r, rfl, HRL.out, HU6.out.url, hb ▸ HU6.out.below, hb ▸ HU6.out.lo⟩
end Go.Proofs.YthphgelfiggleaaGreatDoor

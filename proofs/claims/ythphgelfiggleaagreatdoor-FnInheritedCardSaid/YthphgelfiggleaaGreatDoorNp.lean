/-
  parse of package neturl at an address with http:// ahead. Condition: the world holds the package's table.
-/
import Derived.Test.YthphgelfiggleaaGreatDoorUrl2
namespace Go.Proofs.YthphgelfiggleaaGreatDoor
open Go.RowKit

theorem ba_ext {a b : ByteArray} (h : a.data.toList = b.data.toList) : a = b := by
  cases a; cases b
  exact congrArg ByteArray.mk (Array.toList_inj.1 h)

theorem no_suffix {s : ByteArray} (h : ∀ x ∈ s.data.toList, x.toNat ≠ 63) : Lib.hasSuffix s.data.toList [63] = false := by
  unfold Lib.hasSuffix
  rw [Bool.eq_false_iff]
  intro e
  have := List.IsSuffix.subset (List.isSuffixOf_iff_suffix.1 e)
  exact h 63 (this (.head _)) rfl

/-- What is left behind http: of an address: two slashes, the host g, the path p. -/
structure HRest (r : ByteArray) (g p : Bytes) : Prop where
  eq : r.data.toList = 47 :: 47 :: (g ++ p)
  gn : g ≠ []
  gs : ∀ c ∈ g, SegN c.toNat
  pp : p = [] ∨ ∃ q, p = 47 :: q
  pn : ∀ c ∈ p, PathN c.toNat

theorem HRest.all {r : ByteArray} {g p : Bytes} (h : HRest r g p) : PathAll r := by
  intro x hx
  rw [h.eq] at hx
  rcases hx with _ | ⟨_, _ | ⟨_, hx⟩⟩
  · exact .inr rfl
  · exact .inr rfl
  · rcases List.mem_append.1 hx with hx | hx
    · exact .inl (h.gs x hx)
    · exact h.pn x hx

theorem PathAll.no {s : ByteArray} (h : PathAll s) (c : UInt8) (hc : c.toNat = 37 ∨ c.toNat = 43 ∨ c.toNat = 58 ∨ c.toNat = 35 ∨ c.toNat = 63 ∨ c.toNat = 64 ∨ c.toNat = 91 ∨ c.toNat = 42) : ∀ x ∈ s.data.toList, x.toNat ≠ c.toNat := by
  intro x hx
  have := path_nums (h x hx)
  omega

theorem http_split {s : ByteArray} {g p : Bytes} (h : s.data.toList = http ++ g ++ p) (r : ByteArray) (hr : r.data.toList = s.data.toList.drop 5) : r.data.toList = 47 :: 47 :: (g ++ p) := by
  rw [hr, h]; rfl

theorem http_ctl {s : ByteArray} {r : Bytes} (h : s.data.toList = http ++ r) (hr : ∀ c ∈ r, PathN c.toNat) : ∀ x ∈ s.data.toList, 32 ≤ x.toNat ∧ x.toNat ≠ 127 := by
  intro x hx
  rw [h] at hx
  rcases List.mem_append.1 hx with hx | hx
  · simp only [http, List.mem_cons, List.not_mem_nil, or_false] at hx
    rcases hx with rfl | rfl | rfl | rfl | rfl | rfl | rfl <;> decide
  · have := path_nums (hr x hx)
    omega

theorem host_ix {a : ByteArray} {g q : Bytes} (h : a.data.toList = g ++ 47 :: q) (hg : ∀ c ∈ g, SegN c.toNat) : Ix a 47 g.length ∧ g.length < a.size := by
  have hl : a.data.toList.length = a.size := Array.length_toList
  have hz : g.length < a.size := by rw [← hl, h, List.length_append, List.length_cons]; omega
  have hb : ∀ j, (hj : j < a.size) → a.data.toList[j]? = some a[j] := fun j hj => List.getElem?_eq_getElem (by rw [hl]; exact hj)
  refine ⟨⟨by omega, fun j hj hlt e => ?_, fun hh => ?_⟩, hz⟩
  · have h1 := hb j hj
    rw [h, List.getElem?_append_left hlt, e] at h1
    have := hg 47 (List.mem_of_getElem? h1)
    have e2 : (47 : UInt8).toNat = 47 := rfl
    unfold SegN at this
    omega
  · have h1 := hb g.length hh
    rw [h, List.getElem?_append_right (Nat.le_refl _), Nat.sub_self] at h1
    exact (Option.some.inj h1).symm

theorem http_low : (Lib.toLowerA [104, 116, 116, 112]) = [104, 116, 116, 112] := by kernel_rfl
def httpB : ByteArray := ⟨#[104, 116, 116, 112]⟩

/-- An address of its own block is laid. -/
def UrlOut (sch ho pa fr : ByteArray) (w : World) (e : Ending) (w' : World) : Prop :=
  ∃ b, e = .returned (.tuple #[.pointer (some ⟨b, 0, none⟩), .nilIface]) ∧ UrlAt w' b sch ho pa fr ∧ Below w.heap.size w w' ∧ w.heap.size ≤ b

theorem url_new (w : World) : UrlAt (w.alloc (.cells (urlCells ⟨#[]⟩ ⟨#[]⟩ ⟨#[]⟩ ⟨#[]⟩) 53)) w.heap.size ⟨#[]⟩ ⟨#[]⟩ ⟨#[]⟩ ⟨#[]⟩ := by
  show (w.heap.push _)[w.heap.size]? = some _
  simp

section
variable {w W W' : World} {b : Nat} {sch ho pa fr sch' ho' pa' fr' : ByteArray}
theorem UrlAt.f (h : UrlAt w b sch ho pa fr) : w.frozen? ⟨b, 0, none⟩ = false ∧ w.frozen? ⟨b, 2, none⟩ = false ∧ w.frozen? ⟨b, 3, none⟩ = false ∧ w.frozen? ⟨b, 6, none⟩ = false ∧ w.frozen? ⟨b, 7, none⟩ = false :=
  ⟨h.free 0, h.free 2, h.free 3, h.free 6, h.free 7⟩

theorem UrlAt.c (h : UrlAt w b sch ho pa fr) : w.cell? ⟨b, 0, none⟩ = some (.string sch) ∧ w.cell? ⟨b, 1, none⟩ = some (.string ⟨#[]⟩) ∧ w.cell? ⟨b, 2, none⟩ = some (.pointer none) ∧ w.cell? ⟨b, 3, none⟩ = some (.string ho) ∧ w.cell? ⟨b, 4, none⟩ = some (.string pa) ∧ w.cell? ⟨b, 5, none⟩ = some (.string fr) ∧ w.cell? ⟨b, 6, none⟩ = some (.string ⟨#[]⟩) ∧ w.cell? ⟨b, 7, none⟩ = some (.string ⟨#[]⟩) ∧ w.cell? ⟨b, 8, none⟩ = some (.string ⟨#[]⟩) ∧ w.cell? ⟨b, 9, none⟩ = some (.bool false) ∧ w.cell? ⟨b, 10, none⟩ = some (.bool false) :=
  ⟨h.cell 0 _ rfl, h.cell 1 _ rfl, h.cell 2 _ rfl, h.cell 3 _ rfl, h.cell 4 _ rfl, h.cell 5 _ rfl, h.cell 6 _ rfl, h.cell 7 _ rfl, h.cell 8 _ rfl, h.cell 9 _ rfl, h.cell 10 _ rfl⟩

/-- An address in a block that w does not have; all that w has is as it was. -/
structure UA (w : World) (b : Nat) (sch ho pa fr : ByteArray) (W : World) : Prop where
  below : Below w.heap.size w W
  tab : Tab W
  url : UrlAt W b sch ho pa fr
  lo : w.heap.size ≤ b
  pos : 0 < w.heap.size

theorem UA.keep (h : UA w b sch ho pa fr W) (hb : Below W.heap.size W W') : UA w b sch ho pa fr W' :=
  ⟨h.below.trans (hb.mono h.below.size), h.tab.keep hb, h.url.keep hb, h.lo, h.pos⟩
theorem UA.store (h : UA w b sch ho pa fr W) (i : Nat) (v : Value) (sch' ho' pa' fr' : ByteArray) (hv : (urlCells sch ho pa fr).setIfInBounds i v = urlCells sch' ho' pa' fr') : UA w b sch' ho' pa' fr' (W.setCell ⟨b, i, none⟩ v) :=
  ⟨h.below.setCell h.lo v, h.tab.store (by have := h.lo; have := h.pos; omega) i v, h.url.store i v _ _ _ _ hv, h.lo, h.pos⟩
theorem UA.drewN (h : UA w b sch ho pa fr W) (n : Nat) : UA w b sch ho pa fr (W.drewN n) := h.keep (below_drewN (Below.refl _ _) n)
theorem UA.set (h : UA w b sch ho pa fr W) (hu : UrlAt W' b sch' ho' pa' fr') (hg : W.grownBy W' (some b)) : UA w b sch' ho' pa' fr' W' := by
  have hb : Below w.heap.size w W' := h.below.grown hg h.below.size (fun k hk => by cases hk; exact h.lo)
  have h0 := h.lo
  have h1 := h.pos
  have h2 := h.tab
  refine ⟨hb, ⟨Nat.lt_of_lt_of_le h2.1 hg.size, fun i hi => ?_⟩, hu, h.lo, h.pos⟩
  rw [World.cell?_of_block (w := W) (w' := W') (a := ⟨0, i, none⟩) (hg.block 0 h2.1 (by intro e; cases e; omega))]
  exact h2.2 i hi
end

theorem UA.new (w : World) (hT : Tab w) (o : Obj) (ho : o = .cells (urlCells ⟨#[]⟩ ⟨#[]⟩ ⟨#[]⟩ ⟨#[]⟩) 53 := by rfl) : UA w w.heap.size ⟨#[]⟩ ⟨#[]⟩ ⟨#[]⟩ ⟨#[]⟩ (w.alloc o) := by
  subst ho
  exact ⟨(Below.refl _ _).alloc (Nat.le_refl _) _, hT.alloc _, url_new w, Nat.le_refl _, hT.1⟩

theorem low_http (w : World) : Calls Tryz.prog 56 #[.string httpB] w (SameB (.string httpB) w) := by
  refine (Tryz.strings_ToLower_ascii httpB w (by decide) ?_).mono fun e w' ⟨he, hw⟩ => ⟨by rw [he]; rfl, hw⟩
  intro j b hj
  have hb := List.mem_of_getElem? hj
  simp only [httpB, List.mem_cons, List.not_mem_nil, or_false] at hb
  rcases hb with rfl | rfl | rfl | rfl <;> decide

theorem rest_facts {r : ByteArray} {g p : Bytes} (h : HRest r g p) : Lib.hasPrefix r.data.toList [47] = true ∧ Lib.hasPrefix r.data.toList [47, 47] = true ∧ 2 ≤ r.size := by
  have hl : r.data.toList.length = r.size := Array.length_toList
  rw [h.eq] at hl ⊢
  refine ⟨rfl, rfl, ?_⟩
  rw [← hl, List.length_cons, List.length_cons]
  omega

theorem host_of {a : ByteArray} {g : Bytes} (h : a.data.toList = g) (hg : ∀ c ∈ g, SegN c.toNat) : SegB a ∧ a = ⟨g.toArray⟩ := by
  subst h
  exact ⟨hg, ba_ext (by simp)⟩
theorem path_of {a : ByteArray} {p : Bytes} (h : a.data.toList = p) (hp : ∀ c ∈ p, PathN c.toNat) : PathAll a ∧ a = ⟨p.toArray⟩ := by
  subst h
  exact ⟨hp, ba_ext (by simp)⟩

theorem nparse_facts {s : ByteArray} {g p : Bytes} (h : s.data.toList = http ++ g ++ p) : s.toList.isEmpty = false ∧ (s.toList == [42]) = false := by
  rw [ByteArray.toList_eq, h]
  refine ⟨rfl, ?_⟩
  rw [beq_eq_false_iff_ne]
  simp [http]

set_option maxRecDepth 100000 in
set_option maxHeartbeats 800000 in
theorem nparse_http (s : ByteArray) (g p : Bytes) (w : World) (hs : s.size ≤ 1000) (hT : Tab w) (h : s.data.toList = http ++ g ++ p) (gn : g ≠ []) (gs : ∀ c ∈ g, SegN c.toNat) (pp : p = [] ∨ ∃ q, p = 47 :: q) (pn : ∀ c ∈ p, PathN c.toNat) :
    Calls Tryz.prog 42 #[.string s, .bool false] w (UrlOut httpB ⟨g.toArray⟩ ⟨p.toArray⟩ ⟨#[]⟩ w) := by
  have ha : ∀ c ∈ g ++ p, PathN c.toNat := fun c hc => (List.mem_append.1 hc).elim (fun hc => .inl (gs c hc)) (pn c)
  have h' : s.data.toList = http ++ (g ++ p) := by rw [h, List.append_assoc]
  have c1 := hid (ctl_none s w (by omega) (http_ctl h' ha))
  obtain ⟨e1, e2⟩ := nparse_facts h
  have c2 := fun w => hid (scheme_http s (g ++ p) w (by omega) h')
  have HS := hid h
  have HU0 := hid (UA.new w hT _)
  clear h h' hT ha
  go_enter Tryz.func42, Tryz.ntmps42
  go_wp2_with fail
  refine c1.out.mono ?_
  rintro e w' ⟨rfl, rfl⟩
  go_wp2_with fail
  unfold urlCells at HU0
  generalize w.alloc (.cells _ 53) = W at *
  generalize hb : w.heap.size = b at *
  refine (c2 _).out.mono ?_
  rintro e w1 ⟨a, r, rfl, ha, hr, hb1⟩
  obtain rfl : a = httpB := ba_ext ha
  have HU1 := hid (HU0.out.keep hb1)
  obtain ⟨f0, f2, f3, f6, f7⟩ := HU1.out.url.f
  obtain ⟨k0, -⟩ := HU1.out.url.c
  have ehttp : httpB.toList.isEmpty = false := not_empty httpB (by decide)
  have HR : HRest r g p := ⟨http_split HS.out r hr, gn, gs, pp, pn⟩
  have hrs : r.size ≤ 1000 := by
    have h1 := congrArg List.length hr
    rw [Array.length_toList, List.length_drop, Array.length_toList] at h1
    have h2 : r.data.size = r.size := rfl
    have h3 : s.data.size = s.size := rfl
    omega
  obtain ⟨q1, q2, hr2⟩ := rest_facts HR
  have q0 := no_suffix (HR.all.no 63 (by decide))
  have c3 := fun w => hid (zzcut_none r 63 w (by omega) (HR.all.no 63 (by decide)))
  have c4 := fun w => hid (Tryz.strings_HasSuffix r ⟨#[63]⟩ w (by omega))
  have c5 := fun w => hid (Tryz.strings_HasPrefix r ⟨#[47]⟩ w)
  have c6 := fun w => hid (Tryz.strings_HasPrefix r ⟨#[47, 47]⟩ w)
  rw [show (⟨#[63]⟩ : ByteArray).data.toList = [63] from rfl, q0] at c4
  rw [show (⟨#[47]⟩ : ByteArray).data.toList = [47] from rfl, q1] at c5
  rw [show (⟨#[47, 47]⟩ : ByteArray).data.toList = [47, 47] from rfl, q2] at c6
  have HRR := hid HR
  clear ha hr hb1 q0 q1 q2 HR
  go_wp2_with fail
  refine (low_http _).mono ?_
  rintro e w2 ⟨rfl, hb2⟩
  have HU2 := hid ((HU1.out.store 0 (.string httpB) httpB _ _ _ rfl).keep hb2)
  clear hb2 HU1 HU0 f0 f2 f3 f6 f7 k0
  obtain ⟨f0, f2, f3, f6, f7⟩ := HU2.out.url.f
  obtain ⟨k0, k1, k2, k3, k4, k5, k6, -⟩ := HU2.out.url.c
  go_wp2_with fail
  have HU3 := hid (HU2.out.store 0 (.string httpB) httpB _ _ _ rfl)
  clear HU2 f0 f2 f3 f6 f7 k0 k1 k2 k3 k4 k5 k6
  generalize w2.setCell _ _ = w3 at *
  obtain ⟨f0, f2, f3, f6, f7⟩ := HU3.out.url.f
  obtain ⟨k0, k1, k2, k3, k4, k5, k6, -⟩ := HU3.out.url.c
  refine (c4 _).out.mono ?_
  rintro e w' ⟨rfl, rfl⟩
  go_wp2_with fail
  refine (c3 _).out.mono ?_
  rintro e w' ⟨rfl, rfl⟩
  go_wp2_with fail
  have HU4 := hid (HU3.out.store 6 (.string ⟨#[]⟩) httpB _ _ _ rfl)
  clear HU3 f0 f2 f3 f6 f7 k0 k1 k2 k3 k4 k5 k6
  generalize World.setCell _ _ _ = w4 at *
  obtain ⟨f0, f2, f3, f6, f7⟩ := HU4.out.url.f
  obtain ⟨k0, k1, k2, k3, k4, k5, k6, -⟩ := HU4.out.url.c
  refine (c5 _).out.mono ?_
  rintro e w' ⟨rfl, rfl⟩
  go_wp2_with fail
  refine (c6 _).out.mono ?_
  rintro e w' ⟨rfl, rfl⟩
  go_wp2_with fail
  obtain ⟨a, ha⟩ : ∃ a, a = r.extract 2 r.size := ⟨_, rfl⟩
  have hal : a.data.toList = g ++ p := by rw [ha, drop_of r 2, HRR.out.eq]; rfl
  have has : a.size ≤ 1000 := by rw [ha, ByteArray.size_extract]; omega
  rw [← ha]
  rcases pp with hp | ⟨q, hq⟩
  · rw [hp, List.append_nil] at hal
    obtain ⟨hSeg, hG⟩ := host_of hal gs
    have c7 := fun w => hid (nx_none a 47 w (by omega) (ix_of_no (seg_nums hSeg 47 (by decide))))
    have HSeg := hid hSeg
    have hp0 : (⟨p.toArray⟩ : ByteArray) = ⟨#[]⟩ := by rw [hp]
    have HE := hid (show (⟨g.toArray⟩ : ByteArray) = a ∧ (⟨p.toArray⟩ : ByteArray) = ⟨#[]⟩ from ⟨hG.symm, hp0⟩)
    clear ha hal hSeg hp0 hp gs pn gn hG HRR
    refine (c7 _).out.mono ?_
    rintro e w' ⟨rfl, rfl⟩
    go_wp2_with fail
    refine (auth_any httpB _ _ (by omega) HU4.out.tab HSeg.out).mono ?_
    rintro e w' ⟨rfl, rfl⟩
    go_wp2_with fail
    have HU5 := hid ((HU4.out.store 2 (.pointer none) httpB _ _ _ rfl).store 3 (.string a) httpB a _ _ rfl)
    clear HU4 f0 f2 f3 f6 f7 k0 k1 k2 k3 k4 k5 k6
    refine (setpath_any b httpB a ⟨#[]⟩ ⟨#[]⟩ ⟨#[]⟩ _ (by decide) (Nat.lt_of_lt_of_le HU5.out.pos HU5.out.lo) HU5.out.tab HU5.out.url (fun c hc => by cases hc)).mono ?_
    rintro e w6 ⟨rfl, hu6, hg6⟩
    have HU6 := hid (HU5.out.set hu6 hg6)
    clear hu6 hg6 HU5
    go_wp2
    go_ret2
    refine ⟨b, rfl, ?_, HU6.out.below, HU6.out.lo⟩
    rw [HE.out.1, HE.out.2]
    exact HU6.out.url
  · rw [hq] at hal
    obtain ⟨hIx, hlt⟩ := host_ix hal gs
    have c7 := fun w => hid (nx_some a 47 g.length w (by omega) hIx hlt)
    have hg1 : (a.extract 0 g.length).data.toList = g := by rw [take_of, hal, List.take_left]
    have hg2 : (a.extract g.length a.size).data.toList = p := by rw [drop_of, hal, List.drop_left, hq]
    obtain ⟨hSeg, hG⟩ := host_of hg1 gs
    obtain ⟨hPath, hP⟩ := path_of hg2 pn
    have HSeg := hid hSeg
    have HPath := hid hPath
    have HE := hid (show (⟨g.toArray⟩ : ByteArray) = _ ∧ (⟨p.toArray⟩ : ByteArray) = _ from ⟨hG.symm, hP.symm⟩)
    have hlen : g.length ≤ a.size := by omega
    have hi0 : (0 : Int) ≤ (g.length : Int) := by omega
    clear ha hal hSeg hPath hq pn gn hG hP HRR hg1 hg2 hIx hlt
    generalize hT : g.length = T at *
    refine (c7 _).out.mono ?_
    rintro e w' ⟨rfl, rfl⟩
    go_wp2_with fail
    go_quiet (fail)
    go_wp2_with fail
    have HUd := hid (HU4.out.drewN nq)
    clear HU4 f0 f2 f3 f6 f7 k0 k1 k2 k3 k4 k5 k6
    generalize w'.drewN nq = w4 at *
    obtain ⟨f0, f2, f3, f6, f7⟩ := HUd.out.url.f
    obtain ⟨k0, k1, k2, k3, k4, k5, k6, -⟩ := HUd.out.url.c
    obtain ⟨a1, ha1⟩ : ∃ a1, a1 = a.extract 0 T := ⟨_, rfl⟩
    obtain ⟨a2, ha2⟩ : ∃ a2, a2 = a.extract T a.size := ⟨_, rfl⟩
    have z1 : a1.size ≤ 1000 := by rw [ha1, ByteArray.size_extract]; omega
    have z2 : a2.size ≤ 1000 := by rw [ha2, ByteArray.size_extract]; omega
    rw [← ha1] at HSeg
    rw [← ha2] at HPath
    rw [← ha1, ← ha2] at HE
    rw [← ha1, ← ha2]
    clear ha1 ha2
    refine (auth_any httpB _ _ (by omega) HUd.out.tab HSeg.out).mono ?_
    rintro e w' ⟨rfl, rfl⟩
    go_wp2_with fail
    have HU5 := hid ((HUd.out.store 2 (.pointer none) httpB _ _ _ rfl).store 3 (.string a1) httpB a1 _ _ rfl)
    clear HUd f0 f2 f3 f6 f7 k0 k1 k2 k3 k4 k5 k6
    refine (setpath_any b httpB a1 ⟨#[]⟩ ⟨#[]⟩ a2 _ (by omega) (Nat.lt_of_lt_of_le HU5.out.pos HU5.out.lo) HU5.out.tab HU5.out.url HPath.out).mono ?_
    rintro e w6 ⟨rfl, hu6, hg6⟩
    have HU6 := hid (HU5.out.set hu6 hg6)
    clear hu6 hg6 HU5
    go_wp2
    go_ret2
    refine ⟨b, rfl, ?_, HU6.out.below, HU6.out.lo⟩
    rw [HE.out.1, HE.out.2]
    exact HU6.out.url
end Go.Proofs.YthphgelfiggleaaGreatDoor

/-
  Plain lists, no program: the two addresses that are read, the one that comes of them, and its text.
-/
import Derived.Test.YthphgelfiggleaaGreatDoorPl
namespace Go.Proofs.YthphgelfiggleaaGreatDoor

/-- A text l is this plain address. -/
structure Addr (l : Bytes) (sch ho pa fr : ByteArray) : Prop where
  ok : AddrOk sch ho pa
  frag : PathAll fr
  text : l = textL ho pa fr
  lead : fr.size = 0 ∨ ∃ q, fr.data.toList = 47 :: q
  short : l.length ≤ 1000

def ofL (l : Bytes) : ByteArray := ⟨l.toArray⟩
theorem ofL_list (l : Bytes) : (ofL l).data.toList = l := by simp [ofL]
theorem ofL_size (l : Bytes) : (ofL l).size = l.length := by
  rw [← ofL_list l, Array.length_toList, ofL_list]; rfl

/-- What is known of a text that the reference reads: as an address. -/
structure TA (l hp pp fp : Bytes) (sch ho pa fr : ByteArray) : Prop where
  addr : Addr l sch ho pa fr
  h : hp = if ho.size = 0 then [] else http ++ ho.data.toList
  p : pp = pa.data.toList
  f : fp = if fr.size = 0 then [] else 35 :: fr.data.toList
  mid : MidOk pp
  few : l.length ≤ 100

theorem told_addr {l hp pp fp : Bytes} (t : Told l hp pp fp) : ∃ sch ho pa fr, TA l hp pp fp sch ho pa fr := by
  obtain ⟨hm, hc⟩ := pathok_mid t.path
  have hl := t.short
  have hpa : PathAll (ofL pp) := by intro c hc2; rw [ofL_list] at hc2; exact hc c hc2
  have hf : ∃ fr : ByteArray, PathAll fr ∧ fp = (if fr.size = 0 then [] else 35 :: fr.data.toList) ∧ (fr.size = 0 ∨ ∃ q, fr.data.toList = 47 :: q) := by
    rcases t.frag with h0 | ⟨g, hg, hgc⟩
    · exact ⟨ofL [], (fun c hc => by cases hc), (by rw [h0, if_pos (show (ofL []).size = 0 from rfl)]), .inl rfl⟩
    · refine ⟨ofL (47 :: g), fun c hc => ?_, ?_, .inr ⟨g, ofL_list _⟩⟩
      · rw [ofL_list] at hc
        rcases List.mem_cons.1 hc with rfl | hc
        · exact pathn_47
        · exact hgc c hc
      · rw [if_neg (by rw [ofL_size]; simp), ofL_list, hg]
  obtain ⟨fr, hf1, hf2, hf3⟩ := hf
  rcases t.host with h0 | ⟨g, hg, hgn, hgc, hgp⟩
  · refine ⟨⟨#[]⟩, ⟨#[]⟩, ofL pp, fr, ⟨⟨.inl ⟨rfl, rfl, by rw [ofL_list]; exact mid_no2 hm⟩, hpa⟩, hf1, ?_, hf3, by omega⟩, by rw [h0]; rfl, (ofL_list pp).symm, hf2, hm, hl⟩
    rw [textL, baseL, if_pos (show (⟨#[]⟩ : ByteArray).size = 0 from rfl), ofL_list, ← hf2, t.eq, h0]
  · have hn : (ofL g).size ≠ 0 := by
      rw [ofL_size]
      intro e
      exact hgn (List.eq_nil_of_length_eq_zero e)
    refine ⟨httpB, ofL g, ofL pp, fr, ⟨⟨.inr ⟨rfl, hn, fun c hc => hgc c (by rw [ofL_list] at hc; exact hc), by rw [ofL_list]; exact hgp⟩, hpa⟩, hf1, ?_, hf3, by omega⟩, by rw [if_neg hn, ofL_list, hg], (ofL_list pp).symm, hf2, hm, hl⟩
    rw [textL, baseL, if_neg hn, ofL_list, ofL_list, ← hf2, t.eq, hg]

/-- Which host and which path (before its steps are taken) the address has that comes of a parent and a child. -/
def ToFull (ho1 pa1 sch2 ho2 pa2 ho full : ByteArray) : Prop :=
  (sch2 = httpB ∧ ho = ho2 ∧ full = pa2) ∨ (sch2 = ⟨#[]⟩ ∧ ho = ho1 ∧ FullIs pa1 pa2 full)

theorem fit_of {p : ByteArray} (hm : MidOk p.data.toList) (h : p.data.toList = [] ∨ ∃ q, p.data.toList = 47 :: q) : PathFit p := by
  rcases h with h | ⟨q, hq⟩
  · left
    have := congrArg List.length h
    rw [Array.length_toList] at this
    exact this
  · right
    unfold MidOk at hm
    rw [hq, split_47] at hm
    rw [hq, split_47]
    exact ⟨_, rfl, split_ne q, hm⟩

theorem rel_fit {q c r : Bytes} {x : UInt8} (hq : MidOk (47 :: q)) (hc : MidOk c) (hx : c = x :: r) (h47 : x ≠ 47) (full : ByteArray) (hf : full.data.toList = baseS (47 :: q) ++ 47 :: c) : PathFit full := by
  right
  unfold MidOk at hq hc
  rw [split_47, List.tail_cons] at hq
  rw [hf, baseS, split_47, List.tail_cons, split_cat _ _ (fun y hy => split_no q y (List.dropLast_subset _ hy))]
  refine ⟨_, rfl, by simp [split_ne], fun y hy => ?_⟩
  rw [List.dropLast_append_of_ne_nil (split_ne c)] at hy
  rcases List.mem_append.1 hy with hy | hy
  · exact hq y hy
  · cases hs : splitSl c with
    | nil => exact absurd hs (split_ne c)
    | cons z zs =>
      rw [hs] at hy hc
      by_cases hz : zs = []
      · subst hz; cases hy
      · rw [List.dropLast_cons_of_ne_nil hz] at hy
        rcases List.mem_cons.1 hy with rfl | hy
        · intro e
          rw [e] at hs
          rw [hx, splitSl, if_neg h47] at hs
          cases hr : splitSl r with
          | nil => exact absurd hr (split_ne r)
          | cons u us => rw [hr] at hs; cases hs
        · exact hc y hy

/-- The address that comes of a parent and a child. -/
structure Comes (hp pp hc pc fc : Bytes) (ho1 pa1 sch2 ho2 pa2 fr2 ho full : ByteArray) : Prop where
  into : ToFull ho1 pa1 sch2 ho2 pa2 ho full
  fit : PathFit full
  all : PathAll full
  few : full.size ≤ 300
  seg : SegB ho
  hon : ho.size ≠ 0
  hos : ho.size ≤ 100
  same : ∀ pa : ByteArray, pa.data.toList = (if full.size = 0 then [] else mergedS full.data.toList) → textL ho pa fr2 = resL hp pp hc pc fc

theorem sz0 {s : ByteArray} (h : s.data.toList = []) : s.size = 0 := by
  have := congrArg List.length h
  rw [Array.length_toList] at this
  exact this
theorem szn {s : ByteArray} (h : s.data.toList ≠ []) : s.size ≠ 0 := fun e => h (is_nil s e)
theorem szl (s : ByteArray) : s.data.toList.length = s.size := Array.length_toList

theorem TA.sizes {l hp pp fp : Bytes} {sch ho pa fr : ByteArray} (t : TA l hp pp fp sch ho pa fr) : ho.size ≤ 100 ∧ pa.size ≤ 100 ∧ fr.size ≤ 100 := by
  have h := t.few
  rw [t.addr.text, textL, baseL, List.length_append, List.length_append, szl] at h
  refine ⟨?_, by omega, ?_⟩
  · by_cases h0 : ho.size = 0
    · omega
    · rw [if_neg h0, List.length_append, szl] at h; omega
  · by_cases h0 : fr.size = 0
    · omega
    · rw [if_neg h0, List.length_cons, szl] at h; omega

theorem comes_of {s t hp pp hc pc fc : Bytes} {sch1 ho1 pa1 fr1 sch2 ho2 pa2 fr2 : ByteArray} (b : Both s t hp pp hc pc fc) (t1 : TA s hp pp [] sch1 ho1 pa1 fr1) (t2 : TA t hc pc fc sch2 ho2 pa2 fr2) :
    sch1 = httpB ∧ fr1 = ⟨#[]⟩ ∧ ∃ ho full, Comes hp pp hc pc fc ho1 pa1 sch2 ho2 pa2 fr2 ho full := by
  obtain ⟨z1, z2, _⟩ := t1.sizes
  obtain ⟨z4, z5, _⟩ := t2.sizes
  have hh1 : ho1.size ≠ 0 := fun e => b.nh (by rw [t1.h, if_pos e])
  have hf1 : fr1 = ⟨#[]⟩ := by
    have h := t1.f
    by_cases h0 : fr1.size = 0
    · exact ba_ext (is_nil fr1 h0)
    · rw [if_neg h0] at h; cases h
  have hok1 := t1.addr.ok
  have hok2 := t2.addr.ok
  have hp1 : sch1 = httpB ∧ SegB ho1 ∧ ∃ q, pa1.data.toList = 47 :: q := by
    rcases hok1.host with ⟨_, h, _⟩ | ⟨h, _, hs, hq | hq⟩
    · exact absurd (by rw [h]; rfl) hh1
    · exact absurd (t1.p.trans hq) b.np
    · exact ⟨h, hs, hq⟩
  obtain ⟨hs1, hg1, q1, hq1⟩ := hp1
  refine ⟨hs1, hf1, ?_⟩
  have hH1 : hp = http ++ ho1.data.toList := by rw [t1.h, if_neg hh1]
  have htext : ∀ (ho pa : ByteArray), ho.size ≠ 0 → textL ho pa fr2 = http ++ ho.data.toList ++ pa.data.toList ++ fc := fun ho pa h => by rw [textL, baseL, if_neg h, ← t2.f]
  rcases hok2.host with ⟨hs2, ho2e, hno2⟩ | ⟨hs2, hn2, hg2, hq2⟩
  · have hhc : hc = [] := by rw [t2.h, ho2e]; rfl
    by_cases hpc : pa2.data.toList = []
    · have hpc0 : pc = [] := t2.p.trans hpc
      have hfull : pa1.size ≠ 0 := by have := szl pa1; rw [hq1] at this; simp at this; omega
      refine ⟨ho1, pa1, .inr ⟨hs2, rfl, .inl ⟨sz0 hpc, rfl⟩⟩, fit_of (t1.p ▸ t1.mid) (.inr ⟨q1, hq1⟩), hok1.path, by omega, hg1, hh1, z1, fun pa hpa => ?_⟩
      rw [if_neg hfull, ← t1.p, b.same hhc hpc0] at hpa
      rw [htext ho1 pa hh1, hpa, resL, if_neg (fun h => h hhc), if_pos hpc0, hH1]
    · obtain ⟨c, q, hcq⟩ : ∃ c q, pa2.data.toList = c :: q := by
        cases h : pa2.data.toList with
        | nil => exact absurd h hpc
        | cons c q => exact ⟨c, q, rfl⟩
      have hpcn : pc ≠ [] := by rw [t2.p]; exact hpc
      by_cases h47 : c = 47
      · subst h47
        refine ⟨ho1, pa2, .inr ⟨hs2, rfl, .inr (.inl ⟨q, hcq, rfl⟩)⟩, fit_of (t2.p ▸ t2.mid) (.inr ⟨q, hcq⟩), hok2.path, by omega, hg1, hh1, z1, fun pa hpa => ?_⟩
        rw [if_neg (szn hpc), ← t2.p] at hpa
        rw [htext ho1 pa hh1, hpa, resL, if_neg (fun h => h hhc), if_neg hpcn, if_pos (by rw [t2.p, hcq]; rfl), hH1]
      · obtain ⟨bl1, hnb, hbl⟩ := base_last q1
        have hpp : pp = 47 :: q1 := t1.p.trans hq1
        have hfl : (ofL (baseS pp ++ 47 :: pc)).data.toList = baseS pp ++ 47 :: pc := ofL_list _
        have hzz : (baseS pp).length ≤ 100 := by
          have h1 := congrArg List.length hbl
          rw [← hpp, List.length_append, t1.p, szl] at h1
          rw [t1.p]
          omega
        have hzf : (ofL (baseS pp ++ 47 :: pc)).size = (baseS pp).length + 1 + pa2.size := by
          rw [ofL_size, List.length_append, List.length_cons, t2.p, szl]; omega
        refine ⟨ho1, ofL (baseS pp ++ 47 :: pc), .inr ⟨hs2, rfl, .inr (.inr ⟨c, q, baseS pp, bl1, hcq, h47, ?_, hnb, ?_⟩)⟩, ?_, ?_, by omega, hg1, hh1, z1, fun pa hpa => ?_⟩
        · rw [hq1, hpp]; exact hbl
        · rw [hfl, t2.p]
        · exact rel_fit (q := q1) (c := pc) (hpp ▸ t1.mid) t2.mid (t2.p.trans hcq) h47 _ (by rw [hfl, hpp])
        · intro x hx
          rw [hfl] at hx
          rcases List.mem_append.1 hx with hx | hx
          · refine hok1.path x ?_
            rw [hq1, hbl, ← hpp]
            exact List.mem_append_left _ hx
          · rcases List.mem_cons.1 hx with rfl | hx
            · exact pathn_47
            · exact hok2.path x (by rw [← t2.p]; exact hx)
        · rw [if_neg (by omega), hfl] at hpa
          rw [htext ho1 pa hh1, hpa, resL, if_neg (fun h => h hhc), if_neg hpcn, if_neg (by rw [t2.p, hcq]; intro e; exact h47 (Option.some.inj e)), hH1]
          simp
  · have hhc : hc = http ++ ho2.data.toList := by rw [t2.h, if_neg hn2]
    have hhcn : hc ≠ [] := by rw [hhc]; simp [http]
    refine ⟨ho2, pa2, .inl ⟨hs2, rfl, rfl⟩, fit_of (t2.p ▸ t2.mid) hq2, hok2.path, by omega, hg2, hn2, z4, fun pa hpa => ?_⟩
    rw [htext ho2 pa hn2, hpa, resL, if_pos hhcn, ← t2.p]
    by_cases hpc : pc = []
    · rw [if_pos hpc, if_pos (sz0 (t2.p ▸ hpc)), hhc]; simp
    · rw [if_neg hpc, if_neg (szn (t2.p ▸ hpc)), hhc]
end Go.Proofs.YthphgelfiggleaaGreatDoor

/-
  Parse of package neturl at the addresses of which the law speaks. Condition: the world holds the package's table.
-/
import Derived.Test.YthphgelfiggleaaGreatDoorNq
import Derived.Test.YthphgelfiggleaaGreatDoorRes
namespace Go.Proofs.YthphgelfiggleaaGreatDoor
open Go.RowKit

/-- The text of host and path. -/
def baseL (ho pa : ByteArray) : Bytes := (if ho.size = 0 then [] else http ++ ho.data.toList) ++ pa.data.toList

/-- The text of an address. -/
def textL (ho pa fr : ByteArray) : Bytes := baseL ho pa ++ (if fr.size = 0 then [] else 35 :: fr.data.toList)

/-- A plain address: http and a host, or neither. -/
structure AddrOk (sch ho pa : ByteArray) : Prop where
  host : (sch = ⟨#[]⟩ ∧ ho = ⟨#[]⟩ ∧ Lib.hasPrefix pa.data.toList [47, 47] = false) ∨ (sch = httpB ∧ ho.size ≠ 0 ∧ SegB ho ∧ (pa.data.toList = [] ∨ ∃ q, pa.data.toList = 47 :: q))
  path : PathAll pa

theorem nparse_any (u sch ho pa : ByteArray) (w : World) (hu : u.data.toList = baseL ho pa) (hs : u.size ≤ 1000) (hT : Tab w) (h : AddrOk sch ho pa) : Calls Tryz.prog 42 #[.string u, .bool false] w (UrlOut sch ho pa ⟨#[]⟩ w) := by
  rcases h.host with ⟨rfl, rfl, h2⟩ | ⟨rfl, hn, hg, hq⟩
  · have : u = pa := ba_ext (by rw [hu]; rfl)
    subst this
    exact nparse_rel u w hs hT h.path h2
  · have e : ∀ x : ByteArray, (⟨x.data.toList.toArray⟩ : ByteArray) = x := fun x => ba_ext (by simp)
    have := nparse_http u ho.data.toList pa.data.toList w hs hT (by rw [hu, baseL, if_neg hn]) (not_nil ho (by omega)) hg hq h.path
    rw [e, e] at this
    exact this

theorem base_no35 {sch ho pa : ByteArray} (h : AddrOk sch ho pa) : ∀ x ∈ baseL ho pa, x.toNat ≠ 35 := by
  intro x hx
  rcases List.mem_append.1 hx with hx | hx
  · rcases h.host with ⟨_, rfl, _⟩ | ⟨_, hn, hg, _⟩
    · cases hx
    · rw [if_neg hn] at hx
      rcases List.mem_append.1 hx with hx | hx
      · simp only [http, List.mem_cons, List.not_mem_nil, or_false] at hx
        rcases hx with rfl | rfl | rfl | rfl | rfl | rfl | rfl <;> decide
      · have := path_nums (.inl (hg x hx))
        omega
  · have := path_nums (h.path x hx)
    omega

theorem frag_ix {s : ByteArray} {b f : Bytes} (h : s.data.toList = b ++ 35 :: f) (hb : ∀ x ∈ b, x.toNat ≠ 35) : Ix s 35 b.length ∧ b.length < s.size := by
  have hl : s.data.toList.length = s.size := Array.length_toList
  have hz : b.length < s.size := by rw [← hl, h, List.length_append, List.length_cons]; omega
  have hbb : ∀ j, (hj : j < s.size) → s.data.toList[j]? = some s[j] := fun j hj => List.getElem?_eq_getElem (by rw [hl]; exact hj)
  refine ⟨⟨by omega, fun j hj hlt e => ?_, fun hh => ?_⟩, hz⟩
  · have h1 := hbb j hj
    rw [h, List.getElem?_append_left hlt, e] at h1
    exact hb 35 (List.mem_of_getElem? h1) rfl
  · have h1 := hbb b.length hh
    rw [h, List.getElem?_append_right (Nat.le_refl _), Nat.sub_self] at h1
    exact (Option.some.inj h1).symm

/-- An address that stands in a block of its own. -/
theorem UrlOut.ua {sch ho pa fr : ByteArray} {w0 w w' : World} {b : Nat} (hT : Tab w) (h0 : Below w0.heap.size w0 w) (hp : 0 < w0.heap.size) (hu : UrlAt w' b sch ho pa fr) (hb : Below w.heap.size w w') (hlo : w.heap.size ≤ b) : UA w0 b sch ho pa fr w' :=
  ⟨h0.trans (hb.mono h0.size), hT.keep hb, hu, Nat.le_trans h0.size hlo, hp⟩

set_option maxRecDepth 100000 in
set_option maxHeartbeats 800000 in
theorem purl_any (s sch ho pa fr : ByteArray) (w : World) (hs : s.size ≤ 1000) (hT : Tab w) (h : AddrOk sch ho pa) (hf : PathAll fr) (hl : s.data.toList = textL ho pa fr) :
    Calls Tryz.prog 23 #[.string s] w (UrlOut sch ho pa fr w) := by
  by_cases hf0 : fr.size = 0
  · have hfe : fr = ⟨#[]⟩ := ba_ext (is_nil fr hf0)
    subst hfe
    have hl2 : s.data.toList = baseL ho pa := by rw [hl, textL, if_pos hf0, List.append_nil]
    have c1 := hid (zzcut_none s 35 w (by omega) (fun x hx => base_no35 h x (by rw [← hl2]; exact hx)))
    have c2 := hid (nparse_any s sch ho pa w hl2 hs hT h)
    have e0 : (⟨#[]⟩ : ByteArray).toList.isEmpty = true := empty_of _ rfl
    clear hT h hf hf0 hl hl2
    go_enter Tryz.func23, Tryz.ntmps23
    go_wp2_with fail
    refine c1.out.mono ?_
    rintro e w' ⟨rfl, rfl⟩
    go_wp2_with fail
    refine c2.out.mono ?_
    rintro e w2 ⟨b, rfl, hu, hb, hlo⟩
    go_wp2
    go_ret2
    exact ⟨b, rfl, hu, hb, hlo⟩
  · have hl2 : s.data.toList = baseL ho pa ++ 35 :: fr.data.toList := by rw [hl, textL, if_neg hf0]
    obtain ⟨hIx, hlt⟩ := frag_ix hl2 (base_no35 h)
    have c1 := hid (zzcut_some s 35 _ w (by omega) hIx hlt)
    have HL := hid hl2
    have HT := hid hT
    have HA := hid h
    have HF := hid hf
    have ef := not_empty fr (by omega)
    clear hT h hf hf0 hl hl2 hIx hlt
    go_enter Tryz.func23, Tryz.ntmps23
    go_wp2_with fail
    refine c1.out.mono ?_
    rintro e w1 ⟨u, f, rfl, hu, hf, hb1⟩
    rw [HL.out, List.take_left] at hu
    have hf2 : f.data.toList = fr.data.toList := by rw [hf, HL.out, ← List.drop_drop, List.drop_left]; rfl
    obtain rfl : f = fr := ba_ext hf2
    have hus : u.size ≤ 1000 ∧ f.size ≤ 1000 := by
      have h1 := congrArg List.length HL.out
      rw [← hu, List.length_append, Array.length_toList, Array.length_toList, List.length_cons, Array.length_toList] at h1
      have h2 : u.data.size = u.size := rfl
      have h3 : s.data.size = s.size := rfl
      have h4 : f.data.size = f.size := rfl
      omega
    have HT1 := hid (HT.out.keep hb1)
    have HB1 := hid hb1
    have c2 := hid (nparse_any u sch ho pa w1 hu hus.1 HT1.out HA.out)
    clear hu hf hf2 hb1 c1
    go_wp2_with fail
    refine c2.out.mono ?_
    rintro e w2 ⟨b, rfl, hu, hb, hlo⟩
    have HU := hid (UrlOut.ua HT1.out HB1.out HT.out.1 hu hb hlo)
    clear hu hb hlo
    go_wp2_with fail
    refine (setfrag_any b _ _ _ _ f _ (by omega) (Nat.lt_of_lt_of_le HU.out.pos HU.out.lo) HU.out.tab HU.out.url HF.out).mono ?_
    rintro e w6 ⟨rfl, hu6, hg6⟩
    have HU6 := hid (HU.out.set hu6 hg6)
    clear hu6 hg6 HU
    go_wp2
    go_ret2
    exact ⟨b, rfl, HU6.out.url, HU6.out.below, HU6.out.lo⟩
end Go.Proofs.YthphgelfiggleaaGreatDoor

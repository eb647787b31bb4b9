/-
  parse of package neturl at a path without a host. Condition: the world holds the package's table.
-/
import Derived.Test.YthphgelfiggleaaGreatDoorNp
namespace Go.Proofs.YthphgelfiggleaaGreatDoor
open Go.RowKit

def CutPath (s : ByteArray) (w : World) (e : Ending) (w' : World) : Prop :=
  ∃ (a b : ByteArray) (v : Bool), e = .returned (.tuple #[.string a, .string b, .bool v]) ∧ PathAll a ∧ a.size ≤ s.size ∧ Below w.heap.size w w'

theorem cut_path (s : ByteArray) (w : World) (hs : s.size ≤ 4294967296) (hp : PathAll s) : Calls Tryz.prog 37 #[.string s, .string ⟨#[47]⟩] w (CutPath s w) := by
  obtain ⟨T, hT⟩ := ix_ex s 47
  by_cases hlt : T < s.size
  · refine (zzcut_some s 47 T w hs hT hlt).mono fun e w' ⟨a, b, he, ha, _, hb⟩ => ⟨a, b, true, he, fun c hc => ?_, ?_, hb⟩
    · rw [ha] at hc
      exact hp c (List.mem_of_mem_take hc)
    · have h1 := congrArg List.length ha
      rw [List.length_take, Array.length_toList, Array.length_toList] at h1
      have h2 : a.data.size = a.size := rfl
      have h3 : s.data.size = s.size := rfl
      omega
  · have hTs : T = s.size := by have := hT.le; omega
    refine (zzcut_none s 47 w hs fun x hx e => ?_).mono fun e w' ⟨he, hw⟩ => ⟨s, ⟨#[]⟩, false, he, hp, Nat.le_refl _, hw ▸ Below.refl _ _⟩
    obtain ⟨i, hi, rfl⟩ := List.mem_iff_getElem.1 hx
    have hl : s.data.toList.length = s.size := Array.length_toList
    have hi2 : i < s.size := by omega
    exact hT.ahead i hi2 (by omega) (UInt8.toNat_inj.1 e)

theorem low_empty (w : World) : Calls Tryz.prog 56 #[.string ⟨#[]⟩] w (SameB (.string ⟨#[]⟩) w) := by
  refine (Tryz.strings_ToLower_ascii ⟨#[]⟩ w (by decide) ?_).mono fun e w' ⟨he, hw⟩ => ⟨by rw [he]; rfl, hw⟩
  intro j b hj
  cases List.mem_of_getElem? hj

theorem path_ctl {s : ByteArray} (h : PathAll s) : ∀ x ∈ s.data.toList, 32 ≤ x.toNat ∧ x.toNat ≠ 127 := by
  intro x hx
  have := path_nums (h x hx)
  omega

theorem three_of_two {s : ByteArray} (h : Lib.hasPrefix s.data.toList [47, 47] = false) : Lib.hasPrefix s.data.toList [47, 47, 47] = false := by
  rw [Bool.eq_false_iff] at h ⊢
  intro e
  apply h
  unfold Lib.hasPrefix at e ⊢
  rw [List.isPrefixOf_iff_prefix] at e ⊢
  exact List.IsPrefix.trans ⟨[47], rfl⟩ e

set_option maxRecDepth 100000 in
set_option maxHeartbeats 800000 in
theorem nparse_rel (s : ByteArray) (w : World) (hs : s.size ≤ 1000) (hT : Tab w) (hp : PathAll s) (h2 : Lib.hasPrefix s.data.toList [47, 47] = false) :
    Calls Tryz.prog 42 #[.string s, .bool false] w (UrlOut ⟨#[]⟩ ⟨#[]⟩ s ⟨#[]⟩ w) := by
  have c1 := hid (ctl_none s w (by omega) (path_ctl hp))
  have e2 := star_not hp
  have c2 := fun w => hid (scheme_none s w (by omega) hp)
  have HU0 := hid (UA.new w hT _)
  have q0 := no_suffix (hp.no 63 (by decide))
  have c3 := fun w => hid (zzcut_none s 63 w (by omega) (hp.no 63 (by decide)))
  have c4 := fun w => hid (Tryz.strings_HasSuffix s ⟨#[63]⟩ w (by omega))
  have c5 := fun w => hid (Tryz.strings_HasPrefix s ⟨#[47]⟩ w)
  have c6 := fun w => hid (Tryz.strings_HasPrefix s ⟨#[47, 47]⟩ w)
  have c7 := fun w => hid (Tryz.strings_HasPrefix s ⟨#[47, 47, 47]⟩ w)
  rw [show (⟨#[63]⟩ : ByteArray).data.toList = [63] from rfl, q0] at c4
  rw [show (⟨#[47, 47]⟩ : ByteArray).data.toList = [47, 47] from rfl, h2] at c6
  rw [show (⟨#[47, 47, 47]⟩ : ByteArray).data.toList = [47, 47, 47] from rfl, three_of_two h2] at c7
  have c8 := fun w => hid (cut_path s w (by omega) hp)
  have HP := hid hp
  obtain ⟨em, hem⟩ : ∃ em, s.toList.isEmpty = em := ⟨_, rfl⟩
  have e0 : (⟨#[]⟩ : ByteArray).toList.isEmpty = true := empty_of _ rfl
  generalize Lib.hasPrefix s.data.toList (⟨#[47]⟩ : ByteArray).data.toList = q at c5
  clear hT h2 q0 hp
  go_enter Tryz.func42, Tryz.ntmps42
  go_wp2_with fail
  refine c1.out.mono ?_
  rintro e w' ⟨rfl, rfl⟩
  cases em
  all_goals
    go_wp2_with fail
    unfold urlCells at HU0
    generalize w.alloc (.cells _ 53) = W at *
    generalize hb : w.heap.size = b at *
    refine (c2 _).out.mono ?_
    rintro e w' ⟨rfl, rfl⟩
    obtain ⟨f0, f2, f3, f6, f7⟩ := HU0.out.url.f
    obtain ⟨k0, -⟩ := HU0.out.url.c
    go_wp2_with fail
    refine (low_empty _).mono ?_
    rintro e w2 ⟨rfl, hb2⟩
    have HU2 := hid ((HU0.out.store 0 (.string ⟨#[]⟩) ⟨#[]⟩ _ _ _ rfl).keep hb2)
    clear hb2 HU0 f0 f2 f3 f6 f7 k0
    obtain ⟨f0, f2, f3, f6, f7⟩ := HU2.out.url.f
    obtain ⟨k0, k1, k2, k3, k4, k5, k6, -⟩ := HU2.out.url.c
    go_wp2_with fail
    have HU3 := hid (HU2.out.store 0 (.string ⟨#[]⟩) ⟨#[]⟩ _ _ _ rfl)
    clear HU2 f0 f2 f3 f6 f7 k0 k1 k2 k3 k4 k5 k6
    generalize w2.setCell _ _ = w3 at *
    obtain ⟨f0, f2, f3, f6, f7⟩ := HU3.out.url.f
    obtain ⟨k0, k1, k2, k3, k4, k5, k6, -⟩ := HU3.out.url.c
    refine (c4 _).out.mono ?_
    rintro e w' ⟨rfl, rfl⟩
    go_wp2_with fail
    refine (c3 _).out.mono ?_
    rintro e w' ⟨rfl, rfl⟩
    go_wp2_with fail
    have HU4 := hid (HU3.out.store 6 (.string ⟨#[]⟩) ⟨#[]⟩ _ _ _ rfl)
    clear HU3 f0 f2 f3 f6 f7 k0 k1 k2 k3 k4 k5 k6
    generalize World.setCell _ _ _ = w4 at *
    obtain ⟨f0, f2, f3, f6, f7⟩ := HU4.out.url.f
    obtain ⟨k0, k1, k2, k3, k4, k5, k6, -⟩ := HU4.out.url.c
    refine (c5 _).out.mono ?_
    rintro e w' ⟨rfl, rfl⟩
    cases q
    · go_wp2_with fail
      refine (c8 _).out.mono ?_
      rintro e w5 ⟨x, y, v, rfl, hx, hxs, hb5⟩
      have HU5 := hid (HU4.out.keep hb5)
      clear hb5 HU4 f0 f2 f3 f6 f7 k0 k1 k2 k3 k4 k5 k6
      obtain ⟨f0, f2, f3, f6, f7⟩ := HU5.out.url.f
      obtain ⟨k0, k1, k2, k3, k4, k5, k6, -⟩ := HU5.out.url.c
      have c9 := hid (zzcont_none x 58 w5 (by omega) (hx.no 58 (by decide)))
      clear hx hxs
      go_wp2_with fail
      refine c9.out.mono ?_
      rintro e w' ⟨rfl, rfl⟩
      go_wp2_with fail
      refine (c7 _).out.mono ?_
      rintro e w' ⟨rfl, rfl⟩
      go_wp2_with fail
      refine (c6 _).out.mono ?_
      rintro e w' ⟨rfl, rfl⟩
      go_wp2_with fail
      refine (setpath_any b _ _ _ _ s _ (by omega) (Nat.lt_of_lt_of_le HU5.out.pos HU5.out.lo) HU5.out.tab HU5.out.url HP.out).mono ?_
      rintro e w6 ⟨rfl, hu6, hg6⟩
      have HU6 := hid (HU5.out.set hu6 hg6)
      clear hu6 hg6 HU5
      go_wp2
      go_ret2
      exact ⟨b, rfl, HU6.out.url, HU6.out.below, HU6.out.lo⟩
    · go_wp2_with fail
      refine (c7 _).out.mono ?_
      rintro e w' ⟨rfl, rfl⟩
      go_wp2_with fail
      refine (c6 _).out.mono ?_
      rintro e w' ⟨rfl, rfl⟩
      go_wp2_with fail
      refine (setpath_any b _ _ _ _ s _ (by omega) (Nat.lt_of_lt_of_le HU4.out.pos HU4.out.lo) HU4.out.tab HU4.out.url HP.out).mono ?_
      rintro e w6 ⟨rfl, hu6, hg6⟩
      have HU6 := hid (HU4.out.set hu6 hg6)
      clear hu6 hg6 HU4
      go_wp2
      go_ret2
      exact ⟨b, rfl, HU6.out.url, HU6.out.below, HU6.out.lo⟩
end Go.Proofs.YthphgelfiggleaaGreatDoor

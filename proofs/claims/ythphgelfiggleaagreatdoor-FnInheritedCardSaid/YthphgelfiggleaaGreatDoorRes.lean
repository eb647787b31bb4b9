/-
  Resolved of package spec: where it tells something, the reference that it tells, in plain lists.
-/
import Derived.Test.YthphgelfiggleaaGreatDoorUniq
import Derived.Test.YthphgelfiggleaaGreatDoorParse
import Derived.Deep.RegionHeld3
namespace Go.Proofs.YthphgelfiggleaaGreatDoor
open Go.RowKit

/-- The steps of a path but the last one, with slashes ahead. -/
def baseS (p : Bytes) : Bytes := cat (splitSl p).tail.dropLast

/-- The reference that the child hc, pc, fc is beside the parent hp, pp. -/
def resL (hp pp hc pc fc : Bytes) : Bytes :=
  if hc ≠ [] then (if pc = [] then hc ++ fc else hc ++ mergedS pc ++ fc)
  else if pc = [] then hp ++ pp ++ fc
  else if pc.head? = some 47 then hp ++ mergedS pc ++ fc
  else hp ++ mergedS (baseS pp ++ [47] ++ pc) ++ fc

/-- What is known of two texts of which something is told. -/
structure Both (s t : Bytes) (hp pp hc pc fc : Bytes) : Prop where
  one : Told s hp pp []
  two : Told t hc pc fc
  nh : hp ≠ []
  np : pp ≠ []
  same : hc = [] → pc = [] → mergedS pp = pp

def ResOut (s t : ByteArray) (w : World) (e : Ending) (w' : World) : Prop :=
  ∃ (r : ByteArray) (told : Bool), e = .returned (.tuple #[.string r, .bool told]) ∧
    (told = true → ∃ hp pp hc pc fc, Both s.data.toList t.data.toList hp pp hc pc fc ∧ r.data.toList = resL hp pp hc pc fc) ∧ Below w.heap.size w w'

theorem told_short {l h p f : ByteArray} (ht : Told l.data.toList h.data.toList p.data.toList f.data.toList) : h.size ≤ 100 ∧ p.size ≤ 100 ∧ f.size ≤ 100 := by
  have h1 := congrArg List.length ht.eq
  have h2 := ht.short
  rw [List.length_append, List.length_append] at h1
  have e : ∀ x : ByteArray, x.data.toList.length = x.size := fun x => Array.length_toList
  rw [e h, e p, e f] at h1
  omega

structure ResMid (B A C : Nat) (w : World) (hp pp fp hc pc fc : ByteArray) (W : World) : Prop where
  below : Below B w W
  lo : B ≤ A
  ac : A < C
  cw : C < W.heap.size
  a0 : W.cell? ⟨A, 0, none⟩ = some (.string hp)
  a1 : W.cell? ⟨A, 1, none⟩ = some (.string pp)
  a2 : W.cell? ⟨A, 2, none⟩ = some (.string fp)
  c0 : W.cell? ⟨C, 0, none⟩ = some (.string hc)
  c1 : W.cell? ⟨C, 1, none⟩ = some (.string pc)
  c2 : W.cell? ⟨C, 2, none⟩ = some (.string fc)

theorem res_mid {w w1 w2 : World} {o : Obj} (hb1 : Below w.heap.size w w1) (hb2 : Below (w1.alloc o).heap.size (w1.alloc o) w2) (hp pp fp hc pc fc : ByteArray) (ho : o = .cells #[.string hp, .string pp, .string fp] 26 := by rfl) :
    ResMid w.heap.size w1.heap.size w2.heap.size w hp pp fp hc pc fc (w2.alloc (.cells #[.string hc, .string pc, .string fc] 26)) := by
  subst ho
  have hz1 : (w1.alloc (.cells #[.string hp, .string pp, .string fp] 26)).heap.size = w1.heap.size + 1 := by simp
  have hs1 := hb1.size
  have hs2 := hb2.size
  rw [hz1] at hs2 hb2
  have cA : ∀ j v, (#[Value.string hp, .string pp, .string fp] : Array Value)[j]? = some v → (w2.alloc (.cells #[.string hc, .string pc, .string fc] 26)).cell? ⟨w1.heap.size, j, none⟩ = some v := fun j v h => by
    rw [World.cell?_alloc_past _ _ _ (by omega), hb2.cell (p := ⟨w1.heap.size, j, none⟩) (by show w1.heap.size < _; omega), World.cell?_alloc_at _ _ _ _ rfl]
    exact h
  have cC : ∀ j v, (#[Value.string hc, .string pc, .string fc] : Array Value)[j]? = some v → (w2.alloc (.cells #[.string hc, .string pc, .string fc] 26)).cell? ⟨w2.heap.size, j, none⟩ = some v := fun j v h => by
    rw [World.cell?_alloc_at _ _ _ _ rfl]
    exact h
  exact ⟨((hb1.alloc hs1 _).trans (hb2.mono (by omega))).alloc (by omega) _, hs1, by omega, by simp, cA 0 _ rfl, cA 1 _ rfl, cA 2 _ rfl, cC 0 _ rfl, cC 1 _ rfl, cC 2 _ rfl⟩

theorem ResMid.cc {B A C : Nat} {w : World} {hp pp fp hc pc fc : ByteArray} {W : World} (h : ResMid B A C w hp pp fp hc pc fc W) :
    W.cell? ⟨C, 0, none⟩ = some (.string hc) ∧ W.cell? ⟨C, 1, none⟩ = some (.string pc) ∧ W.cell? ⟨C, 2, none⟩ = some (.string fc) := ⟨h.c0, h.c1, h.c2⟩

theorem res_keep {B A C : Nat} {w : World} {hp pp fp hc pc fc : ByteArray} {W W2 W3 : World} (H : ResMid B A C w hp pp fp hc pc fc W) (h2 : Below W.heap.size W W2) (h3 : Below W2.heap.size W2 W3) : ResMid B A C w hp pp fp hc pc fc W3 := by
  have hb := h2.trans (h3.mono h2.size)
  have ha := H.ac
  have hcw := H.cw
  have hlo := H.lo
  have hc := fun (b j : Nat) (hx : b < W.heap.size) => hb.cell (p := ⟨b, j, none⟩) (show b < W.heap.size from hx)
  refine ⟨H.below.trans (hb.mono (by omega)), H.lo, H.ac, Nat.lt_of_lt_of_le hcw hb.size, ?_, ?_, ?_, ?_, ?_, ?_⟩
  · rw [hc _ _ (by omega)]; exact H.a0
  · rw [hc _ _ (by omega)]; exact H.a1
  · rw [hc _ _ (by omega)]; exact H.a2
  · rw [hc _ _ (by omega)]; exact H.c0
  · rw [hc _ _ (by omega)]; exact H.c1
  · rw [hc _ _ (by omega)]; exact H.c2

theorem big1 {a b : Nat} (h : a ≤ 100) (h2 : b ≤ 500000000) : ¬ 9223372036854775807 < a + b := by omega
theorem big2 {a b c : Nat} (h : a ≤ 100) (h2 : b ≤ 500000000) (h3 : c ≤ 100) : ¬ 9223372036854775807 < a + b + c := by omega

theorem ResMid.aac {B A C : Nat} {w : World} {hp pp fp hc pc fc : ByteArray} {W : World} (h : ResMid B A C w hp pp fp hc pc fc W) :
    W.cell? ⟨A, 0, none⟩ = some (.string hp) ∧ W.cell? ⟨A, 1, none⟩ = some (.string pp) ∧ W.cell? ⟨C, 2, none⟩ = some (.string fc) := ⟨h.a0, h.a1, h.c2⟩
theorem ResMid.acc {B A C : Nat} {w : World} {hp pp fp hc pc fc : ByteArray} {W : World} (h : ResMid B A C w hp pp fp hc pc fc W) :
    W.cell? ⟨A, 0, none⟩ = some (.string hp) ∧ W.cell? ⟨C, 1, none⟩ = some (.string pc) ∧ W.cell? ⟨C, 2, none⟩ = some (.string fc) := ⟨h.a0, h.c1, h.c2⟩

theorem head_of47 (s : ByteArray) (h0 : 0 < s.size) (h : s[0].toNat = 47) : s.data.toList.head? = some 47 := by
  have hl : 0 < s.data.toList.length := by rw [Array.length_toList]; exact h0
  rw [List.head?_eq_getElem?, List.getElem?_eq_getElem hl]
  exact congrArg some (UInt8.toNat_inj.1 h)
theorem head_not47 (s : ByteArray) (h0 : 0 < s.size) (h : ¬ s[0].toNat = 47) : ¬ s.data.toList.head? = some 47 := by
  have hl : 0 < s.data.toList.length := by rw [Array.length_toList]; exact h0
  rw [List.head?_eq_getElem?, List.getElem?_eq_getElem hl]
  intro e
  apply h
  have : s[0] = 47 := Option.some.inj e
  rw [this]
  rfl

theorem two_pieces {l h p f : Bytes} {xs : List ByteArray} (hp : Pieces p xs) (ht : Told l h p f) (hh : h ≠ []) (hn : p ≠ []) : 2 ≤ xs.length := by
  rcases ht.host with h0 | ⟨_, _, _, _, hp2⟩
  · exact absurd h0 hh
  · rcases hp2 with h0 | ⟨r, hr⟩
    · exact absurd h0 hn
    · have h1 := congrArg List.length (pieces_eq hp)
      rw [hr, splitSl, if_pos rfl, List.length_cons] at h1
      have h2 : (splitSl r).length ≠ 0 := fun e => split_ne r (List.eq_nil_of_length_eq_zero e)
      simp only [bl, List.length_map] at h1
      omega

theorem base_on {xs : List ByteArray} {b x : ByteArray} {k : Nat} (h : b.data.toList = cat (bl (xs.tail.dropLast.take k))) (hx : xs[k + 1]? = some x) (hk : k + 2 < xs.length) :
    (b ++ (⟨#[47]⟩ ++ x)).data.toList = cat (bl (xs.tail.dropLast.take (k + 1))) := by
  have hx2 : xs.tail.dropLast[k]? = some x := by
    rw [List.getElem?_dropLast, if_pos (by rw [List.length_tail]; omega), List.getElem?_tail]
    exact hx
  rw [ByteArray.data_append, Array.toList_append, ByteArray.data_append, Array.toList_append, h, List.take_add_one, hx2]
  simp [bl, cat]

theorem base_end {p : Bytes} {xs : List ByteArray} {b : ByteArray} {k : Nat} (h : b.data.toList = cat (bl (xs.tail.dropLast.take k))) (hp : bl xs = splitSl p) (hk : xs.length ≤ k + 2) : b.data.toList = baseS p := by
  rw [h, List.take_of_length_le (by rw [List.length_dropLast, List.length_tail]; omega), baseS, ← hp]
  simp [bl]

theorem is_nil (s : ByteArray) (h : s.size = 0) : s.data.toList = [] := List.eq_nil_of_length_eq_zero (by rw [Array.length_toList]; exact h)
theorem not_nil (s : ByteArray) (h : 0 < s.size) : s.data.toList ≠ [] := fun e => by
  have := congrArg List.length e
  rw [Array.length_toList, List.length_nil] at this
  have e2 : s.data.size = s.size := rfl
  omega
theorem told_nil {l : Bytes} {h p : Bytes} {f : ByteArray} (ht : Told l h p f.data.toList) (hf : f.size = 0) : Told l h p [] := by
  rw [is_nil f hf] at ht
  exact ht
theorem data_add (a b : ByteArray) : (a ++ b).data.toList = a.data.toList ++ b.data.toList := by rw [ByteArray.data_append, Array.toList_append]

set_option maxRecDepth 100000 in
set_option maxHeartbeats 1600000 in
theorem res_any (s t : ByteArray) (w : World) : Calls Tryz.prog 4 #[.string s, .string t] w (ResOut s t w) := by
  go_enter Tryz.func4, Tryz.ntmps4
  go_wp2_with fail
  refine (parse_any s _).mono ?_
  rintro e w1 ⟨hp, pp, fp, b1, rfl, ht1, hb1⟩
  have HT1 := hid ht1
  clear ht1
  go_wp2_with fail
  refine (parse_any t _).mono ?_
  rintro e w2 ⟨hc, pc, fc, b2, rfl, ht2, hb2⟩
  have HT2 := hid ht2
  clear ht2
  go_upto_region 3 with (fail)
  have HM := hid (res_mid hb1 hb2 hp pp fp hc pc fc)
  obtain ⟨W, hW⟩ : ∃ W, W = w2.alloc (.cells #[.string hc, .string pc, .string fc] 26) := ⟨_, rfl⟩
  obtain ⟨A, hA⟩ : ∃ A, A = w1.heap.size := ⟨_, rfl⟩
  obtain ⟨C, hC⟩ : ∃ C, C = w2.heap.size := ⟨_, rfl⟩
  rw [← hW, ← hA, ← hC] at HM
  rw [← hW, ← hA, ← hC]
  clear hW hA hC hb1 hb2
  have cA0 := HM.out.a0
  have cA1 := HM.out.a1
  have cA2 := HM.out.a2
  have cC0 := HM.out.c0
  have cC1 := HM.out.c1
  have cC2 := HM.out.c2
  have HB := hid HM.out.below
  cases b1
  · go_wp2
    go_ret2
    exact ⟨_, false, rfl, (fun h => by cases h), HB.out⟩
  · cases b2
    · go_wp2
      go_ret2
      exact ⟨_, false, rfl, (fun h => by cases h), HB.out⟩
    · obtain ⟨z1, z2, z3⟩ := told_short (HT1.out rfl)
      obtain ⟨z4, z5, z6⟩ := told_short (HT2.out rfl)
      by_cases hp0 : hp.size = 0
      · have he := empty_of hp hp0
        go_wp2
        go_ret2
        exact ⟨_, false, rfl, (fun h => by cases h), HB.out⟩
      · have hep := not_empty hp (by omega)
        by_cases fp0 : 0 < fp.size
        · have he := not_empty fp fp0
          go_wp2
          go_ret2
          exact ⟨_, false, rfl, (fun h => by cases h), HB.out⟩
        · have hef := empty_of fp (by omega)
          by_cases pp0 : pp.size = 0
          · have he := empty_of pp pp0
            go_wp2
            go_ret2
            exact ⟨_, false, rfl, (fun h => by cases h), HB.out⟩
          · have hepp := not_empty pp (by omega)
            have HU1 := hid (told_nil (HT1.out rfl) (by omega))
            have HU2 := hid (HT2.out rfl)
            have HN1 := hid (not_nil hp (by omega))
            have HN2 := hid (not_nil pp (by omega))
            clear HT1 HT2 hp0 fp0 pp0
            by_cases hc0 : 0 < hc.size
            · have hehc := not_empty hc hc0
              have HNC := hid (not_nil hc hc0)
              by_cases pc0 : pc.size = 0
              · have hepc := empty_of pc pc0
                have HPC := hid (is_nil pc pc0)
                go_wp2
                go_ret2
                refine ⟨_, true, rfl, fun _ => ⟨_, _, _, _, _, ⟨HU1.out, HU2.out, HN1.out, HN2.out, fun h => absurd h HNC.out⟩, ?_⟩, HB.out⟩
                rw [resL, if_pos HNC.out, if_pos HPC.out]
                exact data_add _ _
              · have hepc := not_empty pc (by omega)
                have HPC := hid (not_nil pc (by omega))
                go_wp2
                go_region_held3 (fun w' => w'.cell? ⟨C, 0, none⟩ = some (.string hc) ∧ w'.cell? ⟨C, 1, none⟩ = some (.string pc) ∧ w'.cell? ⟨C, 2, none⟩ = some (.string fc)) (first | assumption | go_keep)
                  (first | (go_at_call 7; refine (merged_all pc _ (by omega)).mono ?_; rintro e w3 ⟨r, rfl, hr, hz, hb3⟩; have H3 := res_keep HM.out (by repeat (first | exact Below.refl _ _ | apply Below.drew)) hb3; have kC := H3.cc; have HH3 := hid H3; have hz1 := big1 z4 hz; have hz2 := big2 z4 hz z6; have HR := hid hr; clear H3 hr hb3 hz))
                go_wp2
                go_ret2
                refine ⟨_, true, rfl, fun _ => ⟨_, _, _, _, _, ⟨HU1.out, HU2.out, HN1.out, HN2.out, fun h => absurd h HNC.out⟩, ?_⟩, HH3.out.below⟩
                rw [resL, if_pos HNC.out, if_neg HPC.out, data_add, data_add, HR.out]
            · have hehc := empty_of hc (by omega)
              have HNC := hid (is_nil hc (by omega))
              by_cases pc0 : pc.size = 0
              · have hepc := empty_of pc pc0
                have HPC := hid (is_nil pc pc0)
                have hz1 := big1 z1 (show pp.size ≤ 500000000 by omega)
                have hz2 := big2 z1 (show pp.size ≤ 500000000 by omega) z6
                go_wp2
                go_region_held3 (fun w' => w'.cell? ⟨A, 0, none⟩ = some (.string hp) ∧ w'.cell? ⟨A, 1, none⟩ = some (.string pp) ∧ w'.cell? ⟨C, 2, none⟩ = some (.string fc)) (first | assumption | go_keep)
                  (first | (go_at_call 7; refine (merged_all pp _ (by omega)).mono ?_; rintro e w3 ⟨r, rfl, hr, hz, hb3⟩; have H3 := res_keep HM.out (by repeat (first | exact Below.refl _ _ | apply Below.drew)) hb3; have kC := H3.aac; have HH3 := hid H3; have HR := hid hr; clear H3 hr hb3 hz))
                go_wp2
                go_ret2
                refine ⟨_, _, rfl, fun hq => ⟨_, _, _, _, _, ⟨HU1.out, HU2.out, HN1.out, HN2.out, fun _ _ => ?_⟩, ?_⟩, HH3.out.below⟩
                · have hq2 : r.toList = pp.toList := by simpa using hq
                  rw [ByteArray.toList_eq, ByteArray.toList_eq] at hq2
                  rw [← HR.out, hq2]
                · rw [resL, if_neg (fun h => h HNC.out), if_pos HPC.out, data_add, data_add]
              · have hepc := not_empty pc (by omega)
                have HPC := hid (not_nil pc (by omega))
                have hpc0 : 0 < pc.size := by omega
                by_cases h47 : pc[0].toNat = 47
                · have HHD := hid (head_of47 pc hpc0 h47)
                  go_wp2
                  go_region_held3 (fun w' => w'.cell? ⟨A, 0, none⟩ = some (.string hp) ∧ w'.cell? ⟨C, 1, none⟩ = some (.string pc) ∧ w'.cell? ⟨C, 2, none⟩ = some (.string fc)) (first | assumption | go_keep)
                    (first | (go_at_call 7; refine (merged_all pc _ (by omega)).mono ?_; rintro e w3 ⟨r, rfl, hr, hz, hb3⟩; have H3 := res_keep HM.out (by repeat (first | exact Below.refl _ _ | apply Below.drew)) hb3; have kC := H3.acc; have HH3 := hid H3; have hz1 := big1 z1 hz; have hz2 := big2 z1 hz z6; have HR := hid hr; clear H3 hr hb3 hz))
                  go_wp2
                  go_ret2
                  refine ⟨_, _, rfl, fun _ => ⟨_, _, _, _, _, ⟨HU1.out, HU2.out, HN1.out, HN2.out, fun _ h => absurd h HPC.out⟩, ?_⟩, HH3.out.below⟩
                  rw [resL, if_neg (fun h => h HNC.out), if_neg HPC.out, if_pos HHD.out, data_add, data_add, HR.out]
                · have HHD := hid (head_not47 pc hpc0 h47)
                  have h47b : (((pc[0].toNat : Nat) : Int) == 47) = false := by rw [beq_eq_false_iff_ne]; omega
                  go_wp2_with fail
                  refine (segs_any pp _ (by omega)).mono ?_
                  rintro e w3 ⟨g, cap, xs, rfl, hown, hb3, hpc, hx⟩
                  have H3 := res_keep HM.out (Below.refl _ _) hb3
                  have hcell := hid (owned_cells hown)
                  have hlen : 2 ≤ xs.length := two_pieces hpc HU1.out HN1.out HN2.out
                  have hcap : xs.length ≤ cap := by
                    obtain ⟨_, _, hv, _, h⟩ := owned_at hown (by omega)
                    cases hv
                    exact h
                  have HPS := hid (piece_size hpc)
                  have HPX := hid (pieces_eq hpc)
                  have hx2 : xs.length ≤ 101 := by omega
                  clear cA0 cA1 cA2 cC0 cC1 cC2 hown hb3 hpc hx
                  have kA := H3.a0
                  have kC := H3.c1
                  have kD := H3.c2
                  have HH3 := hid H3
                  clear H3
                  go_wp2
                  go_loop [107, 11] (fun i v => ∃ (k : Nat) (b : ByteArray), k + 2 ≤ xs.length ∧ i = .int .i64 k ∧ v = .string b ∧ b.data.toList = cat (bl (xs.tail.dropLast.take k)) ∧ b.size ≤ 101 * k) (fun i _ => xs.length - (intOf i).toNat)
                  case atStart => exact ⟨0, ⟨#[]⟩, hlen, rfl, rfl, rfl, Nat.zero_le _⟩
                  case round =>
                    obtain ⟨k, b, hk, rfl, rfl, ht, hbs⟩ := hrel
                    have HT := hid ht
                    clear ht
                    by_cases hlt : k + 2 < xs.length
                    · obtain ⟨x, hx⟩ : ∃ x, xs[k + 1]? = some x := ⟨_, List.getElem?_eq_getElem (by omega)⟩
                      have hc : w3.cell? ⟨g, 1 + k, none⟩ = some (.string x) := by rw [Nat.add_comm]; exact hcell.out (k + 1) x hx
                      have hxs : x.size ≤ 100 := by
                        have h1 := HPS.out x (List.mem_of_getElem? hx)
                        rw [Array.length_toList] at h1
                        have e : pp.data.size = pp.size := rfl
                        omega
                      have HN := hid (base_on HT.out hx hlt)
                      clear hx
                      go_wp2
                      go_round
                      case rel => exact ⟨k + 1, _, by omega, by go_num, rfl, HN.out, by have e47 : (⟨#[47]⟩ : ByteArray).size = 1 := rfl; rw [ByteArray.size_append, ByteArray.size_append, e47]; omega⟩
                      case measure => simp [intOf]; omega
                    · have HB5 := hid (base_end HT.out HPX.out (by omega))
                      have e47 : (⟨#[47]⟩ : ByteArray).size = 1 := rfl
                      have hbig : (b ++ ⟨#[47]⟩ ++ pc).size ≤ 20000 := by rw [ByteArray.size_append, ByteArray.size_append, e47]; omega
                      have hza : ¬ 9223372036854775807 < b.size + 1 := by omega
                      have hzb : ¬ 9223372036854775807 < b.size + 1 + pc.size := by omega
                      clear e47
                      go_wp2
                      go_region_held3 (fun w' => w'.cell? ⟨A, 0, none⟩ = some (.string hp) ∧ w'.cell? ⟨C, 1, none⟩ = some (.string pc) ∧ w'.cell? ⟨C, 2, none⟩ = some (.string fc)) (first | assumption | go_keep)
                        (first | (go_at_call 7; refine (merged_all _ _ hbig).mono ?_; rintro e w4 ⟨r, rfl, hr, hz, hb4⟩; have H4 := res_keep HH3.out (by repeat (first | exact Below.refl _ _ | apply Below.drew)) hb4; have kC := H4.acc; have HH4 := hid H4; have hz1 := big1 z1 hz; have hz2 := big2 z1 hz z6; have HR := hid hr; clear H4 hr hb4 hz))
                      go_wp2
                      go_ret2
                      refine ⟨_, _, rfl, fun _ => ⟨_, _, _, _, _, ⟨HU1.out, HU2.out, HN1.out, HN2.out, fun _ h => absurd h HPC.out⟩, ?_⟩, HH4.out.below⟩
                      rw [resL, if_neg (fun h => h HNC.out), if_neg HPC.out, if_neg HHD.out, data_add, data_add, HR.out, data_add, data_add, HB5.out]
end Go.Proofs.YthphgelfiggleaaGreatDoor

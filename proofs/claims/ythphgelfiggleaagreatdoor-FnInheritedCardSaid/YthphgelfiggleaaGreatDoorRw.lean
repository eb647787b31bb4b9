/-
  resolvePath of package neturl: it makes of a path what merged of package spec makes of it.
-/
import Derived.Test.YthphgelfiggleaaGreatDoorRv
import Derived.Deep.DeepCutAuto
namespace Go.Proofs.YthphgelfiggleaaGreatDoor
open Go.RowKit

/-- The path of which the steps are taken. -/
def FullIs (base ref full : ByteArray) : Prop :=
  (ref.size = 0 ∧ full = base) ∨ (∃ q, ref.data.toList = 47 :: q ∧ full = ref) ∨
    (∃ c q a b, ref.data.toList = c :: q ∧ c ≠ 47 ∧ base.data.toList = a ++ 47 :: b ∧ NoS b ∧ full.data.toList = a ++ 47 :: ref.data.toList)

/-- A path that begins with a slash and has no empty step in its middle; or nothing. -/
def PathFit (full : ByteArray) : Prop := full.size = 0 ∨ ∃ ys, splitSl full.data.toList = [] :: ys ∧ ys ≠ [] ∧ ∀ x ∈ ys.dropLast, x ≠ []

def RespOut (full : ByteArray) (w : World) (e : Ending) (w' : World) : Prop :=
  ∃ r : ByteArray, e = .returned (.string r) ∧ r.data.toList = (if full.size = 0 then [] else mergedS full.data.toList) ∧ Below w.heap.size w w'

theorem full_rel {base ref full : ByteArray} {a b : Bytes} (h1 : base.data.toList = a ++ 47 :: b) (h2 : full.data.toList = a ++ 47 :: ref.data.toList) (n : Nat) (hn : n = a.length + 1) : full = base.extract 0 n ++ ref := by
  subst hn
  apply ba_ext
  rw [data_add, take_of, h1, h2, show a ++ 47 :: b = (a ++ [47]) ++ b by simp, List.take_left' (by simp)]
  simp

/-- What zzCut at a slash tells. -/
structure CutF (r a b : ByteArray) (fv : Bool) : Prop where
  no : NoS a.data.toList
  some_ : fv = true → r.data.toList = a.data.toList ++ 47 :: b.data.toList ∧ r.size = a.size + 1 + b.size
  none_ : fv = false → a = r ∧ b = ⟨#[]⟩

/-- The state of the loop: the text d, the last piece x, the rest r. -/
structure RS (full : ByteArray) (w wr : World) (d : Bytes) (x r : ByteArray) (fb df : Bool) (v : Value) : Prop where
  dst : DstOk w.heap.size w wr v d
  on : fb = true → RL full.data.toList r.data.toList d df
  done : fb = false → RE full.data.toList x.data.toList d
  lenT : fb = true → d.length + r.size ≤ full.size + 1
  len : d.length ≤ full.size + 2

section
variable {full : ByteArray} {w wr wr' : World} {d d' : Bytes} {x r a b : ByteArray} {fv df f' : Bool} {v v' : Value}

theorem CutF.le (c : CutF r a b fv) : a.size ≤ r.size ∧ b.size ≤ r.size ∧ (fv = true → a.size + 1 + b.size = r.size) ∧ (fv = false → b.size = 0 ∧ a.size = r.size) := by
  cases fv
  · obtain ⟨rfl, rfl⟩ := c.none_ rfl
    exact ⟨Nat.le_refl _, Nat.zero_le _, (fun h => by cases h), fun _ => ⟨rfl, rfl⟩⟩
  · have h := (c.some_ rfl).2
    exact ⟨by omega, by omega, fun _ => h.symm, fun h => by cases h⟩

theorem RS.dot (h : RS full w wr d x r true df v) (c : CutF r a b fv) (ha : a.data.toList = [46]) (hd : DstOk w.heap.size w wr' v d) : RS full w wr' d a b fv false v := by
  have hl := c.le
  have h1 := h.lenT rfl
  refine ⟨hd, fun hf => ?_, fun hf => ?_, fun hf => ?_, h.len⟩
  · exact rl_dot (h.on rfl) (by rw [← ha]; exact cut_split_some (c.some_ hf).1 c.no)
  · obtain ⟨e, _⟩ := c.none_ hf
    have := re_dot (h.on rfl) (by rw [← e, cut_split_none c.no, ha])
    rw [ha]; exact this
  · have := hl.2.2.1 hf
    omega

theorem RS.dots (h : RS full w wr d x r true df v) (c : CutF r a b fv) (ha : a.data.toList = [46, 46]) (hu : UpTo d d' f') (hd : DstOk w.heap.size w wr' v' d') (hle : d'.length ≤ d.length) : RS full w wr' d' a b fv f' v' := by
  have hl := c.le
  have h1 := h.lenT rfl
  have h2 := h.len
  refine ⟨hd, fun hf => ?_, fun hf => ?_, fun hf => ?_, by omega⟩
  · exact rl_dots (h.on rfl) (by rw [← ha]; exact cut_split_some (c.some_ hf).1 c.no) hu
  · obtain ⟨e, _⟩ := c.none_ hf
    have := re_dots (h.on rfl) (by rw [← e, cut_split_none c.no, ha]) hu
    rw [ha]; exact this
  · have := hl.2.2.1 hf
    omega

theorem push_len (d : Bytes) (df : Bool) (x : Bytes) : (pushL d df x).length ≤ d.length + 1 + x.length := by
  unfold pushL
  cases df <;> simp <;> omega

theorem RS.push (h : RS full w wr d x r true df v) (c : CutF r a b fv) (ha : ¬ isDot a.data.toList) (hd : DstOk w.heap.size w wr' v' (pushL d df a.data.toList)) : RS full w wr' (pushL d df a.data.toList) a b fv false v' := by
  have hl := c.le
  have h1 := h.lenT rfl
  have h2 := push_len d df a.data.toList
  have e2 : a.data.toList.length = a.size := Array.length_toList
  refine ⟨hd, fun hf => ?_, fun hf => ?_, fun hf => ?_, by omega⟩
  · exact rl_push (h.on rfl) (cut_split_some (c.some_ hf).1 c.no) ha c.no
  · obtain ⟨e, _⟩ := c.none_ hf
    exact re_push (h.on rfl) (by rw [← e, cut_split_none c.no]) ha c.no
  · have := hl.2.2.1 hf
    omega
end

theorem len_add (d : Bytes) (a : ByteArray) : d.length + a.size = (d ++ a.data.toList).length := by
  rw [List.length_append, Array.length_toList]; rfl

def boolNat : Value → Nat | .bool true => 1 | _ => 0

theorem CutF.lt {r a b : ByteArray} {fv : Bool} (c : CutF r a b fv) : boolNat (.bool fv) + strSize (.string b) < boolNat (.bool true) + strSize (.string r) := by
  have h := c.le
  have e1 : ∀ s : ByteArray, strSize (.string s) = s.size := fun _ => rfl
  have e2 : boolNat (.bool true) = 1 := rfl
  rw [e1, e1, e2]
  cases fv
  · have := h.2.2.2 rfl
    have e3 : boolNat (.bool false) = 0 := rfl
    omega
  · have := h.2.2.1 rfl
    omega

set_option maxRecDepth 100000 in
set_option maxHeartbeats 800000 in
theorem respath_any (base ref full : ByteArray) (w : World) (hb : base.size ≤ 1000) (hr : ref.size ≤ 1000) (hz : full.size ≤ 3000) (hF : FullIs base ref full) (hG : PathFit full) : Calls Tryz.prog 26 #[.string base, .string ref] w (RespOut full w) := by
  have HF := hid hF
  have HG := hid hG
  clear hF hG
  obtain ⟨em, hem⟩ : ∃ em : Bool, ref.toList.isEmpty = em := ⟨_, rfl⟩
  go_enter Tryz.func26, Tryz.ntmps26
  go_upto_if 14 with (fail)
  go_cut [5, 6] (fun v _ wc => v = .string full ∧ Below w.heap.size w wc)
  case first =>
    rcases HF.out with ⟨h0, hf⟩ | ⟨q, hq, hf⟩ | ⟨c, q, a, b, hq, hc, hba, hnb, hf⟩
    · obtain rfl : em = true := by rw [← hem]; exact empty_of ref h0
      have HE := hid hf
      clear hf
      go_wp2
      go_meet
      exact ⟨by rw [HE.out], Below.refl _ _⟩
    · have h1 : 0 < ref.size := by
        have := congrArg List.length hq
        rw [Array.length_toList, List.length_cons] at this
        have e : ref.data.size = ref.size := rfl
        omega
      obtain rfl : em = false := by rw [← hem]; exact not_empty ref h1
      have h47 : ref[0].toNat = 47 := by
        have h2 : ref.data.toList[0]? = some ref[0] := List.getElem?_eq_getElem (by rw [Array.length_toList]; exact h1)
        rw [hq] at h2
        rw [← Option.some.inj h2]; rfl
      have b1 : (((ref[0].toNat : Nat) : Int) == 47) = true := by rw [beq_iff_eq]; omega
      have HE := hid hf
      clear hf hq h47
      go_wp2
      go_meet
      exact ⟨by rw [HE.out], Below.refl _ _⟩
    · have h1 : 0 < ref.size := by
        have := congrArg List.length hq
        rw [Array.length_toList, List.length_cons] at this
        have e : ref.data.size = ref.size := rfl
        omega
      obtain rfl : em = false := by rw [← hem]; exact not_empty ref h1
      have h47 : ref[0].toNat ≠ 47 := by
        have h2 : ref.data.toList[0]? = some ref[0] := List.getElem?_eq_getElem (by rw [Array.length_toList]; exact h1)
        rw [hq] at h2
        rw [← Option.some.inj h2]
        exact ne47.2 hc
      have b1 : (((ref[0].toNat : Nat) : Int) == 47) = false := by rw [beq_eq_false_iff_ne]; omega
      have hal : a.length + 1 ≤ base.size := by
        have := congrArg List.length hba
        rw [Array.length_toList, List.length_append, List.length_cons] at this
        have e : base.data.size = base.size := rfl
        omega
      have c1 := hid (lastidx_some base a b w (by omega) hba hnb)
      have HE := hid (full_rel hba hf _ rfl)
      clear hf hq h47 hba hnb
      go_wp2_with fail
      refine c1.out.mono ?_
      rintro e w' ⟨rfl, rfl⟩
      go_wp2
      go_meet
      exact ⟨by rw [HE.out], Below.refl _ _⟩
  case rest =>
    obtain ⟨rfl, hbl⟩ := hcut
    have HB := hid hbl
    clear hbl hem HF
    by_cases h0 : full.size = 0
    · have e0 := empty_of full h0
      go_wp2
      go_ret
      exact ⟨⟨#[]⟩, rfl, by rw [if_pos h0], HB.out⟩
    · have e0 := not_empty full (by omega)
      obtain ⟨i0, hi, hz0, hz1, hz2⟩ := info_parts info5
      obtain ⟨wm, hmk, hown, hgm⟩ := run_make_own (P := Tryz.prog) wc w.heap.size 64 5 i0 (.int .u8 0) 1 Tryz.underlying64 hi hz0 hz1 .i64 .i64 (full.size + 1) (by rw [hz2]; omega) (by unfold maxLen; omega) HB.out.size
      have HD := hid (show DstOk w.heap.size w wm (.slice (some ⟨wc.heap.size, 0, none⟩) 0 (full.size + 1)) [] from ⟨hown, HB.out.grown hgm HB.out.size (fun k hk => by cases hk), Nat.le_trans HB.out.size hgm.size⟩)
      rw [show ((full.size + 1 : Nat) : Int) = (full.size : Int) + 1 by omega] at hmk
      clear hown hgm
      go_wp2_with (at_builtin; refine wpList_append_own _ rfl (.tmp 34) (.tmp 35) 64 rfl w.heap.size 5 i0 (.int .u8 0) 1 1 Tryz.underlying64 hi hz0 hz1 hz2 rfl (by decide) _ _ _ rfl (HD.out.1.alloc _) ⟨wm.heap.size, 0, none⟩ 1 1 [.int .u8 47] rfl rfl ?c1 ?c2 ?c3 ?c4 ?c5 ?_)
      case c1 => exact new_one _ _ _
      case c2 => simp [Value.oneCell']
      case c3 => unfold maxLen; simp
      case c4 => simp
      case c5 => have := HD.out.2.2; simp; omega
      intro v' w1 hown1 hg1 _
      have HD1 := hid (HD.out.grown (d' := [47]) hown1 rfl hg1)
      clear hown1 hg1 HD hmk
      have HR0 := hid (show RS full w w1 [47] ⟨#[]⟩ full true true v' from by
        rcases HG.out with hg | ⟨ys, hs, hne, hm⟩
        · exact absurd hg h0
        · exact ⟨HD1.out, fun _ => .inl ⟨rfl, rfl, ys, hs, hne, by rw [mergedS, mergedL, hs]; rfl, hm⟩, (fun h => by cases h), fun _ => by simp; omega, by simp⟩)
      clear HD1
      go_wp2
      go_loopw [7, 8, 9, 10, 11] (fun v el rem found first wr => ∃ (d : Bytes) (x r : ByteArray) (fb df : Bool), el = .string x ∧ rem = .string r ∧ found = .bool fb ∧ first = .bool df ∧ RS full w wr d x r fb df v) (fun _ _ rem found _ _ => boolNat found + strSize rem)
      case atStart => exact ⟨[47], ⟨#[]⟩, full, true, true, rfl, rfl, rfl, rfl, HR0.out⟩
      case round =>
        obtain ⟨d, x, r, fb, df, rfl, rfl, rfl, rfl, hr⟩ := hrel
        have HR := hid hr
        clear hr HR0
        cases fb
        · have HD := hid HR.out.dst
          have HE := hid (HR.out.done rfl)
          have hdl : d.length ≤ 3002 := by have := HR.out.len; omega
          obtain ⟨e1, he1⟩ : ∃ e1 : Bool, (x.toList == [46]) = e1 := ⟨_, rfl⟩
          obtain ⟨e2, he2⟩ : ∃ e2 : Bool, (x.toList == [46, 46]) = e2 := ⟨_, rfl⟩
          have HX := hid (show ((e1 || e2) = true → isDot x.data.toList) ∧ ((e1 || e2) = false → ¬ isDot x.data.toList) from by
            rw [← he1, ← he2, ByteArray.toList_eq]
            constructor
            · intro h
              rw [Bool.or_eq_true, beq_iff_eq, beq_iff_eq] at h
              exact h
            · intro h
              rw [Bool.or_eq_false_iff, beq_eq_false_iff_ne, beq_eq_false_iff_ne] at h
              exact fun hd => hd.elim h.1 h.2)
          clear HR
          cases e1
          · go_upto_if 77 with (fail)
            go_cut [7] (fun v wc => ∃ D, DstOk w.heap.size w wc v D ∧ RPEndOf full.data.toList D ∧ D.length ≤ 4000)
            case first =>
              cases e2
              · go_wp2
                go_meet
                exact ⟨d, HD.out, HE.out.2 (HX.out.2 rfl), by omega⟩
              · go_wp2_with (at_builtin; refine wpList_append_own _ rfl (.tmp 78) (.tmp 79) 64 rfl w.heap.size 5 i0 (.int .u8 0) 1 1 Tryz.underlying64 hi hz0 hz1 hz2 rfl (by decide) _ _ _ rfl (HD.out.1.alloc _) ⟨wr.heap.size, 0, none⟩ 1 1 [.int .u8 47] rfl rfl ?d1 ?d2 ?d3 ?d4 ?d5 ?_)
                case d1 => exact new_one _ _ _
                case d2 => simp [Value.oneCell']
                case d3 => unfold maxLen; omega
                case d4 => omega
                case d5 => have := HD.out.2.2; simp; omega
                intro v2 w3 hown2 hg2 _
                have HD2 := hid (HD.out.grown (d' := d ++ [47]) (by rw [Lib.byteCells_append]; exact hown2) (by simp) hg2)
                clear hown2 hg2
                go_wp2
                go_meet
                exact ⟨d ++ [47], HD2.out, HE.out.1 (HX.out.1 rfl), by rw [List.length_append]; simp; omega⟩
            case rest =>
              obtain ⟨D, hD, hE, hl⟩ := hcut
              have HRR := hid (rp_result hE)
              obtain ⟨t, rfl⟩ := rpend_head hE
              have HDD := hid hD
              clear hD hE HE HD HX
              obtain ⟨g, cap, rfl, hcap⟩ := HDD.out.form (by simp)
              have hby := HDD.out.bytes
              have hres := HDD.out.2.1
              clear HDD
              have HBL := hid hres
              clear hres
              rcases t with _ | ⟨c, t⟩
              · have hcv := hby.back (cap := cap)
                have HRE := hid (show mergedS full.data.toList = [47] from HRR.out)
                clear HRR hby hl hcap
                simp only [List.length_cons, List.length_nil] at hcv ⊢
                go_wp2
                go_ret
                exact ⟨⟨#[47]⟩, rfl, by rw [if_neg h0, HRE.out], HBL.out⟩
              · have hcell := hby 1 c rfl
                have hl2 : t.length + 2 ≤ 4000 := hl
                have hcap2 : t.length + 2 ≤ cap := hcap
                have hcap3 : ¬ cap = 1 := by omega
                by_cases hc : c = 47
                · have hcv := hby.tail.back (cap := cap - 1)
                  subst hc
                  have HRE := hid (show mergedS full.data.toList = 47 :: t from HRR.out)
                  clear HRR hby hl hcap
                  simp only [List.length_cons] at hcv ⊢
                  have b1 : ((((47 : UInt8).toNat : Nat) : Int) == 47) = true := rfl
                  go_wp2
                  go_ret
                  exact ⟨_, rfl, by rw [if_neg h0, HRE.out], HBL.out⟩
                · have hcv := hby.back (cap := cap)
                  have b1 : (((c.toNat : Nat) : Int) == 47) = false := by
                    rw [beq_eq_false_iff_ne]
                    have := ne47.2 hc
                    omega
                  have HRE := hid (show mergedS full.data.toList = 47 :: c :: t from by
                    rw [HRR.out, if_neg]
                    intro h
                    exact hc (Option.some.inj h))
                  clear HRR hby hl hcap
                  simp only [List.length_cons] at hcv ⊢
                  go_wp2
                  go_ret
                  exact ⟨_, rfl, by rw [if_neg h0, HRE.out], HBL.out⟩
          · go_upto_if 77 with (fail)
            go_cut [7] (fun v wc => ∃ D, DstOk w.heap.size w wc v D ∧ RPEndOf full.data.toList D ∧ D.length ≤ 4000)
            case first =>
              go_wp2_with (at_builtin; refine wpList_append_own _ rfl (.tmp 78) (.tmp 79) 64 rfl w.heap.size 5 i0 (.int .u8 0) 1 1 Tryz.underlying64 hi hz0 hz1 hz2 rfl (by decide) _ _ _ rfl (HD.out.1.alloc _) ⟨wr.heap.size, 0, none⟩ 1 1 [.int .u8 47] rfl rfl ?d1 ?d2 ?d3 ?d4 ?d5 ?_)
              case d1 => exact new_one _ _ _
              case d2 => simp [Value.oneCell']
              case d3 => unfold maxLen; omega
              case d4 => omega
              case d5 => have := HD.out.2.2; simp; omega
              intro v2 w3 hown2 hg2 _
              have HD2 := hid (HD.out.grown (d' := d ++ [47]) (by rw [Lib.byteCells_append]; exact hown2) (by simp) hg2)
              clear hown2 hg2
              go_wp2
              go_meet
              exact ⟨d ++ [47], HD2.out, HE.out.1 (HX.out.1 rfl), by rw [List.length_append]; simp; omega⟩
            case rest =>
              obtain ⟨D, hD, hE, hl⟩ := hcut
              have HRR := hid (rp_result hE)
              obtain ⟨t, rfl⟩ := rpend_head hE
              have HDD := hid hD
              clear hD hE HE HD HX
              obtain ⟨g, cap, rfl, hcap⟩ := HDD.out.form (by simp)
              have hby := HDD.out.bytes
              have hres := HDD.out.2.1
              clear HDD
              have HBL := hid hres
              clear hres
              rcases t with _ | ⟨c, t⟩
              · have hcv := hby.back (cap := cap)
                have HRE := hid (show mergedS full.data.toList = [47] from HRR.out)
                clear HRR hby hl hcap
                simp only [List.length_cons, List.length_nil] at hcv ⊢
                go_wp2
                go_ret
                exact ⟨⟨#[47]⟩, rfl, by rw [if_neg h0, HRE.out], HBL.out⟩
              · have hcell := hby 1 c rfl
                have hl2 : t.length + 2 ≤ 4000 := hl
                have hcap2 : t.length + 2 ≤ cap := hcap
                have hcap3 : ¬ cap = 1 := by omega
                by_cases hc : c = 47
                · have hcv := hby.tail.back (cap := cap - 1)
                  subst hc
                  have HRE := hid (show mergedS full.data.toList = 47 :: t from HRR.out)
                  clear HRR hby hl hcap
                  simp only [List.length_cons] at hcv ⊢
                  have b1 : ((((47 : UInt8).toNat : Nat) : Int) == 47) = true := rfl
                  go_wp2
                  go_ret
                  exact ⟨_, rfl, by rw [if_neg h0, HRE.out], HBL.out⟩
                · have hcv := hby.back (cap := cap)
                  have b1 : (((c.toNat : Nat) : Int) == 47) = false := by
                    rw [beq_eq_false_iff_ne]
                    have := ne47.2 hc
                    omega
                  have HRE := hid (show mergedS full.data.toList = 47 :: c :: t from by
                    rw [HRR.out, if_neg]
                    intro h
                    exact hc (Option.some.inj h))
                  clear HRR hby hl hcap
                  simp only [List.length_cons] at hcv ⊢
                  go_wp2
                  go_ret
                  exact ⟨_, rfl, by rw [if_neg h0, HRE.out], HBL.out⟩
        · have hrs : r.size ≤ full.size + 1 := by have := HR.out.lenT rfl; omega
          go_wp2_with fail
          refine (cut_sl r _ (by omega)).mono ?_
          rintro e w2 ⟨a, b, fv, rfl, hno, hsome, hnone, hbl⟩
          have HC := hid (show CutF r a b fv from ⟨hno, hsome, hnone⟩)
          have HD := hid (HR.out.dst.keep hbl)
          clear hno hsome hnone hbl
          by_cases a1 : a.data.toList = [46]
          · have b1 : (a.toList == [46]) = true := by rw [ByteArray.toList_eq, a1]; rfl
            have HN := hid (HR.out.dot HC.out a1 HD.out)
            clear HR HD a1
            go_wp2
            go_roundw
            case rel => exact ⟨d, a, b, fv, false, rfl, rfl, rfl, rfl, HN.out⟩
            case measure => exact HC.out.lt
          · have b1 : (a.toList == [46]) = false := by rw [ByteArray.toList_eq, beq_eq_false_iff_ne]; exact a1
            by_cases a2 : a.data.toList = [46, 46]
            · have b2 : (a.toList == [46, 46]) = true := by rw [ByteArray.toList_eq, a2]; rfl
              obtain ⟨t, rfl⟩ := rl_head (HR.out.on rfl)
              obtain ⟨g, cap, rfl, hcap⟩ := HD.out.form (by simp)
              have hts : t.length ≤ 4000 := by have := HR.out.len; rw [List.length_cons] at this; omega
              have hcap2 : t.length + 1 ≤ cap := hcap
              have hdl : (47 :: t : Bytes).length = t.length + 1 := rfl
              have hz0 : (0 : Int) ≤ (t.length : Int) := by omega
              clear hcap
              by_cases hc1 : cap = 1
              · subst hc1
                obtain rfl : t = [] := List.eq_nil_of_length_eq_zero (by omega)
                have c1 := hid (lastb_any g 0 0 [] w2 (by simp) (fun j c hj => by cases hj))
                simp only [List.length_cons, List.length_nil] at c1 ⊢
                go_wp2_with fail
                refine c1.out.mono ?_
                rintro e w' ⟨i, rfl, hi, rfl⟩
                have hi2 : i = -1 := by
                  rcases hi with ⟨h, _⟩ | ⟨p, q, h, _⟩
                  · exact h
                  · simp at h
                subst hi2
                clear hi
                have HN := hid (HR.out.dots (d' := [47]) (f' := true) HC.out a2 (.inl ⟨(fun c hc => by cases hc), rfl, rfl⟩) HD.out (Nat.le_refl _))
                clear HR HD a1 a2
                go_wp2
                go_roundw
                case rel => exact ⟨[47], a, b, fv, true, rfl, rfl, rfl, rfl, HN.out⟩
                case measure => exact HC.out.lt
              · have c1 := hid (lastb_any g 1 (cap - 1) t w2 (by omega) HD.out.bytes.tail)
                simp only [List.length_cons]
                go_wp2_with fail
                refine c1.out.mono ?_
                rintro e w' ⟨i, rfl, hi, rfl⟩
                rcases hi with ⟨rfl, hno⟩ | ⟨p, q, hpq, hno, rfl⟩
                · have HN := hid (HR.out.dots (d' := [47]) (f' := true) HC.out a2 (.inl ⟨hno, rfl, rfl⟩) (HD.out.take 1 (by omega)) (by rw [hdl]; simp))
                  clear HR HD a1 a2 hno
                  go_wp2
                  go_roundw
                  case rel => exact ⟨[47], a, b, fv, true, rfl, rfl, rfl, rfl, HN.out⟩
                  case measure => exact HC.out.lt
                · have htk : (47 :: t : Bytes).take (p.length + 1) = 47 :: p := by rw [hpq, List.take_succ_cons, List.take_left' rfl]
                  have hpl : p.length + 1 ≤ t.length := by
                    have := congrArg List.length hpq
                    rw [List.length_append, List.length_cons] at this
                    omega
                  have HT := HD.out.take (p.length + 1) (by rw [hdl]; omega)
                  rw [htk] at HT
                  have HN := hid (HR.out.dots (d' := 47 :: p) HC.out a2 (.inr ⟨p, q, hpq, hno, rfl, rfl⟩) HT (by rw [hdl, List.length_cons]; omega))
                  obtain ⟨f', hf⟩ : ∃ f' : Bool, f' = decide (p = []) := ⟨_, rfl⟩
                  have hf2 : (((p.length : Int) + 1) == 1) = f' := by
                    rw [hf]
                    cases p with
                    | nil => rfl
                    | cons c p => simp; omega
                  have hn0 : (0 : Int) ≤ (p.length : Int) := by omega
                  rw [← hf] at HN
                  clear HR HD HT a1 a2 hno hpq htk
                  go_wp2
                  go_roundw
                  case rel => exact ⟨47 :: p, a, b, fv, f', rfl, rfl, rfl, by rw [hf], HN.out⟩
                  case measure => exact HC.out.lt
            · have b2 : (a.toList == [46, 46]) = false := by rw [ByteArray.toList_eq, beq_eq_false_iff_ne]; exact a2
              have hnd : ¬ isDot a.data.toList := fun h => h.elim a1 a2
              obtain ⟨t, rfl⟩ := rl_head (HR.out.on rfl)
              have hdn : (t.length + 1 : Nat) ≤ 4000 := by have := HR.out.len; rw [List.length_cons] at this; omega
              have has : a.size ≤ 4000 := by have := HC.out.le; omega
              clear a1 a2
              cases df
              · go_wp2_with (at_builtin; refine wpList_append_own _ rfl (.tmp 48) (.tmp 49) 64 rfl w.heap.size 5 i0 (.int .u8 0) 1 1 Tryz.underlying64 hi hz0 hz1 hz2 rfl (by decide) _ _ _ rfl (HD.out.1.alloc _) ⟨w2.heap.size, 0, none⟩ 1 1 [.int .u8 47] rfl rfl ?d1 ?d2 ?d3 ?d4 ?d5 ?_)
                case d1 => exact new_one _ _ _
                case d2 => simp [Value.oneCell']
                case d3 => unfold maxLen; simp only [List.length_cons]; omega
                case d4 => simp only [List.length_cons]; omega
                case d5 => have := HD.out.2.2; simp; omega
                intro v2 w3 hown2 hg2 _
                have HD2 := hid (HD.out.grown (d' := 47 :: t ++ [47]) (by rw [Lib.byteCells_append]; exact hown2) (by simp) hg2)
                clear hown2 hg2
                go_wp2_with (at_builtin; refine Lib.wpList_append_own_string _ rfl (.tmp 51) (.tmp 52) 64 9 rfl w.heap.size 5 i0 Tryz.underlying64 Tryz.underlying9 hi hz0 hz1 hz2 _ _ _ rfl HD2.out.1 a rfl ?e1 ?e2 ?e3 ?_)
                case e1 => unfold maxLen; simp only [List.length_append, List.length_cons, List.length_nil]; omega
                case e2 => simp only [List.length_append, List.length_cons, List.length_nil]; omega
                case e3 => exact HD2.out.2.2
                intro v3 w4 hown3 hg3 _
                have HD3 := hid (HD2.out.grown2 (d' := pushL (47 :: t) false a.data.toList) (by rw [show pushL (47 :: t) false a.data.toList = (47 :: t ++ [47]) ++ a.data.toList from rfl, Lib.byteCells_append]; exact hown3) (by rw [show pushL (47 :: t) false a.data.toList = (47 :: t ++ [47]) ++ a.data.toList from rfl, ← len_add]; simp) hg3)
                have HN := hid (HR.out.push HC.out hnd HD3.out)
                clear hown3 hg3 HD3 HR HD
                go_wp2
                go_roundw
                case rel => exact ⟨_, a, b, fv, false, rfl, rfl, rfl, rfl, HN.out⟩
                case measure => exact HC.out.lt
              · go_wp2_with (at_builtin; refine Lib.wpList_append_own_string _ rfl (.tmp 51) (.tmp 52) 64 9 rfl w.heap.size 5 i0 Tryz.underlying64 Tryz.underlying9 hi hz0 hz1 hz2 _ _ _ rfl HD.out.1 a rfl ?f1 ?f2 ?f3 ?_)
                case f1 => unfold maxLen; simp only [List.length_cons]; omega
                case f2 => simp only [List.length_cons]; omega
                case f3 => exact HD.out.2.2
                intro v3 w4 hown3 hg3 _
                have HD3 := hid (HD.out.grown2 (d' := pushL (47 :: t) true a.data.toList) (by rw [show pushL (47 :: t) true a.data.toList = (47 :: t) ++ a.data.toList from rfl, Lib.byteCells_append]; exact hown3) (by rw [show pushL (47 :: t) true a.data.toList = (47 :: t) ++ a.data.toList from rfl, ← len_add]; simp) hg3)
                have HN := hid (HR.out.push HC.out hnd HD3.out)
                clear hown3 hg3 HD3 HR HD
                go_wp2
                go_roundw
                case rel => exact ⟨_, a, b, fv, false, rfl, rfl, rfl, rfl, HN.out⟩
                case measure => exact HC.out.lt
end Go.Proofs.YthphgelfiggleaaGreatDoor

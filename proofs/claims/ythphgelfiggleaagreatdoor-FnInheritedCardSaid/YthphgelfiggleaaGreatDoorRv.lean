/-
  What the walk of resolvePath needs: zzCut at a slash, LastIndex of a slash, the text that grows in a slice of bytes.
-/
import Derived.Test.YthphgelfiggleaaGreatDoorRp
import Derived.Test.YthphgelfiggleaaGreatDoorLib
import Derived.Lib.AppendStr
import Derived.Lib.UnsafeStr
namespace Go.Proofs.YthphgelfiggleaaGreatDoor
open Go.RowKit

def CutSl (s : ByteArray) (w : World) (e : Ending) (w' : World) : Prop :=
  ∃ (a b : ByteArray) (v : Bool), e = .returned (.tuple #[.string a, .string b, .bool v]) ∧ NoS a.data.toList ∧
    (v = true → s.data.toList = a.data.toList ++ 47 :: b.data.toList ∧ s.size = a.size + 1 + b.size) ∧ (v = false → a = s ∧ b = ⟨#[]⟩) ∧ Below w.heap.size w w'

theorem ne47 {c : UInt8} : c.toNat ≠ 47 ↔ c ≠ 47 := ⟨fun h e => h (by rw [e]; rfl), fun h e => h (UInt8.toNat_inj.1 e)⟩

theorem cut_sl (s : ByteArray) (w : World) (hs : s.size ≤ 4294967296) : Calls Tryz.prog 37 #[.string s, .string ⟨#[47]⟩] w (CutSl s w) := by
  obtain ⟨T, hT⟩ := ix_ex s 47
  have hl : s.data.toList.length = s.size := Array.length_toList
  by_cases hlt : T < s.size
  · refine (zzcut_some s 47 T w hs hT hlt).mono fun e w' ⟨a, b, he, ha, hb, hbl⟩ => ⟨a, b, true, he, fun c hc => ?_, fun _ => ?_, (fun h => by cases h), hbl⟩
    · rw [ha] at hc
      obtain ⟨i, hi, rfl⟩ := List.mem_iff_getElem.1 hc
      rw [List.getElem_take]
      rw [List.length_take] at hi
      exact hT.ahead i (by omega) (by omega)
    · have h1 : s.data.toList = a.data.toList ++ 47 :: b.data.toList := by
        have e1 : s.data.toList[T]'(by omega) = 47 := hT.at_ hlt
        rw [ha, hb, ← e1, ← List.drop_eq_getElem_cons, List.take_append_drop]
      refine ⟨h1, ?_⟩
      have h2 := congrArg List.length h1
      rw [hl, List.length_append, List.length_cons, Array.length_toList, Array.length_toList] at h2
      have h3 : a.data.size = a.size := rfl
      have h4 : b.data.size = b.size := rfl
      omega
  · have hTs : T = s.size := by have := hT.le; omega
    have hno : NoS s.data.toList := by
      intro x hx
      obtain ⟨i, hi, rfl⟩ := List.mem_iff_getElem.1 hx
      exact hT.ahead i (by omega) (by omega)
    exact (zzcut_none s 47 w hs fun x hx => ne47.2 (hno x hx)).mono fun e w' ⟨he, hw⟩ => ⟨s, ⟨#[]⟩, false, he, hno, (fun h => by cases h), (fun _ => ⟨rfl, rfl⟩), hw ▸ Below.refl _ _⟩

theorem cut_split_some {s x r : Bytes} (h : s = x ++ 47 :: r) (hn : NoS x) : splitSl s = x :: splitSl r := by
  rw [h]; exact (split_piece x fun c hc => ne47.2 (hn c hc)).1 r
theorem cut_split_none {s : Bytes} (hn : NoS s) : splitSl s = [s] := (split_piece s fun c hc => ne47.2 (hn c hc)).2

theorem lastidx_some (s : ByteArray) (a b : Bytes) (w : World) (hs : s.size ≤ 4294967296) (h : s.data.toList = a ++ 47 :: b) (hb : NoS b) :
    Calls Tryz.prog 46 #[.string s, .string ⟨#[47]⟩] w (Same (.int .i64 a.length) w) := by
  refine (Tryz.strings_LastIndex_one s ⟨#[47]⟩ rfl (by omega) w).mono fun e w' ⟨he, hw⟩ => ⟨?_, hw.symm⟩
  rw [he]
  refine congrArg (fun i => Ending.returned (.int .i64 i)) ?_
  show Lib.lastIndexByte s 47 = _
  have hl : s.data.toList.length = s.size := Array.length_toList
  have hlen := congrArg List.length h
  rw [List.length_append, List.length_cons] at hlen
  have hg : ∀ j, (hj : j < s.size) → s.data[j]! = s.data.toList[j]'(by omega) := fun j hj => by
    have hj2 : j < s.data.size := hj
    rw [getElem!_pos s.data j hj2]; rfl
  have hat : s.data.toList[a.length]? = some 47 := by rw [h, List.getElem?_append_right (Nat.le_refl _), Nat.sub_self]; rfl
  unfold Lib.lastIndexByte
  rcases Lib.lastIdx_spec s 47 s.size with ⟨_, hn⟩ | ⟨i, hi, e, hc, hn⟩
  · exfalso
    have ha : a.length < s.size := by omega
    have h1 := hn a.length ha
    rw [hg _ ha] at h1
    rw [List.getElem?_eq_getElem (by omega)] at hat
    exact h1 (by rw [Option.some.inj hat]; rfl)
  · rw [e]
    have ha : a.length < s.size := by omega
    rcases Nat.lt_trichotomy i a.length with hlt | heq | hgt
    · exfalso
      have h1 := hn a.length hlt ha
      rw [hg _ ha] at h1
      rw [List.getElem?_eq_getElem (by omega)] at hat
      exact h1 (by rw [Option.some.inj hat]; rfl)
    · rw [heq]
    · exfalso
      rw [hg _ hi] at hc
      obtain ⟨c, hcc⟩ : ∃ c, c = s.data.toList[i]'(by omega) := ⟨_, rfl⟩
      have h1 : s.data.toList[i]? = some c := by rw [hcc]; exact List.getElem?_eq_getElem (by omega)
      rw [← hcc] at hc
      rw [h, List.getElem?_append_right (by omega)] at h1
      obtain ⟨k, hk⟩ : ∃ k, i - a.length = k + 1 := ⟨i - a.length - 1, by omega⟩
      rw [hk, List.getElem?_cons_succ] at h1
      have h2 := hb _ (List.mem_of_getElem? h1)
      exact ne47.2 h2 (by omega)

/-- The value v is a slice of bytes of the call's own that holds d. -/
def DstOk (B : Nat) (w0 w : World) (v : Value) (d : Bytes) : Prop :=
  w.ownsRow B 5 1 v d.length (Lib.byteCells d) ∧ Below B w0 w ∧ B ≤ w.heap.size

section
variable {B : Nat} {w0 w w' : World} {v v' : Value} {d : Bytes} {g cap : Nat}

theorem DstOk.form (h : DstOk B w0 w v d) (hd : d ≠ []) : ∃ g cap, v = .slice (some ⟨g, 0, none⟩) d.length cap ∧ d.length ≤ cap := by
  obtain ⟨g, cap, hv, _, hc⟩ := owned_at h.1 (fun e => hd (List.eq_nil_of_length_eq_zero e))
  exact ⟨g, cap, hv, hc⟩

theorem DstOk.bytes (h : DstOk B w0 w (.slice (some ⟨g, 0, none⟩) d.length cap) d) : BytesAt w g 0 d := by
  intro j c hc
  have h1 := h.1.cells (g := g) rfl j (.int .u8 c.toNat) (by rw [Lib.byteCells, List.getElem?_map, hc]; rfl)
  have e : ((⟨g, 0, none⟩ : Addr).add j) = ⟨g, 0 + j, none⟩ := by unfold Addr.add; split <;> simp_all
  rw [e] at h1
  exact h1

theorem DstOk.take (h : DstOk B w0 w (.slice (some ⟨g, 0, none⟩) d.length cap) d) (k : Nat) (hk : k ≤ d.length) : DstOk B w0 w (.slice (some ⟨g, 0, none⟩) k cap) (d.take k) := by
  obtain ⟨⟨_, h2⟩, hb, hB⟩ := h
  have hl : (d.take k).length = k := by rw [List.length_take]; omega
  refine ⟨⟨by rw [Lib.byteCells_length, hl, Nat.mul_one], ?_⟩, hb, hB⟩
  rcases h2 with ⟨h0, _⟩ | ⟨g', cap', cur, hv, hg, hh, hn, hcap, hsz, htake⟩
  · cases h0
  · cases hv
    refine .inr ⟨g, cap, cur, by rw [hl], hg, hh, by omega, hcap, hsz, ?_⟩
    have h3 : (cur.toList.take (d.length * 1)).take (k * 1) = (Lib.byteCells d).take k := by rw [htake, Nat.mul_one]
    rw [List.take_take, Nat.min_eq_left (Nat.mul_le_mul_right _ hk)] at h3
    rw [hl, h3, Lib.byteCells, Lib.byteCells, List.map_take]

theorem DstOk.keep (h : DstOk B w0 w v d) (hb : Below w.heap.size w w') : DstOk B w0 w' v d :=
  ⟨h.1.kept (grown_below (r := none) hb) (by cases hv : v.ownBlock <;> simp), h.2.1.trans (hb.mono h.2.2), Nat.le_trans h.2.2 hb.size⟩

theorem DstOk.grown {d' : Bytes} {n : Nat} {o : Obj} (h : DstOk B w0 w v d) (hown : w'.ownsRow B 5 1 v' n (Lib.byteCells d')) (hn : n = d'.length) (hg : (w.alloc o).grownBy w' v.ownBlock) : DstOk B w0 w' v' d' := by
  subst hn
  have hz : (w.alloc o).heap.size = w.heap.size + 1 := by simp
  have hs := hg.size
  refine ⟨hown, (h.2.1.alloc h.2.2 o).grown hg (by have := h.2.2; omega) (fun k hk => (h.1.lt k hk).1), by have := h.2.2; omega⟩

theorem DstOk.grown2 {d' : Bytes} {n : Nat} (h : DstOk B w0 w v d) (hown : w'.ownsRow B 5 1 v' n (Lib.byteCells d')) (hn : n = d'.length) (hg : w.grownBy w' v.ownBlock) : DstOk B w0 w' v' d' := by
  subst hn
  exact ⟨hown, h.2.1.grown hg h.2.2 (fun k hk => (h.1.lt k hk).1), Nat.le_trans h.2.2 hg.size⟩
end

theorem BytesAt.tail {w : World} {g o : Nat} {c : UInt8} {r : Bytes} (h : BytesAt w g o (c :: r)) : BytesAt w g (o + 1) r := by
  intro j x hx
  have := h (j + 1) x (by rw [List.getElem?_cons_succ]; exact hx)
  rw [← this]
  exact congrArg (fun k => w.cell? ⟨g, k, none⟩) (by omega)

theorem BytesAt.back {w : World} {g o cap : Nat} {l : Bytes} (h : BytesAt w g o l) : (convert 64 9 (.slice (some ⟨g, o, none⟩) l.length cap)).run Tryz.prog w = .ok (.string ⟨l.toArray⟩) w := by
  refine run_convert_bytes_back w 64 9 5 ⟨g, o, none⟩ cap l Tryz.underlying64 Tryz.underlying5 Tryz.underlying9 fun j hj => ?_
  have e : ((⟨g, o, none⟩ : Addr).add j) = ⟨g, o + j, none⟩ := by unfold Addr.add; split <;> simp_all
  rw [e]
  exact h j _ (List.getElem?_eq_getElem hj)

theorem info5 : (Tryz.prog.info? 5).map (fun i => (i.zero, i.size, i.bytes)) = some (some (.int .u8 0), 1, 1) := by kernel_rfl

theorem rp_head {out : List Bytes} {d : Bytes} {f : Bool} (h : RP out d f) : ∃ t, d = 47 :: t := by
  rcases h.2 with ⟨_, hd⟩ | ⟨_, _, hd⟩ | ⟨_, hd, x, o, ho, _⟩
  · exact ⟨_, hd⟩
  · exact ⟨_, hd⟩
  · rw [ho, cat_cons] at hd
    exact ⟨_, hd⟩
theorem rl_head {full rem d : Bytes} {f : Bool} (h : RL full rem d f) : ∃ t, d = 47 :: t := by
  rcases h with ⟨hd, _⟩ | ⟨_, hp, _⟩
  · exact ⟨_, hd⟩
  · exact rp_head hp
theorem rpend_head {full d : Bytes} (h : RPEndOf full d) : ∃ t, d = 47 :: t := by
  obtain ⟨out, ⟨hne, h1 | ⟨h1, _⟩⟩, _⟩ := h
  · exact ⟨_, h1⟩
  · cases out with
    | nil => exact absurd rfl hne
    | cons x o => rw [cat_cons] at h1; exact ⟨_, h1⟩
end Go.Proofs.YthphgelfiggleaaGreatDoor

/-
  The text of an address: String of package neturl. Condition: the world holds the package's table.
-/
import Derived.Test.YthphgelfiggleaaGreatDoorRr
namespace Go.Proofs.YthphgelfiggleaaGreatDoor
open Go.RowKit

theorem user_nil (w : World) : Calls Tryz.prog 28 #[.pointer none] w (Same (.string ⟨#[]⟩) w) := by
  go_enter Tryz.func28, Tryz.ntmps28
  go_wp2
  go_ret
  exact ⟨rfl, rfl⟩

theorem pass_nil (w : World) : Calls Tryz.prog 29 #[.pointer none] w (Same (.tuple #[.string ⟨#[]⟩, .bool false]) w) := by
  go_enter Tryz.func29, Tryz.ntmps29
  go_wp2
  go_ret2
  exact ⟨rfl, rfl⟩

/-- The text so far is l, in the builder in block b; the address is in block bu. -/
structure SB (w : World) (b bu : Nat) (ho pa fr : ByteArray) (l : Bytes) (W : World) : Prop where
  bld : Lib.IsBuilder 66 5 w.heap.size b (Lib.byteCells l) W
  below : Below w.heap.size w W
  tab : Tab W
  url : UrlAt W bu httpB ho pa fr

section
variable {w W W' : World} {b bu : Nat} {ho pa fr : ByteArray} {l l' : Bytes}
theorem SB.on (h : SB w b bu ho pa fr l W) (hlt : bu < w.heap.size) (hp : 0 < w.heap.size) (hb : Below w.heap.size W W') (hn : Lib.BuilderAt 66 5 w.heap.size b (.pointer (some ⟨b, 0, none⟩)) (Lib.byteCells l') W') : SB w b bu ho pa fr l' W' := by
  refine ⟨.inr hn, h.below.trans hb, ⟨Nat.lt_of_lt_of_le h.tab.1 hb.size, fun i hi => ?_⟩, (hb.block bu hlt).trans h.url⟩
  rw [hb.cell (p := ⟨0, i, none⟩) hp]
  exact h.tab.2 i hi
end

/-- A call that answers v and leaves the builder's text l. -/
def WsOut (w : World) (b bu : Nat) (ho pa fr : ByteArray) (l : Bytes) (v : Value) (e : Ending) (W' : World) : Prop := e = .returned v ∧ SB w b bu ho pa fr l W'

section
variable {w W : World} {b bu : Nat} {ho pa fr : ByteArray} {l : Bytes}
theorem SB.ws (h : SB w b bu ho pa fr l W) (hlt : bu < w.heap.size) (hp : 0 < w.heap.size) (s : ByteArray) (hs : l.length + s.size ≤ 1000000) :
    Calls Tryz.prog 31 #[.pointer (some ⟨b, 0, none⟩), .string s] W (WsOut w b bu ho pa fr (l ++ s.data.toList) (.tuple #[.int .i64 s.size, .nilIface])) :=
  (Tryz.Builder_WriteString w.heap.size b _ s W h.bld (by rw [Lib.byteCells_length]; omega) h.below.size).mono fun e W' ⟨he, hn, hb⟩ => ⟨he, h.on hlt hp hb (by rw [Lib.byteCells_append]; exact hn)⟩
theorem SB.wb (h : SB w b bu ho pa fr l W) (hlt : bu < w.heap.size) (hp : 0 < w.heap.size) (c : UInt8) (n : Int) (hn : (c.toNat : Int) = n) (hs : l.length + 1 ≤ 1000000) :
    Calls Tryz.prog 32 #[.pointer (some ⟨b, 0, none⟩), .int .u8 n] W (WsOut w b bu ho pa fr (l ++ [c]) .nilIface) := by
  subst hn
  exact (Tryz.Builder_WriteByte w.heap.size b _ c.toNat W h.bld (by rw [Lib.byteCells_length]; omega) h.below.size).mono fun e W' ⟨he, hn, hb⟩ => ⟨he, h.on hlt hp hb (by rw [Lib.byteCells_append]; exact hn)⟩
theorem SB.keep {W' : World} (h : SB w b bu ho pa fr l W) (hb : Below W.heap.size W W') (hblt : b < W.heap.size) : SB w b bu ho pa fr l W' := by
  refine ⟨?_, h.below.trans (hb.mono h.below.size), h.tab.keep hb, h.url.keep hb⟩
  have key : ∀ p, Lib.BuilderAt 66 5 w.heap.size b p (Lib.byteCells l) W → Lib.BuilderAt 66 5 w.heap.size b p (Lib.byteCells l) W' := fun p ⟨h1, v, h2, h3, h4⟩ =>
    ⟨h1, v, (hb.block b hblt).trans h2, h3.kept (grown_below (r := none) hb) (by cases hv : v.ownBlock <;> simp), h4⟩
  exact h.bld.imp (key _) (key _)
theorem SB.lt (h : SB w b bu ho pa fr l W) : b < W.heap.size := by
  rcases h.bld with ⟨_, v, h2, _⟩ | ⟨_, v, h2, _⟩
  · exact (Array.getElem?_eq_some_iff.1 h2).1
  · exact (Array.getElem?_eq_some_iff.1 h2).1
end

section
variable {w W : World} {b bu : Nat} {ho pa fr : ByteArray} {l : Bytes}
theorem SB.len (h : SB w b bu ho pa fr l W) : Calls Tryz.prog 36 #[.pointer (some ⟨b, 0, none⟩)] W (Same (.int .i64 l.length) W) :=
  (Tryz.Builder_Len w.heap.size b _ W h.bld).mono fun e w' ⟨he, hw⟩ => ⟨by rw [he, Lib.byteCells_length], hw.symm⟩

def TextOut (w : World) (l : Bytes) (W : World) (e : Ending) (W' : World) : Prop := e = .returned (.string ⟨l.toArray⟩) ∧ Below w.heap.size W W'
theorem SB.str (h : SB w b bu ho pa fr l W) : Calls Tryz.prog 40 #[.pointer (some ⟨b, 0, none⟩)] W (TextOut w l W) :=
  Tryz.Builder_String_any w.heap.size b l W h.bld h.below.size
end

theorem tab_low {B : Nat} {W W' : World} (hb : Below B W W') (hp : 0 < B) (h : Tab W) : Tab W' :=
  ⟨Nat.lt_of_lt_of_le h.1 hb.size, fun i hi => (hb.cell (p := ⟨0, i, none⟩) hp).trans (h.2 i hi)⟩

theorem block_new (w : World) (o : Obj) : (w.alloc o).heap[w.heap.size]? = some o := by
  show (w.heap.push o)[w.heap.size]? = some o
  simp

def StrOut (ho pa fr : ByteArray) (w : World) (e : Ending) (w' : World) : Prop :=
  ∃ r : ByteArray, e = .returned (.string r) ∧ r.data.toList = textL ho pa fr ∧ Below w.heap.size w w'

set_option maxRecDepth 100000 in
set_option maxHeartbeats 800000 in
theorem string_any (bu : Nat) (ho pa fr : ByteArray) (w : World) (hT : Tab w) (U : UrlAt w bu httpB ho pa fr) (hg : SegB ho) (hn : ho.size ≠ 0) (hz : ho.size ≤ 1000) (hp : PathAll pa) (hpz : pa.size ≤ 1000) (hf : PathAll fr) (hfz : fr.size ≤ 1000)
    (hq : pa.data.toList = [] ∨ ∃ q, pa.data.toList = 47 :: q) :
    Calls Tryz.prog 20 #[.pointer (some ⟨bu, 0, none⟩)] w (StrOut ho pa fr w) := by
  have ehttp : httpB.toList.isEmpty = false := not_empty httpB (by decide)
  have hzh : httpB.size = 4 := rfl
  have eho := not_empty ho (by omega)
  have e0 : (⟨#[]⟩ : ByteArray).toList.isEmpty = true := empty_of _ rfl
  have HU := hid (U.keep ((Below.refl _ _).alloc (Nat.le_refl _) (.cells #[.pointer none, .slice none 0 0] 66)))
  have HT := hid (hT.alloc (.cells #[.pointer none, .slice none 0 0] 66))
  have HB := hid ((Below.refl w.heap.size w).alloc (Nat.le_refl _) (.cells #[.pointer none, .slice none 0 0] 66))
  have HN := hid (block_new w (.cells #[.pointer none, .slice none 0 0] 66))
  have hlt := U.lt
  have hpos := hT.1
  clear U hT
  go_enter Tryz.func20, Tryz.ntmps20
  go_upto_region 2 with (fail)
  generalize w.alloc (.cells _ 66) = W at *
  obtain ⟨h0, h1, h2, h3, h4, h5, h6, h7, h8, h9, h10⟩ := HU.out.c
  go_wp2_with fail
  refine (user_nil _).mono ?_
  rintro e w' ⟨rfl, rfl⟩
  go_wp2_with fail
  refine (pass_nil _).mono ?_
  rintro e w' ⟨rfl, rfl⟩
  go_wp2_with fail
  go_quiet (fail)
  have HU2 := hid (HU.out.keep (below_drewN (Below.refl _ _) nq))
  have HT2 := hid (HT.out.keep (below_drewN (Below.refl _ _) nq))
  have HB2 := hid (below_drewN HB.out nq)
  have HN2 := hid (show (W.drewN nq).heap[w.heap.size]? = _ from HN.out)
  clear HU HT HB HN h0 h1 h2 h3 h4 h5 h6 h7 h8 h9 h10
  generalize W.drewN nq = W2 at *
  have c30 := Tryz.Builder_Grow_fresh w.heap.size w.heap.size (4 + ho.size + pa.size + 12) W2 (Nat.le_refl _) HN2.out HB2.out.size (by omega)
  rw [show ((4 + ho.size + pa.size + 12 : Nat) : Int) = 4 + (ho.size : Int) + (pa.size : Int) + 12 by omega] at c30
  have C30 := hid c30
  clear c30
  go_wp2_with fail
  refine C30.out.mono ?_
  rintro e w3 ⟨rfl, hbld, hb3⟩
  have S0 := hid (show SB w w.heap.size bu ho pa fr [] w3 from ⟨.inr hbld, HB2.out.trans hb3, tab_low hb3 hpos HT2.out, (hb3.block bu hlt).trans HU2.out⟩)
  clear hbld hb3 C30 HU2 HT2 HB2 HN2
  obtain ⟨h0, h1, h2, h3, h4, h5, h6, h7, h8, h9, h10⟩ := S0.out.url.c
  go_wp2_with fail
  refine (S0.out.ws hlt hpos httpB (by rw [hzh]; decide)).mono ?_
  rintro e w' ⟨rfl, hS⟩
  have S1 := hid hS
  clear hS S0
  clear h0 h1 h2 h3 h4 h5 h6 h7 h8 h9 h10
  obtain ⟨h0, h1, h2, h3, h4, h5, h6, h7, h8, h9, h10⟩ := S1.out.url.c
  go_wp2_with fail
  refine (S1.out.wb hlt hpos 58 58 rfl (by decide)).mono ?_
  rintro e w' ⟨rfl, hS⟩
  have S2 := hid hS
  clear hS S1
  clear h0 h1 h2 h3 h4 h5 h6 h7 h8 h9 h10
  obtain ⟨h0, h1, h2, h3, h4, h5, h6, h7, h8, h9, h10⟩ := S2.out.url.c
  go_wp2_with fail
  refine (S2.out.ws hlt hpos ⟨#[47, 47]⟩ (by decide)).mono ?_
  rintro e w' ⟨rfl, hS⟩
  have S3 := hid hS
  clear hS S2
  clear h0 h1 h2 h3 h4 h5 h6 h7 h8 h9 h10
  obtain ⟨h0, h1, h2, h3, h4, h5, h6, h7, h8, h9, h10⟩ := S3.out.url.c
  go_wp2_with fail
  refine (esc_any ho 4 w' (by omega) S3.out.tab (fun c hc => seg_bits c.toNat_lt (hg c hc))).mono ?_
  rintro e w4 ⟨rfl, hb4⟩
  have S4 := hid (S3.out.keep hb4 S3.out.lt)
  clear hb4 S3
  clear h0 h1 h2 h3 h4 h5 h6 h7 h8 h9 h10
  obtain ⟨h0, h1, h2, h3, h4, h5, h6, h7, h8, h9, h10⟩ := S4.out.url.c
  go_wp2_with fail
  refine (S4.out.ws hlt hpos ho (by simp only [List.length_append, List.length_cons, List.length_nil, szl]; omega)).mono ?_
  rintro e w' ⟨rfl, hS⟩
  have S5 := hid hS
  clear hS S4
  clear h0 h1 h2 h3 h4 h5 h6 h7 h8 h9 h10
  obtain ⟨h0, h1, h2, h3, h4, h5, h6, h7, h8, h9, h10⟩ := S5.out.url.c
  go_wp2_with fail
  refine (escpath_any bu _ _ pa _ w' (by omega) S5.out.tab S5.out.url hp).mono ?_
  rintro e w5 ⟨rfl, hb5⟩
  have S5 := hid (S5.out.keep hb5 S5.out.lt)
  clear hb5
  clear h0 h1 h2 h3 h4 h5 h6 h7 h8 h9 h10
  obtain ⟨h0, h1, h2, h3, h4, h5, h6, h7, h8, h9, h10⟩ := S5.out.url.c
  rcases hq with hq | ⟨q, hq⟩
  · have epa := empty_of pa (sz0 hq)
    clear hq
    go_wp2_with fail
    obtain ⟨L, hL⟩ : ∃ L, L = [] ++ httpB.data.toList ++ [58] ++ [47, 47] ++ ho.data.toList := ⟨_, rfl⟩
    have hLn : L.length = 7 + ho.size := by rw [hL]; simp only [List.length_append, List.length_cons, List.length_nil, szl]; omega
    rw [← hL] at S5
    have hL0 : (((L.length : Nat) : Int) == 0) = false := by rw [beq_eq_false_iff_ne]; omega
    have HL := hid hL
    clear hL
    refine (S5.out.len).mono ?_
    rintro e w' ⟨rfl, rfl⟩
    go_wp2_with fail
    refine (S5.out.ws hlt hpos pa (by omega)).mono ?_
    rintro e w' ⟨rfl, hS⟩
    have S6 := hid hS
    clear hS S5
    clear h0 h1 h2 h3 h4 h5 h6 h7 h8 h9 h10
    obtain ⟨h0, h1, h2, h3, h4, h5, h6, h7, h8, h9, h10⟩ := S6.out.url.c
    by_cases hf0 : fr.size = 0
    · have ef := empty_of fr hf0
      go_wp2_with fail
      refine (S6.out.str).mono ?_
      rintro e w8 ⟨rfl, hb8⟩
      have HB8 := hid (S6.out.below.trans hb8)
      clear hb8 S6
      go_wp2
      go_ret
      refine ⟨_, rfl, ?_, HB8.out⟩
      rw [textL, baseL, if_neg hn, if_pos hf0, List.append_nil, HL.out]
      simp [http, httpB]
    · have ef := not_empty fr (by omega)
      go_wp2_with fail
      refine (S6.out.wb hlt hpos 35 35 rfl (by rw [List.length_append, szl]; omega)).mono ?_
      rintro e w' ⟨rfl, hS⟩
      have S7 := hid hS
      clear hS S6
      clear h0 h1 h2 h3 h4 h5 h6 h7 h8 h9 h10
      obtain ⟨h0, h1, h2, h3, h4, h5, h6, h7, h8, h9, h10⟩ := S7.out.url.c
      go_wp2_with fail
      refine (escfrag_any bu _ _ _ fr w' (by omega) S7.out.tab S7.out.url hf).mono ?_
      rintro e w9 ⟨rfl, hb9⟩
      have S8 := hid (S7.out.keep hb9 S7.out.lt)
      clear hb9 S7
      go_wp2_with fail
      clear h0 h1 h2 h3 h4 h5 h6 h7 h8 h9 h10
      obtain ⟨h0, h1, h2, h3, h4, h5, h6, h7, h8, h9, h10⟩ := S8.out.url.c
      refine (S8.out.ws hlt hpos fr (by rw [List.length_append, List.length_append, szl]; simp only [List.length_cons, List.length_nil]; omega)).mono ?_
      rintro e w' ⟨rfl, hS⟩
      have S9 := hid hS
      clear hS S8
      clear h0 h1 h2 h3 h4 h5 h6 h7 h8 h9 h10
      obtain ⟨h0, h1, h2, h3, h4, h5, h6, h7, h8, h9, h10⟩ := S9.out.url.c
      go_wp2_with fail
      refine (S9.out.str).mono ?_
      rintro e w8 ⟨rfl, hb8⟩
      have HB8 := hid (S9.out.below.trans hb8)
      clear hb8 S9
      go_wp2
      go_ret
      refine ⟨_, rfl, ?_, HB8.out⟩
      rw [textL, baseL, if_neg hn, if_neg hf0, HL.out]
      simp [http, httpB]
  · have hp0 : 0 < pa.size := by have := szl pa; rw [hq] at this; simp at this; omega
    have epa := not_empty pa hp0
    have h47 : pa[0].toNat = 47 := by
      have h2 : pa.data.toList[0]? = some pa[0] := List.getElem?_eq_getElem (by rw [szl]; exact hp0)
      rw [hq] at h2
      rw [← Option.some.inj h2]; rfl
    have b1 : (((pa[0].toNat : Nat) : Int) == 47) = true := by rw [beq_iff_eq]; omega
    clear hq h47
    go_wp2_with fail
    obtain ⟨L, hL⟩ : ∃ L, L = [] ++ httpB.data.toList ++ [58] ++ [47, 47] ++ ho.data.toList := ⟨_, rfl⟩
    have hLn : L.length = 7 + ho.size := by rw [hL]; simp only [List.length_append, List.length_cons, List.length_nil, szl]; omega
    rw [← hL] at S5
    have hL0 : (((L.length : Nat) : Int) == 0) = false := by rw [beq_eq_false_iff_ne]; omega
    have HL := hid hL
    clear hL
    refine (S5.out.len).mono ?_
    rintro e w' ⟨rfl, rfl⟩
    go_wp2_with fail
    refine (S5.out.ws hlt hpos pa (by omega)).mono ?_
    rintro e w' ⟨rfl, hS⟩
    have S6 := hid hS
    clear hS S5
    clear h0 h1 h2 h3 h4 h5 h6 h7 h8 h9 h10
    obtain ⟨h0, h1, h2, h3, h4, h5, h6, h7, h8, h9, h10⟩ := S6.out.url.c
    by_cases hf0 : fr.size = 0
    · have ef := empty_of fr hf0
      go_wp2_with fail
      refine (S6.out.str).mono ?_
      rintro e w8 ⟨rfl, hb8⟩
      have HB8 := hid (S6.out.below.trans hb8)
      clear hb8 S6
      go_wp2
      go_ret
      refine ⟨_, rfl, ?_, HB8.out⟩
      rw [textL, baseL, if_neg hn, if_pos hf0, List.append_nil, HL.out]
      simp [http, httpB]
    · have ef := not_empty fr (by omega)
      go_wp2_with fail
      refine (S6.out.wb hlt hpos 35 35 rfl (by rw [List.length_append, szl]; omega)).mono ?_
      rintro e w' ⟨rfl, hS⟩
      have S7 := hid hS
      clear hS S6
      clear h0 h1 h2 h3 h4 h5 h6 h7 h8 h9 h10
      obtain ⟨h0, h1, h2, h3, h4, h5, h6, h7, h8, h9, h10⟩ := S7.out.url.c
      go_wp2_with fail
      refine (escfrag_any bu _ _ _ fr w' (by omega) S7.out.tab S7.out.url hf).mono ?_
      rintro e w9 ⟨rfl, hb9⟩
      have S8 := hid (S7.out.keep hb9 S7.out.lt)
      clear hb9 S7
      go_wp2_with fail
      clear h0 h1 h2 h3 h4 h5 h6 h7 h8 h9 h10
      obtain ⟨h0, h1, h2, h3, h4, h5, h6, h7, h8, h9, h10⟩ := S8.out.url.c
      refine (S8.out.ws hlt hpos fr (by rw [List.length_append, List.length_append, szl]; simp only [List.length_cons, List.length_nil]; omega)).mono ?_
      rintro e w' ⟨rfl, hS⟩
      have S9 := hid hS
      clear hS S8
      clear h0 h1 h2 h3 h4 h5 h6 h7 h8 h9 h10
      obtain ⟨h0, h1, h2, h3, h4, h5, h6, h7, h8, h9, h10⟩ := S9.out.url.c
      go_wp2_with fail
      refine (S9.out.str).mono ?_
      rintro e w8 ⟨rfl, hb8⟩
      have HB8 := hid (S9.out.below.trans hb8)
      clear hb8 S9
      go_wp2
      go_ret
      refine ⟨_, rfl, ?_, HB8.out⟩
      rw [textL, baseL, if_neg hn, if_neg hf0, HL.out]
      simp [http, httpB]
end Go.Proofs.YthphgelfiggleaaGreatDoor

/-
  parseHost, parseAuthority, setPath, setFragment, EscapedPath and EscapedFragment of package neturl, at the plain addresses of which the law speaks. Condition: the world holds the package's table.
-/
import Derived.Test.YthphgelfiggleaaGreatDoorScheme
namespace Go.Proofs.YthphgelfiggleaaGreatDoor
open Go.RowKit

theorem last_of_no {s : ByteArray} {c : UInt8} (h : ∀ x ∈ s.data.toList, x.toNat ≠ c.toNat) : Lib.lastIndexByte s (c.toNat : Int) = -1 := by
  unfold Lib.lastIndexByte
  rcases Lib.lastIdx_spec s (c.toNat : Int) s.size with ⟨e, _⟩ | ⟨i, hi, _, hc, _⟩
  · exact e
  · exfalso
    have hi' : i < s.data.size := hi
    have e : s.data[i]! = s.data[i] := by rw [getElem!_pos s.data i hi']
    rw [e] at hc
    exact h _ (byte_mem s i hi) (by have : (s[i].toNat : Int) = (c.toNat : Int) := hc; omega)

theorem lastidx_none (s : ByteArray) (c : UInt8) (w : World) (hs : s.size ≤ 4294967296) (hn : ∀ x ∈ s.data.toList, x.toNat ≠ c.toNat) :
    Calls Tryz.prog 46 #[.string s, .string ⟨#[c]⟩] w (Same (.int .i64 (-1)) w) :=
  (Tryz.strings_LastIndex_one s ⟨#[c]⟩ rfl (by omega) w).mono fun e w' ⟨he, hw⟩ => ⟨by rw [he]; exact congrArg (fun i => Ending.returned (.int .i64 i)) (last_of_no hn), hw.symm⟩

theorem seg_nums {s : ByteArray} (h : SegB s) (c : UInt8) (hc : c.toNat = 37 ∨ c.toNat = 43 ∨ c.toNat = 58 ∨ c.toNat = 35 ∨ c.toNat = 63 ∨ c.toNat = 64 ∨ c.toNat = 91 ∨ c.toNat = 47) : ∀ x ∈ s.data.toList, x.toNat ≠ c.toNat := by
  intro x hx
  have := h x hx
  unfold SegN at this
  omega

set_option maxRecDepth 100000 in
set_option maxHeartbeats 800000 in
theorem host_any (sch s : ByteArray) (w : World) (hs : s.size ≤ 4294967296) (hT : Tab w) (hp : SegB s) :
    Calls Tryz.prog 71 #[.string sch, .string s] w (Same (.tuple #[.string s, .nilIface]) w) := by
  have c1 := hid (lastidx_none s 91 w hs (seg_nums hp 91 (by decide)))
  have c2 := hid (nx_none s 58 w (by omega) (ix_of_no (seg_nums hp 58 (by decide))))
  have c3 := hid (unesc_host s w hs hT hp)
  clear hp hT
  go_enter Tryz.func71, Tryz.ntmps71
  go_wp2_with fail
  refine c1.out.mono ?_
  rintro e w' ⟨rfl, rfl⟩
  go_wp2_with fail
  refine c2.out.mono ?_
  rintro e w' ⟨rfl, rfl⟩
  go_wp2_with fail
  refine c3.out.mono ?_
  rintro e w' ⟨rfl, rfl⟩
  go_wp2
  go_ret2
  exact ⟨rfl, rfl⟩

set_option maxRecDepth 100000 in
set_option maxHeartbeats 800000 in
theorem auth_any (sch s : ByteArray) (w : World) (hs : s.size ≤ 4294967296) (hT : Tab w) (hp : SegB s) :
    Calls Tryz.prog 59 #[.string sch, .string s] w (Same (.tuple #[.pointer none, .string s, .nilIface]) w) := by
  have c1 := hid (lastidx_none s 64 w hs (seg_nums hp 64 (by decide)))
  have c2 := hid (host_any sch s w hs hT hp)
  clear hp hT
  go_enter Tryz.func59, Tryz.ntmps59
  go_wp2_with fail
  refine c1.out.mono ?_
  rintro e w' ⟨rfl, rfl⟩
  go_wp2_with fail
  refine c2.out.mono ?_
  rintro e w' ⟨rfl, rfl⟩
  go_wp2
  go_ret3
  exact ⟨rfl, rfl⟩

/-- The eleven fields of a plain address: scheme, host, path, fragment; all else is empty. -/
def urlCells (sch ho pa fr : ByteArray) : Array Value :=
  #[.string sch, .string ⟨#[]⟩, .pointer none, .string ho, .string pa, .string fr, .string ⟨#[]⟩, .string ⟨#[]⟩, .string ⟨#[]⟩, .bool false, .bool false]

/-- Block b holds this address. -/
def UrlAt (w : World) (b : Nat) (sch ho pa fr : ByteArray) : Prop := w.heap[b]? = some (.cells (urlCells sch ho pa fr) 53 (0, 0))

section
variable {w w' : World} {b : Nat} {sch ho pa fr : ByteArray}
theorem UrlAt.cell (h : UrlAt w b sch ho pa fr) (i : Nat) (v : Value) (hv : (urlCells sch ho pa fr)[i]? = some v) : w.cell? ⟨b, i, none⟩ = some v := by
  rw [cell_of_row w b i _ 53 (0, 0) h]; exact hv
theorem UrlAt.free (h : UrlAt w b sch ho pa fr) (i : Nat) : w.frozen? ⟨b, i, none⟩ = false := by
  simp [World.frozen?, show w.heap[b]? = _ from h]
theorem UrlAt.lt (h : UrlAt w b sch ho pa fr) : b < w.heap.size := (Array.getElem?_eq_some_iff.1 h).1
theorem UrlAt.keep (h : UrlAt w b sch ho pa fr) (hb : Below w.heap.size w w') : UrlAt w' b sch ho pa fr := (hb.block b h.lt).trans h
theorem UrlAt.store (h : UrlAt w b sch ho pa fr) (i : Nat) (v : Value) (sch' ho' pa' fr' : ByteArray) (hv : (urlCells sch ho pa fr).setIfInBounds i v = urlCells sch' ho' pa' fr') : UrlAt (w.setCell ⟨b, i, none⟩ v) b sch' ho' pa' fr' := by
  have := heap_setCell_same w b i _ 53 v h
  rw [hv] at this
  exact this
end

theorem Tab.store {w : World} (h : Tab w) {b : Nat} (hb : 0 < b) (i : Nat) (v : Value) : Tab (w.setCell ⟨b, i, none⟩ v) :=
  ⟨by have := h.1; simpa [World.setCell] using this, fun j hj => by
    rw [World.cell?_setCell_other _ _ _ _ (by intro e; injection e with e1; omega)]
    exact h.2 j hj⟩

theorem grown_store (w : World) (b i : Nat) (v : Value) : w.grownBy (w.setCell ⟨b, i, none⟩ v) (some b) :=
  ⟨rfl, rfl, rfl, by simp [World.setCell], fun k _ hne => heap_setCell_other w _ k v (fun e => hne (by rw [e]))⟩
theorem grown_trans {a b c : World} {r : Option Nat} (h : a.grownBy b r) (k : b.grownBy c r) : a.grownBy c r :=
  ⟨k.os.trans h.os, k.tape.trans h.tape, k.output.trans h.output, Nat.le_trans h.size k.size, fun i hi hn => (k.block i (Nat.lt_of_lt_of_le hi h.size) hn).trans (h.block i hi hn)⟩
theorem grown_below {a b : World} {r : Option Nat} (h : Below a.heap.size a b) : a.grownBy b r := ⟨h.os, h.tape, h.output, h.size, fun i hi _ => h.block i hi⟩

/-- The address in block b has turned to these fields; nothing else has turned. -/
def SetOut (b : Nat) (sch ho pa fr : ByteArray) (w : World) (e : Ending) (w' : World) : Prop := e = .returned .nilIface ∧ UrlAt w' b sch ho pa fr ∧ w.grownBy w' (some b)

theorem path_esc {s : ByteArray} (hp : PathAll s) : (∀ c ∈ s.data.toList, (bits .and .u8 (tabZ.getD c.toNat 0) 1 == 0) = false) ∧ (∀ c ∈ s.data.toList, (bits .and .u8 (tabZ.getD c.toNat 0) 64 == 0) = false) :=
  ⟨fun c hc => (path_bits c.toNat_lt (hp c hc)).1, fun c hc => (path_bits c.toNat_lt (hp c hc)).2⟩

set_option maxRecDepth 100000 in
set_option maxHeartbeats 800000 in
theorem setpath_any (b : Nat) (sch ho pa fr p : ByteArray) (w : World) (hs : p.size ≤ 1000000) (hb : 0 < b) (hT : Tab w) (hU : UrlAt w b sch ho pa fr) (hp : PathAll p) :
    Calls Tryz.prog 25 #[.pointer (some ⟨b, 0, none⟩), .string p] w (SetOut b sch ho p fr w) := by
  have hc4 := hU.cell 4 _ rfl
  have hf4 := hU.free 4
  have hf7 := hU.free 7
  have hc7 := hU.cell 7 _ rfl
  have c1 := hid (unesc_path p 1 w (by omega) (.inl rfl) hp)
  have HU := hid (hU.store 4 (.string p) sch ho p fr rfl)
  have c2 := hid (esc_any p 1 (w.setCell ⟨b, 4, none⟩ (.string p)) hs (hT.store hb _ _) (path_esc hp).1)
  have hq : (p.toList == p.toList) = true := by simp
  clear hU hT hp
  go_enter Tryz.func25, Tryz.ntmps25
  go_wp2_with fail
  refine c1.out.mono ?_
  rintro e w' ⟨rfl, rfl⟩
  go_wp2_with fail
  refine c2.out.mono ?_
  rintro e w2 ⟨rfl, hb2⟩
  have HU2 := hid (HU.out.keep hb2)
  have d7 := HU2.out.cell 7 _ rfl
  have g7 := HU2.out.free 7
  have HG := hid (grown_trans (grown_store w b 4 (.string p)) (grown_below (r := some b) hb2))
  clear hb2 hc4 hf4 hf7 hc7
  go_wp2
  go_ret
  exact ⟨rfl, HU2.out.store 7 _ sch ho p fr rfl, grown_trans HG.out (grown_store _ _ _ _)⟩
end Go.Proofs.YthphgelfiggleaaGreatDoor

/-
  merged of package spec: it returns what mergedL makes of the pieces of the path (a path of at most 20000 bytes).
-/
import Derived.Test.YthphgelfiggleaaGreatDoorFrag
import Derived.Test.YthphgelfiggleaaGreatDoorPlain
import Derived.Deep.AppendLies
import Derived.WalkSmall
namespace Go.Proofs.YthphgelfiggleaaGreatDoor
open Go.RowKit

def bl (xs : List ByteArray) : List Bytes := xs.map (·.data.toList)

structure PoppedAt (B gl : Nat) (w : World) (xs : List ByteArray) (k n : Nat) (ys : List ByteArray) (g2 cap2 : Nat) (wr : World) : Prop where
  len : ys.length = n
  few : n ≤ k
  room : n ≤ cap2
  own : wr.ownsRow B 9 1 (.slice (some ⟨g2, 0, none⟩) n cap2) n (strV ys)
  far : g2 ≠ gl
  below : Below B w wr
  cells : ∀ j x, xs[j]? = some x → wr.cell? ⟨gl, j, none⟩ = some (.string x)
  glt : gl < wr.heap.size
  small : ∀ y ∈ ys, y.size ≤ 20000

structure MergeAt (B gl : Nat) (w : World) (xs : List ByteArray) (k n : Nat) (ys : List ByteArray) (g2 cap2 : Nat) (wr : World) : Prop extends PoppedAt B gl w xs k n ys g2 cap2 wr where
  run : runL (bl ys) ((bl xs.tail).drop k) = runL [] (bl xs.tail)

/-- The run, one step on. -/
theorem run_step {xs : List ByteArray} {k : Nat} {out : List Bytes} {x : ByteArray} (h : runL out ((bl xs.tail).drop k) = runL [] (bl xs.tail)) (hx : xs[k + 1]? = some x) :
    runL (stepL (decide (k + 2 = xs.length)) out x.data.toList) ((bl xs.tail).drop (k + 1)) = runL [] (bl xs.tail) := by
  have hk : k + 1 < xs.length := (List.getElem?_eq_some_iff.1 hx).1
  have hl : k < (bl xs.tail).length := by simp [bl]; omega
  have he : (bl xs.tail)[k] = x.data.toList := by
    have h1 : (bl xs.tail)[k]? = some x.data.toList := by
      simp only [bl, List.getElem?_map, List.getElem?_tail, hx, Option.map_some]
    rw [List.getElem?_eq_getElem hl] at h1
    exact Option.some.inj h1
  rw [List.drop_eq_getElem_cons hl, he, runL] at h
  have hd : ((bl xs.tail).drop (k + 1)).isEmpty = decide (k + 2 = xs.length) := by
    have hn : ((bl xs.tail).drop (k + 1)).length = xs.length - (k + 2) := by
      simp only [bl, List.length_drop, List.length_map, List.length_tail]
      omega
    by_cases e : k + 2 = xs.length
    · rw [decide_eq_true e, List.isEmpty_iff]
      exact List.eq_nil_of_length_eq_zero (by omega)
    · rw [decide_eq_false e, List.isEmpty_eq_false_iff]
      intro h0
      rw [h0] at hn
      simp at hn
      omega
  rw [hd] at h
  exact h

theorem merge_stay {B gl : Nat} {w wr : World} {xs ys : List ByteArray} {k n g2 cap2 : Nat} {x : ByteArray} (h : MergeAt B gl w xs k n ys g2 cap2 wr) (hx : xs[k + 1]? = some x)
    (hs : stepL (decide (k + 2 = xs.length)) (bl ys) x.data.toList = bl ys) : MergeAt B gl w xs (k + 1) n ys g2 cap2 wr :=
  ⟨⟨h.len, Nat.le_succ_of_le h.few, h.room, h.own, h.far, h.below, h.cells, h.glt, h.small⟩, by have := run_step h.run hx; rwa [hs] at this⟩

theorem merge_pop {B gl : Nat} {w wr : World} {xs ys : List ByteArray} {k m g2 cap2 : Nat} {x : ByteArray} (h : MergeAt B gl w xs k (m + 1) ys g2 cap2 wr) (hx : xs[k + 1]? = some x)
    (hs : stepL (decide (k + 2 = xs.length)) (bl ys) x.data.toList = (bl ys).dropLast) : MergeAt B gl w xs (k + 1) m ys.dropLast g2 cap2 wr := by
  refine ⟨⟨by rw [List.length_dropLast, h.len]; rfl, by have := h.few; omega, by have := h.room; omega, ?_, h.far, h.below, h.cells, h.glt, fun y hy => h.small y (List.dropLast_subset _ hy)⟩, ?_⟩
  · have hne : ys ≠ [] := by intro e; have := h.len; rw [e] at this; cases this
    have h1 := h.own
    rw [← List.dropLast_concat_getLast hne] at h1
    refine ownsRow_pop (last := [.string (ys.getLast hne)]) (by simp [strV, h.len]) ?_
    rw [strV_snoc]
    exact h1
  · have := run_step h.run hx
    rw [hs] at this
    rw [show bl ys.dropLast = (bl ys).dropLast from by simp [bl]]
    exact this

/-- What an append leaves. -/
theorem merge_append {B gl : Nat} {w wr w1 : World} {xs ys : List ByteArray} {k k' n g2 cap2 g3 cap3 : Nat} {y : ByteArray} {o : Obj} (h : PoppedAt B gl w xs k n ys g2 cap2 wr) (hB : B ≤ wr.heap.size) (hk : n + 1 ≤ k')
    (hown : w1.ownsRow B 9 1 (.slice (some ⟨g3, 0, none⟩) (n + 1) cap3) (n + 1) (strV ys ++ [.string y])) (hg : (wr.alloc o).grownBy w1 (some g2)) (hat : some g2 = some g3 ∨ g3 = wr.heap.size + 1)
    (hy : y.size ≤ 20000) (hrun : runL (bl (ys ++ [y])) ((bl xs.tail).drop k') = runL [] (bl xs.tail)) : MergeAt B gl w xs k' (n + 1) (ys ++ [y]) g3 cap3 w1 := by
  have hlt := h.own.lt g2 rfl
  have hglt := h.glt
  refine ⟨⟨by rw [List.length_append, h.len]; rfl, hk, ?_, by rw [← strV_snoc]; exact hown, ?_, (h.below.alloc hB o).grown hg (by simp; omega) (fun j hj => by cases hj; exact hlt.1), ?_, ?_, ?_⟩, hrun⟩
  · obtain ⟨_, _, hv, _, hle⟩ := owned_at hown (by omega)
    cases hv
    exact hle
  · rcases hat with e | e
    · cases e; exact h.far
    · omega
  · intro j x hj
    have hc : (wr.alloc o).cell? ⟨gl, j, none⟩ = some (.string x) := by
      rw [World.cell?_alloc_past _ _ _ h.glt]; exact h.cells j x hj
    exact hg.cell hc (fun e => h.far (by cases e; rfl))
  · have := hg.size
    simp at this
    omega
  · intro z hz
    rcases List.mem_append.1 hz with hz | hz
    · exact h.small z hz
    · rw [List.mem_singleton.1 hz]; exact hy

/-- A pop alone: the run is not asked (the count of steps stays). -/
theorem merge_popped {B gl : Nat} {w wr : World} {xs ys : List ByteArray} {k m g2 cap2 : Nat} (h : MergeAt B gl w xs k (m + 1) ys g2 cap2 wr) : PoppedAt B gl w xs k m ys.dropLast g2 cap2 wr := by
  refine ⟨by rw [List.length_dropLast, h.len]; rfl, by have := h.few; omega, by have := h.room; omega, ?_, h.far, h.below, h.cells, h.glt, fun y hy => h.small y (List.dropLast_subset _ hy)⟩
  have hne : ys ≠ [] := by intro e; have := h.len; rw [e] at this; cases this
  have h1 := h.own
  rw [← List.dropLast_concat_getLast hne] at h1
  refine ownsRow_pop (last := [.string (ys.getLast hne)]) (by simp [strV, h.len]) ?_
  rw [strV_snoc]
  exact h1

theorem lies_at {g2 n cap2 g3 H : Nat} (h : (Value.slice (some ⟨g2, 0, none⟩) n cap2).ownBlock = some g3 ∨ g3 = H) : some g2 = some g3 ∨ g3 = H := h

theorem run_dot {xs ys : List ByteArray} {k : Nat} {x : ByteArray} (h : runL (bl ys) ((bl xs.tail).drop k) = runL [] (bl xs.tail)) (hx : xs[k + 1]? = some x) (h1 : x.data.toList = [46]) (hl : k + 2 = xs.length) :
    runL (bl (ys ++ [⟨#[]⟩])) ((bl xs.tail).drop (k + 1)) = runL [] (bl xs.tail) := by
  have := run_step h hx
  rw [h1, decide_eq_true hl] at this
  simpa [stepL, bl] using this

theorem run_dots0 {xs ys : List ByteArray} {k : Nat} {x : ByteArray} (h : runL (bl ys) ((bl xs.tail).drop k) = runL [] (bl xs.tail)) (hx : xs[k + 1]? = some x) (h1 : x.data.toList = [46, 46]) (hl : k + 2 = xs.length) (h0 : ys.length = 0) :
    runL (bl (ys ++ [⟨#[]⟩])) ((bl xs.tail).drop (k + 1)) = runL [] (bl xs.tail) := by
  have := run_step h hx
  rw [h1, decide_eq_true hl, List.eq_nil_of_length_eq_zero h0] at this
  rw [List.eq_nil_of_length_eq_zero h0]
  simpa [stepL, bl] using this

theorem run_dots {xs ys : List ByteArray} {k : Nat} {x : ByteArray} (h : runL (bl ys) ((bl xs.tail).drop k) = runL [] (bl xs.tail)) (hx : xs[k + 1]? = some x) (h1 : x.data.toList = [46, 46]) (hl : k + 2 = xs.length) :
    runL (bl (ys.dropLast ++ [⟨#[]⟩])) ((bl xs.tail).drop (k + 1)) = runL [] (bl xs.tail) := by
  have := run_step h hx
  rw [h1, decide_eq_true hl] at this
  simpa [stepL, bl] using this

theorem run_other {xs ys : List ByteArray} {k : Nat} {x : ByteArray} (h : runL (bl ys) ((bl xs.tail).drop k) = runL [] (bl xs.tail)) (hx : xs[k + 1]? = some x) (h1 : ¬ x.data.toList = [46]) (h2 : ¬ x.data.toList = [46, 46]) :
    runL (bl (ys ++ [x])) ((bl xs.tail).drop (k + 1)) = runL [] (bl xs.tail) := by
  have := run_step h hx
  simpa [stepL, bl, h1, h2] using this

theorem merge_fin {B gl : Nat} {w wr : World} {xs ys : List ByteArray} {k n g2 cap2 : Nat} (h : MergeAt B gl w xs k n ys g2 cap2 wr) (hk : ¬ k + 1 < xs.length) : cat (bl ys) = mergedL (bl xs) := by
  have h1 := h.run
  rw [List.drop_of_length_le (by simp [bl]; omega)] at h1
  rw [runL] at h1
  rw [h1, mergedL]
  congr 2
  simp [bl]

theorem owned_cells2 {B gl : Nat} {w wr : World} {xs ys : List ByteArray} {k n g2 cap2 : Nat} (h : PoppedAt B gl w xs k n ys g2 cap2 wr) : ∀ j y, ys[j]? = some y → wr.cell? ⟨g2, j, none⟩ = some (.string y) := by
  have h1 := h.own
  have e := h.len
  subst e
  exact owned_cells h1

theorem cat_on {ys : List ByteArray} {t y : ByteArray} {k : Nat} (h : t.data.toList = cat (bl (ys.take k))) (hy : ys[k]? = some y) : (t ++ (⟨#[47]⟩ ++ y)).data.toList = cat (bl (ys.take (k + 1))) := by
  rw [ByteArray.data_append, Array.toList_append, ByteArray.data_append, Array.toList_append, h, List.take_add_one, hy]
  simp [bl, cat]

def MergedOut (s : ByteArray) (w : World) (e : Ending) (w' : World) : Prop :=
  ∃ (r : ByteArray) (xs : List ByteArray), e = .returned (.string r) ∧ Pieces s.data.toList xs ∧ r.data.toList = mergedL (bl xs) ∧ r.size ≤ 500000000 ∧ Below w.heap.size w w'

set_option maxRecDepth 100000 in
set_option maxHeartbeats 1600000 in
theorem merged_any (s : ByteArray) (w : World) (hs : s.size ≤ 20000) : Calls Tryz.prog 7 #[.string s] w (MergedOut s w) := by
  obtain ⟨i0, hi, hz0, hz1, hz2⟩ := info_parts info9
  go_enter Tryz.func7, Tryz.ntmps7
  go_wp2_with fail
  refine (segs_any s _ (by omega)).mono ?_
  rintro e w1 ⟨gl, cap, xs, rfl, hown, hb, hpc, hx⟩
  have hlen : 1 ≤ xs.length := by
    have := hpc.ne
    cases xs with
    | nil => exact absurd rfl this
    | cons _ _ => simp
  have hcap : xs.length ≤ cap := by
    obtain ⟨_, _, hv, _, h⟩ := owned_at hown (by omega)
    cases hv
    exact h
  have HP := hid hpc
  have hpc0 := hpc
  have hx2 : xs.length ≤ 20001 := by omega
  have hbase := hown.lt gl rfl
  have hcells := owned_cells hown
  clear hpc hx
  by_cases hc1 : cap = 1
  · have hx1 : xs.length = 1 := by omega
    have HE := hid (show mergedL (bl xs) = [] by
      obtain ⟨x, rfl⟩ := List.length_eq_one_iff.1 hx1
      rfl)
    have HB := hid (((Below.refl w.heap.size w).alloc (Nat.le_refl _) (.cells #[] 9)).trans (hb.mono (by simp)))
    obtain ⟨x0, rfl⟩ := List.length_eq_one_iff.1 hx1
    subst hc1
    clear hown hcells hb hbase
    go_wp2
    refine wp_loop_rounds 1 ?_
    rw [rounds_succ]
    go_wp2
    refine wp_loop_rounds 1 ?_
    rw [rounds_succ]
    go_wp2
    go_ret
    exact ⟨⟨#[]⟩, [x0], rfl, HP.out, HE.out.symm, Nat.zero_le _, HB.out⟩
  · have hc1' : 1 < cap := by omega
    have H0 : Hid (MergeAt w.heap.size gl w xs 0 0 [] w.heap.size 0 w1) := by
      have hz := hb.size
      refine ⟨⟨rfl, Nat.le_refl _, Nat.le_refl _, ?_, ?_, ((Below.refl _ _).alloc (Nat.le_refl _) _).trans (hb.mono (by simp)), hcells, hbase.2, fun y hy => by cases hy⟩, by rw [List.drop_zero]; rfl⟩
      · have h1 : (w.alloc (.cells #[] 9)).ownsRow w.heap.size 9 1 (.slice (some ⟨w.heap.size, 0, none⟩) 0 0) 0 [] := World.ownsRow_made w #[] 0 (Nat.le_refl _) (by decide) rfl
        refine ⟨rfl, .inr ⟨w.heap.size, 0, #[], rfl, Nat.le_refl _, ?_, Nat.le_refl _, by decide, rfl, rfl⟩⟩
        rw [hb.block _ (by simp)]
        exact heap_alloc_new w _
      · have := hbase.1; simp at this; omega
    have HPS := hid (piece_size hpc0)
    clear hown hcells hb hbase hc1
    go_wp2
    go_loopw [3, 17] (fun v i wr => ∃ (k n : Nat) (ys : List ByteArray) (g2 cap2 : Nat), i = .int .i64 k ∧ v = .slice (some ⟨g2, 0, none⟩) n cap2 ∧ k + 1 ≤ xs.length ∧ MergeAt w.heap.size gl w xs k n ys g2 cap2 wr) (fun _ i _ => xs.length - (intOf i).toNat)
    case atStart => exact ⟨0, 0, [], _, _, rfl, rfl, by omega, H0.out⟩
    case round =>
      obtain ⟨k, n, ys, g2, cap2, rfl, rfl, hk, hr⟩ := hrel
      have hown := hr.own
      have hn := hr.few
      have hcap2 := hr.room
      have hB : w.heap.size ≤ wr.heap.size := hr.below.size
      have HR := hid hr
      clear hr
      by_cases hlt : k + 1 < xs.length
      · obtain ⟨x, hx⟩ : ∃ x, xs[k + 1]? = some x := ⟨_, List.getElem?_eq_getElem hlt⟩
        have hc : wr.cell? ⟨gl, 1 + k, none⟩ = some (.string x) := by rw [Nat.add_comm]; exact HR.out.cells (k + 1) x hx
        have hxs : x.size ≤ 20000 := by
          have h1 := HPS.out x (List.mem_of_getElem? hx)
          rw [Array.length_toList] at h1
          have e : s.data.size = s.size := rfl
          omega
        have HX := hid hx
        clear hx
        by_cases h1 : x.toList = [46]
        · have hq1 : (x.toList == [46]) = true := by rw [h1]; rfl
          have hq2 : (x.toList == [46, 46]) = false := by rw [h1]; rfl
          have HX1 := hid (show x.data.toList = [46] by rw [← ByteArray.toList_eq]; exact h1)
          clear h1
          by_cases hl : k + 2 = xs.length
          · have hlb : ((k : Int) + 2 == (xs.length : Int)) = true := by rw [beq_iff_eq]; omega
            go_wp2_with (at_builtin; refine wpList_append_lies _ rfl (.tmp 48) (.tmp 49) 30 rfl w.heap.size 9 i0 (.string ⟨#[]⟩) 1 16 Tryz.underlying30 hi hz0 hz1 hz2 rfl (by decide) _ _ _ rfl (hown.alloc _) ⟨wr.heap.size, 0, none⟩ 1 1 [.string ⟨#[]⟩] rfl rfl ?c1 ?c2 (by decide) ?c3 ?c4 ?c5 _ rfl ?_)
            case c1 => exact new_one _ _ _
            case c2 => simp [Value.oneCell']
            case c3 => unfold maxLen; omega
            case c4 => omega
            case c5 => simp; omega
            intro g3 cap3 w4 hown4 hg4 hat4 hlt4
            have HM4 := hid (merge_append HR.out.toPoppedAt hB (by omega) hown4 hg4 (lies_at hat4) (Nat.zero_le _) (run_dot HR.out.run HX.out HX1.out hl))
            clear hown4 hg4 hat4 hlt4 hown
            go_wp2
            go_roundw
            case rel => exact ⟨k + 1, _, _, _, _, by go_num, rfl, by omega, HM4.out⟩
            case measure => simp [intOf]; omega
          · have hlb : ((k : Int) + 2 == (xs.length : Int)) = false := by rw [beq_eq_false_iff_ne]; omega
            have HM4 := hid (merge_stay HR.out HX.out (by rw [HX1.out]; simp [stepL, hl]))
            go_wp2
            go_roundw
            case rel => exact ⟨k + 1, _, _, _, _, by go_num, rfl, by omega, HM4.out⟩
            case measure => simp [intOf]; omega
        · have hq1 : (x.toList == [46]) = false := by rw [beq_eq_false_iff_ne]; exact h1
          have HX1 := hid (show ¬ x.data.toList = [46] by rw [← ByteArray.toList_eq]; exact h1)
          clear h1
          by_cases h2 : x.toList = [46, 46]
          · have hq2 : (x.toList == [46, 46]) = true := by rw [h2]; rfl
            have HX2 := hid (show x.data.toList = [46, 46] by rw [← ByteArray.toList_eq]; exact h2)
            clear h2
            by_cases hl : k + 2 = xs.length
            · have hlb : ((k : Int) + 2 == (xs.length : Int)) = true := by rw [beq_iff_eq]; omega
              by_cases hn0 : n = 0
              · subst hn0
                go_wp2_with (at_builtin; refine wpList_append_lies _ rfl (.tmp 48) (.tmp 49) 30 rfl w.heap.size 9 i0 (.string ⟨#[]⟩) 1 16 Tryz.underlying30 hi hz0 hz1 hz2 rfl (by decide) _ _ _ rfl (hown.alloc _) ⟨wr.heap.size, 0, none⟩ 1 1 [.string ⟨#[]⟩] rfl rfl ?c1 ?c2 (by decide) ?c3 ?c4 ?c5 _ rfl ?_)
                case c1 => exact new_one _ _ _
                case c2 => simp [Value.oneCell']
                case c3 => unfold maxLen; omega
                case c4 => omega
                case c5 => simp; omega
                intro g3 cap3 w4 hown4 hg4 hat4 hlt4
                have HM4 := hid (merge_append HR.out.toPoppedAt hB (by omega) hown4 hg4 (lies_at hat4) (Nat.zero_le _) (run_dots0 HR.out.run HX.out HX2.out hl HR.out.len))
                clear hown4 hg4 hat4 hlt4 hown
                go_wp2
                go_roundw
                case rel => exact ⟨k + 1, _, _, _, _, by go_num, rfl, by omega, HM4.out⟩
                case measure => simp [intOf]; omega
              · obtain ⟨m, rfl⟩ : ∃ m, n = m + 1 := ⟨n - 1, by omega⟩
                have HRP := hid (merge_popped HR.out)
                have hownp := HRP.out.own
                go_wp2_with (at_builtin; refine wpList_append_lies _ rfl (.tmp 48) (.tmp 49) 30 rfl w.heap.size 9 i0 (.string ⟨#[]⟩) 1 16 Tryz.underlying30 hi hz0 hz1 hz2 rfl (by decide) _ _ _ rfl (hownp.alloc _) ⟨wr.heap.size, 0, none⟩ 1 1 [.string ⟨#[]⟩] rfl rfl ?c1 ?c2 (by decide) ?c3 ?c4 ?c5 _ rfl ?_)
                case c1 => exact new_one _ _ _
                case c2 => simp [Value.oneCell']
                case c3 => unfold maxLen; omega
                case c4 => omega
                case c5 => simp; omega
                intro g3 cap3 w4 hown4 hg4 hat4 hlt4
                have HM4 := hid (merge_append HRP.out hB (by omega) hown4 hg4 (lies_at hat4) (Nat.zero_le _) (run_dots HR.out.run HX.out HX2.out hl))
                clear hownp hown4 hg4 hat4 hlt4 hown
                go_wp2
                go_roundw
                case rel => exact ⟨k + 1, _, _, _, _, by go_num, rfl, by omega, HM4.out⟩
                case measure => simp [intOf]; omega
            · have hlb : ((k : Int) + 2 == (xs.length : Int)) = false := by rw [beq_eq_false_iff_ne]; omega
              by_cases hn0 : n = 0
              · subst hn0
                have HM4 := hid (merge_stay HR.out HX.out (by rw [HX2.out, List.eq_nil_of_length_eq_zero HR.out.len]; simp [stepL, hl, bl]))
                go_wp2
                go_roundw
                case rel => exact ⟨k + 1, _, _, _, _, by go_num, rfl, by omega, HM4.out⟩
                case measure => simp [intOf]; omega
              · obtain ⟨m, rfl⟩ : ∃ m, n = m + 1 := ⟨n - 1, by omega⟩
                have HM4 := hid (merge_pop HR.out HX.out (by rw [HX2.out]; simp [stepL, hl]))
                go_wp2
                go_roundw
                case rel => exact ⟨k + 1, _, _, _, _, by go_num, rfl, by omega, HM4.out⟩
                case measure => simp [intOf]; omega
          · have hq2 : (x.toList == [46, 46]) = false := by rw [beq_eq_false_iff_ne]; exact h2
            have HX2 := hid (show ¬ x.data.toList = [46, 46] by rw [← ByteArray.toList_eq]; exact h2)
            clear h2
            go_wp2_with (at_builtin; refine wpList_append_lies _ rfl (.tmp 28) (.tmp 30) 30 rfl w.heap.size 9 i0 (.string ⟨#[]⟩) 1 16 Tryz.underlying30 hi hz0 hz1 hz2 rfl (by decide) _ _ _ rfl (hown.alloc _) ⟨wr.heap.size, 0, none⟩ 1 1 [.string x] rfl rfl ?c1 ?c2 (by decide) ?c3 ?c4 ?c5 _ rfl ?_)
            case c1 => exact new_one _ _ _
            case c2 => simp [Value.oneCell']
            case c3 => unfold maxLen; omega
            case c4 => omega
            case c5 => simp; omega
            intro g3 cap3 w4 hown4 hg4 hat4 hlt4
            have HM4 := hid (merge_append HR.out.toPoppedAt hB (by omega) hown4 hg4 (lies_at hat4) hxs (run_other HR.out.run HX.out HX1.out HX2.out))
            clear hown4 hg4 hat4 hlt4 hown
            go_wp2
            go_roundw
            case rel => exact ⟨k + 1, _, _, _, _, by go_num, rfl, by omega, HM4.out⟩
            case measure => simp [intOf]; omega
      · have hfin := hid (merge_fin HR.out hlt)
        have hcy := hid (owned_cells2 HR.out.toPoppedAt)
        have hn3 : n ≤ 20001 := by omega
        clear hown
        go_wp2
        go_loop [54, 8] (fun i v => ∃ (k : Nat) (t : ByteArray), k ≤ n ∧ i = .int .i64 k ∧ v = .string t ∧ t.data.toList = cat (bl (ys.take k)) ∧ t.size ≤ 20001 * k) (fun i _ => n - (intOf i).toNat)
        case atStart => exact ⟨0, ⟨#[]⟩, Nat.zero_le _, rfl, rfl, rfl, Nat.zero_le _⟩
        case round =>
          obtain ⟨k2, t, hk2, rfl, rfl, ht, hts⟩ := hrel
          have HT := hid ht
          clear ht
          by_cases hlt2 : k2 < n
          · obtain ⟨y, hy⟩ : ∃ y, ys[k2]? = some y := ⟨_, List.getElem?_eq_getElem (by rw [HR.out.len]; exact hlt2)⟩
            have hc := hcy.out k2 y hy
            have hys := HR.out.small y (List.mem_of_getElem? hy)
            have HN := hid (cat_on HT.out hy)
            clear hy
            go_wp2
            go_round
            case rel => exact ⟨k2 + 1, _, by omega, by go_num, rfl, HN.out, by have e47 : (⟨#[47]⟩ : ByteArray).size = 1 := rfl; rw [ByteArray.size_append, ByteArray.size_append, e47]; omega⟩
            case measure => simp [intOf]; omega
          · obtain rfl : k2 = n := by omega
            have HE := hid (show t.data.toList = mergedL (bl xs) by rw [HT.out, List.take_of_length_le (by rw [HR.out.len]; exact Nat.le_refl _)]; exact hfin.out)
            go_wp2
            go_ret
            exact ⟨t, xs, rfl, HP.out, HE.out, by omega, HR.out.below⟩
end Go.Proofs.YthphgelfiggleaaGreatDoor

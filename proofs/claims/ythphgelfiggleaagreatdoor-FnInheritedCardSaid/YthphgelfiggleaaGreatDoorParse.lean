/-
  parse of package spec: where it answers true, the text is a host (or none), a path and a fragment, of which the rest of the law speaks.
-/
import Derived.Test.YthphgelfiggleaaGreatDoorFrag
import Derived.Deep.DeepCutAuto
namespace Go.Proofs.YthphgelfiggleaaGreatDoor
open Go.RowKit

/-- The letters http://. -/
def http : List UInt8 := [104, 116, 116, 112, 58, 47, 47]

/-- A host with http:// ahead, or none. -/
def HostOk (h p : List UInt8) : Prop := h = [] ∨ ∃ g, h = http ++ g ∧ g ≠ [] ∧ (∀ c ∈ g, SegN c.toNat) ∧ (p = [] ∨ ∃ r, p = 47 :: r)

/-- The steps of a path are plain, and those in the middle are not empty. -/
def PathOk (p : List UInt8) : Prop := ∃ xs, Pieces p xs ∧ (∀ x ∈ xs, SegB x) ∧ ∀ j x, xs[j]? = some x → 0 < j → j + 1 < xs.length → x.size ≠ 0

structure Told (l h p f : List UInt8) : Prop where
  eq : l = h ++ p ++ f
  host : HostOk h p
  path : PathOk p
  frag : FragOk f
  short : l.length ≤ 100

def ParseOut (s : ByteArray) (w : World) (e : Ending) (w' : World) : Prop :=
  ∃ (h p f : ByteArray) (b : Bool), e = .returned (.tuple #[.agg #[.string h, .string p, .string f], .bool b]) ∧ (b = true → Told s.data.toList h.data.toList p.data.toList f.data.toList) ∧ Below w.heap.size w w'

/-- Behind the test for http://: the path is p, the host h; the address is in block B + 1, the result's cells in block B. -/
structure ParseMid (s : ByteArray) (B : Nat) (w : World) (h p f : ByteArray) (wc : World) : Prop where
  eq : s.data.toList = h.data.toList ++ p.data.toList ++ f.data.toList
  host : HostOk h.data.toList p.data.toList
  below : Below B w wc
  room : B + 2 ≤ wc.heap.size
  a0 : wc.cell? ⟨B + 1, 0, none⟩ = some (.string h)
  a1 : wc.cell? ⟨B + 1, 1, none⟩ = some (.string ⟨#[]⟩)
  a2 : wc.cell? ⟨B + 1, 2, none⟩ = some (.string f)
  af : ∀ j, wc.frozen? ⟨B + 1, j, none⟩ = false
  r0 : wc.cell? ⟨B, 0, none⟩ = some (.string ⟨#[]⟩)
  r1 : wc.cell? ⟨B, 1, none⟩ = some (.string ⟨#[]⟩)
  r2 : wc.cell? ⟨B, 2, none⟩ = some (.string ⟨#[]⟩)
  rf : ∀ j, wc.frozen? ⟨B, j, none⟩ = false

/-- Ahead of the test for http://: cut has parted the fragment off. -/
structure ParseHead (s : ByteArray) (B : Nat) (w : World) (a f : ByteArray) (wc : World) : Prop where
  eq : s.data.toList = a.data.toList ++ f.data.toList
  below : Below B w wc
  room : B + 2 ≤ wc.heap.size
  a0 : wc.cell? ⟨B + 1, 0, none⟩ = some (.string ⟨#[]⟩)
  a1 : wc.cell? ⟨B + 1, 1, none⟩ = some (.string ⟨#[]⟩)
  a2 : wc.cell? ⟨B + 1, 2, none⟩ = some (.string f)
  af : ∀ j, wc.frozen? ⟨B + 1, j, none⟩ = false
  r0 : wc.cell? ⟨B, 0, none⟩ = some (.string ⟨#[]⟩)
  r1 : wc.cell? ⟨B, 1, none⟩ = some (.string ⟨#[]⟩)
  r2 : wc.cell? ⟨B, 2, none⟩ = some (.string ⟨#[]⟩)
  rf : ∀ j, wc.frozen? ⟨B, j, none⟩ = false

def addr0 : Obj := .cells #[.string ⟨#[]⟩, .string ⟨#[]⟩, .string ⟨#[]⟩] 26

theorem cell3 (w : World) (j : Nat) (v : Value) (h : (#[Value.string ⟨#[]⟩, .string ⟨#[]⟩, .string ⟨#[]⟩] : Array Value)[j]? = some v) : (w.alloc addr0).cell? ⟨w.heap.size, j, none⟩ = some v := by
  unfold addr0
  rw [World.cell?_alloc_at _ _ _ _ rfl]
  exact h

theorem head_of {s a f : ByteArray} {w w1 : World} {T : Nat} (ha : a.data.toList = s.data.toList.take T) (hf : f.data.toList = s.data.toList.drop T)
    (hb : Below ((w.alloc addr0).alloc addr0).heap.size ((w.alloc addr0).alloc addr0) w1) : ParseHead s w.heap.size w a f (w1.setCell ⟨w.heap.size + 1, 2, none⟩ (.string f)) := by
  have hz : ((w.alloc addr0).alloc addr0).heap.size = w.heap.size + 2 := by simp
  have h1 : (w.alloc addr0).heap.size = w.heap.size + 1 := by simp
  rw [hz] at hb
  have hc := fun (b j : Nat) (h : b < w.heap.size + 2) => hb.cell (p := ⟨b, j, none⟩) h
  have hfz := fun (b j : Nat) (h : b < w.heap.size + 2) => hb.frozen (p := ⟨b, j, none⟩) h
  have cA : ∀ j v, (#[Value.string ⟨#[]⟩, .string ⟨#[]⟩, .string ⟨#[]⟩] : Array Value)[j]? = some v → w1.cell? ⟨w.heap.size + 1, j, none⟩ = some v := fun j v h => by
    rw [hc _ _ (by omega), ← h1]
    exact cell3 _ j v h
  have cR : ∀ j v, (#[Value.string ⟨#[]⟩, .string ⟨#[]⟩, .string ⟨#[]⟩] : Array Value)[j]? = some v → w1.cell? ⟨w.heap.size, j, none⟩ = some v := fun j v h => by
    rw [hc _ _ (by omega), World.cell?_alloc_past _ _ _ (by simp)]
    exact cell3 _ j v h
  have oth : ∀ b j v, (b, j) ≠ (w.heap.size + 1, 2) → w1.cell? ⟨b, j, none⟩ = some v → (w1.setCell ⟨w.heap.size + 1, 2, none⟩ (.string f)).cell? ⟨b, j, none⟩ = some v := fun b j v h hv => by
    rw [World.cell?_setCell_other _ _ _ _ (by intro e; apply h; injection e with e1 e2; rw [e1, e2])]
    exact hv
  have fA : ∀ j, w1.frozen? ⟨w.heap.size + 1, j, none⟩ = false := fun j => by
    rw [hfz _ _ (by omega), ← h1]
    exact World.frozen?_alloc_at _ _ _ _ rfl
  have fR : ∀ j, w1.frozen? ⟨w.heap.size, j, none⟩ = false := fun j => by
    rw [hfz _ _ (by omega), World.frozen?_alloc_past _ _ _ (by simp)]
    exact World.frozen?_alloc_at _ _ _ _ rfl
  refine ⟨by rw [ha, hf, List.take_append_drop], ?_, by have := hb.size; rw [hz] at this; simpa [World.setCell] using this, oth _ _ _ (by simp) (cA 0 _ rfl), oth _ _ _ (by simp) (cA 1 _ rfl), ?_, ?_, oth _ _ _ (by simp) (cR 0 _ rfl), oth _ _ _ (by simp) (cR 1 _ rfl), oth _ _ _ (by simp) (cR 2 _ rfl), ?_⟩
  · exact ((((Below.refl _ _).alloc (Nat.le_refl _) _).alloc (by simp) _).trans (hb.mono (by omega))).setCell (by simp) _
  · exact World.cell?_setCell_same _ _ _ (cA 2 _ rfl)
  · intro j; rw [World.frozen?_setCell]; exact fA j
  · intro j; rw [World.frozen?_setCell]; exact fR j

theorem head_cell {w w1 : World} (hb : Below ((w.alloc addr0).alloc addr0).heap.size ((w.alloc addr0).alloc addr0) w1) :
    w1.cell? ⟨w.heap.size + 1, 2, none⟩ = some (.string ⟨#[]⟩) ∧ w1.frozen? ⟨w.heap.size + 1, 2, none⟩ = false := by
  have hz : ((w.alloc addr0).alloc addr0).heap.size = w.heap.size + 2 := by simp
  have h1 : (w.alloc addr0).heap.size = w.heap.size + 1 := by simp
  rw [hz] at hb
  constructor
  · rw [hb.cell (p := ⟨w.heap.size + 1, 2, none⟩) (by show w.heap.size + 1 < _; omega), ← h1]
    exact cell3 _ 2 _ rfl
  · rw [hb.frozen (p := ⟨w.heap.size + 1, 2, none⟩) (by show w.heap.size + 1 < _; omega), ← h1]
    exact World.frozen?_alloc_at _ _ _ _ rfl

theorem head_below {s a f : ByteArray} {B : Nat} {w wh w2 : World} (h : ParseHead s B w a f wh) (hb : Below wh.heap.size wh w2) : ParseHead s B w a f w2 := by
  have hr := h.room
  have hc := fun (b j : Nat) (hx : b < B + 2) => hb.cell (p := ⟨b, j, none⟩) (show b < wh.heap.size by omega)
  have hfz := fun (b j : Nat) (hx : b < B + 2) => hb.frozen (p := ⟨b, j, none⟩) (show b < wh.heap.size by omega)
  refine ⟨h.eq, h.below.trans (hb.mono (by omega)), Nat.le_trans hr hb.size, ?_, ?_, ?_, ?_, ?_, ?_, ?_, ?_⟩
  · rw [hc _ _ (by omega)]; exact h.a0
  · rw [hc _ _ (by omega)]; exact h.a1
  · rw [hc _ _ (by omega)]; exact h.a2
  · intro j; rw [hfz _ _ (by omega)]; exact h.af j
  · rw [hc _ _ (by omega)]; exact h.r0
  · rw [hc _ _ (by omega)]; exact h.r1
  · rw [hc _ _ (by omega)]; exact h.r2
  · intro j; rw [hfz _ _ (by omega)]; exact h.rf j

theorem path_short {a path : ByteArray} {T : Nat} (has : a.size ≤ 100) (hp : path.data.toList = (a.extract 7 a.size).data.toList.drop T) : path.size ≤ 100 := by
  have h := congrArg List.length hp
  rw [Array.length_toList, List.length_drop, Array.length_toList] at h
  have e : (a.extract 7 a.size).data.size = (a.extract 7 a.size).size := rfl
  have e2 : path.data.size = path.size := rfl
  have e3 : (a.extract 7 a.size).size = a.size - 7 := by simp [ByteArray.size_extract]
  omega

theorem ix_drop {s : ByteArray} {c : UInt8} {T : Nat} (h : Ix s c T) : s.data.toList.drop T = [] ∨ ∃ r, s.data.toList.drop T = c :: r := by
  by_cases hl : T < s.size
  · have hl' : T < s.data.toList.length := by rw [Array.length_toList]; exact hl
    refine .inr ⟨s.data.toList.drop (T + 1), ?_⟩
    rw [List.drop_eq_getElem_cons hl']
    exact congrArg (fun x => x :: s.data.toList.drop (T + 1)) (h.at_ hl)
  · exact .inl (List.drop_of_length_le (by rw [Array.length_toList]; show s.size ≤ T; omega))

theorem mid_of {s a f host path : ByteArray} {B T : Nat} {w w2 : World} (H : ParseHead s B w a f w2) (hx : (a.extract 0 7).toList = http) (hT : Ix (a.extract 7 a.size) 47 T)
    (hh : host.data.toList = (a.extract 7 a.size).data.toList.take T) (hp : path.data.toList = (a.extract 7 a.size).data.toList.drop T) (h0 : ¬ host.size = 0) (hseg : SegB host) :
    ParseMid s B w (⟨#[104, 116, 116, 112, 58, 47, 47]⟩ ++ host) path f (w2.setCell ⟨B + 1, 0, none⟩ (.string (⟨#[104, 116, 116, 112, 58, 47, 47]⟩ ++ host))) := by
  have oth : ∀ b j v, (b, j) ≠ (B + 1, 0) → w2.cell? ⟨b, j, none⟩ = some v → (w2.setCell ⟨B + 1, 0, none⟩ (.string (⟨#[104, 116, 116, 112, 58, 47, 47]⟩ ++ host))).cell? ⟨b, j, none⟩ = some v := fun b j v h hv => by
    rw [World.cell?_setCell_other _ _ _ _ (by intro e; apply h; injection e with e1 e2; rw [e1, e2])]
    exact hv
  have hl : (⟨#[104, 116, 116, 112, 58, 47, 47]⟩ ++ host : ByteArray).data.toList = http ++ host.data.toList := by
    rw [ByteArray.data_append, Array.toList_append]
    rfl
  have ha : a.data.toList = http ++ (a.extract 7 a.size).data.toList := by
    rw [drop_of, ← hx, ByteArray.toList_eq, take_of, List.take_append_drop]
  refine ⟨?_, .inr ⟨host.data.toList, hl, ?_, hseg, ?_⟩, H.below.setCell (by simp) _, by have := H.room; simpa [World.setCell] using this, World.cell?_setCell_same _ _ _ H.a0, oth _ _ _ (by simp) H.a1, oth _ _ _ (by simp) H.a2, ?_, oth _ _ _ (by simp) H.r0, oth _ _ _ (by simp) H.r1, oth _ _ _ (by simp) H.r2, ?_⟩
  · rw [H.eq, hl, ha, hh, hp]
    simp only [List.append_assoc]
    rw [← List.append_assoc (List.take T _), List.take_append_drop]
  · intro e
    apply h0
    have := congrArg List.length e
    rw [Array.length_toList] at this
    exact this
  · rw [hp]
    rcases ix_drop hT with h | ⟨r, h⟩
    · exact .inl h
    · exact .inr ⟨r, h⟩
  · intro j; rw [World.frozen?_setCell]; exact H.af j
  · intro j; rw [World.frozen?_setCell]; exact H.rf j

/-- Behind the store of the path: all three fields of the address. -/
structure ParseFull (s : ByteArray) (B : Nat) (w : World) (h p f : ByteArray) (wc : World) : Prop where
  eq : s.data.toList = h.data.toList ++ p.data.toList ++ f.data.toList
  host : HostOk h.data.toList p.data.toList
  below : Below B w wc
  room : B + 2 ≤ wc.heap.size
  a0 : wc.cell? ⟨B + 1, 0, none⟩ = some (.string h)
  a1 : wc.cell? ⟨B + 1, 1, none⟩ = some (.string p)
  a2 : wc.cell? ⟨B + 1, 2, none⟩ = some (.string f)
  r0 : wc.cell? ⟨B, 0, none⟩ = some (.string ⟨#[]⟩)
  r1 : wc.cell? ⟨B, 1, none⟩ = some (.string ⟨#[]⟩)
  r2 : wc.cell? ⟨B, 2, none⟩ = some (.string ⟨#[]⟩)
  rf : ∀ j, wc.frozen? ⟨B, j, none⟩ = false

theorem mid_store {s h p f : ByteArray} {B : Nat} {w w2 : World} (H : ParseMid s B w h p f w2) : ParseFull s B w h p f (w2.setCell ⟨B + 1, 1, none⟩ (.string p)) := by
  have oth : ∀ b j v, (b, j) ≠ (B + 1, 1) → w2.cell? ⟨b, j, none⟩ = some v → (w2.setCell ⟨B + 1, 1, none⟩ (.string p)).cell? ⟨b, j, none⟩ = some v := fun b j v hn hv => by
    rw [World.cell?_setCell_other _ _ _ _ (by intro e; apply hn; injection e with e1 e2; rw [e1, e2])]
    exact hv
  refine ⟨H.eq, H.host, H.below.setCell (by simp) _, by have := H.room; simpa [World.setCell] using this, oth _ _ _ (by simp) H.a0, World.cell?_setCell_same _ _ _ H.a1, oth _ _ _ (by simp) H.a2, oth _ _ _ (by simp) H.r0, oth _ _ _ (by simp) H.r1, oth _ _ _ (by simp) H.r2, ?_⟩
  intro j; rw [World.frozen?_setCell]; exact H.rf j

theorem mid_below {s h p f : ByteArray} {B : Nat} {w wh w2 : World} (H : ParseFull s B w h p f wh) (hb : Below wh.heap.size wh w2) : ParseFull s B w h p f w2 := by
  have hr := H.room
  have hc := fun (b j : Nat) (hx : b < B + 2) => hb.cell (p := ⟨b, j, none⟩) (show b < wh.heap.size by omega)
  have hfz := fun (b j : Nat) (hx : b < B + 2) => hb.frozen (p := ⟨b, j, none⟩) (show b < wh.heap.size by omega)
  refine ⟨H.eq, H.host, H.below.trans (hb.mono (by omega)), Nat.le_trans hr hb.size, ?_, ?_, ?_, ?_, ?_, ?_, ?_⟩
  · rw [hc _ _ (by omega)]; exact H.a0
  · rw [hc _ _ (by omega)]; exact H.a1
  · rw [hc _ _ (by omega)]; exact H.a2
  · rw [hc _ _ (by omega)]; exact H.r0
  · rw [hc _ _ (by omega)]; exact H.r1
  · rw [hc _ _ (by omega)]; exact H.r2
  · intro j; rw [hfz _ _ (by omega)]; exact H.rf j

/-- The first k steps are plain, and those in the middle are not empty. -/
def StepsOk (xs : List ByteArray) (k : Nat) : Prop := ∀ j x, xs[j]? = some x → j < k → SegB x ∧ (0 < j → j + 1 < xs.length → x.size ≠ 0)

theorem below_draw {w w2 : World} (h : Below w.drew.heap.size w.drew w2) : Below w.heap.size w w2 := ((Below.refl _ _).drew).trans h

theorem steps_snoc {xs : List ByteArray} {k : Nat} {x : ByteArray} (h : StepsOk xs k) (hx : xs[k]? = some x) (hs : SegB x) (hn : ¬ (x.size = 0 ∧ 0 < k ∧ k + 1 < xs.length)) : StepsOk xs (k + 1) := by
  intro j y hy hj
  by_cases e : j = k
  · subst e
    obtain rfl : x = y := Option.some.inj (hx.symm.trans hy)
    exact ⟨hs, fun h1 h2 h0 => hn ⟨h0, h1, h2⟩⟩
  · exact h j y hy (by omega)

theorem path_ok {l : List UInt8} {xs : List ByteArray} {k : Nat} (hp : Pieces l xs) (h : StepsOk xs k) (hk : ¬ k < xs.length) : PathOk l := by
  refine ⟨xs, hp, fun x hx => ?_, fun j x hj h1 h2 => ?_⟩
  · obtain ⟨j, hj, rfl⟩ := List.getElem_of_mem hx
    exact (h j _ (List.getElem?_eq_getElem hj) (by omega)).1
  · exact (h j x hj (by omega)).2 h1 h2

set_option maxRecDepth 100000 in
set_option maxHeartbeats 1600000 in
theorem parse_any (s : ByteArray) (w : World) : Calls Tryz.prog 6 #[.string s] w (ParseOut s w) := by
  by_cases h100 : 100 < s.size
  · have HB := hid (show Below w.heap.size w (((w.alloc addr0).alloc addr0)) from ((Below.refl _ _).alloc (Nat.le_refl _) _).alloc (by simp) _)
    go_enter Tryz.func6, Tryz.ntmps6
    go_wp2
    refine bodyPost_ret (v := .tuple #[.agg #[.string ⟨#[]⟩, .string ⟨#[]⟩, .string ⟨#[]⟩], .bool false]) ?_ rfl ⟨_, _, _, false, rfl, (fun h => by cases h), HB.out⟩
    simp [results, Tryz.results6, go_sem]
  · obtain ⟨T, hT⟩ := ix_ex s 35
    go_enter Tryz.func6, Tryz.ntmps6
    go_wp2_with fail
    refine (cut_any s 35 T _ (by omega) hT).mono ?_
    rintro e w1 ⟨a, f, rfl, ha, hf, hb⟩
    obtain ⟨c2, f2⟩ := head_cell hb
    have HH := hid (head_of ha hf hb)
    have has : a.size ≤ 100 := by
      have := congrArg List.length ha
      rw [Array.length_toList, List.length_take, Array.length_toList] at this
      have e : s.data.size = s.size := rfl
      have e2 : a.data.size = a.size := rfl
      omega
    have hfs : f.size ≤ 100 := by
      have := congrArg List.length hf
      rw [Array.length_toList, List.length_drop, Array.length_toList] at this
      have e : s.data.size = s.size := rfl
      have e2 : f.data.size = f.size := rfl
      omega
    clear ha hf hb
    go_upto_region 5 with (fail)
    obtain ⟨wh, hwh⟩ : ∃ wh, wh = w1.setCell ⟨w.heap.size + 1, 2, none⟩ (.string f) := ⟨_, rfl⟩
    rw [← hwh] at HH ⊢
    clear hwh c2 f2
    go_cut [28] (fun v wc => ∃ b : Bool, v = .bool b ∧ (b = true → (a.extract 0 7).toList = http ∧ 7 ≤ a.size) ∧ wc = wh)
    case first =>
      go_wp2
      · by_cases hx : (a.extract 0 7).toList = http
        · have hq : ((a.extract 0 7).toList == [104, 116, 116, 112, 58, 47, 47]) = true := by rw [hx]; decide
          go_wp2
          go_meet
          exact ⟨true, by simpa [http] using hx, fun _ => ⟨hx, by omega⟩, rfl⟩
        · have hq : ((a.extract 0 7).toList == [104, 116, 116, 112, 58, 47, 47]) = false := by rw [beq_eq_false_iff_ne]; exact hx
          go_wp2
          go_meet
          exact ⟨false, by simpa [http] using hx, (fun h => by cases h), rfl⟩
      · go_meet
        exact ⟨false, by simp, (fun h => by cases h), rfl⟩
    case rest =>
      obtain ⟨b, rfl, hb, rfl⟩ := hcut
      have HBB := hid hb
      clear hb
      go_upto_if 28 with (fail)
      go_cut [0] (fun v wc => ∃ h p : ByteArray, v = .string p ∧ p.size ≤ 100 ∧ ParseMid s w.heap.size w h p f wc)
      case first =>
        cases b
        · go_wp2
          go_meet
          have h := HH.out
          exact ⟨⟨#[]⟩, a, rfl, has, h.eq, .inl rfl, h.below, h.room, h.a0, h.a1, h.a2, h.af, h.r0, h.r1, h.r2, h.rf⟩
        · obtain ⟨T2, hT2⟩ := ix_ex (a.extract 7 a.size) 47
          have h7 := (HBB.out rfl).2
          have hx7 := hid (HBB.out rfl).1
          go_wp2_with fail
          refine (cut_any (a.extract 7 a.size) 47 T2 _ (by simp [ByteArray.size_extract]; omega) hT2).mono ?_
          rintro e w2 ⟨host, path, rfl, hh, hp, hb2⟩
          have H2 := head_below HH.out hb2
          have a0 := H2.a0
          have a1 := H2.a1
          have a2 := H2.a2
          have f0 := H2.af 0
          have r0 := H2.r0
          have r1 := H2.r1
          have r2 := H2.r2
          have g0 := H2.rf 0
          have g1 := H2.rf 1
          have g2 := H2.rf 2
          have hsz : host.size ≤ 100 := by
            have := congrArg List.length hh
            rw [Array.length_toList, List.length_take, Array.length_toList] at this
            have e : (a.extract 7 a.size).data.size = (a.extract 7 a.size).size := rfl
            have e2 : host.data.size = host.size := rfl
            have e3 : (a.extract 7 a.size).size = a.size - 7 := by simp [ByteArray.size_extract]
            omega
          have HHH := hid hh
          have HPP := hid hp
          have HBE := hid hb2
          have HH2 := hid H2
          clear hh hp hb2 H2
          by_cases h0 : host.size = 0
          · have he := empty_of host h0
            go_wp2
            refine bodyPost_ret (v := .tuple #[.agg #[.string (⟨#[104, 116, 116, 112, 58, 47, 47]⟩ ++ host), .string ⟨#[]⟩, .string f], .bool false]) ?_ rfl ⟨_, _, _, false, rfl, (fun h => by cases h), ?_⟩
            · simp [results, Tryz.results6, go_sem, r0, r1, r2]
            · exact (((HH2.out.below.setCell (by simp) _).setCell (Nat.le_refl _) _).setCell (Nat.le_refl _) _).setCell (Nat.le_refl _) _
          · have he := not_empty host (by omega)
            go_wp2_with (first
              | (go_at_call 13; refine (letter_any _ _).mono ?_; rintro e w' ⟨b1, rfl, hb1, rfl⟩; have HB1 := hid hb1; clear hb1; cases b1)
              | (go_at_call 14; refine (isseg_any _ _ (by omega)).mono ?_; rintro e w' ⟨b2, rfl, hb2, rfl⟩; have HB2 := hid hb2; clear hb2; cases b2))
            all_goals first
              | (refine bodyPost_ret (v := .tuple #[.agg #[.string (⟨#[104, 116, 116, 112, 58, 47, 47]⟩ ++ host), .string ⟨#[]⟩, .string f], .bool false]) ?_ rfl ⟨_, _, _, false, rfl, (fun h => by cases h), ?_⟩
                 · simp [results, Tryz.results6, go_sem, r0, r1, r2]
                 · exact (((HH2.out.below.setCell (by simp) _).setCell (Nat.le_refl _) _).setCell (Nat.le_refl _) _).setCell (Nat.le_refl _) _)
              | (go_meet
                 exact ⟨_, path, rfl, path_short has HPP.out, mid_of HH2.out hx7.out hT2 HHH.out HPP.out h0 (HB2.out trivial)⟩)
      case rest =>
        obtain ⟨h, p, rfl, hps, hm⟩ := hcut
        have a1 := hm.a1
        have f1 := hm.af 1
        have HM := hid (mid_store hm)
        clear hm
        go_wp2_with fail
        refine (segs_any p _ (by omega)).mono ?_
        rintro e w3 ⟨g, cap, xs, rfl, hown, hb3, hpc, hx⟩
        clear a1 f1
        have H3 := mid_below HM.out hb3
        have hcell := hid (owned_cells hown)
        have hps2 := hid (piece_size hpc)
        have HPC := hid hpc
        have hlen : xs.length ≤ 101 := by omega
        have a0 := H3.a0
        have a1 := H3.a1
        have a2 := H3.a2
        have r0 := H3.r0
        have r1 := H3.r1
        have r2 := H3.r2
        have g0 := H3.rf 0
        have g1 := H3.rf 1
        have g2 := H3.rf 2
        have HH3 := hid H3
        clear H3 hown hb3 hpc hx
        go_wp2
        go_loop [59, 8, 9] (fun i _ _ => ∃ k : Nat, k ≤ xs.length ∧ i = .int .i64 k ∧ StepsOk xs k) (fun i _ _ => xs.length - (intOf i).toNat)
        case atStart => exact ⟨0, Nat.zero_le _, rfl, fun j x h hj => by omega⟩
        case round =>
          obtain ⟨k, hk, rfl, hg⟩ := hrel
          have HG := hid hg
          clear hg
          by_cases hlt : k < xs.length
          · obtain ⟨x, hx⟩ : ∃ x, xs[k]? = some x := ⟨_, List.getElem?_eq_getElem hlt⟩
            have hc := hcell.out k x hx
            have hin : x.size ≤ 4294967296 := by
              have h1 := hps2.out x (List.mem_of_getElem? hx)
              rw [Array.length_toList] at h1
              have e : p.data.size = p.size := rfl
              omega
            have HX := hid hx
            clear hx
            by_cases hbad : x.size = 0 ∧ 0 < k ∧ k + 1 < xs.length
            · obtain ⟨h0, hk0, hk1⟩ := hbad
              have he := empty_of x h0
              go_wp2_with (go_at_call 14; refine (isseg_any _ _ hin).mono ?_; rintro e w' ⟨b1, rfl, hb1, rfl⟩; have HB1 := hid hb1; clear hb1; cases b1)
              all_goals
                refine bodyPost_ret (v := .tuple #[.agg #[.string h, .string p, .string f], .bool false]) ?_ rfl ⟨_, _, _, false, rfl, (fun h => by cases h), ?_⟩
                · simp [results, Tryz.results6, go_sem, r0, r1, r2]
                · exact ((HH3.out.below.setCell (Nat.le_refl _) _).setCell (Nat.le_refl _) _).setCell (Nat.le_refl _) _
            · have hgood : Hid (¬ (x.size = 0 ∧ 0 < k ∧ k + 1 < xs.length)) := hid hbad
              by_cases h0 : x.size = 0
              · have he := empty_of x h0
                by_cases hk0 : 0 < k
                · have hk1 : ¬ k + 1 < xs.length := fun h => hgood.out ⟨h0, hk0, h⟩
                  clear hbad
                  go_wp2_with (go_at_call 14; refine (isseg_any _ _ hin).mono ?_; rintro e w' ⟨b1, rfl, hb1, rfl⟩; have HB1 := hid hb1; clear hb1; cases b1)
                  all_goals first
                    | (have HG2 := hid (steps_snoc HG.out HX.out (HB1.out trivial) hgood.out)
                       go_round
                       case rel => exact ⟨k + 1, by omega, by go_num, HG2.out⟩
                       case measure => simp [intOf]; omega)
                    | (refine bodyPost_ret (v := .tuple #[.agg #[.string h, .string p, .string f], .bool false]) ?_ rfl ⟨_, _, _, false, rfl, (fun h => by cases h), ?_⟩
                       · simp [results, Tryz.results6, go_sem, r0, r1, r2]
                       · exact ((HH3.out.below.setCell (Nat.le_refl _) _).setCell (Nat.le_refl _) _).setCell (Nat.le_refl _) _)
                · clear hbad
                  go_wp2_with (go_at_call 14; refine (isseg_any _ _ hin).mono ?_; rintro e w' ⟨b1, rfl, hb1, rfl⟩; have HB1 := hid hb1; clear hb1; cases b1)
                  all_goals first
                    | (have HG2 := hid (steps_snoc HG.out HX.out (HB1.out trivial) hgood.out)
                       go_round
                       case rel => exact ⟨k + 1, by omega, by go_num, HG2.out⟩
                       case measure => simp [intOf]; omega)
                    | (refine bodyPost_ret (v := .tuple #[.agg #[.string h, .string p, .string f], .bool false]) ?_ rfl ⟨_, _, _, false, rfl, (fun h => by cases h), ?_⟩
                       · simp [results, Tryz.results6, go_sem, r0, r1, r2]
                       · exact ((HH3.out.below.setCell (Nat.le_refl _) _).setCell (Nat.le_refl _) _).setCell (Nat.le_refl _) _)
              · have he := not_empty x (by omega)
                clear hbad
                go_wp2_with (go_at_call 14; refine (isseg_any _ _ hin).mono ?_; rintro e w' ⟨b1, rfl, hb1, rfl⟩; have HB1 := hid hb1; clear hb1; cases b1)
                all_goals first
                  | (have HG2 := hid (steps_snoc HG.out HX.out (HB1.out trivial) hgood.out)
                     go_round
                     case rel => exact ⟨k + 1, by omega, by go_num, HG2.out⟩
                     case measure => simp [intOf]; omega)
                  | (refine bodyPost_ret (v := .tuple #[.agg #[.string h, .string p, .string f], .bool false]) ?_ rfl ⟨_, _, _, false, rfl, (fun h => by cases h), ?_⟩
                     · simp [results, Tryz.results6, go_sem, r0, r1, r2]
                     · exact ((HH3.out.below.setCell (Nat.le_refl _) _).setCell (Nat.le_refl _) _).setCell (Nat.le_refl _) _)
          · have HPO := hid (path_ok HPC.out HG.out hlt)
            go_wp2
            go_region_with (go_at_call 15; refine (isfrag_any f _ (by omega)).mono ?_; rintro e w4 ⟨b, rfl, hfo, hb4⟩; have HFO := hid hfo; have H4 := mid_below HH3.out (below_draw hb4); have q0 := H4.a0; have q1 := H4.a1; have q2 := H4.a2; have s0 := H4.r0; have s1 := H4.r1; have s2 := H4.r2; have t0 := H4.rf 0; have t1 := H4.rf 1; have t2 := H4.rf 2; have HH4 := hid H4; clear hfo hb4 H4)
            all_goals go_wp2
            all_goals
              refine bodyPost_ret (v := .tuple #[.agg #[.string h, .string p, .string f], .bool b]) ?_ rfl ⟨h, p, f, b, rfl, fun hbt => ?_, ?_⟩
              · simp [results, Tryz.results6, go_sem, s0, s1, s2]
              · exact ⟨HH4.out.eq, HH4.out.host, HPO.out, HFO.out hbt, by rw [Array.length_toList]; show s.size ≤ 100; omega⟩
              · exact ((HH4.out.below.setCell (Nat.le_refl _) _).setCell (Nat.le_refl _) _).setCell (Nat.le_refl _) _
end Go.Proofs.YthphgelfiggleaaGreatDoor

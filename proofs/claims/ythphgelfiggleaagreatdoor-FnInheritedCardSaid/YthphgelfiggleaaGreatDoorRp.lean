/-
  Plain lists, no program: what resolvePath of package neturl makes of the pieces of a path is what merged of package spec makes of them.
-/
import Derived.Test.YthphgelfiggleaaGreatDoorUniq
namespace Go.Proofs.YthphgelfiggleaaGreatDoor

def NoS (x : Bytes) : Prop := ∀ c ∈ x, c ≠ 47

/-- Where the steps out are kept, the text is dst; first tells whether a slash is due. -/
def RP (out : List Bytes) (dst : Bytes) (first : Bool) : Prop :=
  (∀ x ∈ out, NoS x) ∧ ((first = false ∧ dst = 47 :: cat out) ∨ (first = true ∧ out = [] ∧ dst = [47]) ∨ (first = false ∧ dst = cat out ∧ ∃ x o, out = x :: o ∧ x ≠ []))

/-- The same at the end. -/
def RPEnd (out : List Bytes) (dst : Bytes) : Prop := out ≠ [] ∧ (dst = 47 :: cat out ∨ (dst = cat out ∧ dst[1]? ≠ some 47))

theorem cat_cons (x : Bytes) (o : List Bytes) : cat (x :: o) = 47 :: (x ++ cat o) := by simp [cat]
theorem cat_nil : cat [] = [] := rfl

theorem second_no {x r : Bytes} (hx : x ≠ []) (hn : NoS x) : (47 :: (x ++ r))[1]? ≠ some 47 := by
  cases x with
  | nil => exact absurd rfl hx
  | cons c y =>
    intro h
    have : c = 47 := by simpa using h
    exact hn c (.head _) this

theorem rp_dot {out : List Bytes} {dst : Bytes} {first : Bool} (h : RP out dst first) : RP out dst false := by
  refine ⟨h.1, ?_⟩
  rcases h.2 with ⟨_, hd⟩ | ⟨_, ho, hd⟩ | ⟨_, hd, hx⟩
  · exact .inl ⟨rfl, hd⟩
  · exact .inl ⟨rfl, by rw [hd, ho, cat_nil]⟩
  · exact .inr (.inr ⟨rfl, hd, hx⟩)

theorem no_cat {out : List Bytes} {x : Bytes} (h : NoS (x ++ cat out)) : out = [] := by
  cases out with
  | nil => rfl
  | cons y o => exact absurd rfl (h 47 (List.mem_append_right _ (by rw [cat_cons]; exact .head _)))

theorem last_split : ∀ {a a' b b' : Bytes}, a ++ 47 :: b = a' ++ 47 :: b' → NoS b → NoS b' → a = a' ∧ b = b'
  | [], [], _, _, h, _, _ => ⟨rfl, by simpa using h⟩
  | [], c :: a', b, b', h, hb, _ => by
    simp only [List.nil_append, List.cons_append, List.cons.injEq] at h
    exact absurd rfl (hb 47 (by rw [h.2]; simp))
  | c :: a, [], b, b', h, _, hb' => by
    simp only [List.nil_append, List.cons_append, List.cons.injEq] at h
    exact absurd rfl (hb' 47 (by rw [← h.2]; simp))
  | c :: a, d :: a', b, b', h, hb, hb' => by
    simp only [List.cons_append, List.cons.injEq] at h
    obtain ⟨e1, e2⟩ := last_split h.2 hb hb'
    exact ⟨by rw [h.1, e1], e2⟩

theorem snoc_of {α : Type} (l : List α) (h : l ≠ []) : ∃ o x, l = o ++ [x] := ⟨l.dropLast, l.getLast h, (List.dropLast_concat_getLast h).symm⟩

/-- What becomes of the text at a step upward. -/
def UpTo (dst dst' : Bytes) (first' : Bool) : Prop :=
  (NoS dst.tail ∧ dst' = [47] ∧ first' = true) ∨ (∃ a b, dst.tail = a ++ 47 :: b ∧ NoS b ∧ dst' = 47 :: a ∧ first' = decide (a = []))

theorem rp_dots {out : List Bytes} {dst dst' : Bytes} {first first' : Bool} (h : RP out dst first) (hc : UpTo dst dst' first') : RP out.dropLast dst' first' := by
  refine ⟨fun x hx => h.1 x (List.dropLast_subset _ hx), ?_⟩
  rcases hc with ⟨hn, rfl, rfl⟩ | ⟨a, b, hab, hb, rfl, rfl⟩
  · refine .inr (.inl ⟨rfl, ?_, rfl⟩)
    rcases h.2 with ⟨_, hd⟩ | ⟨_, ho, hd⟩ | ⟨_, hd, x, o, ho, hx⟩
    · rw [hd] at hn
      rw [no_cat (x := []) hn]; rfl
    · rw [ho]; rfl
    · rw [hd, ho, cat_cons] at hn
      rw [ho, no_cat hn]; rfl
  · rcases h.2 with ⟨_, hd⟩ | ⟨_, ho, hd⟩ | ⟨_, hd, x, o, ho, hx⟩
    · rw [hd] at hab
      have hne : out ≠ [] := by
        rintro rfl
        simp [cat_nil] at hab
      obtain ⟨o, y, rfl⟩ := snoc_of out hne
      simp only [List.tail_cons] at hab
      rw [cat_snoc] at hab
      obtain ⟨e1, _⟩ := last_split hab (h.1 y (by simp)) hb
      rw [List.dropLast_concat, ← e1]
      by_cases h0 : cat o = []
      · have : o = [] := no_cat (x := []) (by rw [h0]; intro c hc; cases hc)
        refine .inr (.inl ⟨by simp [h0], this, by rw [h0]⟩)
      · exact .inl ⟨by simp [h0], rfl⟩
    · rw [hd] at hab
      simp at hab
    · rw [hd, ho, cat_cons] at hab
      simp only [List.tail_cons] at hab
      have hxs : NoS x := h.1 x (by rw [ho]; exact .head _)
      have hne : o ≠ [] := by
        rintro rfl
        rw [cat_nil, List.append_nil] at hab
        exact absurd rfl (hxs 47 (by rw [hab]; simp))
      obtain ⟨o', y, rfl⟩ := snoc_of o hne
      rw [cat_snoc, ← List.append_assoc] at hab
      obtain ⟨e1, _⟩ := last_split hab (h.1 y (by rw [ho]; simp)) hb
      have hna : ¬ a = [] := by rw [← e1]; simp [hx]
      refine .inr (.inr ⟨by simp [hna], ?_, x, o', ?_, hx⟩)
      · rw [ho, ← List.cons_append, List.dropLast_concat, cat_cons, e1]
      · rw [ho, ← List.cons_append, List.dropLast_concat]

theorem no_snoc {out : List Bytes} {x : Bytes} (h : ∀ y ∈ out, NoS y) (hn : NoS x) : ∀ y ∈ out ++ [x], NoS y := fun y hy => by
  rcases List.mem_append.1 hy with hy | hy
  · exact h y hy
  · rw [List.mem_singleton.1 hy]; exact hn

/-- What becomes of the text at any other step. -/
def pushL (dst : Bytes) (first : Bool) (x : Bytes) : Bytes := (if first then dst else dst ++ [47]) ++ x

theorem rp_push {out : List Bytes} {dst x : Bytes} {first : Bool} (h : RP out dst first) (hx : x ≠ []) (hn : NoS x) : RP (out ++ [x]) (pushL dst first x) false := by
  refine ⟨no_snoc h.1 hn, ?_⟩
  rcases h.2 with ⟨rfl, hd⟩ | ⟨rfl, ho, hd⟩ | ⟨rfl, hd, y, o, ho, hy⟩
  · exact .inl ⟨rfl, by rw [hd, cat_snoc]; simp [pushL]⟩
  · exact .inr (.inr ⟨rfl, by rw [hd, ho]; simp [pushL, cat], x, [], by rw [ho]; rfl, hx⟩)
  · exact .inr (.inr ⟨rfl, by rw [hd, cat_snoc]; simp [pushL], y, o ++ [x], by rw [ho]; rfl, hy⟩)

theorem rp_push_end {out : List Bytes} {dst x : Bytes} {first : Bool} (h : RP out dst first) (hn : NoS x) : RPEnd (out ++ [x]) (pushL dst first x) := by
  refine ⟨by simp, ?_⟩
  rcases h.2 with ⟨rfl, hd⟩ | ⟨rfl, ho, hd⟩ | ⟨rfl, hd, y, o, ho, hy⟩
  · exact .inl (by rw [hd, cat_snoc]; simp [pushL])
  · refine .inr ⟨by rw [hd, ho]; simp [pushL, cat], ?_⟩
    rw [hd]
    cases x with
    | nil => simp [pushL]
    | cons c r => exact second_no (x := c :: r) (r := []) (by simp) hn |> fun h => by simpa [pushL] using h
  · refine .inr ⟨by rw [hd, cat_snoc]; simp [pushL], ?_⟩
    have := second_no (r := cat o ++ ([47] ++ x)) hy (h.1 y (by rw [ho]; exact .head _))
    rw [hd, ho, cat_cons]
    simpa [pushL] using this

theorem rp_dot_end {out : List Bytes} {dst : Bytes} {first : Bool} (h : RP out dst first) : RPEnd (out ++ [[]]) (dst ++ [47]) := by
  refine ⟨by simp, ?_⟩
  rcases h.2 with ⟨rfl, hd⟩ | ⟨rfl, ho, hd⟩ | ⟨rfl, hd, y, o, ho, hy⟩
  · exact .inl (by rw [hd, cat_snoc]; simp)
  · exact .inl (by rw [hd, ho]; rfl)
  · refine .inr ⟨by rw [hd, cat_snoc], ?_⟩
    have := second_no (r := cat o ++ [47]) hy (h.1 y (by rw [ho]; exact .head _))
    rw [hd, ho, cat_cons]
    simpa using this

/-- Ahead of a round: rem is left. -/
def RL (full rem dst : Bytes) (first : Bool) : Prop :=
  (dst = [47] ∧ first = true ∧ ∃ ys, splitSl rem = [] :: ys ∧ ys ≠ [] ∧ cat (runL [] ys) = mergedS full ∧ ∀ x ∈ ys.dropLast, x ≠ []) ∨
  (∃ out, RP out dst first ∧ cat (runL out (splitSl rem)) = mergedS full ∧ ∀ x ∈ (splitSl rem).dropLast, x ≠ [])

def isDot (x : Bytes) : Prop := x = [46] ∨ x = [46, 46]

/-- The text dst, behind the last round. -/
def RPEndOf (full dst : Bytes) : Prop := ∃ out, RPEnd out dst ∧ mergedS full = cat out

/-- Behind the last round: elem was the last piece. -/
def RE (full elem dst : Bytes) : Prop := (isDot elem → RPEndOf full (dst ++ [47])) ∧ (¬ isDot elem → RPEndOf full dst)

section
variable {full rem dst dst' x r : Bytes} {first first' : Bool}

theorem rl_mid (h : RL full rem dst first) (hs : splitSl rem = x :: splitSl r) (hx : x ≠ []) :
    ∃ out, RP out dst first ∧ cat (runL (stepL false out x) (splitSl r)) = mergedS full ∧ ∀ y ∈ (splitSl r).dropLast, y ≠ [] := by
  have hf : (splitSl r).isEmpty = false := by
    cases h : splitSl r with
    | nil => exact absurd h (split_ne r)
    | cons _ _ => rfl
  rcases h with ⟨_, _, ys, he, _⟩ | ⟨out, hp, he, hm⟩
  · rw [hs] at he
    exact absurd (List.cons.inj he).1 hx
  · rw [hs] at he hm
    refine ⟨out, hp, ?_, fun y hy => hm y ?_⟩
    · rw [runL, hf] at he
      exact he
    · rw [List.dropLast_cons_of_ne_nil (split_ne r)]
      exact .tail _ hy

theorem rl_last (h : RL full rem dst first) (hs : splitSl rem = [x]) : ∃ out, RP out dst first ∧ cat (stepL true out x) = mergedS full := by
  rcases h with ⟨_, _, ys, he, hne, _⟩ | ⟨out, hp, he, _⟩
  · rw [hs] at he
    exact absurd (List.cons.inj he).2.symm hne
  · rw [hs] at he
    exact ⟨out, hp, he⟩

theorem rl_dot (h : RL full rem dst first) (hs : splitSl rem = [46] :: splitSl r) : RL full r dst false := by
  obtain ⟨out, hp, he, hm⟩ := rl_mid h hs (by simp)
  exact .inr ⟨out, rp_dot hp, by rw [stepL, if_pos rfl] at he; exact he, hm⟩

theorem rl_dots (h : RL full rem dst first) (hs : splitSl rem = [46, 46] :: splitSl r) (hu : UpTo dst dst' first') : RL full r dst' first' := by
  obtain ⟨out, hp, he, hm⟩ := rl_mid h hs (by simp)
  exact .inr ⟨out.dropLast, rp_dots hp hu, by rw [stepL, if_neg (by simp), if_pos rfl] at he; exact he, hm⟩

theorem rl_push (h : RL full rem dst first) (hs : splitSl rem = x :: splitSl r) (hd : ¬ isDot x) (hn : NoS x) : RL full r (pushL dst first x) false := by
  by_cases hx : x = []
  · subst hx
    rcases h with ⟨h1, h2, ys, he, _, hc, hm⟩ | ⟨out, _, _, hm⟩
    · rw [hs] at he
      have := (List.cons.inj he).2
      subst this
      refine .inr ⟨[], ⟨fun x hx => (by cases hx), .inl ⟨rfl, ?_⟩⟩, hc, hm⟩
      rw [h1, h2]; rfl
    · rw [hs, List.dropLast_cons_of_ne_nil (split_ne r)] at hm
      exact absurd rfl (hm [] (.head _))
  · obtain ⟨out, hp, he, hm⟩ := rl_mid h hs hx
    exact .inr ⟨out ++ [x], rp_push hp hx hn, by rw [stepL, if_neg (fun e => hd (.inl e)), if_neg (fun e => hd (.inr e))] at he; exact he, hm⟩

theorem re_dot (h : RL full rem dst first) (hs : splitSl rem = [[46]]) : RE full [46] dst := by
  obtain ⟨out, hp, he⟩ := rl_last h hs
  refine ⟨fun _ => ⟨out ++ [[]], rp_dot_end hp, by rw [stepL, if_pos rfl] at he; exact he.symm⟩, fun h => absurd (.inl rfl) h⟩

theorem re_dots (h : RL full rem dst first) (hs : splitSl rem = [[46, 46]]) (hu : UpTo dst dst' first') : RE full [46, 46] dst' := by
  obtain ⟨out, hp, he⟩ := rl_last h hs
  refine ⟨fun _ => ⟨out.dropLast ++ [[]], rp_dot_end (rp_dots hp hu), by rw [stepL, if_neg (by simp), if_pos rfl] at he; exact he.symm⟩, fun h => absurd (.inr rfl) h⟩

theorem re_push (h : RL full rem dst first) (hs : splitSl rem = [x]) (hd : ¬ isDot x) (hn : NoS x) : RE full x (pushL dst first x) := by
  obtain ⟨out, hp, he⟩ := rl_last h hs
  refine ⟨fun h => absurd h hd, fun _ => ⟨out ++ [x], rp_push_end hp hn, by rw [stepL, if_neg (fun e => hd (.inl e)), if_neg (fun e => hd (.inr e))] at he; exact he.symm⟩⟩
end

/-- What is returned. -/
theorem rp_result {full dst : Bytes} (h : RPEndOf full dst) : mergedS full = if dst[1]? = some 47 then dst.tail else dst := by
  obtain ⟨out, ⟨hne, h1 | ⟨h1, h2⟩⟩, he⟩ := h
  · obtain ⟨x, o, rfl⟩ : ∃ x o, out = x :: o := by
      cases out with
      | nil => exact absurd rfl hne
      | cons x o => exact ⟨x, o, rfl⟩
    rw [h1, cat_cons, he, cat_cons]
    simp
  · rw [if_neg h2, he, h1]
end Go.Proofs.YthphgelfiggleaaGreatDoor

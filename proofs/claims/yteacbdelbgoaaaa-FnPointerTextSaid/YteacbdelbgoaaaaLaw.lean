/-
  The law FnPointerText returns true for every text, and writes nothing that was there: a pointer has the text of which it was read. No condition.
  The frame was written by the kit's proof-skeleton.mjs; the walk is this session's.
-/
import Derived.Test.YteacbdelbgoaaaaRows
import Derived.WalkKit
import Derived.ProofKit
import Derived.OpenShut
import Derived.ShutString
import Derived.Below
import Derived.Test.YteacbdelbgoaaaaSteps
import Derived.Test.YteacbdelbgoaaaaText
namespace Go.Proofs.Yteacbdelbgoaaaa.fnPointerText
open Go.ChangeShapes Go.WideShapes Go.ChangeAt Go.RowKit
open Go.ChangeMaps (open_string shut_string)
set_option linter.unusedVariables false      -- a walk need not use every 'w<i>' (that an integer argument fits its kind)

theorem own : ownKnob Try.prog.godebug = none := by kernel_rfl

def TrueOut (w : World) (e : Ending) (w' : World) : Prop := e = .returned (.bool true) ∧ Below w.heap.size w w'

set_option maxHeartbeats 400000 in
theorem walk (a0 : ByteArray) (w : World) : Calls Try.prog 3 #[.string a0] w (TrueOut w) := by
  by_cases hs : (2147483647 : Int) < a0.size
  · go_enter Try.func3, Try.ntmps3
    go_wp2
    go_ret
    exact ⟨rfl, Below.refl _ _⟩
  · go_enter Try.func3, Try.ntmps3
    go_wp2_with fail
    refine (told_any a0 w (by omega)).mono ?_
    rintro e w' ⟨is, told, rfl, ht, hb⟩
    have HT := hid ht
    clear ht
    cases told
    · go_wp2
      go_ret
      exact ⟨rfl, hb⟩
    · have his : Hid (is = isP a0) := hid (HT.out rfl)
      clear HT
      go_wp2_with fail
      refine (ptext_any a0 _ (by omega)).mono ?_
      rintro e w2 ⟨r, ok, rfl, hok, hr, hb2⟩
      obtain rfl : ok = is := hok.trans his.out.symm
      clear hok his
      have hB := hid (hb.trans (hb2.mono hb.size))
      clear hb hb2
      cases ok
      · clear hr
        go_wp2
        go_ret
        exact ⟨rfl, hB.out⟩
      · obtain rfl : r = a0 := hr rfl
        clear hr
        have hq : (r.toList == r.toList) = true := by simp
        go_wp2
        go_ret
        exact ⟨rfl, hB.out⟩

/-! ### THE ROW's STEP: WRITTEN OUT: LEAVE IT -/
set_option maxRecDepth 100000 in
theorem lifted (os : Os) (started : os.Started) (H : Type) (enc : TypeId × Value → H) :
    ReturnsInHanded {} Try.checked os 3 .any (Rows.fnPointerTextSpec.pre6 enc Try.prog Try.f3 Rows.fnPointerTextRow.domain false) (Rows.fnPointerTextSpec.post enc Try.prog Try.f3 false true false false) := by
  refine returnsInHanded_of_change (C := Try.checked) own started (by kernel_rfl) Try.func3
    (ChangeSpec.witness6 (enc := enc) (C := Try.checked) false ⟨#[], #[.string ByteArray.empty], []⟩ 8 (by kernel_rfl) (by kernel_rfl) (by kernel_rfl) (by kernel_rfl)) ?_
  intro W base args ds gs before hval0 hW hcnd _
  have hval : ∀ (j : Nat) t v, Try.f3.params[j]? = some t → args[j]? = some v → Value.okWide Try.prog W .any base t v := hval0
  have hW' := hW
  obtain ⟨p, q, hA0, hV, rfl, hfz, hnd⟩ := hW
  have hA : DataW.TrodAll enc Try.prog W 0 (fun _ => true) true Try.f3.params.toList args.toList ds p := hA0
  rw [Try.params3] at hA hval
  obtain ⟨v0, vs0, d0, ds0, p0, q0, hargs, rfl, rfl, h0, r0⟩ := trodAll_cons hA
  obtain ⟨rfl, rfl, rfl⟩ := trodAll_nil r0
  obtain rfl : args = #[v0] := by cases args; simp_all
  obtain ⟨rfl, rfl⟩ := trodVars_none hV
  obtain ⟨a0, rfl, rfl, rfl, w0⟩ := open_string Try.underlying9 (hval 0 9 v0 rfl rfl) h0
  clear hA0 hval0
  simp only [List.append_nil] at hW'
  refine (walk a0 W).mono fun e W' ⟨he, hg⟩ => ?_
  subst he
  exact ⟨_, rfl, _, _, _, [], _, [], hW', trodAll_mk1 (shut_bool Try.underlying4 _), (trodAll_cons_mk (shut_string Try.underlying9 w0) trodAll_mk0), rfl, hg.frame _, fun h => by cases h⟩

theorem over : Rows.fnPointerTextRow.holds Try.pinned (OpenSpec.ofChange Rows.fnPointerTextSpec) :=
  OpenClaim.holds_of_wide 3 Try.f3 rfl rfl rfl rfl rfl rfl rfl ⟨rfl, rfl, rfl, rfl, rfl⟩ rfl rfl rfl rfl rfl (by kernel_rfl) Try.func3 (by kernel_rfl)
    (of_decide_eq_true (by kernel_rfl)) (by unfold Func.isWrapper; first | (rw [if_pos (by decide +kernel)]; kernel_rfl) | (rw [if_neg (by decide +kernel)]; exact ⟨rfl, rfl⟩))
    (fun os started H enc _ => lifted os started H enc)

/-- ████ THE STATEMENT ████ -/
theorem proved : Rows.FnPointerTextSaid :=
  over
#print axioms proved
end Go.Proofs.Yteacbdelbgoaaaa.fnPointerText

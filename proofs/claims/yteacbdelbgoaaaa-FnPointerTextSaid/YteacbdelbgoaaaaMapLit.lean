/-
  The map literal of steps in package spec: what it holds, step by step, in the world that made it.
-/
import Derived.Test.YteacbdelbgoaaaaPtr
import Derived.MapKept
import Derived.Carry
namespace Go.Proofs.Yteacbdelbgoaaaa
open Go.RowKit

theorem alloc_set (w : World) (o o' : Obj) : ({ w.alloc o with heap := (w.alloc o).heap.setIfInBounds w.heap.size o' } : World) = w.alloc o' := by
  have e : (w.alloc o).heap.setIfInBounds w.heap.size o' = (w.alloc o').heap := by
    show (w.heap.push o).setIfInBounds w.heap.size o' = w.heap.push o'
    apply Array.ext_getElem?
    intro i
    rw [Array.getElem?_setIfInBounds, Array.getElem?_push, Array.getElem?_push]
    by_cases h : w.heap.size = i
    · subst h; simp
    · rw [if_neg h, if_neg (Ne.symm h), if_neg (Ne.symm h)]
  rw [e]
  rfl

theorem upd8 (w : World) (es : Array MapEntry) (clock : Nat) (x : Int) (val : Value) (hno : Instr.findNow (.int .u8) (.int .u8 x) es.toList 0 = some none) :
    (Instr.mapUpdate 39 (.map (some w.heap.size)) (.int .u8 x) val).run Try.prog (w.alloc (.map es clock)) = .ok () (w.alloc (.map (es.push { key := .int .u8 x, val := val, born := clock }) (clock + 1))) := by
  have hb : (w.alloc (.map es clock)).heap[w.heap.size]? = some (.map es clock) := (MapKept.heap_alloc w _).1
  have hk : Try.prog.underlying 5 = some (.int .u8) := Try.underlying5
  have hc := MapKept.run_checkKey (P := Try.prog) (w := w.alloc (.map es clock)) (k := .int .u8 x) hk (by simp [MapKept.IsKey]) false 9999
  simp only [Instr.mapUpdate]
  simp [run_underlying Try.underlying39, MapKept.run_getObj_map hb, hc, MapKept.run_findKey hk hno, MapKept.run_setObj_map _ hb, Result.andThen]
  exact alloc_set _ _ _

theorem look8 (w : World) (es : Array MapEntry) (clock : Nat) (x : Int) (i : Nat) (v : Value) (hf : Instr.findNow (.int .u8) (.int .u8 x) es.toList 0 = some (some (i, v))) :
    (Instr.lookup 39 (.map (some w.heap.size)) (.int .u8 x) false).run Try.prog (w.alloc (.map es clock)) = .ok v (w.alloc (.map es clock)) := by
  have hb : (w.alloc (.map es clock)).heap[w.heap.size]? = some (.map es clock) := (MapKept.heap_alloc w _).1
  have hk : Try.prog.underlying 5 = some (.int .u8) := Try.underlying5
  have hc := MapKept.run_checkKey (P := Try.prog) (w := w.alloc (.map es clock)) (k := .int .u8 x) hk (by simp [MapKept.IsKey]) es.isEmpty 9999
  simp only [Instr.lookup]
  simp [run_underlying Try.underlying39, MapKept.run_getObj_map hb, hc, MapKept.run_findKey hk hf, Result.andThen]

def two0 : Array MapEntry := #[{ key := .int .u8 48, val := .string ⟨#[126]⟩, born := 0 }]
def two : Array MapEntry := #[{ key := .int .u8 48, val := .string ⟨#[126]⟩, born := 0 }, { key := .int .u8 49, val := .string ⟨#[47]⟩, born := 1 }]

theorem lit1 (w : World) : (Instr.mapUpdate 39 (.map (some w.heap.size)) (.int .u8 48) (.string ⟨#[126]⟩)).run Try.prog (w.alloc (.map #[] 0)) = .ok () (w.alloc (.map two0 1)) := upd8 w #[] 0 48 _ rfl
theorem lit2 (w : World) : (Instr.mapUpdate 39 (.map (some w.heap.size)) (.int .u8 49) (.string ⟨#[47]⟩)).run Try.prog (w.alloc (.map two0 1)) = .ok () (w.alloc (.map two 2)) := upd8 w two0 1 49 _ rfl
theorem lit48 (w : World) : (Instr.lookup 39 (.map (some w.heap.size)) (.int .u8 48) false).run Try.prog (w.alloc (.map two 2)) = .ok (.string ⟨#[126]⟩) (w.alloc (.map two 2)) := look8 w two 2 48 0 _ rfl
theorem lit49 (w : World) : (Instr.lookup 39 (.map (some w.heap.size)) (.int .u8 49) false).run Try.prog (w.alloc (.map two 2)) = .ok (.string ⟨#[47]⟩) (w.alloc (.map two 2)) := look8 w two 2 49 1 _ rfl
end Go.Proofs.Yteacbdelbgoaaaa

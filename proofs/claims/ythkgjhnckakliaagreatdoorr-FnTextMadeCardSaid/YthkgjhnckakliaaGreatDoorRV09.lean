/- Small laws: one cell loaded from a block; a literal of two numbers. -/
import Derived.Test.YthkgjhnckakliaaGreatDoorRV08
import Derived.Great.BuildSlice
namespace Go.Proofs.YthkgjhnckakliaaGreatDoorR
open Go.RowKit
section
variable {P : Program}
theorem wpList_load_cell {ops : Array Oper} {rest : List Oper} {op : Oper} {a : Act} {w : World} {Q : Exit → Act → World → Prop} (hgd : op.guard = none) (ty : TypeId) (x : Operand) (ho : op.op = .load ty x)
    (b i : Nat) (cs : Array Value) (v : Value) (hx : a.eval x = .pointer (some ⟨b, i, none⟩)) (hB : Block w b cs) (hv : cs[i]? = some v) (e : TypeId) (hu : P.underlying ty = some (.slice e))
    (h : wpList P ops Q rest (a.put op.dst v) w) : wpList P ops Q (op :: rest) a w := by
  have hc : w.cell? ⟨b, i, none⟩ = some v := by rw [hB.cell]; exact hv
  have hagg : (isAgg ty).run P w = .ok false w := by
    unfold isAgg
    rw [Sem.run_bind, run_underlying hu w]
    rfl
  have hrun : (Instr.loadAt ty (.pointer (some ⟨b, i, none⟩))).run P w = .ok v w := by
    simp [Instr.loadAt, Instr.sureAddr, loadVar, hagg, hc, go_sem, Result.andThen]
  refine wpList_plain hgd fun K hK => ?_
  unfold Oper.wp execOp
  simp only [ho, hx, Sem.run_bind, hrun, Result.andThen_ok]
  exact hK _ _ h
theorem wpList_build2 {ops : Array Oper} {rest : List Oper} {o : Oper} {a : Act} {w : World} {Q : Exit → Act → World → Prop} (hg : o.guard = none) (t e : TypeId) (parts : Array (Nat × Operand)) (ho : o.op = .buildSlice t 2 parts)
    (x y : Int) (hu : P.underlying t = some (.slice e)) (hsz : (P.info? e).map (·.size) = some 1) (hz : ((P.info? e).bind (·.zero)).isSome = true)
    (hparts : parts.toList = [(0, Operand.const (.int .i64 x)), (1, Operand.const (.int .i64 y))])
    (h : ∀ w', Block w' w.heap.size #[.int .i64 x, .int .i64 y] → Below w.heap.size w w' → w'.heap.size = w.heap.size + 1 → wpList P ops Q rest (a.put o.dst (.slice (some ⟨w.heap.size, 0, none⟩) 2 2)) w') : wpList P ops Q (o :: rest) a w := by
  refine wpList_buildFlat hg t e 2 parts ho .i64 [x, y] hu hsz hz rfl (by decide) (by decide) (by rw [hparts]; rfl) (h _ ⟨e, heap_alloc_new w _⟩ ((Below.refl _ _).alloc (Nat.le_refl _) _) (by simp))
theorem wpList_build2g {ops : Array Oper} {rest : List Oper} {o : Oper} {a : Act} {w : World} {Q : Exit → Act → World → Prop} (hg : o.guard = none) (t e : TypeId) (parts : Array (Nat × Operand)) (ho : o.op = .buildSlice t 2 parts)
    (x y : Int) (d : Option Tmp) (hd : o.dst = d) (hu : P.underlying t = some (.slice e)) (hsz : (P.info? e).map (·.size) = some 1) (hz : ((P.info? e).bind (·.zero)).isSome = true)
    (hparts : parts.toList = [(0, Operand.const (.int .i64 x)), (1, Operand.const (.int .i64 y))])
    (h : ∀ w' g, g = w.heap.size → Block w' g #[.int .i64 x, .int .i64 y] → Below w.heap.size w w' → w'.heap.size = w.heap.size + 1 → wpList P ops Q rest (a.put d (.slice (some ⟨g, 0, none⟩) 2 2)) w') : wpList P ops Q (o :: rest) a w := by
  subst hd
  exact wpList_build2 hg t e parts ho x y hu hsz hz hparts fun w' h1 h2 h3 => h w' _ rfl h1 h2 h3
end
end Go.Proofs.YthkgjhnckakliaaGreatDoorR

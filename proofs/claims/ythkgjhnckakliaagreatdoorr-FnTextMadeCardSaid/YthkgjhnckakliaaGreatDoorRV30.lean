/- Laws for a call that fills two structs of its own: what is known of their places, and how the walk loads and stores them.
  What the parts of buildRRule's walk share: the lists of known places, the code from a statement on.
  impl.rule from its loop on. -/
import Derived.Test.YthkgjhnckakliaaGreatDoorRV29
import Derived.Test.YthkgjhnckakliaaGreatDoorRV22
import Derived.Test.YthkgjhnckakliaaGreatDoorRV16
import Derived.Deep.AppendLies
import Derived.Test.YthkgjhnckakliaaGreatDoorRV04
import Derived.Great.Walk
import Derived.Deep.Cut
import Derived.Deep.CutBlock
import Derived.Deep.CutRange
import Derived.Deep.RegionHeld3
import Derived.Deep.RegionLaw
import Derived.Outline
import Derived.Test.YthkgjhnckakliaaGreatDoorRV24
namespace Go.Proofs.YthkgjhnckakliaaGreatDoorR
open Go.RowKit
def look : List (Nat × Value) → Nat → Option Value
  | [], _ => none
  | p :: r, i => bif Nat.beq i p.1 then some p.2 else look r i
theorem look_cons (k : Nat) (v : Value) (l : List (Nat × Value)) (i : Nat) : look ((k, v) :: l) i = if i = k then some v else look l i := by
  show (bif Nat.beq i k then some v else look l i) = _
  by_cases h : i = k
  · rw [if_pos h, show Nat.beq i k = true from Nat.beq_eq ▸ h]; rfl
  · rw [if_neg h, show Nat.beq i k = false from by cases hb : Nat.beq i k; rfl; exact absurd (Nat.eq_of_beq_eq_true hb) h]; rfl
theorem look_mem : ∀ {l : List (Nat × Value)} {i : Nat} {v : Value}, look l i = some v → (i, v) ∈ l
  | (k, u) :: r, i, v, h => by
    rw [look_cons] at h
    by_cases hi : i = k
    · rw [if_pos hi] at h; injection h with h; subst hi; subst h; simp
    · rw [if_neg hi] at h; exact List.mem_cons_of_mem _ (look_mem h)
/-- Block b has n cells of one cell each; the first are hd; at the places of l lies what l says. -/
def Kn (w : World) (b n : Nat) (hd : Array Value) (l : List (Nat × Value)) : Prop :=
  ∃ cs : Array Value, Block w b cs ∧ cs.size = n ∧ cs.all (·.oneCell') = true ∧ (∀ (i : Nat) (x : Value), hd[i]? = some x → cs[i]? = some x) ∧ ∀ (i : Nat) (x : Value), look l i = some x → cs[i]? = some x
theorem all_setIf {cs : Array Value} (h : cs.all (·.oneCell') = true) (i : Nat) {v : Value} (hv : v.oneCell' = true) : (cs.setIfInBounds i v).all (·.oneCell') = true := by
  rw [Array.all_eq_true_iff_forall_mem] at h ⊢
  intro x hx
  obtain ⟨j, hj⟩ := Array.mem_iff_getElem?.1 hx
  rw [Array.getElem?_setIfInBounds] at hj
  split at hj
  · split at hj
    · injection hj with hj; subst hj; exact hv
    · cases hj
  · exact h x (Array.mem_of_getElem? hj)
theorem Kn.load {w : World} {b n : Nat} {hd : Array Value} {l : List (Nat × Value)} (h : Kn w b n hd l) {i : Nat} {v : Value} (hl : look l i = some v) : w.cell? ⟨b, i, none⟩ = some v := by
  obtain ⟨cs, hB, _, _, _, hk⟩ := h; rw [hB.cell]; exact hk _ _ hl
theorem Kn.free {w : World} {b n : Nat} {hd : Array Value} {l : List (Nat × Value)} (h : Kn w b n hd l) (i : Nat) : w.frozen? ⟨b, i, none⟩ = false := by
  obtain ⟨cs, hB, _⟩ := h; exact hB.free i
theorem Kn.lt {w : World} {b n : Nat} {hd : Array Value} {l : List (Nat × Value)} (h : Kn w b n hd l) : b < w.heap.size := by
  obtain ⟨cs, hB, _⟩ := h; exact hB.lt
theorem Kn.there {w : World} {b n : Nat} {hd : Array Value} {l : List (Nat × Value)} (h : Kn w b n hd l) {i : Nat} (hi : i < n) : (w.cell? ⟨b, i, none⟩).isSome = true := by
  obtain ⟨cs, hB, hs, _⟩ := h; rw [hB.cell, Array.getElem?_eq_getElem (by omega)]; rfl
theorem Kn.heap {w w' : World} {b n : Nat} {hd : Array Value} {l : List (Nat × Value)} (h : Kn w b n hd l) (he : w'.heap[b]? = w.heap[b]?) : Kn w' b n hd l := by
  obtain ⟨cs, ⟨t, hB⟩, hr⟩ := h; exact ⟨cs, ⟨t, he.trans hB⟩, hr⟩
theorem Kn.store {w : World} {b n : Nat} {hd : Array Value} {l : List (Nat × Value)} (h : Kn w b n hd l) {i : Nat} (hi : hd.size ≤ i) (hn : i < n) {v : Value} (hv : v.oneCell' = true) : Kn (w.setCell ⟨b, i, none⟩ v) b n hd ((i, v) :: l) := by
  obtain ⟨cs, hB, hs, ho, hh, hk⟩ := h
  refine ⟨_, hB.set i v, by simp [hs], all_setIf ho i hv, fun j x hx => ?_, fun j x hx => ?_⟩
  · rw [Array.getElem?_setIfInBounds, if_neg (by have := (Array.getElem?_eq_some_iff.1 hx).1; omega)]; exact hh j x hx
  · rw [look_cons] at hx
    rw [Array.getElem?_setIfInBounds]
    by_cases hj : j = i
    · rw [if_pos hj] at hx; injection hx with hx; subst hx; subst hj; rw [if_pos rfl, if_pos (by omega)]
    · rw [if_neg hj] at hx; rw [if_neg (fun e => hj e.symm)]; exact hk j x hx
theorem Kn.re {w : World} {b n : Nat} {hd : Array Value} {l : List (Nat × Value)} (h : Kn w b n hd l) (l' : List (Nat × Value)) (hl : ∀ p ∈ l', look l p.1 = some p.2) : Kn w b n hd l' := by
  obtain ⟨cs, hB, hs, ho, hh, hk⟩ := h
  exact ⟨cs, hB, hs, ho, hh, fun i x hx => hk i x (hl (i, x) (look_mem hx))⟩
theorem Kn.of_block {w : World} {b n : Nat} {cs : Array Value} (h : Block w b cs) (hs : cs.size = n) (ho : cs.all (·.oneCell') = true) (l : List (Nat × Value)) (hl : ∀ p ∈ l, cs[p.1]? = some p.2) : Kn w b n #[] l :=
  ⟨cs, h, hs, ho, fun i x hx => by simp at hx, fun i x hx => hl (i, x) (look_mem hx)⟩
theorem all_cells {hd cs : Array Value} (h1 : hd.all (·.oneCell') = true) (h2 : cs.all (·.oneCell') = true) (k n : Nat) : ((cs.toList.take k ++ hd.toList ++ cs.toList.drop n).toArray).all (·.oneCell') = true := by
  rw [Array.all_eq_true_iff_forall_mem] at h1 h2 ⊢
  intro x hx
  simp only [List.mem_toArray, List.mem_append] at hx
  rcases hx with (hx | hx) | hx
  · exact h2 x (by simpa using List.mem_of_mem_take hx)
  · exact h1 x (by simpa using hx)
  · exact h2 x (by simpa using List.mem_of_mem_drop hx)
/-- A struct's head written whole. -/
theorem Kn.head {w : World} {b n : Nat} {hd : Array Value} {l : List (Nat × Value)} (h : Kn w b n #[] l) (hn : hd.size ≤ n) (hv : hd.all (·.oneCell') = true) (hl : ∀ p ∈ l, hd.size ≤ p.1 ∧ p.1 < n) : Kn (w.setCells b 0 hd.toList) b n hd l := by
  obtain ⟨cs, hB, hs, ho, _, hk⟩ := h
  have := Block.setMany hd.toList w b 0 cs hB (by simp; omega)
  refine ⟨_, this.1, by simp; omega, all_cells hv ho _ _, fun i x hx => ?_, fun i x hx => ?_⟩
  · have hlt := (Array.getElem?_eq_some_iff.1 hx).1
    simp only [List.take_zero, List.nil_append, List.getElem?_toArray]
    rw [List.getElem?_append_left (by simpa using hlt)]
    simpa using hx
  · obtain ⟨h1, h2⟩ := hl _ (look_mem hx)
    simp only at h1 h2
    have h3 := hk _ _ hx
    simp only [List.take_zero, List.nil_append, List.getElem?_toArray]
    rw [List.getElem?_append_right (by simpa using h1), List.getElem?_drop]
    simp only [Array.length_toList, Nat.zero_add, Array.getElem?_toList]
    rw [show hd.size + (i - hd.size) = i by omega]; exact h3
/-- Places behind the head written whole: what was known of the rest is let go. -/
theorem Kn.many {w : World} {b n : Nat} {hd : Array Value} {l : List (Nat × Value)} (h : Kn w b n hd l) (o : Nat) (vs : Array Value) (ho : hd.size ≤ o) (hn : o + vs.size ≤ n) (hv : vs.all (·.oneCell') = true) : Kn (w.setCells b o vs.toList) b n hd [] := by
  obtain ⟨cs, hB, hs, hone, hh, _⟩ := h
  have := Block.setMany vs.toList w b o cs hB (by simp; omega)
  refine ⟨_, this.1, by simp; omega, all_cells hv hone _ _, fun i x hx => ?_, fun i x hx => by cases hx⟩
  have hlt := (Array.getElem?_eq_some_iff.1 hx).1
  simp only [List.getElem?_toArray]
  rw [List.append_assoc, List.getElem?_append_left (by simp; omega), List.getElem?_take, if_pos (by omega)]
  simpa using hh i x hx
theorem setCells_but (b : Nat) : ∀ (vs : List Value) (w : World) (o : Nat), ButBelow b w (w.setCells b o vs)
  | [], _, _ => ButBelow.refl _ _
  | v :: r, w, o => ((ButBelow.refl b w).setCell o v).trans (setCells_but b r _ _)

/-- The world behind may differ from the one ahead in three old blocks. -/
structure But3 (x y z : Nat) (w w' : World) : Prop where
  os : w'.os = w.os
  tape : w'.tape = w.tape
  output : w'.output = w.output
  size : w.heap.size ≤ w'.heap.size
  block : ∀ k, k < w.heap.size → k ≠ x → k ≠ y → k ≠ z → w'.heap[k]? = w.heap[k]?
theorem But3.refl (x y z : Nat) (w : World) : But3 x y z w w := ⟨rfl, rfl, rfl, Nat.le_refl _, fun _ _ _ _ _ => rfl⟩
theorem But3.trans {x y z : Nat} {a b c : World} (h : But3 x y z a b) (k : But3 x y z b c) : But3 x y z a c :=
  ⟨k.os.trans h.os, k.tape.trans h.tape, k.output.trans h.output, Nat.le_trans h.size k.size, fun i hi h1 h2 h3 => (k.block i (Nat.lt_of_lt_of_le hi h.size) h1 h2 h3).trans (h.block i hi h1 h2 h3)⟩
theorem But3.of_below {x y z : Nat} {w w' : World} (h : Below w.heap.size w w') : But3 x y z w w' := ⟨h.os, h.tape, h.output, h.size, fun k hk _ _ _ => h.block k hk⟩
theorem But3.of1 {x y z : Nat} {w w' : World} (h : ButBelow x w w') : But3 x y z w w' := ⟨h.os, h.tape, h.output, h.size, fun k hk h1 _ _ => h.block k hk h1⟩
theorem But3.of2 {x y z : Nat} {w w' : World} (h : ButBelow y w w') : But3 x y z w w' := ⟨h.os, h.tape, h.output, h.size, fun k hk _ h1 _ => h.block k hk h1⟩
theorem But3.of3 {x y z : Nat} {w w' : World} (h : ButBelow z w w') : But3 x y z w w' := ⟨h.os, h.tape, h.output, h.size, fun k hk _ _ h1 => h.block k hk h1⟩
theorem But3.below {x y z B : Nat} {w w' : World} (h : But3 x y z w w') (hx : B ≤ x) (hy : B ≤ y) (hz : B ≤ z) (hB : B ≤ w.heap.size) : Below B w w' :=
  ⟨h.os, h.tape, h.output, h.size, fun k hk => h.block k (by omega) (by omega) (by omega) (by omega)⟩

/-- The call's three blocks: the parameter, the result, the variable; since W1 nothing else has turned. -/
structure BS (ab tb rb : Nat) (hd : Array Value) (W1 : World) (la lr : List (Nat × Value)) (w : World) : Prop where
  a : Kn w ab 19 #[] la
  z : Kn w tb 60 #[] []
  r : Kn w rb 60 hd lr
  n1 : ab ≠ rb
  n2 : tb ≠ rb
  n3 : ab ≠ tb
  b1 : ab < W1.heap.size
  b2 : tb < W1.heap.size
  b3 : rb < W1.heap.size
  but : But3 ab tb rb W1 w
section
variable {ab tb rb : Nat} {hd : Array Value} {W1 w w' : World} {la lr : List (Nat × Value)}
theorem BS.below (h : BS ab tb rb hd W1 la lr w) (hb : Below w.heap.size w w') : BS ab tb rb hd W1 la lr w' :=
  ⟨h.a.heap (hb.block _ h.a.lt), h.z.heap (hb.block _ h.z.lt), h.r.heap (hb.block _ h.r.lt), h.n1, h.n2, h.n3, h.b1, h.b2, h.b3, h.but.trans (But3.of_below hb)⟩
theorem BS.inA (h : BS ab tb rb hd W1 la lr w) (hb : ButBelow ab w w') {la' : List (Nat × Value)} (ha : Kn w' ab 19 #[] la') : BS ab tb rb hd W1 la' lr w' :=
  ⟨ha, h.z.heap (hb.block _ h.z.lt h.n3.symm), h.r.heap (hb.block _ h.r.lt h.n1.symm), h.n1, h.n2, h.n3, h.b1, h.b2, h.b3, h.but.trans (But3.of1 hb)⟩
theorem BS.inR (h : BS ab tb rb hd W1 la lr w) (hb : ButBelow rb w w') {hd' : Array Value} {lr' : List (Nat × Value)} (hr : Kn w' rb 60 hd' lr') : BS ab tb rb hd' W1 la lr' w' :=
  ⟨h.a.heap (hb.block _ h.a.lt h.n1), h.z.heap (hb.block _ h.z.lt h.n2), hr, h.n1, h.n2, h.n3, h.b1, h.b2, h.b3, h.but.trans (But3.of3 hb)⟩
theorem BS.grown (h : BS ab tb rb hd W1 la lr w) {row : Option Nat} (hg : w.grownBy w' row) (hr : ∀ k, row = some k → W1.heap.size ≤ k) : BS ab tb rb hd W1 la lr w' :=
  have ne : ∀ k, k < W1.heap.size → some k ≠ row := fun k hk e => by have := hr k e.symm; omega
  ⟨h.a.heap (hg.block _ h.a.lt (ne _ h.b1)), h.z.heap (hg.block _ h.z.lt (ne _ h.b2)), h.r.heap (hg.block _ h.r.lt (ne _ h.b3)), h.n1, h.n2, h.n3, h.b1, h.b2, h.b3,
    ⟨hg.os.trans h.but.os, hg.tape.trans h.but.tape, hg.output.trans h.but.output, Nat.le_trans h.but.size hg.size, fun k hk h1 h2 h3 => (hg.block k (Nat.lt_of_lt_of_le hk h.but.size) (ne k hk)).trans (h.but.block k hk h1 h2 h3)⟩⟩
theorem BS.base (h : BS ab tb rb hd W1 la lr w) : BS ab tb rb hd w la lr w := ⟨h.a, h.z, h.r, h.n1, h.n2, h.n3, h.a.lt, h.z.lt, h.r.lt, But3.refl _ _ _ _⟩
theorem BS.re (h : BS ab tb rb hd W1 la lr w) (la' lr' : List (Nat × Value)) (ha : ∀ p ∈ la', look la p.1 = some p.2) (hr : ∀ p ∈ lr', look lr p.1 = some p.2) : BS ab tb rb hd W1 la' lr' w :=
  ⟨h.a.re la' ha, h.z, h.r.re lr' hr, h.n1, h.n2, h.n3, h.b1, h.b2, h.b3, h.but⟩
end
section
variable {P : Program}
theorem run_storeVar_one (w : World) (b i : Nat) (ty : TypeId) (v : Value) (hc : (w.cell? ⟨b, i, none⟩).isSome = true) (hf : w.frozen? ⟨b, i, none⟩ = false) (hi : (P.info? ty).map (·.size) = some 1) (hv : v.oneCell' = true) :
    (storeVar ty ⟨b, i, none⟩ v).run P w = .ok () (w.setCell ⟨b, i, none⟩ v) := by
  have := run_storeCells_cells (P := P) b i [v] 0 w (fun j hj => by simp at hj; subst hj; simpa using hc) (fun j hj => by simp at hj; subst hj; simpa using hf) (fun u hu => by simp at hu; subst hu; exact hv)
  cases hq : P.info? ty with
  | none => simp [hq] at hi
  | some t =>
    have hs : t.size = 1 := by simpa [hq] using hi
    have hcells : v.cells = #[v] := by cases v <;> first | rfl | cases hv
    simp only [Nat.add_zero] at this
    simp [storeVar, sizeOf, typeInfo, hq, hcells, hs]
    exact this
theorem run_loadVar_one (w : World) (b i : Nat) (ty : TypeId) (v : Value) (hc : w.cell? ⟨b, i, none⟩ = some v) (hagg : (isAgg ty).run P w = .ok false w) : (loadVar ty ⟨b, i, none⟩).run P w = .ok v w := by
  simp [loadVar, hagg, hc, go_sem, Result.andThen]
section
variable {ops : Array Oper} {rest : List Oper} {op : Oper} {a : Act} {w : World} {Q : Exit → Act → World → Prop} {ab tb rb : Nat} {hd : Array Value} {W1 : World} {la lr : List (Nat × Value)}
theorem wpList_load_one (hgd : op.guard = none) (ty : TypeId) (x : Operand) (ho : op.op = .load ty x) (b i : Nat) (v : Value) (hx : a.eval x = .pointer (some ⟨b, i, none⟩)) (hc : w.cell? ⟨b, i, none⟩ = some v) (hagg : (isAgg ty).run P w = .ok false w)
    (h : wpList P ops Q rest (a.put op.dst v) w) : wpList P ops Q (op :: rest) a w := by
  refine wpList_plain hgd fun K hK => ?_
  unfold Oper.wp execOp
  simp only [ho, hx, Instr.loadAt, Instr.sureAddr, Sem.run_bind, Sem.run_pure, Result.andThen_ok, run_loadVar_one w b i ty v hc hagg]
  exact hK _ _ h
theorem wpList_store_one (hgd : op.guard = none) (ty : TypeId) (x y : Operand) (ho : op.op = .store ty x y) (b i : Nat) (v : Value) (hx : a.eval x = .pointer (some ⟨b, i, none⟩)) (hy : a.eval y = v)
    (hc : (w.cell? ⟨b, i, none⟩).isSome = true) (hf : w.frozen? ⟨b, i, none⟩ = false) (hi : (P.info? ty).map (·.size) = some 1) (hv : v.oneCell' = true)
    (h : wpList P ops Q rest (a.put op.dst undef) (w.setCell ⟨b, i, none⟩ v)) : wpList P ops Q (op :: rest) a w := by
  refine wpList_plain hgd fun K hK => ?_
  unfold Oper.wp execOp
  simp only [ho, hx, hy, Instr.storeAt, Instr.sureAddr, Sem.run_bind, Sem.run_pure, Result.andThen_ok, run_storeVar_one w b i ty v hc hf hi hv]
  exact hK _ _ h
theorem atld {dst : Option Tmp} {ty : TypeId} {x : Operand} {t : TypeId} {p : String} {af : Array Edge} {g : Option (Nat × Bool)} (h : wpList P ops Q (⟨dst, .load ty x, t, p, af, g⟩ :: rest) a w) : wpList P ops Q (⟨dst, .load ty x, t, p, af, g⟩ :: rest) a w := h
theorem atst {dst : Option Tmp} {ty : TypeId} {x y : Operand} {t : TypeId} {p : String} {af : Array Edge} {g : Option (Nat × Bool)} (h : wpList P ops Q (⟨dst, .store ty x y, t, p, af, g⟩ :: rest) a w) : wpList P ops Q (⟨dst, .store ty x y, t, p, af, g⟩ :: rest) a w := h
theorem bs_load1A (hS : BS ab tb rb hd W1 la lr w) (hgd : op.guard = none) (ty : TypeId) (x : Operand) (ho : op.op = .load ty x) (i : Nat) (v : Value) (hx : a.eval x = .pointer (some ⟨ab, i, none⟩)) (hl : look la i = some v) (hagg : ∀ w, (isAgg ty).run P w = .ok false w)
    (h : wpList P ops Q rest (a.put op.dst v) w) : wpList P ops Q (op :: rest) a w := wpList_load_one hgd ty x ho ab i v hx (hS.a.load hl) (hagg w) h
theorem bs_load1R (hS : BS ab tb rb hd W1 la lr w) (hgd : op.guard = none) (ty : TypeId) (x : Operand) (ho : op.op = .load ty x) (i : Nat) (v : Value) (hx : a.eval x = .pointer (some ⟨rb, i, none⟩)) (hl : look lr i = some v) (hagg : ∀ w, (isAgg ty).run P w = .ok false w)
    (h : wpList P ops Q rest (a.put op.dst v) w) : wpList P ops Q (op :: rest) a w := wpList_load_one hgd ty x ho rb i v hx (hS.r.load hl) (hagg w) h
theorem atw {op : Oper} {a : Act} {w : World} {K : Act → World → Prop} {Q : Exit → Act → World → Prop} (h : op.wp P a w K Q) : op.wp P a w K Q := h
theorem bs_gload1A {K : Act → World → Prop} (hS : BS ab tb rb hd W1 la lr w) (ty : TypeId) (x : Operand) (ho : op.op = .load ty x) (i : Nat) (v : Value) (hx : a.eval x = .pointer (some ⟨ab, i, none⟩)) (hl : look la i = some v) (hagg : ∀ w, (isAgg ty).run P w = .ok false w)
    (h : K (a.put op.dst v) w) : op.wp P a w K Q := by
  unfold Oper.wp execOp
  simp only [ho, hx, Instr.loadAt, Instr.sureAddr, Sem.run_bind, Sem.run_pure, Result.andThen_ok, run_loadVar_one w ab i ty v (hS.a.load hl) (hagg w)]
  exact h
theorem bs_gload1R {K : Act → World → Prop} (hS : BS ab tb rb hd W1 la lr w) (ty : TypeId) (x : Operand) (ho : op.op = .load ty x) (i : Nat) (v : Value) (hx : a.eval x = .pointer (some ⟨rb, i, none⟩)) (hl : look lr i = some v) (hagg : ∀ w, (isAgg ty).run P w = .ok false w)
    (h : K (a.put op.dst v) w) : op.wp P a w K Q := by
  unfold Oper.wp execOp
  simp only [ho, hx, Instr.loadAt, Instr.sureAddr, Sem.run_bind, Sem.run_pure, Result.andThen_ok, run_loadVar_one w rb i ty v (hS.r.load hl) (hagg w)]
  exact h
theorem range2 {b i : Nat} {u v : Value} (h1 : w.cell? ⟨b, i, none⟩ = some u) (h2 : w.cell? ⟨b, i + 1, none⟩ = some v) : w.rangeAt b i [u, v] := fun j x hx => by
  match j, hx with
  | 0, hx => simp at hx; subst hx; exact h1
  | 1, hx => simp at hx; subst hx; exact h2
theorem bs_load2A (hS : BS ab tb rb hd W1 la lr w) (hgd : op.guard = none) (ty : TypeId) (x : Operand) (ho : op.op = .load ty x) (i : Nat) (u v : Value) (hx : a.eval x = .pointer (some ⟨ab, i, none⟩)) (hl : look la i = some u) (hl2 : look la (i + 1) = some v) (d : TypeDesc)
    (hu : P.underlying ty = some d) (hd' : d.isRow = true) (hi : (P.info? ty).map (·.size) = some 2) (h : wpList P ops Q rest (a.put op.dst (.agg #[u, v])) w) : wpList P ops Q (op :: rest) a w :=
  wpList_load_mid hgd ty x ho ab i hx [u, v] d (range2 (hS.a.load hl) (hS.a.load hl2)) hu hd' hi h
theorem bs_load2R (hS : BS ab tb rb hd W1 la lr w) (hgd : op.guard = none) (ty : TypeId) (x : Operand) (ho : op.op = .load ty x) (i : Nat) (u v : Value) (hx : a.eval x = .pointer (some ⟨rb, i, none⟩)) (hl : look lr i = some u) (hl2 : look lr (i + 1) = some v) (d : TypeDesc)
    (hu : P.underlying ty = some d) (hd' : d.isRow = true) (hi : (P.info? ty).map (·.size) = some 2) (h : wpList P ops Q rest (a.put op.dst (.agg #[u, v])) w) : wpList P ops Q (op :: rest) a w :=
  wpList_load_mid hgd ty x ho rb i hx [u, v] d (range2 (hS.r.load hl) (hS.r.load hl2)) hu hd' hi h
theorem bs_store1A (hS : BS ab tb rb hd W1 la lr w) (hgd : op.guard = none) (ty : TypeId) (x y : Operand) (ho : op.op = .store ty x y) (i : Nat) (hx : a.eval x = .pointer (some ⟨ab, i, none⟩)) (hn : i < 19) (hi : (P.info? ty).map (·.size) = some 1) (hv : (a.eval y).oneCell' = true)
    (h : ∀ w' s, s = a.eval y → BS ab tb rb hd W1 ((i, s) :: la) lr w' → wpList P ops Q rest (a.put op.dst undef) w') : wpList P ops Q (op :: rest) a w :=
  wpList_store_one hgd ty x y ho ab i _ hx rfl (hS.a.there hn) (hS.a.free i) hi hv (h _ _ rfl (hS.inA ((ButBelow.refl _ _).setCell i _) (hS.a.store (Nat.zero_le _) hn hv)))
theorem bs_store1R (hS : BS ab tb rb hd W1 la lr w) (hgd : op.guard = none) (ty : TypeId) (x y : Operand) (ho : op.op = .store ty x y) (i : Nat) (hx : a.eval x = .pointer (some ⟨rb, i, none⟩)) (hn : i < 60) (hn0 : hd.size ≤ i) (hi : (P.info? ty).map (·.size) = some 1) (hv : (a.eval y).oneCell' = true)
    (h : ∀ w' s, s = a.eval y → BS ab tb rb hd W1 la ((i, s) :: lr) w' → wpList P ops Q rest (a.put op.dst undef) w') : wpList P ops Q (op :: rest) a w :=
  wpList_store_one hgd ty x y ho rb i _ hx rfl (hS.r.there hn) (hS.r.free i) hi hv (h _ _ rfl (hS.inR ((ButBelow.refl _ _).setCell i _) (hS.r.store hn0 hn hv)))
theorem bs_store1Rk (hS : BS ab tb rb hd W1 la lr w) (hgd : op.guard = none) (ty : TypeId) (x y : Operand) (ho : op.op = .store ty x y) (i : Nat) (v : Value) (hx : a.eval x = .pointer (some ⟨rb, i, none⟩)) (hy : a.eval y = v) (hn : i < 60) (hn0 : hd.size ≤ i) (hi : (P.info? ty).map (·.size) = some 1) (hv : v.oneCell' = true)
    (h : ∀ w', BS ab tb rb hd W1 la ((i, v) :: lr) w' → ButBelow rb w w' → wpList P ops Q rest (a.put op.dst undef) w') : wpList P ops Q (op :: rest) a w :=
  wpList_store_one hgd ty x y ho rb i v hx hy (hS.r.there hn) (hS.r.free i) hi hv (h _ (hS.inR ((ButBelow.refl _ _).setCell i v) (hS.r.store hn0 hn hv)) ((ButBelow.refl _ _).setCell i v))
theorem there2 {b n i : Nat} {hd : Array Value} {l : List (Nat × Value)} (h : Kn w b n hd l) (hn : i + 1 < n) : w.there b i 2 := fun j hj => by
  have : j = 0 ∨ j = 1 := by omega
  rcases this with rfl | rfl
  · exact ⟨h.there (by omega), h.free _⟩
  · exact ⟨h.there hn, h.free _⟩
theorem bs_store2A (hS : BS ab tb rb hd W1 la lr w) (hgd : op.guard = none) (ty : TypeId) (x y : Operand) (ho : op.op = .store ty x y) (i : Nat) (u v : Value) (hx : a.eval x = .pointer (some ⟨ab, i, none⟩)) (hy : a.eval y = .agg #[u, v]) (hn : i + 1 < 19) (hi : (P.info? ty).map (·.size) = some 2) (hu : u.oneCell' = true) (hv : v.oneCell' = true)
    (h : ∀ w', BS ab tb rb hd W1 ((i + 1, v) :: (i, u) :: la) lr w' → wpList P ops Q rest (a.put op.dst undef) w') : wpList P ops Q (op :: rest) a w :=
  wpList_store_mid hgd ty x y ho ab i #[u, v] hx hy (there2 hS.a hn) hi (by simp [hu, hv]) (h _ (hS.inA (setCells_but _ _ _ _) ((hS.a.store (Nat.zero_le _) (by omega) hu).store (Nat.zero_le _) hn hv)))
theorem bs_store2R (hS : BS ab tb rb hd W1 la lr w) (hgd : op.guard = none) (ty : TypeId) (x y : Operand) (ho : op.op = .store ty x y) (i : Nat) (u v : Value) (hx : a.eval x = .pointer (some ⟨rb, i, none⟩)) (hy : a.eval y = .agg #[u, v]) (hn : i + 1 < 60) (hn0 : hd.size ≤ i) (hi : (P.info? ty).map (·.size) = some 2) (hu : u.oneCell' = true) (hv : v.oneCell' = true)
    (h : ∀ w', BS ab tb rb hd W1 la ((i + 1, v) :: (i, u) :: lr) w' → wpList P ops Q rest (a.put op.dst undef) w') : wpList P ops Q (op :: rest) a w :=
  wpList_store_mid hgd ty x y ho rb i #[u, v] hx hy (there2 hS.r hn) hi (by simp [hu, hv]) (h _ (hS.inR (setCells_but _ _ _ _) ((hS.r.store hn0 (by omega) hu).store (by omega) hn hv)))
end
end
theorem SlI.form2 {rb : Nat} {w : World} {v : Value} {l : List Int} (h : SlI rb w v l) : ∃ a c, v = .slice a l.length c := by
  obtain ⟨⟨a, c, h, _⟩, _⟩ := h; rw [ints_length] at h; exact ⟨_, _, h⟩
/-- A list of numbers from 0 to m. -/
def Rng (m : Int) (l : List Int) : Prop := l.length ≤ 2001 ∧ ∀ x ∈ l, 0 ≤ x ∧ x ≤ m
theorem Rng.of_within {l : List Int} {m : Int} (h : Pl.within l 0 m false = true) (hl : l.length ≤ 2001) : Rng m l := by
  refine ⟨hl, fun x hx => ?_⟩
  have := List.all_eq_true.1 h x hx
  simp [Pl.outside] at this; omega
/-- Rows outside the call's three blocks. -/
def RowX (ab tb rb : Nat) (w : World) (v : Value) (vs : List (Value)) : Prop := Row w v vs ∧ (vs ≠ [] → ∀ k, v.ownBlock = some k → k ≠ ab ∧ k ≠ tb ∧ k ≠ rb)
theorem Row.own {w : World} {v : Value} {vs : List (Value)} (h : Row w v vs) (hne : vs ≠ []) (k : Nat) (hk : v.ownBlock = some k) : k < w.heap.size := by
  obtain ⟨a, cap, rfl, h2, h3⟩ := h
  obtain ⟨b, o, rfl, hbl, _⟩ := h3 hne
  simp [Value.ownBlock] at hk; omega
theorem Row.keep {w w' : World} {v : Value} {vs : List (Value)} (h : Row w v vs) (hk : vs ≠ [] → ∀ k, k < w.heap.size → v.ownBlock = some k → w'.heap[k]? = w.heap[k]?) (hs : w.heap.size ≤ w'.heap.size) : Row w' v vs := by
  obtain ⟨a, cap, rfl, h2, h3⟩ := h
  refine ⟨a, cap, rfl, h2, fun hne => ?_⟩
  obtain ⟨b, o, rfl, hbl, hc⟩ := h3 hne
  exact ⟨b, o, rfl, Nat.lt_of_lt_of_le hbl hs, fun i x hx => by rw [World.cell?_of_block (w := w) (a := ⟨b, o + i, none⟩) (hk hne b hbl rfl)]; exact hc i x hx⟩
theorem RowX.but {ab tb rb : Nat} {w w' : World} {v : Value} {vs : List (Value)} (h : RowX ab tb rb w v vs) (hb : But3 ab tb rb w w') : RowX ab tb rb w' v vs :=
  ⟨h.1.keep (fun hne k hk he => let ⟨h1, h2, h3⟩ := h.2 hne k he; hb.block k hk h1 h2 h3) hb.size, h.2⟩
/-- A row that was there ahead of the call. -/
theorem RowX.old {ab tb rb : Nat} {w w' : World} {v : Value} {vs : List (Value)} (h : Row w v vs) (hb : Below w.heap.size w w') (hg : w.heap.size ≤ ab ∧ w.heap.size ≤ tb ∧ w.heap.size ≤ rb) : RowX ab tb rb w' v vs :=
  ⟨h.below hb, fun hne k hk => by have := h.own hne k hk; omega⟩
def RowPX (ab tb rb : Nat) (w : World) (v : Value) (vs : List (Int × Int)) : Prop := RowP w v vs ∧ (vs ≠ [] → ∀ k, v.ownBlock = some k → k ≠ ab ∧ k ≠ tb ∧ k ≠ rb)
theorem RowP.own {w : World} {v : Value} {vs : List (Int × Int)} (h : RowP w v vs) (hne : vs ≠ []) (k : Nat) (hk : v.ownBlock = some k) : k < w.heap.size := by
  obtain ⟨a, cap, rfl, h2, h3⟩ := h
  obtain ⟨b, o, rfl, hbl, _⟩ := h3 hne
  simp [Value.ownBlock] at hk; omega
theorem RowP.keep {w w' : World} {v : Value} {vs : List (Int × Int)} (h : RowP w v vs) (hk : vs ≠ [] → ∀ k, k < w.heap.size → v.ownBlock = some k → w'.heap[k]? = w.heap[k]?) (hs : w.heap.size ≤ w'.heap.size) : RowP w' v vs := by
  obtain ⟨a, cap, rfl, h2, h3⟩ := h
  refine ⟨a, cap, rfl, h2, fun hne => ?_⟩
  obtain ⟨b, o, rfl, hbl, hc⟩ := h3 hne
  exact ⟨b, o, rfl, Nat.lt_of_lt_of_le hbl hs, fun i p hp => by
    rw [World.cell?_of_block (w := w) (a := ⟨b, o + 2 * i, none⟩) (hk hne b hbl rfl), World.cell?_of_block (w := w) (a := ⟨b, o + 2 * i + 1, none⟩) (hk hne b hbl rfl)]; exact hc i p hp⟩
theorem RowPX.but {ab tb rb : Nat} {w w' : World} {v : Value} {vs : List (Int × Int)} (h : RowPX ab tb rb w v vs) (hb : But3 ab tb rb w w') : RowPX ab tb rb w' v vs :=
  ⟨h.1.keep (fun hne k hk he => let ⟨h1, h2, h3⟩ := h.2 hne k he; hb.block k hk h1 h2 h3) hb.size, h.2⟩
/-- A row that was there ahead of the call. -/
theorem RowPX.old {ab tb rb : Nat} {w w' : World} {v : Value} {vs : List (Int × Int)} (h : RowP w v vs) (hb : Below w.heap.size w w') (hg : w.heap.size ≤ ab ∧ w.heap.size ≤ tb ∧ w.heap.size ≤ rb) : RowPX ab tb rb w' v vs :=
  ⟨h.below hb, fun hne k hk => by have := h.own hne k hk; omega⟩
theorem RowX.nil (ab tb rb : Nat) (w : World) : RowX ab tb rb w (.slice none 0 0) [] := ⟨Row.nil w, fun h => absurd rfl h⟩
/-- A literal of one cell, in a block of its own. -/
theorem RowX.one {ab tb rb : Nat} {w w' : World} (x : Value) (t : TypeId) (hb : But3 ab tb rb (w.alloc (.cells #[x] t)) w') (h1 : ab < w.heap.size) (h2 : tb < w.heap.size) (h3 : rb < w.heap.size) : RowX ab tb rb w' (.slice (some ⟨w.heap.size, 0, none⟩) 1 1) [x] :=
  RowX.but ⟨⟨_, 1, rfl, Nat.le_refl _, fun _ => ⟨w.heap.size, 0, rfl, by simp, fun i y hy => by
    match i, hy with
    | 0, hy => simp at hy; subst hy; simp⟩⟩, fun _ k hk => by simp [Value.ownBlock] at hk; omega⟩ hb
theorem RowPX.one {ab tb rb : Nat} {w w' : World} (x y : Int) (t : TypeId) (hb : But3 ab tb rb (w.alloc (.cells #[.int .i64 x, .int .i64 y] t)) w') (h1 : ab < w.heap.size) (h2 : tb < w.heap.size) (h3 : rb < w.heap.size) : RowPX ab tb rb w' (.slice (some ⟨w.heap.size, 0, none⟩) 1 1) [(x, y)] :=
  RowPX.but ⟨⟨_, 1, rfl, Nat.le_refl _, fun _ => ⟨w.heap.size, 0, rfl, by simp, fun i p hp => by
    match i, hp with
    | 0, hp => simp at hp; subst hp; simp⟩⟩, fun _ k hk => by simp [Value.ownBlock] at hk; omega⟩ hb
theorem BS.bel {ab tb rb : Nat} {hd : Array Value} {W1 w wx : World} {la lr : List (Nat × Value)} (h : BS ab tb rb hd W1 la lr wx) (hb : Below w.heap.size w W1) (hg : w.heap.size ≤ ab ∧ w.heap.size ≤ tb ∧ w.heap.size ≤ rb) : Below w.heap.size w wx := hb.trans (h.but.below hg.1 hg.2.1 hg.2.2 hb.size)
section
variable {P : Program} {ops : Array Oper} {rest : List Oper} {op : Oper} {a : Act} {w : World} {Q : Exit → Act → World → Prop} {ab tb rb : Nat} {hd : Array Value} {W1 : World} {la lr : List (Nat × Value)}
/-- A literal of one cell is stored into the parameter. -/
theorem bs_freshA (hS : BS ab tb rb hd W1 la lr w) (hgd : op.guard = none) (ty : TypeId) (x y : Operand) (ho : op.op = .store ty x y) (i : Nat) (u : Value) (t : TypeId) (hx : a.eval x = .pointer (some ⟨ab, i, none⟩)) (hy : a.eval y = .slice (some ⟨w.heap.size, 0, none⟩) 1 1) (hn : i < 19) (hi : (P.info? ty).map (·.size) = some 1)
    (h : ∀ w' s, (∃ p n c, s = .slice p n c) → BS ab tb rb hd W1 ((i, s) :: la) lr w' → RowX ab tb rb w' s [u] → wpList P ops Q rest (a.put op.dst undef) w') : wpList P ops Q (op :: rest) a (w.alloc (.cells #[u] t)) := by
  have hS2 := hS.below ((Below.refl _ _).alloc (Nat.le_refl _) (.cells #[u] t))
  refine wpList_store_one hgd ty x y ho ab i _ hx hy (hS2.a.there hn) (hS2.a.free i) hi rfl (h _ _ ⟨_, _, _, rfl⟩ (hS2.inA ((ButBelow.refl _ _).setCell i _) (hS2.a.store (Nat.zero_le _) hn rfl)) ?_)
  exact RowX.one u t (But3.of1 ((ButBelow.refl _ _).setCell i _)) hS.a.lt hS.z.lt hS.r.lt
theorem bs_freshR (hS : BS ab tb rb hd W1 la lr w) (hgd : op.guard = none) (ty : TypeId) (x y : Operand) (ho : op.op = .store ty x y) (i : Nat) (u : Value) (t : TypeId) (hx : a.eval x = .pointer (some ⟨rb, i, none⟩)) (hy : a.eval y = .slice (some ⟨w.heap.size, 0, none⟩) 1 1) (hn : i < 60) (hn0 : hd.size ≤ i) (hi : (P.info? ty).map (·.size) = some 1)
    (h : ∀ w' s, (∃ p n c, s = .slice p n c) → BS ab tb rb hd W1 la ((i, s) :: lr) w' → RowX ab tb rb w' s [u] → wpList P ops Q rest (a.put op.dst undef) w') : wpList P ops Q (op :: rest) a (w.alloc (.cells #[u] t)) := by
  have hS2 := hS.below ((Below.refl _ _).alloc (Nat.le_refl _) (.cells #[u] t))
  refine wpList_store_one hgd ty x y ho rb i _ hx hy (hS2.r.there hn) (hS2.r.free i) hi rfl (h _ _ ⟨_, _, _, rfl⟩ (hS2.inR ((ButBelow.refl _ _).setCell i _) (hS2.r.store hn0 hn rfl)) ?_)
  exact RowX.one u t (But3.of3 ((ButBelow.refl _ _).setCell i _)) hS.a.lt hS.z.lt hS.r.lt
theorem bs_fresh2A (hS : BS ab tb rb hd W1 la lr w) (hgd : op.guard = none) (ty : TypeId) (x y : Operand) (ho : op.op = .store ty x y) (i : Nat) (u v : Int) (t : TypeId) (hx : a.eval x = .pointer (some ⟨ab, i, none⟩)) (hy : a.eval y = .slice (some ⟨w.heap.size, 0, none⟩) 1 1) (hn : i < 19) (hi : (P.info? ty).map (·.size) = some 1)
    (h : ∀ w' s, (∃ p n c, s = .slice p n c) → BS ab tb rb hd W1 ((i, s) :: la) lr w' → RowPX ab tb rb w' s [(u, v)] → wpList P ops Q rest (a.put op.dst undef) w') : wpList P ops Q (op :: rest) a (w.alloc (.cells #[.int .i64 u, .int .i64 v] t)) := by
  have hS2 := hS.below ((Below.refl _ _).alloc (Nat.le_refl _) (.cells #[.int .i64 u, .int .i64 v] t))
  refine wpList_store_one hgd ty x y ho ab i _ hx hy (hS2.a.there hn) (hS2.a.free i) hi rfl (h _ _ ⟨_, _, _, rfl⟩ (hS2.inA ((ButBelow.refl _ _).setCell i _) (hS2.a.store (Nat.zero_le _) hn rfl)) ?_)
  exact RowPX.one u v t (But3.of1 ((ButBelow.refl _ _).setCell i _)) hS.a.lt hS.z.lt hS.r.lt
end
section
variable {P : Program} {ops : Array Oper} {rest : List Oper} {op : Oper} {a : Act} {w : World} {Q : Exit → Act → World → Prop} {ab tb rb : Nat} {hd : Array Value} {W1 : World} {la lr : List (Nat × Value)}
theorem Kn.range {b n : Nat} {l : List (Nat × Value)} (h : Kn w b n hd l) : ∃ cs : Array Value, w.rangeAt b 0 cs.toList ∧ cs.size = n ∧ cs.all (·.oneCell') = true ∧ ∀ (i : Nat) (x : Value), hd[i]? = some x → cs[i]? = some x := by
  obtain ⟨cs, hB, h1, h2, h3, _⟩ := h; exact ⟨cs, hB.range, h1, h2, h3⟩
theorem bs_loadAllA (hS : BS ab tb rb hd W1 la lr w) (hgd : op.guard = none) (ty : TypeId) (x : Operand) (ho : op.op = .load ty x) (hx : a.eval x = .pointer (some ⟨ab, 0, none⟩)) (d : TypeDesc) (hu : P.underlying ty = some d) (hd' : d.isRow = true) (hi : (P.info? ty).map (·.size) = some 19)
    (h : ∀ cs : Array Value, cs.size = 19 → cs.all (·.oneCell') = true → wpList P ops Q rest (a.put op.dst (.agg cs)) w) : wpList P ops Q (op :: rest) a w := by
  obtain ⟨cs, h1, h2, h3, _⟩ := hS.a.range
  exact wpList_load_mid hgd ty x ho ab 0 hx cs.toList d h1 hu hd' (by simpa [h2] using hi) (by simpa using h cs h2 h3)
theorem bs_loadAllR (hS : BS ab tb rb hd W1 la lr w) (hgd : op.guard = none) (ty : TypeId) (x : Operand) (ho : op.op = .load ty x) (hx : a.eval x = .pointer (some ⟨rb, 0, none⟩)) (d : TypeDesc) (hu : P.underlying ty = some d) (hd' : d.isRow = true) (hi : (P.info? ty).map (·.size) = some 60)
    (h : ∀ cs : Array Value, cs.size = 60 → cs.all (·.oneCell') = true → (∀ (i : Nat) (x : Value), hd[i]? = some x → cs[i]? = some x) → wpList P ops Q rest (a.put op.dst (.agg cs)) w) : wpList P ops Q (op :: rest) a w := by
  obtain ⟨cs, h1, h2, h3, h4⟩ := hS.r.range
  exact wpList_load_mid hgd ty x ho rb 0 hx cs.toList d h1 hu hd' (by simpa [h2] using hi) (by simpa using h cs h2 h3 h4)
theorem bs_store19 (hS : BS ab tb rb hd W1 la lr w) (hgd : op.guard = none) (ty : TypeId) (x y : Operand) (ho : op.op = .store ty x y) (cs : Array Value) (hx : a.eval x = .pointer (some ⟨rb, 19, none⟩)) (hy : a.eval y = .agg cs) (hsz : cs.size = 19) (hone : cs.all (·.oneCell') = true) (hn0 : hd.size ≤ 19) (hi : (P.info? ty).map (·.size) = some 19)
    (h : ∀ w', BS ab tb rb hd W1 la [] w' → wpList P ops Q rest (a.put op.dst undef) w') : wpList P ops Q (op :: rest) a w :=
  wpList_store_mid hgd ty x y ho rb 19 cs hx hy (fun j hj => ⟨hS.r.there (by omega), hS.r.free _⟩) (by rw [hsz]; exact hi) hone (h _ (hS.inR (setCells_but _ _ _ _) (hS.r.many 19 cs hn0 (by omega) hone)))
theorem bs_storeZ (hS : BS ab tb rb hd W1 la lr w) (hgd : op.guard = none) (ty : TypeId) (x y : Operand) (ho : op.op = .store ty x y) (cs : Array Value) (hx : a.eval x = .pointer (some ⟨tb, 0, none⟩)) (hy : a.eval y = .agg cs) (hsz : cs.size = 60) (hone : cs.all (·.oneCell') = true) (hi : (P.info? ty).map (·.size) = some 60)
    (h : ∀ w', Block w' tb cs → ButBelow tb w w' → wpList P ops Q rest (a.put op.dst undef) w') : wpList P ops Q (op :: rest) a w := by
  obtain ⟨c0, hB, h1, _⟩ := hS.z
  exact wpList_store_block hgd ty x y ho tb c0 cs hx hy hB (by omega) (by rw [hsz]; exact hi) hone h
end
theorem ButBelow.grownBy {rb : Nat} {w w' : World} (h : ButBelow rb w w') : w.grownBy w' (some rb) := ⟨h.os, h.tape, h.output, h.size, fun k hk hne => h.block k hk (fun e => hne (by rw [e]))⟩
/-- Two slices own no block together. -/
def DJ (u v : Value) : Prop := ∀ k, u.ownBlock = some k → v.ownBlock = some k → False
theorem DJ.symm {u v : Value} (h : DJ u v) : DJ v u := fun k h1 h2 => h k h2 h1
theorem own_ne {w : World} {B e sz : Nat} {v : Value} {n : Nat} {xs : List Value} (h : w.ownsRow B e sz v n xs) {rb : Nat} (hrb : rb < B) : v.ownBlock = none ∨ v.ownBlock ≠ some rb := by
  cases hv : v.ownBlock with
  | none => exact Or.inl rfl
  | some k => exact Or.inr (fun e => by injection e with e; have := (h.lt k hv).1; omega)
/-- One slice grows by an element and goes back into its place: it owns its row, and so does the other. -/
theorem own_step {w w3 w4 : World} {B e1 s1 e2 s2 : Nat} {v1 v2 : Value} {m1 m2 : Nat} {xs1 xs2 ys : List Value} {o : Obj} {g n c rb : Nat} (h1 : w.ownsRow B e1 s1 v1 m1 xs1) (h2 : w.ownsRow B e2 s2 v2 m2 xs2) (hD : DJ v1 v2) (hrb : rb < B)
    (h3 : w3.ownsRow B e1 s1 (.slice (some ⟨g, 0, none⟩) n c) n ys) (hg : (w.alloc o).grownBy w3 v1.ownBlock) (hat : v1.ownBlock = some g ∨ g = (w.alloc o).heap.size) (hb : ButBelow rb w3 w4) :
    w4.ownsRow B e1 s1 (.slice (some ⟨g, 0, none⟩) n c) n ys ∧ w4.ownsRow B e2 s2 v2 m2 xs2 ∧ DJ (.slice (some ⟨g, 0, none⟩) n c) v2 := by
  have _ := h1
  refine ⟨h3.kept hb.grownBy (own_ne h3 hrb), ?_, ?_⟩
  · refine ((h2.alloc o).kept hg ?_).kept hb.grownBy (own_ne h2 hrb)
    cases hv : v2.ownBlock with
    | none => exact Or.inl rfl
    | some k => exact Or.inr (fun e => hD k e.symm hv)
  · intro k hk hk2
    simp [Value.ownBlock] at hk
    subst hk
    rcases hat with hat | hat
    · exact hD g hat hk2
    · have := (h2.lt g hk2).2
      simp at hat; omega
end Go.Proofs.YthkgjhnckakliaaGreatDoorR
namespace Go.Proofs.YthkgjhnckakliaaGreatDoorR
open Go.RowKit
def zRR : Array Value := #[.int .i64 0, .int .i64 0, .int .i64 0, .int .i64 0, .int .i64 0, .int .i64 0, .int .i64 0, .int .i64 0, .int .i64 0, .slice none 0 0, .slice none 0 0, .slice none 0 0, .slice none 0 0, .slice none 0 0, .slice none 0 0, .slice none 0 0, .slice none 0 0, .slice none 0 0, .slice none 0 0, .int .i64 0, .int .i64 0, .int .i64 0, .int .i64 0, .int .i64 0, .int .i64 0, .int .i64 0, .int .i64 0, .int .i64 0, .slice none 0 0, .slice none 0 0, .slice none 0 0, .slice none 0 0, .slice none 0 0, .slice none 0 0, .slice none 0 0, .slice none 0 0, .slice none 0 0, .slice none 0 0, .int .i64 0, .int .i64 0, .int .i64 0, .int .i64 0, .int .i64 0, .int .i64 0, .int .i64 0, .int .i64 0, .slice none 0 0, .slice none 0 0, .slice none 0 0, .slice none 0 0, .slice none 0 0, .slice none 0 0, .slice none 0 0, .slice none 0 0, .slice none 0 0, .slice none 0 0, .slice none 0 0, .slice none 0 0, .slice none 0 0, .int .i64 0]
theorem zRR_one : zRR.all (·.oneCell') = true := by simp [zRR, Value.oneCell']
/-- What is known of an option's places. -/
def argL (f : Nat) (s i k c u : Int) (x1 x2 x3 x4 x5 x6 x7 x8 x9 x10 : Value) : List (Nat × Value) :=
  [(0, .int .i64 (f : Nat)), (1, .int .i64 s), (2, .int .i64 0), (3, .int .i64 i), (4, .int .i64 k), (6, .int .i64 c), (7, .int .i64 u), (8, .int .i64 0), (9, x1), (10, x2), (11, x3), (12, x4), (13, x5), (14, x6), (15, x7), (16, x8), (17, x9), (18, x10)]
/-- The variable's places that begin as nil and are read again. -/
def restL : List (Nat × Value) := [(48, .slice none 0 0), (49, .slice none 0 0), (52, .slice none 0 0), (53, .slice none 0 0), (54, .slice none 0 0), (55, .slice none 0 0), (56, .slice none 0 0)]
def restL2 : List (Nat × Value) := [(52, .slice none 0 0), (53, .slice none 0 0), (54, .slice none 0 0), (55, .slice none 0 0), (56, .slice none 0 0)]
def restL3 : List (Nat × Value) := [(54, .slice none 0 0), (55, .slice none 0 0), (56, .slice none 0 0)]
/-- The times gathered so far: a row of pairs of numbers that the call owns. -/
def TSt (ab tb rb : Nat) (ic : Array Value) (W2 : World) (la lr : List (Nat × Value)) (bound : Nat) (wr : World) : Prop :=
  ∃ (g m cap : Nat) (xs : List Value), BS ab tb rb ic W2 la ((58, .slice (some ⟨g, 0, none⟩) m cap) :: lr) wr ∧ wr.ownsRow W2.heap.size 59 2 (.slice (some ⟨g, 0, none⟩) m cap) m xs ∧ m ≤ bound ∧ ∀ x ∈ xs, ∃ z : Int, x = .int .i64 z
theorem TSt.mono {ab tb rb : Nat} {ic : Array Value} {W2 : World} {la lr : List (Nat × Value)} {b b' : Nat} {wr : World} (h : TSt ab tb rb ic W2 la lr b wr) (hb : b ≤ b') : TSt ab tb rb ic W2 la lr b' wr := by
  obtain ⟨g, m, cap, xs, h1, h2, h3, h4⟩ := h; exact ⟨g, m, cap, xs, h1, h2, Nat.le_trans h3 hb, h4⟩
/-- An element of a row of numbers that lay there at the loop's start. -/
theorem RowX.elem {ab tb rb : Nat} {w : World} {p : Option Addr} {c k : Nat} {l : List Int} {x : Int} (h : RowX ab tb rb w (.slice p l.length c) (ints l)) (hx : l[k]? = some x) : ∃ b o, p = some ⟨b, o, none⟩ ∧ w.cell? ⟨b, o + k, none⟩ = some (.int .i64 x) := by
  obtain ⟨pa, ca, he, _, hr⟩ := h.1
  injection he with he _ _
  have hlt : k < l.length := (List.getElem?_eq_some_iff.1 hx).1
  obtain ⟨b, o, h1, h2, h3⟩ := hr (by intro h; have hl := ints_length l; rw [h] at hl; simp at hl; omega)
  exact ⟨b, o, he.trans h1, h3 k _ (by simp [ints, hx])⟩
theorem restL_hi : ∀ p ∈ restL, 19 ≤ p.1 ∧ p.1 < 60 := by decide
theorem oneCell_slice {v : Value} (h : ∃ a n c, v = .slice a n c) : v.oneCell' = true := by obtain ⟨a, n, c, rfl⟩ := h; rfl
theorem icells_one (r : PR) (v : PV) (b : Nat) (w : World) (h : PRows b w r v) : (r.icells v).all (·.oneCell') = true := by
  obtain ⟨_, _, _, e0⟩ := h.setPos.form
  obtain ⟨_, _, _, e1⟩ := h.month.form
  obtain ⟨_, _, _, e2⟩ := h.monthDay.form
  obtain ⟨_, _, _, e3⟩ := h.yearDay.form
  obtain ⟨_, _, _, e4⟩ := h.weekNo.form
  obtain ⟨_, _, _, e5⟩ := h.day.form
  obtain ⟨_, _, _, e6⟩ := h.hour.form
  obtain ⟨_, _, _, e7⟩ := h.minute.form
  obtain ⟨_, _, _, e8⟩ := h.second.form
  obtain ⟨_, _, _, e9⟩ := h.easter.form
  unfold PR.icells
  rw [e0, e1, e2, e3, e4, e5, e6, e7, e8, e9]
  simp [Value.oneCell']
theorem BS.reR {ab tb rb : Nat} {hd : Array Value} {W1 w : World} {la lr : List (Nat × Value)} (h : BS ab tb rb hd W1 la lr w) (lr' : List (Nat × Value)) (hr : ∀ p ∈ lr', look lr p.1 = some p.2) : BS ab tb rb hd W1 la lr' w :=
  ⟨h.a, h.z, h.r.re lr' hr, h.n1, h.n2, h.n3, h.b1, h.b2, h.b3, h.but⟩
theorem times_of_owns {w : World} {B g m cap : Nat} {xs : List Value} (h : w.ownsRow B 59 2 (.slice (some ⟨g, 0, none⟩) m cap) m xs) (ha : ∀ x ∈ xs, ∃ z : Int, x = .int .i64 z) : Times w g m := by
  obtain ⟨hl, h⟩ := h
  rcases h with ⟨h1, _⟩ | ⟨g', cap', cur, h1, _, hh, h2, _, h3, h4⟩
  · cases h1
  · simp only [Value.slice.injEq, Option.some.injEq, Addr.mk.injEq, and_true, true_and] at h1
    obtain ⟨rfl, rfl⟩ := h1
    refine ⟨cur, ⟨59, hh⟩, by omega, fun i hi => ?_⟩
    have hx : i < xs.length := by omega
    obtain ⟨z, hz⟩ := ha xs[i] (List.getElem_mem hx)
    refine ⟨z, ?_⟩
    have h5 : xs[i]? = some (.int .i64 z) := by rw [List.getElem?_eq_getElem hx, hz]
    rw [← h4, List.getElem?_take, if_pos hi] at h5
    simpa using h5
/-- The code from the n-th statement on. -/
def dropSeq : Nat → Code → Code
  | n + 1, .seq _ b => dropSeq n b
  | _, c => c
theorem Tryz.info59 : (Tryz.prog.info? 59).map (fun i => (i.zero, i.size, i.bytes)) = some (some (.agg #[.int .i64 0, .int .i64 0]), 2, 16) := by kernel_rfl
end Go.Proofs.YthkgjhnckakliaaGreatDoorR
namespace Go.Proofs.YthkgjhnckakliaaGreatDoorR
open Go.RowKit
theorem WdayDay_any (b i : Nat) (d : Int) (w : World) (hc : w.cell? ⟨b, i, none⟩ = some (.int .i64 d)) :
    Calls Tryz.prog 42 #[.pointer (some ⟨b, i, none⟩)] w fun e w' => e = .returned (.int .i64 d) ∧ w = w' := by
  go_enter Tryz.func42, Tryz.ntmps42
  go_wp2
  go_ret
  exact ⟨rfl, rfl⟩
theorem WdayN_any (b i : Nat) (d : Int) (w : World) (hc : w.cell? ⟨b, i + 1, none⟩ = some (.int .i64 d)) :
    Calls Tryz.prog 43 #[.pointer (some ⟨b, i, none⟩)] w fun e w' => e = .returned (.int .i64 d) ∧ w = w' := by
  go_enter Tryz.func43, Tryz.ntmps43
  go_wp2
  go_ret
  exact ⟨rfl, rfl⟩

theorem IAt.below {w w' : World} {b : Nat} {cs : Array Value} (h : IAt w b cs) (hb : Below w.heap.size w w') : IAt w' b cs :=
  ⟨Nat.lt_of_lt_of_le h.1 hb.size, fun i x hx => (hb.cell (p := ⟨b, i, none⟩) h.1).trans (h.2 i x hx)⟩
theorem Tryz.info72 : (Tryz.prog.info? 72).map (fun i => (i.zero, i.size, i.bytes)) = some (some (.agg #[.int .i64 0, .int .i64 0]), 2, 16) := by kernel_rfl
/-- What impl.rule hands back. -/
def RuleRes (pb : Nat) (r : PR) (w : World) (e : Ending) (w' : World) : Prop := ∃ u : PV, e = .returned (.agg (r.cells u)) ∧ PRows pb w' r u ∧ Below w.heap.size w w'
theorem PRows.low {a b : Nat} {w : World} {r : PR} {v : PV} (h : PRows b w r v) (hab : a ≤ b) : PRows a w r v :=
  have f : ∀ {x : Value} {l : List Int}, SlI b w x l → SlI a w x l := fun h => ⟨h.1, fun k e => Nat.lt_of_le_of_lt hab (h.2 k e)⟩
  ⟨f h.setPos, f h.month, f h.monthDay, f h.yearDay, f h.weekNo, ⟨h.day.1, fun k e => Nat.lt_of_le_of_lt hab (h.day.2 k e)⟩, f h.hour, f h.minute, f h.second, f h.easter⟩
set_option maxHeartbeats 4000000 in
set_option maxRecDepth 100000 in
theorem rule_tail {u1 u4 u5 u6 u7 u8 u9 u10 u11 u12 u13 u14 u15 u16 u17 u18 u19 u20 u21 u22 u23 u24 u25 u26 u27 u28 u29 u30 u31 u32 u33 u34 u35 u36 u37 u38 u39 u40 u41 u42 u43 u44 u45 u46 u47 u48 u49 u50 u51 u52 u53 u54 u55 u56 u57 u58 u59 u60 u61 u62 u63 u64 u65 u66 u67 u68 u69 u70 u71 u72 u73 u74 u75 u76 u77 u78 u79 u80 u81 u82 u83 u84 u85 u86 u87 u88 u89 u90 u91 u92 u93 u94 u95 u96 u97 u98 u99 u100 : Value} {b b2 b3 : Nat} {r : PR} {v : PV} {w w0 : World} (hA : IAt w b (r.icells v)) {pb : Nat} (hpb : pb ≤ w.heap.size) (hp : PRows pb w r v) (hs : r.small)
    (hB2 : Block w0 b2 zeroRule) (hB3 : Block w0 b3 (r.cells { v with day := .slice none 0 0 })) (hbw : Below w.heap.size w w0) (h2 : w.heap.size ≤ b2) (h3 : w.heap.size ≤ b3) (h23 : b2 ≠ b3) :
    (dropSeq 2 (Tryz.f23.body.getD .skip)).wp Tryz.prog (bodyPost Tryz.prog Tryz.f23 (RuleRes pb r w)) ⟨#[.pointer (some ⟨b, 0, none⟩), u1, .pointer (some ⟨b2, 0, none⟩), .pointer (some ⟨b3, 0, none⟩), u4, u5, u6, u7, u8, u9, u10, u11, u12, u13, u14, u15, u16, u17, u18, u19, u20, u21, u22, u23, u24, u25, u26, u27, u28, u29, u30, u31, u32, u33, u34, u35, u36, u37, u38, u39, u40, u41, u42, u43, u44, u45, u46, u47, u48, u49, u50, u51, u52, u53, u54, u55, u56, u57, u58, u59, u60, u61, u62, u63, u64, u65, u66, u67, u68, u69, u70, u71, u72, u73, u74, u75, u76, u77, u78, u79, u80, u81, u82, u83, u84, u85, u86, u87, u88, u89, u90, u91, u92, u93, u94, u95, u96, u97, u98, u99, u100], []⟩ w0 := by
  conv => arg 2; whnf
  obtain ⟨i0, hi, hz0, hz1, hz2⟩ := info_parts Tryz.info72
  obtain ⟨⟨da, dcap, hdv, hd2, hd3⟩, _⟩ := hp.day
  have HD3 := Lib.hid hd3; clear hd3
  have hdl := hs.day
  have hb := hA.1
  have k14 : w0.cell? ⟨b, 14, none⟩ = some (.slice da r.day.length dcap) := (hbw.cell (p := ⟨b, 14, none⟩) hb).trans (hA.2 14 _ (by rw [← hdv]; rfl))
  obtain ⟨a1, n1, c1, e1⟩ := hp.setPos.form
  obtain ⟨a2, n2, c2, e2⟩ := hp.month.form
  obtain ⟨a3, n3, c3, e3⟩ := hp.monthDay.form
  obtain ⟨a4, n4, c4, e4⟩ := hp.yearDay.form
  obtain ⟨a5, n5, c5, e5⟩ := hp.weekNo.form
  obtain ⟨a7, n7, c7, e7⟩ := hp.hour.form
  obtain ⟨a8, n8, c8, e8⟩ := hp.minute.form
  obtain ⟨a9, n9, c9, e9⟩ := hp.second.form
  obtain ⟨a10, n10, c10, e10⟩ := hp.easter.form
  have HONEALL : Hid (∀ a n c, (r.cells { v with day := .slice a n c }).all (·.oneCell') = true) := fun a n c => by simp [PR.cells, Value.oneCell', e1, e2, e3, e4, e5, e7, e8, e9, e10]
  clear e1 e2 e3 e4 e5 e7 e8 e9 e10 hdv
  have hs3 : b3 < w0.heap.size := hB3.lt
  have hs2 : b2 < w0.heap.size := hB2.lt
  have HP := Lib.hid hp; clear hp
  have HB3 := Lib.hid hB3; have HB2 := Lib.hid hB2; clear hB3 hB2 hA
  go_wp2
  go_loopw [87] (fun i wr => ∃ (k : Nat) (a : Option Addr) (n c : Nat), k ≤ r.day.length ∧ i = .int .i64 k ∧ n = k ∧
      wr.ownsRow w0.heap.size 72 2 (.slice a n c) n (pairs (r.day.take k)) ∧ Hid (Block wr b3 (r.cells { v with day := .slice a n c })) ∧ ButBelow b3 w0 wr) (fun i _ => r.day.length - (intOf i).toNat)
  case atStart => exact ⟨0, none, 0, 0, Nat.zero_le _, rfl, rfl, World.ownsRow_nil _ _ _ _, HB3, ButBelow.refl _ _⟩
  case round =>
    obtain ⟨k, a, n, c, hk, rfl, rfl, hown, hBr, hbel⟩ := hrel
    have hbase := hbel.size
    by_cases hlt : n < r.day.length
    · obtain ⟨d, hd⟩ : ∃ d, r.day[n]? = some d := ⟨_, List.getElem?_eq_getElem hlt⟩
      obtain ⟨bd, o, rfl, hbk, hc⟩ := HD3.out (by intro h; rw [h] at hlt; simp at hlt)
      obtain ⟨c1, c2⟩ := hc n d hd
      have hz : Below w.heap.size w wr := hbw.trans (hbel.own h3 hbw.size)
      have x1 : wr.cell? ⟨bd, o + n * 2, none⟩ = some (.int .i64 d.1) := by rw [Nat.mul_comm n 2, hz.cell (p := ⟨bd, o + 2 * n, none⟩) hbk]; exact c1
      have x2 : wr.cell? ⟨bd, o + n * 2 + 1, none⟩ = some (.int .i64 d.2) := by rw [Nat.mul_comm n 2, hz.cell (p := ⟨bd, o + 2 * n + 1, none⟩) hbk]; exact c2
      have htake : r.day.take (n + 1) = r.day.take n ++ [d] := by rw [List.take_add_one, hd]; rfl
      clear c1 c2 hc hd
      have hsr := hBr.out.lt
      have HBQ : Hid (Block (wr.alloc (.cells #[.int .i64 d.1, .int .i64 d.2] 61)) b3 (r.cells { v with day := .slice a n c })) := hBr.out.alloc _
      have k13 : (wr.alloc (.cells #[.int .i64 d.1, .int .i64 d.2] 61)).cell? ⟨b3, 13, none⟩ = some (.slice a n c) := HBQ.out.cell 13
      have y0 : (wr.alloc (.cells #[.int .i64 d.1, .int .i64 d.2] 61)).cell? ⟨wr.heap.size, 0, none⟩ = some (.int .i64 d.1) := by simp
      have y1 : (wr.alloc (.cells #[.int .i64 d.1, .int .i64 d.2] 61)).cell? ⟨wr.heap.size, 1, none⟩ = some (.int .i64 d.2) := by simp
      have HO : Hid ((wr.alloc (.cells #[.int .i64 d.1, .int .i64 d.2] 61)).ownsRow w0.heap.size 72 2 (.slice a n c) n (pairs (r.day.take n))) := hown.alloc _
      have HLOW := Lib.hid hown.lt
      have HBE : Hid (ButBelow b3 w0 (wr.alloc (.cells #[.int .i64 d.1, .int .i64 d.2] 61))) := hbel.alloc _
      have HTK := Lib.hid htake
      have hq1 : wr.heap.size < (wr.alloc (.cells #[.int .i64 d.1, .int .i64 d.2] 61)).heap.size := by simp
      go_upto_region 5 with fail
      generalize wr.alloc (.cells #[.int .i64 d.1, .int .i64 d.2] 61) = wq at *
      have HNEWS : Hid (∀ j u, [Value.int .i64 d.1, .int .i64 d.2][j]? = some u → (wq.alloc (.cells #[.int .i64 d.1, .int .i64 d.2] 72)).drew.cell? ((⟨wq.heap.size, 0, none⟩ : Addr).add j) = some u) := by
        intro j u hj
        match j, hj with
        | 0, hj => simp at hj; subst hj; simp [Addr.add]
        | 1, hj => simp at hj; subst hj; simp [Addr.add]
      have HONE : Hid (∀ u ∈ [Value.int .i64 d.1, .int .i64 d.2], u.oneCell' = true) := by
        intro u hu; simp at hu; rcases hu with rfl | rfl <;> rfl
      have HSZ2 : Hid (w0.heap.size ≤ wq.heap.size) := HBE.out.size
      have HO2 := Lib.hid ((HO.out.alloc (.cells #[.int .i64 d.1, .int .i64 d.2] 72)).drew)
      have k13b : (wq.alloc (.cells #[.int .i64 d.1, .int .i64 d.2] 72)).cell? ⟨b3, 13, none⟩ = some (.slice a n c) := (HBQ.out.alloc _).cell 13
      have hq2 : wr.heap.size ≠ wq.heap.size := by omega
      clear hown hBr hbel htake x1 x2 hz hbase hq1
      go_region_law (first
        | (refine step_append_lies _ rfl (.tmp 92) (.tmp 96) 30 rfl w0.heap.size 72 i0 (.agg #[.int .i64 0, .int .i64 0]) 2 16 Tryz.underlying30 hi hz0 hz1 hz2 rfl (by decide) (.slice a n c) n (pairs (r.day.take n)) rfl HO2.out ⟨wq.heap.size, 0, none⟩ 1 1 [.int .i64 d.1, .int .i64 d.2] rfl rfl HNEWS.out HONE.out (by decide) (by unfold maxLen; omega) (by omega) (by simp; have := HSZ2.out; omega) (wq.heap.size + 1) (by simp) ?_; intro g cp w4 hown4 hgrow hat hg4; have HB4 := Lib.hid ((HBQ.out.alloc _).drew.grown hgrow (fun h => by have := HLOW.out b3 h.symm; omega)); have e13 : w4.cell? ⟨b3, 13, none⟩ = some (.slice a n c) := HB4.out.cell 13; have z13 : w4.frozen? ⟨b3, 13, none⟩ = false := HB4.out.free 13)
        | (go_simp; go_at_call 42; refine (WdayDay_any wr.heap.size 0 d.1 _ (by simpa using y0)).mono ?_; rintro e wN ⟨rfl, rfl⟩)
        | (go_simp; go_at_call 43; refine (WdayN_any wr.heap.size 0 d.2 _ (by simpa using y1)).mono ?_; rintro e wN ⟨rfl, rfl⟩))
      all_goals go_wp2
      all_goals
        refine ⟨⟨n + 1, some ⟨g, 0, none⟩, n + 1, cp, by omega, by go_num, rfl, ?_, HB4.out.set 13 _, (ButBelow.grown ((HBE.out.alloc _).drew) hgrow (fun j hj => (HLOW.out j hj).1)).setCell _ _⟩, by simp [intOf]; omega⟩
        rw [HTK.out, pairs_snoc]; exact ownsRow_setCell_below hown4 hs3 _
    · obtain rfl : n = r.day.length := by omega
      rw [List.take_length] at hown
      have HRr : Hid (Block wr b2 zeroRule) := HB2.out.but h23 hbel
      have hz : Below w.heap.size w wr := hbw.trans (hbel.own h3 hbw.size)
      have hd1 : SlP b2 wr (.slice a r.day.length c) r.day := ⟨RowP.of_owns hown rfl, fun k e => by have := (hown.lt k e).1; omega⟩
      have hone := HONEALL.out a r.day.length c
      go_wp2_with (first | ((with_reducible refine atl ?_); refine wpList_load_block rfl 32 (.tmp 3) rfl b3 (r.cells { v with day := .slice a r.day.length c }) rfl _ hBr.out Tryz.underlying32 rfl (by kernel_rfl) ?_; go_simp) | ((with_reducible refine atl ?_); refine wpList_store_block rfl 32 _ _ rfl b2 zeroRule (r.cells { v with day := .slice a r.day.length c }) rfl rfl HRr.out rfl (by kernel_rfl) hone ?_; intro wz hBz hbbz))
      refine bodyPost_ret (v := .agg (r.cells { v with day := .slice a r.day.length c })) (results_block Tryz.results23 _ _ b2 _ _ rfl hBz Tryz.underlying32 rfl (by kernel_rfl)) rfl ?_
      have hbz : Below w.heap.size w wz := hz.trans (hbbz.own h2 hz.size)
      have hp := HP.out.but (ButBelow.of_below hbz)
      have hd2 := hd1.but hbbz
      exact ⟨_, rfl, ⟨hp.setPos, hp.month, hp.monthDay, hp.yearDay, hp.weekNo, ⟨hd2.1, fun k e => by have := hd2.2 k e; omega⟩, hp.hour, hp.minute, hp.second, hp.easter⟩, hbz⟩
end Go.Proofs.YthkgjhnckakliaaGreatDoorR

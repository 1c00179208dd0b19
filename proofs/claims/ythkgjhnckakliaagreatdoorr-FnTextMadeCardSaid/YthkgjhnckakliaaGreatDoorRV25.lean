/- rrule.validateBounds. -/
import Derived.Test.YthkgjhnckakliaaGreatDoorRV04
import Derived.Test.YthkgjhnckakliaaGreatDoorRV15
import Derived.Test.YthkgjhnckakliaaGreatDoorRV23
import Derived.Test.YthkgjhnckakliaaGreatDoorRV09
import Derived.Great.Walk
namespace Go.Proofs.YthkgjhnckakliaaGreatDoorR
open Go.RowKit

set_option maxHeartbeats 4000000 in
set_option maxRecDepth 100000 in
theorem checkBounds_any (p : ByteArray) (n a b : Int) (c : Bool) (g o : Nat) (w : World) (ha0 : 0 ≤ a) (ha1 : a ≤ 1000) (hb0 : 0 ≤ b) (hb1 : b ≤ 1000)
    (c0 : w.cell? ⟨g, o, none⟩ = some (.int .i64 a)) (c1 : w.cell? ⟨g, o + 1, none⟩ = some (.int .i64 b)) :
    Calls Tryz.prog 77 #[.string p, .int .i64 n, .slice (some ⟨g, o, none⟩) 2 2, .bool c] w fun e w' =>
      ∃ err, e = .returned err ∧ (Pl.outside a b c n = false → err = .nilIface) ∧ (Pl.outside a b c n = true → IsErr err) ∧ Below w.heap.size w w' := by
  have HO : Hid (Pl.outside a b c n = ((decide (n < a) || decide (b < n)) && !(c && decide (n ≤ -a) && decide (-b ≤ n)))) := rfl
  cases c <;> by_cases h1 : a ≤ n <;> by_cases h2 : n ≤ b <;> by_cases h3 : n ≤ -a <;> by_cases h4 : -b ≤ n
  all_goals (
    go_enter Tryz.func77, Tryz.ntmps77
    go_wp2_with (go_at_call 67; refine (New_any _ _).mono ?_; rintro e w' ⟨⟨t, u, rfl⟩, hbx⟩))
  all_goals go_ret
  all_goals first
    | exact ⟨.nilIface, rfl, fun _ => rfl, fun h => absurd h (by rw [HO.out]; simp; omega), Below.refl _ _⟩
    | exact ⟨.iface t u, rfl, fun h => absurd h (by rw [HO.out]; simp; omega), fun _ => ⟨t, u, rfl⟩, hbx⟩

/-- The bounds' blocks, one behind the other. -/
structure Tab (n0 : Nat) (l : List (Int × Int)) (w : World) : Prop where
  block : ∀ j p, l[j]? = some p → Block w (n0 + 1 + j) #[.int .i64 p.1, .int .i64 p.2]
  size : w.heap.size = n0 + 1 + l.length
theorem Tab.step {n0 g : Nat} {l : List (Int × Int)} {w w' : World} (h : Tab n0 l w) {x y : Int} (hgg : g = w.heap.size) (hB : Block w' g #[.int .i64 x, .int .i64 y]) (hb : Below w.heap.size w w') (hs : w'.heap.size = w.heap.size + 1) : Tab n0 (l ++ [(x, y)]) w' :=
  ⟨fun j p hj => by
    by_cases hjl : j < l.length
    · rw [List.getElem?_append_left hjl] at hj; exact (h.block j p hj).below hb
    · have hj2 : j < (l ++ [(x, y)]).length := (List.getElem?_eq_some_iff.1 hj).1
      simp at hj2
      obtain rfl : j = l.length := by omega
      rw [List.getElem?_concat_length] at hj; injection hj with hj; subst hj
      rw [← h.size, ← hgg]; exact hB, by rw [hs, h.size]; simp; omega⟩
/-- The table's rows: a list, its bounds, whether they hold on both sides. -/
def rowOf (r : PR) : Nat → List Int × Int × Int × Bool
  | 0 => (r.second, 0, 59, false)
  | 1 => (r.minute, 0, 59, false)
  | 2 => (r.hour, 0, 23, false)
  | 3 => (r.monthDay, 1, 31, true)
  | 4 => (r.yearDay, 1, 366, true)
  | 5 => (r.weekNo, 1, 53, true)
  | 6 => (r.month, 1, 12, false)
  | _ => (r.setPos, 1, 366, true)
/-- Row k of the table, in a world. -/
def RowAt (tb : Nat) (r : PR) (w : World) (k : Nat) : Prop := ∃ (a : Option Addr) (n c g : Nat) (s : ByteArray), w.cell? ⟨tb, k * 4, none⟩ = some (.slice a n c) ∧ w.cell? ⟨tb, k * 4 + 1, none⟩ = some (.string s) ∧ w.cell? ⟨tb, k * 4 + 2, none⟩ = some (.slice (some ⟨g, 0, none⟩) 2 2) ∧
  w.cell? ⟨tb, k * 4 + 3, none⟩ = some (.bool (rowOf r k).2.2.2) ∧ Row w (.slice a n c) (ints (rowOf r k).1) ∧ Block w g #[.int .i64 (rowOf r k).2.1, .int .i64 (rowOf r k).2.2.1]
theorem RowAt.below {tb : Nat} {r : PR} {w w' : World} {k : Nat} (h : RowAt tb r w k) (htb : tb < w.heap.size) (hb : Below w.heap.size w w') : RowAt tb r w' k := by
  obtain ⟨a, n, c, g, s, h1, h2, h3, h4, h5, h6⟩ := h
  exact ⟨a, n, c, g, s, (hb.cell (p := ⟨tb, k * 4, none⟩) htb).trans h1, (hb.cell (p := ⟨tb, k * 4 + 1, none⟩) htb).trans h2, (hb.cell (p := ⟨tb, k * 4 + 2, none⟩) htb).trans h3, (hb.cell (p := ⟨tb, k * 4 + 3, none⟩) htb).trans h4, h5.below hb, h6.below hb⟩
def rowIn (r : PR) (k : Nat) : Bool := Pl.within (rowOf r k).1 (rowOf r k).2.1 (rowOf r k).2.2.1 (rowOf r k).2.2.2
theorem row_false {r : PR} {k : Nat} (hk : k < 8) (h : rowIn r k = false) : Pl.ruleRight r = false := by
  unfold Pl.ruleRight
  match k, hk, h with
  | 0, _, h => have : Pl.within r.second 0 59 false = false := h; rw [this]; simp
  | 1, _, h => have : Pl.within r.minute 0 59 false = false := h; rw [this]; simp
  | 2, _, h => have : Pl.within r.hour 0 23 false = false := h; rw [this]; simp
  | 3, _, h => have : Pl.within r.monthDay 1 31 true = false := h; rw [this]; simp
  | 4, _, h => have : Pl.within r.yearDay 1 366 true = false := h; rw [this]; simp
  | 5, _, h => have : Pl.within r.weekNo 1 53 true = false := h; rw [this]; simp
  | 6, _, h => have : Pl.within r.month 1 12 false = false := h; rw [this]; simp
  | 7, _, h => have : Pl.within r.setPos 1 366 true = false := h; rw [this]; simp
theorem rows_right {r : PR} (h : ∀ j, j < 8 → rowIn r j = true) : Pl.ruleRight r = (r.day.all Pl.dayRight && decide (0 ≤ r.interval)) := by
  unfold Pl.ruleRight
  have h0 : Pl.within r.second 0 59 false = true := h 0 (by decide)
  have h1 : Pl.within r.minute 0 59 false = true := h 1 (by decide)
  have h2 : Pl.within r.hour 0 23 false = true := h 2 (by decide)
  have h3 : Pl.within r.monthDay 1 31 true = true := h 3 (by decide)
  have h4 : Pl.within r.yearDay 1 366 true = true := h 4 (by decide)
  have h5 : Pl.within r.weekNo 1 53 true = true := h 5 (by decide)
  have h6 : Pl.within r.month 1 12 false = true := h 6 (by decide)
  have h7 : Pl.within r.setPos 1 366 true = true := h 7 (by decide)
  rw [h0, h1, h2, h3, h4, h5, h6, h7]; simp
theorem rowOf_small {r : PR} (hs : r.small) (k : Nat) (hk : k < 8) : (rowOf r k).1.length ≤ 1000000 ∧ 0 ≤ (rowOf r k).2.1 ∧ (rowOf r k).2.1 ≤ 1000 ∧ 0 ≤ (rowOf r k).2.2.1 ∧ (rowOf r k).2.2.1 ≤ 1000 := by
  match k, hk with
  | 0, _ => exact ⟨hs.second, by simp [rowOf], by simp [rowOf], by simp [rowOf], by simp [rowOf]⟩
  | 1, _ => exact ⟨hs.minute, by simp [rowOf], by simp [rowOf], by simp [rowOf], by simp [rowOf]⟩
  | 2, _ => exact ⟨hs.hour, by simp [rowOf], by simp [rowOf], by simp [rowOf], by simp [rowOf]⟩
  | 3, _ => exact ⟨hs.monthDay, by simp [rowOf], by simp [rowOf], by simp [rowOf], by simp [rowOf]⟩
  | 4, _ => exact ⟨hs.yearDay, by simp [rowOf], by simp [rowOf], by simp [rowOf], by simp [rowOf]⟩
  | 5, _ => exact ⟨hs.weekNo, by simp [rowOf], by simp [rowOf], by simp [rowOf], by simp [rowOf]⟩
  | 6, _ => exact ⟨hs.month, by simp [rowOf], by simp [rowOf], by simp [rowOf], by simp [rowOf]⟩
  | 7, _ => exact ⟨hs.setPos, by simp [rowOf], by simp [rowOf], by simp [rowOf], by simp [rowOf]⟩
def bndL : List (Int × Int) := [(0, 59), (0, 59), (0, 23), (1, 31), (1, 366), (1, 53), (1, 12), (1, 366)]

set_option maxHeartbeats 4000000 in
set_option maxRecDepth 100000 in
theorem validateBounds_any (rb : Nat) (r : PR) (v : PV) (w : World) (hp : PRows rb w r v) (hs : r.small) :
    Calls Tryz.prog 53 #[.agg (r.icells v)] w fun e w' => ∃ err, e = .returned err ∧ (Pl.ruleRight r = true → err = .nilIface) ∧ (Pl.ruleRight r = false → IsErr err) ∧ Below w.heap.size w w' := by
  have hmf : ∀ (fn : Fn) (first cap : Array Value) (w : World), (Instr.makeFunc fn first cap).run Tryz.prog w = .ok (.func fn first cap) w := fun _ _ _ _ => rfl
  obtain ⟨a0, n0, c0, e0⟩ := hp.second.form
  have q0 : (r.icells v)[17]? = some (.slice a0 n0 c0) := by rw [← e0]; rfl
  have Q0 := Lib.hid q0; clear q0
  obtain ⟨a1, n1, c1, e1⟩ := hp.minute.form
  have q1 : (r.icells v)[16]? = some (.slice a1 n1 c1) := by rw [← e1]; rfl
  have Q1 := Lib.hid q1; clear q1
  obtain ⟨a2, n2, c2, e2⟩ := hp.hour.form
  have q2 : (r.icells v)[15]? = some (.slice a2 n2 c2) := by rw [← e2]; rfl
  have Q2 := Lib.hid q2; clear q2
  obtain ⟨a3, n3, c3, e3⟩ := hp.monthDay.form
  have q3 : (r.icells v)[11]? = some (.slice a3 n3 c3) := by rw [← e3]; rfl
  have Q3 := Lib.hid q3; clear q3
  obtain ⟨a4, n4, c4, e4⟩ := hp.yearDay.form
  have q4 : (r.icells v)[12]? = some (.slice a4 n4 c4) := by rw [← e4]; rfl
  have Q4 := Lib.hid q4; clear q4
  obtain ⟨a5, n5, c5, e5⟩ := hp.weekNo.form
  have q5 : (r.icells v)[13]? = some (.slice a5 n5 c5) := by rw [← e5]; rfl
  have Q5 := Lib.hid q5; clear q5
  obtain ⟨a6, n6, c6, e6⟩ := hp.month.form
  have q6 : (r.icells v)[10]? = some (.slice a6 n6 c6) := by rw [← e6]; rfl
  have Q6 := Lib.hid q6; clear q6
  obtain ⟨a7, n7, c7, e7⟩ := hp.setPos.form
  have q7 : (r.icells v)[9]? = some (.slice a7 n7 c7) := by rw [← e7]; rfl
  have Q7 := Lib.hid q7; clear q7
  go_enter Tryz.func53, Tryz.ntmps53
  go_upto_region 1 with (refine Go.Great.wpList_boxTo rfl 64 (.tmp 0) rfl _ rfl w.heap.size rfl (r.icells v) rfl ?_)
  have hB0 : Block (w.alloc (.cells (r.icells v) 64)) w.heap.size (r.icells v) := ⟨64, heap_alloc_new w _⟩
  have hall : Below w.heap.size w (w.alloc (.cells (r.icells v) 64)) := (Below.refl _ _).alloc (Nat.le_refl _) _
  have hs0 : (w.alloc (.cells (r.icells v) 64)).heap.size = w.heap.size + 1 := by simp
  have HT : Tab w.heap.size [] (w.alloc (.cells (r.icells v) 64)) := ⟨fun j p hj => by simp at hj, by simp⟩
  generalize w.alloc (.cells (r.icells v) 64) = w0 at *
  generalize hn0 : w.heap.size = nb at *
  have HB0 := Lib.hid hB0; clear hB0
  have E0 := Lib.hid e0; clear e0
  have E1 := Lib.hid e1; clear e1
  have E2 := Lib.hid e2; clear e2
  have E3 := Lib.hid e3; clear e3
  have E4 := Lib.hid e4; clear e4
  have E5 := Lib.hid e5; clear e5
  have E6 := Lib.hid e6; clear e6
  have E7 := Lib.hid e7; clear e7
  go_upto_region 2 with (first
    | ((with_reducible refine atl ?_); refine wpList_load_cell rfl 23 (.tmp 12) rfl nb 17 (r.icells v) (.slice a0 n0 c0) rfl HB0.out Q0.out 3 Tryz.underlying23 ?_; go_simp)
    | ((with_reducible refine atl ?_); refine wpList_load_cell rfl 23 (.tmp 16) rfl nb 16 (r.icells v) (.slice a1 n1 c1) rfl HB0.out Q1.out 3 Tryz.underlying23 ?_; go_simp)
    | ((with_reducible refine atl ?_); refine wpList_load_cell rfl 23 (.tmp 20) rfl nb 15 (r.icells v) (.slice a2 n2 c2) rfl HB0.out Q2.out 3 Tryz.underlying23 ?_; go_simp)
    | ((with_reducible refine atl ?_); refine wpList_load_cell rfl 23 (.tmp 24) rfl nb 11 (r.icells v) (.slice a3 n3 c3) rfl HB0.out Q3.out 3 Tryz.underlying23 ?_; go_simp)
    | ((with_reducible refine atl ?_); refine wpList_load_cell rfl 23 (.tmp 28) rfl nb 12 (r.icells v) (.slice a4 n4 c4) rfl HB0.out Q4.out 3 Tryz.underlying23 ?_; go_simp)
    | ((with_reducible refine atl ?_); refine wpList_load_cell rfl 23 (.tmp 32) rfl nb 13 (r.icells v) (.slice a5 n5 c5) rfl HB0.out Q5.out 3 Tryz.underlying23 ?_; go_simp)
    | ((with_reducible refine atl ?_); refine wpList_load_cell rfl 23 (.tmp 36) rfl nb 10 (r.icells v) (.slice a6 n6 c6) rfl HB0.out Q6.out 3 Tryz.underlying23 ?_; go_simp)
    | ((with_reducible refine atl ?_); refine wpList_load_cell rfl 23 (.tmp 40) rfl nb 9 (r.icells v) (.slice a7 n7 c7) rfl HB0.out Q7.out 3 Tryz.underlying23 ?_; go_simp)
    | ((with_reducible refine atl ?_); (refine wpList_build2g rfl 23 3 _ rfl 0 59 (some 14) rfl Tryz.underlying23 (by kernel_rfl) (by kernel_rfl) rfl ?_; intro wN g0 hg0 hBN hbN hsN; have G0 := Lib.hid (hg0.trans HT.size); have HT := HT.step hg0 hBN hbN hsN; have HB0 := Lib.hid (HB0.out.below hbN); have hall := hall.trans (hbN.mono (by have := hall.size; omega)); clear hBN hbN hsN hg0; go_simp))
    | ((with_reducible refine atl ?_); refine wpList_build2g rfl 23 3 _ rfl 0 59 (some 18) rfl Tryz.underlying23 (by kernel_rfl) (by kernel_rfl) rfl ?_; intro wN g1 hg1 hBN hbN hsN; have G1 := Lib.hid (hg1.trans HT.size); have HT := HT.step hg1 hBN hbN hsN; have HB0 := Lib.hid (HB0.out.below hbN); have hall := hall.trans (hbN.mono (by have := hall.size; omega)); clear hBN hbN hsN hg1; go_simp)
    | ((with_reducible refine atl ?_); refine wpList_build2g rfl 23 3 _ rfl 0 23 (some 22) rfl Tryz.underlying23 (by kernel_rfl) (by kernel_rfl) rfl ?_; intro wN g2 hg2 hBN hbN hsN; have G2 := Lib.hid (hg2.trans HT.size); have HT := HT.step hg2 hBN hbN hsN; have HB0 := Lib.hid (HB0.out.below hbN); have hall := hall.trans (hbN.mono (by have := hall.size; omega)); clear hBN hbN hsN hg2; go_simp)
    | ((with_reducible refine atl ?_); refine wpList_build2g rfl 23 3 _ rfl 1 31 (some 26) rfl Tryz.underlying23 (by kernel_rfl) (by kernel_rfl) rfl ?_; intro wN g3 hg3 hBN hbN hsN; have G3 := Lib.hid (hg3.trans HT.size); have HT := HT.step hg3 hBN hbN hsN; have HB0 := Lib.hid (HB0.out.below hbN); have hall := hall.trans (hbN.mono (by have := hall.size; omega)); clear hBN hbN hsN hg3; go_simp)
    | ((with_reducible refine atl ?_); refine wpList_build2g rfl 23 3 _ rfl 1 366 (some 30) rfl Tryz.underlying23 (by kernel_rfl) (by kernel_rfl) rfl ?_; intro wN g4 hg4 hBN hbN hsN; have G4 := Lib.hid (hg4.trans HT.size); have HT := HT.step hg4 hBN hbN hsN; have HB0 := Lib.hid (HB0.out.below hbN); have hall := hall.trans (hbN.mono (by have := hall.size; omega)); clear hBN hbN hsN hg4; go_simp)
    | ((with_reducible refine atl ?_); refine wpList_build2g rfl 23 3 _ rfl 1 53 (some 34) rfl Tryz.underlying23 (by kernel_rfl) (by kernel_rfl) rfl ?_; intro wN g5 hg5 hBN hbN hsN; have G5 := Lib.hid (hg5.trans HT.size); have HT := HT.step hg5 hBN hbN hsN; have HB0 := Lib.hid (HB0.out.below hbN); have hall := hall.trans (hbN.mono (by have := hall.size; omega)); clear hBN hbN hsN hg5; go_simp)
    | ((with_reducible refine atl ?_); refine wpList_build2g rfl 23 3 _ rfl 1 12 (some 38) rfl Tryz.underlying23 (by kernel_rfl) (by kernel_rfl) rfl ?_; intro wN g6 hg6 hBN hbN hsN; have G6 := Lib.hid (hg6.trans HT.size); have HT := HT.step hg6 hBN hbN hsN; have HB0 := Lib.hid (HB0.out.below hbN); have hall := hall.trans (hbN.mono (by have := hall.size; omega)); clear hBN hbN hsN hg6; go_simp)
    | ((with_reducible refine atl ?_); refine wpList_build2g rfl 23 3 _ rfl 1 366 (some 42) rfl Tryz.underlying23 (by kernel_rfl) (by kernel_rfl) rfl ?_; intro wN g7 hg7 hBN hbN hsN; have G7 := Lib.hid (hg7.trans HT.size); have HT := HT.step hg7 hBN hbN hsN; have HB0 := Lib.hid (HB0.out.below hbN); have hall := hall.trans (hbN.mono (by have := hall.size; omega)); clear hBN hbN hsN hg7; go_simp)
    | ((with_reducible refine atl ?_); refine wpList_buildTo rfl 132 _ rfl (some 15) rfl #[.slice a0 n0 c0, .string ⟨#[98, 121, 115, 101, 99, 111, 110, 100]⟩, .slice (some ⟨g0, 0, none⟩) 2 2, .bool false] (by kernel_rfl) ?_; go_simp)
    | ((with_reducible refine atl ?_); refine wpList_buildTo rfl 132 _ rfl (some 19) rfl #[.slice a1 n1 c1, .string ⟨#[98, 121, 109, 105, 110, 117, 116, 101]⟩, .slice (some ⟨g1, 0, none⟩) 2 2, .bool false] (by kernel_rfl) ?_; go_simp)
    | ((with_reducible refine atl ?_); refine wpList_buildTo rfl 132 _ rfl (some 23) rfl #[.slice a2 n2 c2, .string ⟨#[98, 121, 104, 111, 117, 114]⟩, .slice (some ⟨g2, 0, none⟩) 2 2, .bool false] (by kernel_rfl) ?_; go_simp)
    | ((with_reducible refine atl ?_); refine wpList_buildTo rfl 132 _ rfl (some 27) rfl #[.slice a3 n3 c3, .string ⟨#[98, 121, 109, 111, 110, 116, 104, 100, 97, 121]⟩, .slice (some ⟨g3, 0, none⟩) 2 2, .bool true] (by kernel_rfl) ?_; go_simp)
    | ((with_reducible refine atl ?_); refine wpList_buildTo rfl 132 _ rfl (some 31) rfl #[.slice a4 n4 c4, .string ⟨#[98, 121, 121, 101, 97, 114, 100, 97, 121]⟩, .slice (some ⟨g4, 0, none⟩) 2 2, .bool true] (by kernel_rfl) ?_; go_simp)
    | ((with_reducible refine atl ?_); refine wpList_buildTo rfl 132 _ rfl (some 35) rfl #[.slice a5 n5 c5, .string ⟨#[98, 121, 119, 101, 101, 107, 110, 111]⟩, .slice (some ⟨g5, 0, none⟩) 2 2, .bool true] (by kernel_rfl) ?_; go_simp)
    | ((with_reducible refine atl ?_); refine wpList_buildTo rfl 132 _ rfl (some 39) rfl #[.slice a6 n6 c6, .string ⟨#[98, 121, 109, 111, 110, 116, 104]⟩, .slice (some ⟨g6, 0, none⟩) 2 2, .bool false] (by kernel_rfl) ?_; go_simp)
    | ((with_reducible refine atl ?_); refine wpList_buildTo rfl 132 _ rfl (some 43) rfl #[.slice a7 n7 c7, .string ⟨#[98, 121, 115, 101, 116, 112, 111, 115]⟩, .slice (some ⟨g7, 0, none⟩) 2 2, .bool true] (by kernel_rfl) ?_; go_simp)
    | ((with_reducible refine atl ?_); refine wpList_buildSliceTo rfl 133 132 8 _ rfl _ rfl (some 44) rfl Tryz.underlying133 #[.slice a0 n0 c0, .string ⟨#[98, 121, 115, 101, 99, 111, 110, 100]⟩, .slice (some ⟨g0, 0, none⟩) 2 2, .bool false, .slice a1 n1 c1, .string ⟨#[98, 121, 109, 105, 110, 117, 116, 101]⟩, .slice (some ⟨g1, 0, none⟩) 2 2, .bool false, .slice a2 n2 c2, .string ⟨#[98, 121, 104, 111, 117, 114]⟩, .slice (some ⟨g2, 0, none⟩) 2 2, .bool false, .slice a3 n3 c3, .string ⟨#[98, 121, 109, 111, 110, 116, 104, 100, 97, 121]⟩, .slice (some ⟨g3, 0, none⟩) 2 2, .bool true, .slice a4 n4 c4, .string ⟨#[98, 121, 121, 101, 97, 114, 100, 97, 121]⟩, .slice (some ⟨g4, 0, none⟩) 2 2, .bool true, .slice a5 n5 c5, .string ⟨#[98, 121, 119, 101, 101, 107, 110, 111]⟩, .slice (some ⟨g5, 0, none⟩) 2 2, .bool true, .slice a6 n6 c6, .string ⟨#[98, 121, 109, 111, 110, 116, 104]⟩, .slice (some ⟨g6, 0, none⟩) 2 2, .bool false, .slice a7 n7 c7, .string ⟨#[98, 121, 115, 101, 116, 112, 111, 115]⟩, .slice (some ⟨g7, 0, none⟩) 2 2, .bool true] (by kernel_rfl) ?_; go_simp))
  have HTB : Hid (Block (wN.alloc (.cells #[.slice a0 n0 c0, .string ⟨#[98, 121, 115, 101, 99, 111, 110, 100]⟩, .slice (some ⟨g0, 0, none⟩) 2 2, .bool false, .slice a1 n1 c1, .string ⟨#[98, 121, 109, 105, 110, 117, 116, 101]⟩, .slice (some ⟨g1, 0, none⟩) 2 2, .bool false, .slice a2 n2 c2, .string ⟨#[98, 121, 104, 111, 117, 114]⟩, .slice (some ⟨g2, 0, none⟩) 2 2, .bool false, .slice a3 n3 c3, .string ⟨#[98, 121, 109, 111, 110, 116, 104, 100, 97, 121]⟩, .slice (some ⟨g3, 0, none⟩) 2 2, .bool true, .slice a4 n4 c4, .string ⟨#[98, 121, 121, 101, 97, 114, 100, 97, 121]⟩, .slice (some ⟨g4, 0, none⟩) 2 2, .bool true, .slice a5 n5 c5, .string ⟨#[98, 121, 119, 101, 101, 107, 110, 111]⟩, .slice (some ⟨g5, 0, none⟩) 2 2, .bool true, .slice a6 n6 c6, .string ⟨#[98, 121, 109, 111, 110, 116, 104]⟩, .slice (some ⟨g6, 0, none⟩) 2 2, .bool false, .slice a7 n7 c7, .string ⟨#[98, 121, 115, 101, 116, 112, 111, 115]⟩, .slice (some ⟨g7, 0, none⟩) 2 2, .bool true] 132)) wN.heap.size #[.slice a0 n0 c0, .string ⟨#[98, 121, 115, 101, 99, 111, 110, 100]⟩, .slice (some ⟨g0, 0, none⟩) 2 2, .bool false, .slice a1 n1 c1, .string ⟨#[98, 121, 109, 105, 110, 117, 116, 101]⟩, .slice (some ⟨g1, 0, none⟩) 2 2, .bool false, .slice a2 n2 c2, .string ⟨#[98, 121, 104, 111, 117, 114]⟩, .slice (some ⟨g2, 0, none⟩) 2 2, .bool false, .slice a3 n3 c3, .string ⟨#[98, 121, 109, 111, 110, 116, 104, 100, 97, 121]⟩, .slice (some ⟨g3, 0, none⟩) 2 2, .bool true, .slice a4 n4 c4, .string ⟨#[98, 121, 121, 101, 97, 114, 100, 97, 121]⟩, .slice (some ⟨g4, 0, none⟩) 2 2, .bool true, .slice a5 n5 c5, .string ⟨#[98, 121, 119, 101, 101, 107, 110, 111]⟩, .slice (some ⟨g5, 0, none⟩) 2 2, .bool true, .slice a6 n6 c6, .string ⟨#[98, 121, 109, 111, 110, 116, 104]⟩, .slice (some ⟨g6, 0, none⟩) 2 2, .bool false, .slice a7 n7 c7, .string ⟨#[98, 121, 115, 101, 116, 112, 111, 115]⟩, .slice (some ⟨g7, 0, none⟩) 2 2, .bool true]) := ⟨132, heap_alloc_new wN _⟩
  have hb9 : Below wN.heap.size wN (wN.alloc (.cells #[.slice a0 n0 c0, .string ⟨#[98, 121, 115, 101, 99, 111, 110, 100]⟩, .slice (some ⟨g0, 0, none⟩) 2 2, .bool false, .slice a1 n1 c1, .string ⟨#[98, 121, 109, 105, 110, 117, 116, 101]⟩, .slice (some ⟨g1, 0, none⟩) 2 2, .bool false, .slice a2 n2 c2, .string ⟨#[98, 121, 104, 111, 117, 114]⟩, .slice (some ⟨g2, 0, none⟩) 2 2, .bool false, .slice a3 n3 c3, .string ⟨#[98, 121, 109, 111, 110, 116, 104, 100, 97, 121]⟩, .slice (some ⟨g3, 0, none⟩) 2 2, .bool true, .slice a4 n4 c4, .string ⟨#[98, 121, 121, 101, 97, 114, 100, 97, 121]⟩, .slice (some ⟨g4, 0, none⟩) 2 2, .bool true, .slice a5 n5 c5, .string ⟨#[98, 121, 119, 101, 101, 107, 110, 111]⟩, .slice (some ⟨g5, 0, none⟩) 2 2, .bool true, .slice a6 n6 c6, .string ⟨#[98, 121, 109, 111, 110, 116, 104]⟩, .slice (some ⟨g6, 0, none⟩) 2 2, .bool false, .slice a7 n7 c7, .string ⟨#[98, 121, 115, 101, 116, 112, 111, 115]⟩, .slice (some ⟨g7, 0, none⟩) 2 2, .bool true] 132)) := (Below.refl _ _).alloc (Nat.le_refl _) _
  generalize wN.alloc (.cells _ 132) = w9 at *
  have hall9 : Below w.heap.size w w9 := by rw [hn0]; exact hall.trans (hb9.mono (by have := hall.size; omega))
  have b0 : Block w9 g0 #[.int .i64 0, .int .i64 59] := by have h := (HT.block 0 _ rfl).below hb9; rw [G0.out]; exact h
  have r0 : Row w9 (.slice a0 n0 c0) (ints r.second) := by have h := hp.second.1.below hall9; rw [E0.out] at h; exact h
  have b1 : Block w9 g1 #[.int .i64 0, .int .i64 59] := by have h := (HT.block 1 _ rfl).below hb9; rw [G1.out]; exact h
  have r1 : Row w9 (.slice a1 n1 c1) (ints r.minute) := by have h := hp.minute.1.below hall9; rw [E1.out] at h; exact h
  have b2 : Block w9 g2 #[.int .i64 0, .int .i64 23] := by have h := (HT.block 2 _ rfl).below hb9; rw [G2.out]; exact h
  have r2 : Row w9 (.slice a2 n2 c2) (ints r.hour) := by have h := hp.hour.1.below hall9; rw [E2.out] at h; exact h
  have b3 : Block w9 g3 #[.int .i64 1, .int .i64 31] := by have h := (HT.block 3 _ rfl).below hb9; rw [G3.out]; exact h
  have r3 : Row w9 (.slice a3 n3 c3) (ints r.monthDay) := by have h := hp.monthDay.1.below hall9; rw [E3.out] at h; exact h
  have b4 : Block w9 g4 #[.int .i64 1, .int .i64 366] := by have h := (HT.block 4 _ rfl).below hb9; rw [G4.out]; exact h
  have r4 : Row w9 (.slice a4 n4 c4) (ints r.yearDay) := by have h := hp.yearDay.1.below hall9; rw [E4.out] at h; exact h
  have b5 : Block w9 g5 #[.int .i64 1, .int .i64 53] := by have h := (HT.block 5 _ rfl).below hb9; rw [G5.out]; exact h
  have r5 : Row w9 (.slice a5 n5 c5) (ints r.weekNo) := by have h := hp.weekNo.1.below hall9; rw [E5.out] at h; exact h
  have b6 : Block w9 g6 #[.int .i64 1, .int .i64 12] := by have h := (HT.block 6 _ rfl).below hb9; rw [G6.out]; exact h
  have r6 : Row w9 (.slice a6 n6 c6) (ints r.month) := by have h := hp.month.1.below hall9; rw [E6.out] at h; exact h
  have b7 : Block w9 g7 #[.int .i64 1, .int .i64 366] := by have h := (HT.block 7 _ rfl).below hb9; rw [G7.out]; exact h
  have r7 : Row w9 (.slice a7 n7 c7) (ints r.setPos) := by have h := hp.setPos.1.below hall9; rw [E7.out] at h; exact h
  have HROW : Hid (∀ k, k < 8 → RowAt wN.heap.size r w9 k) := fun k hk => by
    match k, hk with
    | 0, _ => exact ⟨a0, n0, c0, g0, _, HTB.out.cell 0, HTB.out.cell 1, HTB.out.cell 2, HTB.out.cell 3, r0, b0⟩
    | 1, _ => exact ⟨a1, n1, c1, g1, _, HTB.out.cell 4, HTB.out.cell 5, HTB.out.cell 6, HTB.out.cell 7, r1, b1⟩
    | 2, _ => exact ⟨a2, n2, c2, g2, _, HTB.out.cell 8, HTB.out.cell 9, HTB.out.cell 10, HTB.out.cell 11, r2, b2⟩
    | 3, _ => exact ⟨a3, n3, c3, g3, _, HTB.out.cell 12, HTB.out.cell 13, HTB.out.cell 14, HTB.out.cell 15, r3, b3⟩
    | 4, _ => exact ⟨a4, n4, c4, g4, _, HTB.out.cell 16, HTB.out.cell 17, HTB.out.cell 18, HTB.out.cell 19, r4, b4⟩
    | 5, _ => exact ⟨a5, n5, c5, g5, _, HTB.out.cell 20, HTB.out.cell 21, HTB.out.cell 22, HTB.out.cell 23, r5, b5⟩
    | 6, _ => exact ⟨a6, n6, c6, g6, _, HTB.out.cell 24, HTB.out.cell 25, HTB.out.cell 26, HTB.out.cell 27, r6, b6⟩
    | 7, _ => exact ⟨a7, n7, c7, g7, _, HTB.out.cell 28, HTB.out.cell 29, HTB.out.cell 30, HTB.out.cell 31, r7, b7⟩
  have hB9 := HB0.out.below hb9
  have HB9 := Lib.hid hB9
  have htb9 := HTB.out.lt
  clear HT HB0 hall hb9 HTB b0 r0 G0 E0 Q0 b1 r1 G1 E1 Q1 b2 r2 G2 E2 Q2 b3 r3 G3 E3 Q3 b4 r4 G4 E4 Q4 b5 r5 G5 E5 Q5 b6 r6 G6 E6 Q6 b7 r7 G7 E7 Q7 hB9
  generalize wN.heap.size = tb at *
  go_wp2_with fail
  go_loopw [47] (fun i wr => ∃ k : Nat, k ≤ 8 ∧ i = .int .i64 k ∧ Hid (∀ j, j < k → rowIn r j = true) ∧ Below w9.heap.size w9 wr) (fun i _ => 8 - (intOf i).toNat)
  case atStart => exact ⟨0, Nat.zero_le _, rfl, Lib.hid (fun j h => absurd h (Nat.not_lt_zero j)), Below.refl _ _⟩
  case round =>
    obtain ⟨k, hk, rfl, hin, hbel⟩ := hrel
    by_cases hlt : k < 8
    · obtain ⟨a, n, c, g, st, z0, z1, z2, z3, hrow, hblk⟩ := (HROW.out k hlt).below htb9 hbel
      have HRW := Lib.hid hrow; have HBK := Lib.hid hblk; clear hrow hblk
      obtain ⟨hLs, hx0, hx1, hy0, hy1⟩ := rowOf_small hs k hlt
      have hIN : rowIn r k = Pl.within (rowOf r k).1 (rowOf r k).2.1 (rowOf r k).2.2.1 (rowOf r k).2.2.2 := rfl
      have HINK := Lib.hid hIN; clear hIN
      generalize rowOf r k = ro at *
      obtain ⟨L, x, y, pm⟩ := ro
      go_wp2_with fail
      have HBN : Hid (Block (wr.alloc (.cells #[.slice a n c, .string st, .slice (some ⟨g, 0, none⟩) 2 2, .bool pm] 132)) wr.heap.size #[.slice a n c, .string st, .slice (some ⟨g, 0, none⟩) 2 2, .bool pm]) := ⟨132, heap_alloc_new wr _⟩
      have hba : Below wr.heap.size wr (wr.alloc (.cells #[.slice a n c, .string st, .slice (some ⟨g, 0, none⟩) 2 2, .bool pm] 132)) := (Below.refl _ _).alloc (Nat.le_refl _) _
      have HRI := Lib.hid (HRW.out.below hba)
      have hblk := HBK.out.below hba
      have HBG := Lib.hid hblk
      have hbel2 := hbel.trans (hba.mono hbel.size)
      clear hblk HBK HRW hba z0 z1 z2 z3
      generalize wr.alloc (.cells _ 132) = wi at *
      generalize wr.heap.size = bi at *
      have htn := HBN.out.lt
      obtain ⟨p, cap, hsl, h2, h3⟩ := HRI.out
      injection hsl with hp1 hp2 hp3
      subst hp1 hp2 hp3
      rw [ints_length] at h2 ⊢
      have H3 := Lib.hid h3; clear h3 HRI
      change L.length ≤ 1000000 at hLs; change 0 ≤ x at hx0; change x ≤ 1000 at hx1; change 0 ≤ y at hy0; change y ≤ 1000 at hy1
      change Hid (rowIn r k = Pl.within L x y pm) at HINK
      change Hid (Block wi g #[.int .i64 x, .int .i64 y]) at HBG
      go_loopw [54] (fun i wl => ∃ m : Nat, m ≤ L.length ∧ i = .int .i64 m ∧ Hid (rowIn r k = Pl.within (L.drop m) x y pm) ∧ Below wi.heap.size wi wl) (fun i _ => L.length - (intOf i).toNat)
      case atStart => exact ⟨0, Nat.zero_le _, rfl, Lib.hid (by rw [HINK.out, List.drop_zero]), Below.refl _ _⟩
      case round =>
        obtain ⟨m, hm, rfl, hA, hbi⟩ := hrel
        by_cases hmt : m < L.length
        · obtain ⟨q, hq⟩ : ∃ q, L[m]? = some q := ⟨_, List.getElem?_eq_getElem hmt⟩
          obtain ⟨ab, ao, rfl, hab, hcl⟩ := H3.out (by intro h; have := congrArg List.length h; rw [ints_length] at this; have h0 : L.length = 0 := this; omega)
          have cq : wr.cell? ⟨ab, ao + m, none⟩ = some (.int .i64 q) := (hbi.cell (p := ⟨ab, ao + m, none⟩) hab).trans (hcl m _ (by simp [ints, hq]))
          have hB1 := HBN.out.below hbi
          have y1 : wr.cell? ⟨bi, 1, none⟩ = some (.string st) := hB1.cell 1
          have y2 : wr.cell? ⟨bi, 2, none⟩ = some (.slice (some ⟨g, 0, none⟩) 2 2) := hB1.cell 2
          have y3 : wr.cell? ⟨bi, 3, none⟩ = some (.bool pm) := hB1.cell 3
          have hBg := HBG.out.below hbi
          have hcon := checkBounds_any st q x y pm g 0 wr hx0 hx1 hy0 hy1 (hBg.cell 0) (hBg.cell 1)
          have hstep : Pl.within (L.drop m) x y pm = (!Pl.outside x y pm q && Pl.within (L.drop (m + 1)) x y pm) := by
            obtain ⟨h, rfl⟩ := List.getElem?_eq_some_iff.1 hq
            rw [List.drop_eq_getElem_cons h]; rfl
          have HS := Lib.hid hstep; clear hstep hq hcl hB1 hBg
          go_wp2_with fail
          refine hcon.mono ?_
          rintro e w5 ⟨err, rfl, ho0, ho1, hb5⟩
          clear hcon
          have hbi5 := hbi.trans (hb5.mono hbi.size)
          cases ho : Pl.outside x y pm q with
          | false =>
            have hE := ho0 ho
            subst hE
            have hA2 : Hid (rowIn r k = Pl.within (L.drop (m + 1)) x y pm) := by show _ = _; rw [hA.out, HS.out, ho]; rfl
            clear ho ho0 ho1 hA HS
            go_wp2_with fail
            go_roundw
            case rel => exact ⟨m + 1, by omega, by go_num, hA2, hbi5⟩
            case measure => simp [intOf]; omega
          | true =>
            obtain ⟨t, u, rfl⟩ := ho1 ho
            have HF : Hid (Pl.ruleRight r = false) := row_false hlt (by rw [hA.out, HS.out, ho]; rfl)
            clear ho ho0 ho1 hA HS
            go_wp2_with fail
            go_ret
            refine ⟨.iface t u, rfl, fun h => ?_, fun _ => ⟨t, u, rfl⟩, ?_⟩
            · rw [HF.out] at h; cases h
            · have hz := hall9.trans ((hbel2.trans (hbi5.mono hbel2.size)).mono hall9.size)
              exact hz
        · obtain rfl : m = L.length := by omega
          have hrT : rowIn r k = true := by rw [hA.out, List.drop_length]; rfl
          have HIN2 : Hid (∀ j, j < k + 1 → rowIn r j = true) := fun j hj => by
            by_cases hjk : j = k
            · subst hjk; exact hrT
            · exact hin.out j (by omega)
          clear hrT hA
          go_wp2_with fail
          go_roundw
          case rel => exact ⟨k + 1, by omega, by go_num, HIN2, hbel2.trans (hbi.mono hbel2.size)⟩
          case measure => simp [intOf]; omega
    · obtain rfl : k = 8 := by omega
      have HR := Lib.hid (rows_right hin.out)
      have hBo := HB9.out.below hbel
      obtain ⟨⟨da, dcap, hdv, hd2, hd3⟩, _⟩ := hp.day
      have h14 : (r.icells v)[14]? = some (.slice da r.day.length dcap) := by rw [← hdv]; rfl
      have z14 : wr.cell? ⟨nb, 14, none⟩ = some (.slice da r.day.length dcap) := by rw [hBo.cell]; exact h14
      have HBO := Lib.hid hBo; clear hBo h14 hin
      have HD3 := Lib.hid hd3; clear hd3
      have hdl := hs.day
      have hallr := hall9.trans (hbel.mono hall9.size)
      go_wp2_with fail
      go_loopw [75] (fun i wl => ∃ m : Nat, m ≤ r.day.length ∧ i = .int .i64 m ∧ Hid (Pl.ruleRight r = ((r.day.drop m).all Pl.dayRight && decide (0 ≤ r.interval))) ∧ Below w.heap.size w wl ∧ Hid (Block wl nb (r.icells v))) (fun i _ => r.day.length - (intOf i).toNat)
      case atStart => exact ⟨0, Nat.zero_le _, rfl, Lib.hid (by rw [List.drop_zero]; exact HR.out), hallr, HBO⟩
      case round =>
        obtain ⟨m, hm, rfl, hA, hbl, hBl⟩ := hrel
        by_cases hmt : m < r.day.length
        · obtain ⟨d, hd⟩ : ∃ d, r.day[m]? = some d := ⟨_, List.getElem?_eq_getElem hmt⟩
          obtain ⟨db, dof, rfl, hbk, hc⟩ := HD3.out (by intro h; rw [h] at hmt; simp at hmt)
          obtain ⟨c1, c2⟩ := hc m d hd
          have e1 : wr.cell? ⟨db, dof + m * 2, none⟩ = some (.int .i64 d.1) := by rw [Nat.mul_comm m 2]; rw [hbl.cell (p := ⟨db, dof + 2 * m, none⟩) hbk]; exact c1
          have e2 : wr.cell? ⟨db, dof + m * 2 + 1, none⟩ = some (.int .i64 d.2) := by rw [Nat.mul_comm m 2]; rw [hbl.cell (p := ⟨db, dof + 2 * m + 1, none⟩) hbk]; exact c2
          clear c1 c2 hc
          have hstep : (r.day.drop m).all Pl.dayRight = (Pl.dayRight d && (r.day.drop (m + 1)).all Pl.dayRight) := by
            obtain ⟨h, rfl⟩ := List.getElem?_eq_some_iff.1 hd
            rw [List.drop_eq_getElem_cons h]; rfl
          have HS := Lib.hid hstep; clear hstep hd
          have hgo : Hid (Pl.dayRight d = true → Pl.ruleRight r = ((r.day.drop (m + 1)).all Pl.dayRight && decide (0 ≤ r.interval))) := Lib.hid fun h => by rw [hA.out, HS.out, h]; rfl
          have hno : Hid (Pl.dayRight d = false → Pl.ruleRight r = false) := Lib.hid fun h => by rw [hA.out, HS.out, h]; rfl
          clear hA HS
          unfold Pl.dayRight at hgo hno
          cases h1 : decide (d.2 < -53) <;> cases h2' : decide (53 < d.2) <;> simp only [h1, h2'] at hgo hno
          all_goals go_wp2_with (go_at_call 67; refine (New_any _ _).mono ?_; rintro e w' ⟨⟨t, u, rfl⟩, hbx⟩)
          all_goals first
            | (refine ⟨⟨m + 1, by omega, by go_num, hgo.out rfl, Below.alloc hbl hbl.size _, Lib.hid (hBl.out.alloc _)⟩, by simp [intOf]; omega⟩; done)
            | (go_ret; exact ⟨.iface t u, rfl, (fun h => by rw [hno.out rfl] at h; cases h), fun _ => ⟨t, u, rfl⟩, (Below.alloc hbl hbl.size _).trans (hbx.mono (Below.alloc hbl hbl.size _).size)⟩)
        · obtain rfl : m = r.day.length := by omega
          have z3 : wr.cell? ⟨nb, 3, none⟩ = some (.int .i64 r.interval) := hBl.out.cell 3
          have HA2 : Hid (Pl.ruleRight r = decide (0 ≤ r.interval)) := by show _ = _; rw [hA.out, List.drop_length]; rfl
          clear hA
          by_cases hi : r.interval < 0
          · have HF : Hid (Pl.ruleRight r = false) := by show _ = _; rw [HA2.out]; exact decide_eq_false (by omega)
            go_wp2_with (go_at_call 67; refine (New_any _ _).mono ?_; rintro e w' ⟨⟨t, u, rfl⟩, hbx⟩)
            go_ret
            exact ⟨.iface t u, rfl, (fun h => by rw [HF.out] at h; cases h), fun _ => ⟨t, u, rfl⟩, hbl.trans (hbx.mono hbl.size)⟩
          · have HF : Hid (Pl.ruleRight r = true) := by show _ = _; rw [HA2.out]; exact decide_eq_true (by omega)
            go_wp2_with fail
            go_ret
            exact ⟨.nilIface, rfl, fun _ => rfl, (fun h => by rw [HF.out] at h; cases h), (by rw [← hn0]; exact hbl)⟩
end Go.Proofs.YthkgjhnckakliaaGreatDoorR

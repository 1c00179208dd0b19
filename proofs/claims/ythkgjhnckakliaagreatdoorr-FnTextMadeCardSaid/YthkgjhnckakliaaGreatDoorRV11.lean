/- timeSlice: Len, Less; Time.Before. -/
import Derived.Test.YthkgjhnckakliaaGreatDoorRV08
import Derived.Test.YthkgjhnckakliaaGreatDoorRV02
import Derived.StillTailTactics
import Derived.Deep.RegionLaw
namespace Go.Proofs.YthkgjhnckakliaaGreatDoorR
open Go.RowKit
/-- Some truth value. -/
def BoolOut (w : World) (e : Ending) (w' : World) : Prop := (∃ t : Bool, e = .returned (.bool t)) ∧ Below w.heap.size w w'
/-- Block g holds N times. -/
def Times (w : World) (g N : Nat) : Prop := ∃ cs : Array Value, Block w g cs ∧ N * 2 ≤ cs.size ∧ ∀ i, i < N * 2 → ∃ z : Int, cs[i]? = some (.int .i64 z)
theorem Times.below {w w' : World} {g N : Nat} (h : Times w g N) (hb : Below w.heap.size w w') : Times w' g N := by
  obtain ⟨cs, h1, h2, h3⟩ := h; exact ⟨cs, h1.below hb, h2, h3⟩

set_option maxHeartbeats 2000000 in
set_option maxRecDepth 100000 in
theorem Before_any (a b c d : Int) (w : World) : Calls Tryz.prog 204 #[vTime a b, vTime c d] w (BoolOut w) := by
  go_enter Tryz.func204, Tryz.ntmps204
  go_wp2
  all_goals go_ret
  all_goals exact ⟨⟨_, rfl⟩, by (repeat (first | exact Below.refl _ _ | refine Below.setCell ?_ (by simp) _ | refine Below.alloc ?_ (by simp) _ | refine Below.drew ?_ | refine below_drewN ?_ _))⟩

set_option maxHeartbeats 2000000 in
set_option maxRecDepth 100000 in
theorem TimesLen_any (a : Option Addr) (n c : Nat) (w : World) : Calls Tryz.prog 201 #[.slice a n c] w fun e w' => e = .returned (.int .i64 n) ∧ w = w' := by
  go_enter Tryz.func201, Tryz.ntmps201
  go_wp2
  go_ret
  exact ⟨rfl, rfl⟩

set_option maxHeartbeats 2000000 in
set_option maxRecDepth 100000 in
theorem TimesLess_any (g N cap i j : Nat) (w : World) (hT : Times w g N) (hi : i < N) (hj : j < N) :
    Calls Tryz.prog 202 #[.slice (some ⟨g, 0, none⟩) N cap, .int .i64 i, .int .i64 j] w (BoolOut w) := by
  obtain ⟨cs, hB, hsz, hint⟩ := hT
  obtain ⟨a0, ha0⟩ := hint (i * 2) (by omega)
  obtain ⟨a1, ha1⟩ := hint (i * 2 + 1) (by omega)
  obtain ⟨b0, hb0⟩ := hint (j * 2) (by omega)
  obtain ⟨b1, hb1⟩ := hint (j * 2 + 1) (by omega)
  have c1 : w.cell? ⟨g, i * 2, none⟩ = some (.int .i64 a0) := by rw [hB.cell]; exact ha0
  have c2 : w.cell? ⟨g, i * 2 + 1, none⟩ = some (.int .i64 a1) := by rw [hB.cell]; exact ha1
  have c3 : w.cell? ⟨g, j * 2, none⟩ = some (.int .i64 b0) := by rw [hB.cell]; exact hb0
  have c4 : w.cell? ⟨g, j * 2 + 1, none⟩ = some (.int .i64 b1) := by rw [hB.cell]; exact hb1
  have hi' : (i : Int) < (N : Int) := by omega
  have hj' : (j : Int) < (N : Int) := by omega
  clear hB hint ha0 ha1 hb0 hb1 hsz
  go_enter Tryz.func202, Tryz.ntmps202
  go_wp2_with fail
  go_still_tail 8, (by kernel_rfl)
  change wpList _ _ _ _ _ w.drew
  have hbd : Below w.heap.size w w.drew := (Below.refl _ _).drew
  generalize w.drew = wd at *
  go_wp2_with (go_at_call 204; refine (Before_any _ _ _ _ _).mono ?_; rintro e w' ⟨⟨t, rfl⟩, hbx⟩)
  go_ret
  exact ⟨⟨t, rfl⟩, hbd.trans (hbx.mono hbd.size)⟩

theorem Times.put {w : World} {g N : Nat} (h : Times w g N) (i : Nat) (z : Int) : Times (w.setCell ⟨g, i, none⟩ (.int .i64 z)) g N := by
  obtain ⟨cs, h1, h2, h3⟩ := h
  refine ⟨_, h1.set i (.int .i64 z), by simpa using h2, fun j hj => ?_⟩
  rw [Array.getElem?_setIfInBounds]
  by_cases hij : i = j
  · subst hij; rw [if_pos rfl, if_pos (by omega)]; exact ⟨z, rfl⟩
  · rw [if_neg hij]; exact h3 j hj
set_option maxHeartbeats 4000000 in
set_option maxRecDepth 100000 in
theorem TimesSwap_any (g N cap i j : Nat) (w : World) (hT : Times w g N) (hi : i < N) (hj : j < N) :
    Calls Tryz.prog 203 #[.slice (some ⟨g, 0, none⟩) N cap, .int .i64 i, .int .i64 j] w fun e w' => e = .returned (.tuple #[]) ∧ Times w' g N ∧ ButBelow g w w' := by
  have HT := Lib.hid hT
  obtain ⟨cs, hB, hsz, hint⟩ := hT
  obtain ⟨a0, ha0⟩ := hint (i * 2) (by omega)
  obtain ⟨a1, ha1⟩ := hint (i * 2 + 1) (by omega)
  obtain ⟨b0, hb0⟩ := hint (j * 2) (by omega)
  obtain ⟨b1, hb1⟩ := hint (j * 2 + 1) (by omega)
  have c1 : w.cell? ⟨g, i * 2, none⟩ = some (.int .i64 a0) := by rw [hB.cell]; exact ha0
  have c2 : w.cell? ⟨g, i * 2 + 1, none⟩ = some (.int .i64 a1) := by rw [hB.cell]; exact ha1
  have c3 : w.cell? ⟨g, j * 2, none⟩ = some (.int .i64 b0) := by rw [hB.cell]; exact hb0
  have c4 : w.cell? ⟨g, j * 2 + 1, none⟩ = some (.int .i64 b1) := by rw [hB.cell]; exact hb1
  have f1 := hB.free (i * 2); have f2 := hB.free (i * 2 + 1); have f3 := hB.free (j * 2); have f4 := hB.free (j * 2 + 1)
  have hi' : (i : Int) < (N : Int) := by omega
  have hj' : (j : Int) < (N : Int) := by omega
  clear hB hint ha0 ha1 hb0 hb1 hsz
  by_cases hij : i = j
  · subst hij
    obtain ⟨rfl, rfl⟩ : a0 = b0 ∧ a1 = b1 := by
      rw [c1] at c3; rw [c2] at c4; injection c3 with c3; injection c3 with _ c3; injection c4 with c4; injection c4 with _ c4; exact ⟨c3, c4⟩
    go_enter Tryz.func203, Tryz.ntmps203
    go_wp2_with fail
    go_region
    all_goals go_end0
    all_goals exact ⟨rfl, ((((HT.out.put _ _).put _ _).put _ _).put _ _), (((((ButBelow.refl g w).setCell _ _).setCell _ _).setCell _ _).setCell _ _).drew⟩
  · have n1 : ¬ (i * 2 = j * 2) := by omega
    have n2 : ¬ (i * 2 + 1 = j * 2) := by omega
    have n3 : ¬ (i * 2 = j * 2 + 1) := by omega
    have n4 : ¬ (i * 2 + 1 = j * 2 + 1) := by omega
    have n5 : ¬ (j * 2 = i * 2) := by omega
    have n6 : ¬ (j * 2 = i * 2 + 1) := by omega
    have n7 : ¬ (j * 2 + 1 = i * 2) := by omega
    have n8 : ¬ (j * 2 + 1 = i * 2 + 1) := by omega
    have n9 : ¬ (j = i) := fun h => hij h.symm
    go_enter Tryz.func203, Tryz.ntmps203
    go_wp2_with fail
    go_region
    all_goals go_end0
    all_goals exact ⟨rfl, ((((HT.out.put _ _).put _ _).put _ _).put _ _), (((((ButBelow.refl g w).setCell _ _).setCell _ _).setCell _ _).setCell _ _).drew⟩
end Go.Proofs.YthkgjhnckakliaaGreatDoorR

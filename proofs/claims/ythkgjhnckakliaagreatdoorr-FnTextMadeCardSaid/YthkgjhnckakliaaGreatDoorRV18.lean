/- The contract of the reference's reader of a rule's part: the lists of numbers. -/
import Derived.Test.YthkgjhnckakliaaGreatDoorRV08
namespace Go.Proofs.YthkgjhnckakliaaGreatDoorR
open Go.RowKit

theorem ButBelow.drewN (rb : Nat) (w : World) (n : Nat) : ButBelow rb w (w.drewN n) := ⟨rfl, rfl, rfl, Nat.le_refl _, fun _ _ _ => rfl⟩
theorem Block.drewN {w : World} {b : Nat} {cs : Array Value} (h : Block w b cs) (n : Nat) : Block (w.drewN n) b cs := h
theorem Tryz.ixN0 (w : World) : (Instr.index 88 (.agg #[.string ⟨#[66, 89, 83, 69, 84, 80, 79, 83]⟩, .string ⟨#[66, 89, 77, 79, 78, 84, 72]⟩, .string ⟨#[66, 89, 77, 79, 78, 84, 72, 68, 65, 89]⟩, .string ⟨#[66, 89, 89, 69, 65, 82, 68, 65, 89]⟩, .string ⟨#[66, 89, 87, 69, 69, 75, 78, 79]⟩, .string ⟨#[66, 89, 72, 79, 85, 82]⟩, .string ⟨#[66, 89, 77, 73, 78, 85, 84, 69]⟩, .string ⟨#[66, 89, 83, 69, 67, 79, 78, 68]⟩, .string ⟨#[66, 89, 69, 65, 83, 84, 69, 82]⟩]) (.int .i64 0)).run Tryz.prog w = .ok (.string ⟨#[66, 89, 83, 69, 84, 80, 79, 83]⟩) w := by kernel_rfl
theorem Tryz.ixP0 (rb : Nat) (w : World) : (Instr.index 90 (.agg #[.pointer (some ⟨rb, 8, none⟩), .pointer (some ⟨rb, 9, none⟩), .pointer (some ⟨rb, 10, none⟩), .pointer (some ⟨rb, 11, none⟩), .pointer (some ⟨rb, 12, none⟩), .pointer (some ⟨rb, 14, none⟩), .pointer (some ⟨rb, 15, none⟩), .pointer (some ⟨rb, 16, none⟩), .pointer (some ⟨rb, 17, none⟩)]) (.int .i64 0)).run Tryz.prog w = .ok (.pointer (some ⟨rb, 8, none⟩)) w := by kernel_rfl
theorem Tryz.ixN1 (w : World) : (Instr.index 88 (.agg #[.string ⟨#[66, 89, 83, 69, 84, 80, 79, 83]⟩, .string ⟨#[66, 89, 77, 79, 78, 84, 72]⟩, .string ⟨#[66, 89, 77, 79, 78, 84, 72, 68, 65, 89]⟩, .string ⟨#[66, 89, 89, 69, 65, 82, 68, 65, 89]⟩, .string ⟨#[66, 89, 87, 69, 69, 75, 78, 79]⟩, .string ⟨#[66, 89, 72, 79, 85, 82]⟩, .string ⟨#[66, 89, 77, 73, 78, 85, 84, 69]⟩, .string ⟨#[66, 89, 83, 69, 67, 79, 78, 68]⟩, .string ⟨#[66, 89, 69, 65, 83, 84, 69, 82]⟩]) (.int .i64 1)).run Tryz.prog w = .ok (.string ⟨#[66, 89, 77, 79, 78, 84, 72]⟩) w := by kernel_rfl
theorem Tryz.ixP1 (rb : Nat) (w : World) : (Instr.index 90 (.agg #[.pointer (some ⟨rb, 8, none⟩), .pointer (some ⟨rb, 9, none⟩), .pointer (some ⟨rb, 10, none⟩), .pointer (some ⟨rb, 11, none⟩), .pointer (some ⟨rb, 12, none⟩), .pointer (some ⟨rb, 14, none⟩), .pointer (some ⟨rb, 15, none⟩), .pointer (some ⟨rb, 16, none⟩), .pointer (some ⟨rb, 17, none⟩)]) (.int .i64 1)).run Tryz.prog w = .ok (.pointer (some ⟨rb, 9, none⟩)) w := by kernel_rfl
theorem Tryz.ixN2 (w : World) : (Instr.index 88 (.agg #[.string ⟨#[66, 89, 83, 69, 84, 80, 79, 83]⟩, .string ⟨#[66, 89, 77, 79, 78, 84, 72]⟩, .string ⟨#[66, 89, 77, 79, 78, 84, 72, 68, 65, 89]⟩, .string ⟨#[66, 89, 89, 69, 65, 82, 68, 65, 89]⟩, .string ⟨#[66, 89, 87, 69, 69, 75, 78, 79]⟩, .string ⟨#[66, 89, 72, 79, 85, 82]⟩, .string ⟨#[66, 89, 77, 73, 78, 85, 84, 69]⟩, .string ⟨#[66, 89, 83, 69, 67, 79, 78, 68]⟩, .string ⟨#[66, 89, 69, 65, 83, 84, 69, 82]⟩]) (.int .i64 2)).run Tryz.prog w = .ok (.string ⟨#[66, 89, 77, 79, 78, 84, 72, 68, 65, 89]⟩) w := by kernel_rfl
theorem Tryz.ixP2 (rb : Nat) (w : World) : (Instr.index 90 (.agg #[.pointer (some ⟨rb, 8, none⟩), .pointer (some ⟨rb, 9, none⟩), .pointer (some ⟨rb, 10, none⟩), .pointer (some ⟨rb, 11, none⟩), .pointer (some ⟨rb, 12, none⟩), .pointer (some ⟨rb, 14, none⟩), .pointer (some ⟨rb, 15, none⟩), .pointer (some ⟨rb, 16, none⟩), .pointer (some ⟨rb, 17, none⟩)]) (.int .i64 2)).run Tryz.prog w = .ok (.pointer (some ⟨rb, 10, none⟩)) w := by kernel_rfl
theorem Tryz.ixN3 (w : World) : (Instr.index 88 (.agg #[.string ⟨#[66, 89, 83, 69, 84, 80, 79, 83]⟩, .string ⟨#[66, 89, 77, 79, 78, 84, 72]⟩, .string ⟨#[66, 89, 77, 79, 78, 84, 72, 68, 65, 89]⟩, .string ⟨#[66, 89, 89, 69, 65, 82, 68, 65, 89]⟩, .string ⟨#[66, 89, 87, 69, 69, 75, 78, 79]⟩, .string ⟨#[66, 89, 72, 79, 85, 82]⟩, .string ⟨#[66, 89, 77, 73, 78, 85, 84, 69]⟩, .string ⟨#[66, 89, 83, 69, 67, 79, 78, 68]⟩, .string ⟨#[66, 89, 69, 65, 83, 84, 69, 82]⟩]) (.int .i64 3)).run Tryz.prog w = .ok (.string ⟨#[66, 89, 89, 69, 65, 82, 68, 65, 89]⟩) w := by kernel_rfl
theorem Tryz.ixP3 (rb : Nat) (w : World) : (Instr.index 90 (.agg #[.pointer (some ⟨rb, 8, none⟩), .pointer (some ⟨rb, 9, none⟩), .pointer (some ⟨rb, 10, none⟩), .pointer (some ⟨rb, 11, none⟩), .pointer (some ⟨rb, 12, none⟩), .pointer (some ⟨rb, 14, none⟩), .pointer (some ⟨rb, 15, none⟩), .pointer (some ⟨rb, 16, none⟩), .pointer (some ⟨rb, 17, none⟩)]) (.int .i64 3)).run Tryz.prog w = .ok (.pointer (some ⟨rb, 11, none⟩)) w := by kernel_rfl
theorem Tryz.ixN4 (w : World) : (Instr.index 88 (.agg #[.string ⟨#[66, 89, 83, 69, 84, 80, 79, 83]⟩, .string ⟨#[66, 89, 77, 79, 78, 84, 72]⟩, .string ⟨#[66, 89, 77, 79, 78, 84, 72, 68, 65, 89]⟩, .string ⟨#[66, 89, 89, 69, 65, 82, 68, 65, 89]⟩, .string ⟨#[66, 89, 87, 69, 69, 75, 78, 79]⟩, .string ⟨#[66, 89, 72, 79, 85, 82]⟩, .string ⟨#[66, 89, 77, 73, 78, 85, 84, 69]⟩, .string ⟨#[66, 89, 83, 69, 67, 79, 78, 68]⟩, .string ⟨#[66, 89, 69, 65, 83, 84, 69, 82]⟩]) (.int .i64 4)).run Tryz.prog w = .ok (.string ⟨#[66, 89, 87, 69, 69, 75, 78, 79]⟩) w := by kernel_rfl
theorem Tryz.ixP4 (rb : Nat) (w : World) : (Instr.index 90 (.agg #[.pointer (some ⟨rb, 8, none⟩), .pointer (some ⟨rb, 9, none⟩), .pointer (some ⟨rb, 10, none⟩), .pointer (some ⟨rb, 11, none⟩), .pointer (some ⟨rb, 12, none⟩), .pointer (some ⟨rb, 14, none⟩), .pointer (some ⟨rb, 15, none⟩), .pointer (some ⟨rb, 16, none⟩), .pointer (some ⟨rb, 17, none⟩)]) (.int .i64 4)).run Tryz.prog w = .ok (.pointer (some ⟨rb, 12, none⟩)) w := by kernel_rfl
theorem Tryz.ixN5 (w : World) : (Instr.index 88 (.agg #[.string ⟨#[66, 89, 83, 69, 84, 80, 79, 83]⟩, .string ⟨#[66, 89, 77, 79, 78, 84, 72]⟩, .string ⟨#[66, 89, 77, 79, 78, 84, 72, 68, 65, 89]⟩, .string ⟨#[66, 89, 89, 69, 65, 82, 68, 65, 89]⟩, .string ⟨#[66, 89, 87, 69, 69, 75, 78, 79]⟩, .string ⟨#[66, 89, 72, 79, 85, 82]⟩, .string ⟨#[66, 89, 77, 73, 78, 85, 84, 69]⟩, .string ⟨#[66, 89, 83, 69, 67, 79, 78, 68]⟩, .string ⟨#[66, 89, 69, 65, 83, 84, 69, 82]⟩]) (.int .i64 5)).run Tryz.prog w = .ok (.string ⟨#[66, 89, 72, 79, 85, 82]⟩) w := by kernel_rfl
theorem Tryz.ixP5 (rb : Nat) (w : World) : (Instr.index 90 (.agg #[.pointer (some ⟨rb, 8, none⟩), .pointer (some ⟨rb, 9, none⟩), .pointer (some ⟨rb, 10, none⟩), .pointer (some ⟨rb, 11, none⟩), .pointer (some ⟨rb, 12, none⟩), .pointer (some ⟨rb, 14, none⟩), .pointer (some ⟨rb, 15, none⟩), .pointer (some ⟨rb, 16, none⟩), .pointer (some ⟨rb, 17, none⟩)]) (.int .i64 5)).run Tryz.prog w = .ok (.pointer (some ⟨rb, 14, none⟩)) w := by kernel_rfl
theorem Tryz.ixN6 (w : World) : (Instr.index 88 (.agg #[.string ⟨#[66, 89, 83, 69, 84, 80, 79, 83]⟩, .string ⟨#[66, 89, 77, 79, 78, 84, 72]⟩, .string ⟨#[66, 89, 77, 79, 78, 84, 72, 68, 65, 89]⟩, .string ⟨#[66, 89, 89, 69, 65, 82, 68, 65, 89]⟩, .string ⟨#[66, 89, 87, 69, 69, 75, 78, 79]⟩, .string ⟨#[66, 89, 72, 79, 85, 82]⟩, .string ⟨#[66, 89, 77, 73, 78, 85, 84, 69]⟩, .string ⟨#[66, 89, 83, 69, 67, 79, 78, 68]⟩, .string ⟨#[66, 89, 69, 65, 83, 84, 69, 82]⟩]) (.int .i64 6)).run Tryz.prog w = .ok (.string ⟨#[66, 89, 77, 73, 78, 85, 84, 69]⟩) w := by kernel_rfl
theorem Tryz.ixP6 (rb : Nat) (w : World) : (Instr.index 90 (.agg #[.pointer (some ⟨rb, 8, none⟩), .pointer (some ⟨rb, 9, none⟩), .pointer (some ⟨rb, 10, none⟩), .pointer (some ⟨rb, 11, none⟩), .pointer (some ⟨rb, 12, none⟩), .pointer (some ⟨rb, 14, none⟩), .pointer (some ⟨rb, 15, none⟩), .pointer (some ⟨rb, 16, none⟩), .pointer (some ⟨rb, 17, none⟩)]) (.int .i64 6)).run Tryz.prog w = .ok (.pointer (some ⟨rb, 15, none⟩)) w := by kernel_rfl
theorem Tryz.ixN7 (w : World) : (Instr.index 88 (.agg #[.string ⟨#[66, 89, 83, 69, 84, 80, 79, 83]⟩, .string ⟨#[66, 89, 77, 79, 78, 84, 72]⟩, .string ⟨#[66, 89, 77, 79, 78, 84, 72, 68, 65, 89]⟩, .string ⟨#[66, 89, 89, 69, 65, 82, 68, 65, 89]⟩, .string ⟨#[66, 89, 87, 69, 69, 75, 78, 79]⟩, .string ⟨#[66, 89, 72, 79, 85, 82]⟩, .string ⟨#[66, 89, 77, 73, 78, 85, 84, 69]⟩, .string ⟨#[66, 89, 83, 69, 67, 79, 78, 68]⟩, .string ⟨#[66, 89, 69, 65, 83, 84, 69, 82]⟩]) (.int .i64 7)).run Tryz.prog w = .ok (.string ⟨#[66, 89, 83, 69, 67, 79, 78, 68]⟩) w := by kernel_rfl
theorem Tryz.ixP7 (rb : Nat) (w : World) : (Instr.index 90 (.agg #[.pointer (some ⟨rb, 8, none⟩), .pointer (some ⟨rb, 9, none⟩), .pointer (some ⟨rb, 10, none⟩), .pointer (some ⟨rb, 11, none⟩), .pointer (some ⟨rb, 12, none⟩), .pointer (some ⟨rb, 14, none⟩), .pointer (some ⟨rb, 15, none⟩), .pointer (some ⟨rb, 16, none⟩), .pointer (some ⟨rb, 17, none⟩)]) (.int .i64 7)).run Tryz.prog w = .ok (.pointer (some ⟨rb, 16, none⟩)) w := by kernel_rfl
theorem Tryz.ixN8 (w : World) : (Instr.index 88 (.agg #[.string ⟨#[66, 89, 83, 69, 84, 80, 79, 83]⟩, .string ⟨#[66, 89, 77, 79, 78, 84, 72]⟩, .string ⟨#[66, 89, 77, 79, 78, 84, 72, 68, 65, 89]⟩, .string ⟨#[66, 89, 89, 69, 65, 82, 68, 65, 89]⟩, .string ⟨#[66, 89, 87, 69, 69, 75, 78, 79]⟩, .string ⟨#[66, 89, 72, 79, 85, 82]⟩, .string ⟨#[66, 89, 77, 73, 78, 85, 84, 69]⟩, .string ⟨#[66, 89, 83, 69, 67, 79, 78, 68]⟩, .string ⟨#[66, 89, 69, 65, 83, 84, 69, 82]⟩]) (.int .i64 8)).run Tryz.prog w = .ok (.string ⟨#[66, 89, 69, 65, 83, 84, 69, 82]⟩) w := by kernel_rfl
theorem Tryz.ixP8 (rb : Nat) (w : World) : (Instr.index 90 (.agg #[.pointer (some ⟨rb, 8, none⟩), .pointer (some ⟨rb, 9, none⟩), .pointer (some ⟨rb, 10, none⟩), .pointer (some ⟨rb, 11, none⟩), .pointer (some ⟨rb, 12, none⟩), .pointer (some ⟨rb, 14, none⟩), .pointer (some ⟨rb, 15, none⟩), .pointer (some ⟨rb, 16, none⟩), .pointer (some ⟨rb, 17, none⟩)]) (.int .i64 8)).run Tryz.prog w = .ok (.pointer (some ⟨rb, 17, none⟩)) w := by kernel_rfl

set_option maxHeartbeats 4000000 in
set_option maxRecDepth 100000 in
theorem part_BYSETPOS (rb : Nat) (r : PR) (s : ByteArray) (w : World) (hs : s.size ≤ 1000000) (hr : RuleAt w rb r) :
    Calls Tryz.prog 21 #[.pointer (some ⟨rb, 0, none⟩), .string ⟨#[66, 89, 83, 69, 84, 80, 79, 83]⟩, .string s] w (PartRes rb w (Pl.partOf r Pl.kBYSETPOS s.data.toList)) := by
  have hmf : ∀ (fn : Fn) (first cap : Array Value) (w : World), (Instr.makeFunc fn first cap).run Tryz.prog w = .ok (.func fn first cap) w := fun _ _ _ _ => rfl
  have hq : Pl.partOf r Pl.kBYSETPOS s.data.toList = Pl.withInts r s.data.toList fun r l => { r with setPos := l } := by
    unfold Pl.partOf; iterate 7 rw [if_neg (by decide)]
    rw [if_pos rfl]
  rw [hq]; clear hq
  obtain ⟨v, hb, hp⟩ := hr
  have n0 := Tryz.ixN0
  have p0 := Tryz.ixP0 rb
  have HB := Lib.hid hb; clear hb
  go_enter Tryz.func21, Tryz.ntmps21
  go_wp2
  refine wp_loop_rounds 10 ?_
  rw [rounds_succ]
  go_wp2
  go_quiet (fail)
  go_wp2_with fail
  refine (textIntList_any s _ hs).mono ?_
  rintro e w1 ⟨va, vn, vc, rfl, hv1, hb1⟩
  have hB1 := (HB.out.drewN nq).below hb1
  have c1 : w1.cell? ⟨rb, 8, none⟩ = some v.setPos := hB1.cell 8
  have f1 := hB1.free 8
  have hbb : ButBelow rb w w1 := (ButBelow.drewN rb w nq).below hb1
  have HB1 := Lib.hid hB1; clear hB1
  have hlt : rb < w.heap.size := HB.out.lt
  cases hi : Pl.intsOf s.data.toList with
  | none =>
    have HI := Lib.hid hi; clear hi
    go_wp2_with (go_at_call 34; refine (told_any _ _).mono ?_; rintro e w' ⟨rfl, rfl⟩)
    go_ret
    refine ⟨by simp only [Pl.withInts, HI.out]; rfl, ?_, hbb.setCell _ _⟩
    simp only [Pl.withInts, HI.out]; exact (fun h => by cases h)
  | some l =>
    have HI := Lib.hid hi
    have hv2 := hv1 l hi
    clear hi hv1
    go_wp2_with (go_at_call 34; refine (told_any _ _).mono ?_; rintro e w' ⟨rfl, rfl⟩)
    go_ret
    refine ⟨by simp only [Pl.withInts, HI.out]; rfl, ?_, hbb.setCell _ _⟩
    simp only [Pl.withInts, HI.out]
    intro _
    have hs2 : SlI rb (w1.setCell ⟨rb, 8, none⟩ (.slice va vn vc)) (.slice va vn vc) l := SlI.but ⟨hv2.1, fun k e => by have := hv2.2 k e; simp at this; omega⟩ ((ButBelow.refl rb w1).setCell 8 (.slice va vn vc))
    have hp2 := hp.but (hbb.setCell 8 (.slice va vn vc))
    exact ⟨{ v with setPos := .slice va vn vc }, HB1.out.set 8 _, ⟨hs2, hp2.month, hp2.monthDay, hp2.yearDay, hp2.weekNo, hp2.day, hp2.hour, hp2.minute, hp2.second, hp2.easter⟩⟩

set_option maxHeartbeats 4000000 in
set_option maxRecDepth 100000 in
theorem part_BYMONTH (rb : Nat) (r : PR) (s : ByteArray) (w : World) (hs : s.size ≤ 1000000) (hr : RuleAt w rb r) :
    Calls Tryz.prog 21 #[.pointer (some ⟨rb, 0, none⟩), .string ⟨#[66, 89, 77, 79, 78, 84, 72]⟩, .string s] w (PartRes rb w (Pl.partOf r Pl.kBYMONTH s.data.toList)) := by
  have hmf : ∀ (fn : Fn) (first cap : Array Value) (w : World), (Instr.makeFunc fn first cap).run Tryz.prog w = .ok (.func fn first cap) w := fun _ _ _ _ => rfl
  have hq : Pl.partOf r Pl.kBYMONTH s.data.toList = Pl.withInts r s.data.toList fun r l => { r with month := l } := by
    unfold Pl.partOf; iterate 8 rw [if_neg (by decide)]
    rw [if_pos rfl]
  rw [hq]; clear hq
  obtain ⟨v, hb, hp⟩ := hr
  have n0 := Tryz.ixN0
  have n1 := Tryz.ixN1
  have p1 := Tryz.ixP1 rb
  have HB := Lib.hid hb; clear hb
  go_enter Tryz.func21, Tryz.ntmps21
  go_wp2
  refine wp_loop_rounds 10 ?_
  rw [rounds_succ]
  go_wp2
  rw [rounds_succ]
  go_wp2
  go_quiet (fail)
  go_wp2_with fail
  refine (textIntList_any s _ hs).mono ?_
  rintro e w1 ⟨va, vn, vc, rfl, hv1, hb1⟩
  have hB1 := (HB.out.drewN nq).below hb1
  have c1 : w1.cell? ⟨rb, 9, none⟩ = some v.month := hB1.cell 9
  have f1 := hB1.free 9
  have hbb : ButBelow rb w w1 := (ButBelow.drewN rb w nq).below hb1
  have HB1 := Lib.hid hB1; clear hB1
  have hlt : rb < w.heap.size := HB.out.lt
  cases hi : Pl.intsOf s.data.toList with
  | none =>
    have HI := Lib.hid hi; clear hi
    go_wp2_with (go_at_call 34; refine (told_any _ _).mono ?_; rintro e w' ⟨rfl, rfl⟩)
    go_ret
    refine ⟨by simp only [Pl.withInts, HI.out]; rfl, ?_, hbb.setCell _ _⟩
    simp only [Pl.withInts, HI.out]; exact (fun h => by cases h)
  | some l =>
    have HI := Lib.hid hi
    have hv2 := hv1 l hi
    clear hi hv1
    go_wp2_with (go_at_call 34; refine (told_any _ _).mono ?_; rintro e w' ⟨rfl, rfl⟩)
    go_ret
    refine ⟨by simp only [Pl.withInts, HI.out]; rfl, ?_, hbb.setCell _ _⟩
    simp only [Pl.withInts, HI.out]
    intro _
    have hs2 : SlI rb (w1.setCell ⟨rb, 9, none⟩ (.slice va vn vc)) (.slice va vn vc) l := SlI.but ⟨hv2.1, fun k e => by have := hv2.2 k e; simp at this; omega⟩ ((ButBelow.refl rb w1).setCell 9 (.slice va vn vc))
    have hp2 := hp.but (hbb.setCell 9 (.slice va vn vc))
    exact ⟨{ v with month := .slice va vn vc }, HB1.out.set 9 _, ⟨hp2.setPos, hs2, hp2.monthDay, hp2.yearDay, hp2.weekNo, hp2.day, hp2.hour, hp2.minute, hp2.second, hp2.easter⟩⟩

set_option maxHeartbeats 4000000 in
set_option maxRecDepth 100000 in
theorem part_BYMONTHDAY (rb : Nat) (r : PR) (s : ByteArray) (w : World) (hs : s.size ≤ 1000000) (hr : RuleAt w rb r) :
    Calls Tryz.prog 21 #[.pointer (some ⟨rb, 0, none⟩), .string ⟨#[66, 89, 77, 79, 78, 84, 72, 68, 65, 89]⟩, .string s] w (PartRes rb w (Pl.partOf r Pl.kBYMONTHDAY s.data.toList)) := by
  have hmf : ∀ (fn : Fn) (first cap : Array Value) (w : World), (Instr.makeFunc fn first cap).run Tryz.prog w = .ok (.func fn first cap) w := fun _ _ _ _ => rfl
  have hq : Pl.partOf r Pl.kBYMONTHDAY s.data.toList = Pl.withInts r s.data.toList fun r l => { r with monthDay := l } := by
    unfold Pl.partOf; iterate 9 rw [if_neg (by decide)]
    rw [if_pos rfl]
  rw [hq]; clear hq
  obtain ⟨v, hb, hp⟩ := hr
  have n0 := Tryz.ixN0
  have n1 := Tryz.ixN1
  have n2 := Tryz.ixN2
  have p2 := Tryz.ixP2 rb
  have HB := Lib.hid hb; clear hb
  go_enter Tryz.func21, Tryz.ntmps21
  go_wp2
  refine wp_loop_rounds 10 ?_
  rw [rounds_succ]
  go_wp2
  rw [rounds_succ]
  go_wp2
  rw [rounds_succ]
  go_wp2
  go_quiet (fail)
  go_wp2_with fail
  refine (textIntList_any s _ hs).mono ?_
  rintro e w1 ⟨va, vn, vc, rfl, hv1, hb1⟩
  have hB1 := (HB.out.drewN nq).below hb1
  have c1 : w1.cell? ⟨rb, 10, none⟩ = some v.monthDay := hB1.cell 10
  have f1 := hB1.free 10
  have hbb : ButBelow rb w w1 := (ButBelow.drewN rb w nq).below hb1
  have HB1 := Lib.hid hB1; clear hB1
  have hlt : rb < w.heap.size := HB.out.lt
  cases hi : Pl.intsOf s.data.toList with
  | none =>
    have HI := Lib.hid hi; clear hi
    go_wp2_with (go_at_call 34; refine (told_any _ _).mono ?_; rintro e w' ⟨rfl, rfl⟩)
    go_ret
    refine ⟨by simp only [Pl.withInts, HI.out]; rfl, ?_, hbb.setCell _ _⟩
    simp only [Pl.withInts, HI.out]; exact (fun h => by cases h)
  | some l =>
    have HI := Lib.hid hi
    have hv2 := hv1 l hi
    clear hi hv1
    go_wp2_with (go_at_call 34; refine (told_any _ _).mono ?_; rintro e w' ⟨rfl, rfl⟩)
    go_ret
    refine ⟨by simp only [Pl.withInts, HI.out]; rfl, ?_, hbb.setCell _ _⟩
    simp only [Pl.withInts, HI.out]
    intro _
    have hs2 : SlI rb (w1.setCell ⟨rb, 10, none⟩ (.slice va vn vc)) (.slice va vn vc) l := SlI.but ⟨hv2.1, fun k e => by have := hv2.2 k e; simp at this; omega⟩ ((ButBelow.refl rb w1).setCell 10 (.slice va vn vc))
    have hp2 := hp.but (hbb.setCell 10 (.slice va vn vc))
    exact ⟨{ v with monthDay := .slice va vn vc }, HB1.out.set 10 _, ⟨hp2.setPos, hp2.month, hs2, hp2.yearDay, hp2.weekNo, hp2.day, hp2.hour, hp2.minute, hp2.second, hp2.easter⟩⟩

set_option maxHeartbeats 4000000 in
set_option maxRecDepth 100000 in
theorem part_BYYEARDAY (rb : Nat) (r : PR) (s : ByteArray) (w : World) (hs : s.size ≤ 1000000) (hr : RuleAt w rb r) :
    Calls Tryz.prog 21 #[.pointer (some ⟨rb, 0, none⟩), .string ⟨#[66, 89, 89, 69, 65, 82, 68, 65, 89]⟩, .string s] w (PartRes rb w (Pl.partOf r Pl.kBYYEARDAY s.data.toList)) := by
  have hmf : ∀ (fn : Fn) (first cap : Array Value) (w : World), (Instr.makeFunc fn first cap).run Tryz.prog w = .ok (.func fn first cap) w := fun _ _ _ _ => rfl
  have hq : Pl.partOf r Pl.kBYYEARDAY s.data.toList = Pl.withInts r s.data.toList fun r l => { r with yearDay := l } := by
    unfold Pl.partOf; iterate 10 rw [if_neg (by decide)]
    rw [if_pos rfl]
  rw [hq]; clear hq
  obtain ⟨v, hb, hp⟩ := hr
  have n0 := Tryz.ixN0
  have n1 := Tryz.ixN1
  have n2 := Tryz.ixN2
  have n3 := Tryz.ixN3
  have p3 := Tryz.ixP3 rb
  have HB := Lib.hid hb; clear hb
  go_enter Tryz.func21, Tryz.ntmps21
  go_wp2
  refine wp_loop_rounds 10 ?_
  rw [rounds_succ]
  go_wp2
  rw [rounds_succ]
  go_wp2
  rw [rounds_succ]
  go_wp2
  rw [rounds_succ]
  go_wp2
  go_quiet (fail)
  go_wp2_with fail
  refine (textIntList_any s _ hs).mono ?_
  rintro e w1 ⟨va, vn, vc, rfl, hv1, hb1⟩
  have hB1 := (HB.out.drewN nq).below hb1
  have c1 : w1.cell? ⟨rb, 11, none⟩ = some v.yearDay := hB1.cell 11
  have f1 := hB1.free 11
  have hbb : ButBelow rb w w1 := (ButBelow.drewN rb w nq).below hb1
  have HB1 := Lib.hid hB1; clear hB1
  have hlt : rb < w.heap.size := HB.out.lt
  cases hi : Pl.intsOf s.data.toList with
  | none =>
    have HI := Lib.hid hi; clear hi
    go_wp2_with (go_at_call 34; refine (told_any _ _).mono ?_; rintro e w' ⟨rfl, rfl⟩)
    go_ret
    refine ⟨by simp only [Pl.withInts, HI.out]; rfl, ?_, hbb.setCell _ _⟩
    simp only [Pl.withInts, HI.out]; exact (fun h => by cases h)
  | some l =>
    have HI := Lib.hid hi
    have hv2 := hv1 l hi
    clear hi hv1
    go_wp2_with (go_at_call 34; refine (told_any _ _).mono ?_; rintro e w' ⟨rfl, rfl⟩)
    go_ret
    refine ⟨by simp only [Pl.withInts, HI.out]; rfl, ?_, hbb.setCell _ _⟩
    simp only [Pl.withInts, HI.out]
    intro _
    have hs2 : SlI rb (w1.setCell ⟨rb, 11, none⟩ (.slice va vn vc)) (.slice va vn vc) l := SlI.but ⟨hv2.1, fun k e => by have := hv2.2 k e; simp at this; omega⟩ ((ButBelow.refl rb w1).setCell 11 (.slice va vn vc))
    have hp2 := hp.but (hbb.setCell 11 (.slice va vn vc))
    exact ⟨{ v with yearDay := .slice va vn vc }, HB1.out.set 11 _, ⟨hp2.setPos, hp2.month, hp2.monthDay, hs2, hp2.weekNo, hp2.day, hp2.hour, hp2.minute, hp2.second, hp2.easter⟩⟩

set_option maxHeartbeats 4000000 in
set_option maxRecDepth 100000 in
theorem part_BYWEEKNO (rb : Nat) (r : PR) (s : ByteArray) (w : World) (hs : s.size ≤ 1000000) (hr : RuleAt w rb r) :
    Calls Tryz.prog 21 #[.pointer (some ⟨rb, 0, none⟩), .string ⟨#[66, 89, 87, 69, 69, 75, 78, 79]⟩, .string s] w (PartRes rb w (Pl.partOf r Pl.kBYWEEKNO s.data.toList)) := by
  have hmf : ∀ (fn : Fn) (first cap : Array Value) (w : World), (Instr.makeFunc fn first cap).run Tryz.prog w = .ok (.func fn first cap) w := fun _ _ _ _ => rfl
  have hq : Pl.partOf r Pl.kBYWEEKNO s.data.toList = Pl.withInts r s.data.toList fun r l => { r with weekNo := l } := by
    unfold Pl.partOf; iterate 11 rw [if_neg (by decide)]
    rw [if_pos rfl]
  rw [hq]; clear hq
  obtain ⟨v, hb, hp⟩ := hr
  have n0 := Tryz.ixN0
  have n1 := Tryz.ixN1
  have n2 := Tryz.ixN2
  have n3 := Tryz.ixN3
  have n4 := Tryz.ixN4
  have p4 := Tryz.ixP4 rb
  have HB := Lib.hid hb; clear hb
  go_enter Tryz.func21, Tryz.ntmps21
  go_wp2
  refine wp_loop_rounds 10 ?_
  rw [rounds_succ]
  go_wp2
  rw [rounds_succ]
  go_wp2
  rw [rounds_succ]
  go_wp2
  rw [rounds_succ]
  go_wp2
  rw [rounds_succ]
  go_wp2
  go_quiet (fail)
  go_wp2_with fail
  refine (textIntList_any s _ hs).mono ?_
  rintro e w1 ⟨va, vn, vc, rfl, hv1, hb1⟩
  have hB1 := (HB.out.drewN nq).below hb1
  have c1 : w1.cell? ⟨rb, 12, none⟩ = some v.weekNo := hB1.cell 12
  have f1 := hB1.free 12
  have hbb : ButBelow rb w w1 := (ButBelow.drewN rb w nq).below hb1
  have HB1 := Lib.hid hB1; clear hB1
  have hlt : rb < w.heap.size := HB.out.lt
  cases hi : Pl.intsOf s.data.toList with
  | none =>
    have HI := Lib.hid hi; clear hi
    go_wp2_with (go_at_call 34; refine (told_any _ _).mono ?_; rintro e w' ⟨rfl, rfl⟩)
    go_ret
    refine ⟨by simp only [Pl.withInts, HI.out]; rfl, ?_, hbb.setCell _ _⟩
    simp only [Pl.withInts, HI.out]; exact (fun h => by cases h)
  | some l =>
    have HI := Lib.hid hi
    have hv2 := hv1 l hi
    clear hi hv1
    go_wp2_with (go_at_call 34; refine (told_any _ _).mono ?_; rintro e w' ⟨rfl, rfl⟩)
    go_ret
    refine ⟨by simp only [Pl.withInts, HI.out]; rfl, ?_, hbb.setCell _ _⟩
    simp only [Pl.withInts, HI.out]
    intro _
    have hs2 : SlI rb (w1.setCell ⟨rb, 12, none⟩ (.slice va vn vc)) (.slice va vn vc) l := SlI.but ⟨hv2.1, fun k e => by have := hv2.2 k e; simp at this; omega⟩ ((ButBelow.refl rb w1).setCell 12 (.slice va vn vc))
    have hp2 := hp.but (hbb.setCell 12 (.slice va vn vc))
    exact ⟨{ v with weekNo := .slice va vn vc }, HB1.out.set 12 _, ⟨hp2.setPos, hp2.month, hp2.monthDay, hp2.yearDay, hs2, hp2.day, hp2.hour, hp2.minute, hp2.second, hp2.easter⟩⟩

set_option maxHeartbeats 4000000 in
set_option maxRecDepth 100000 in
theorem part_BYHOUR (rb : Nat) (r : PR) (s : ByteArray) (w : World) (hs : s.size ≤ 1000000) (hr : RuleAt w rb r) :
    Calls Tryz.prog 21 #[.pointer (some ⟨rb, 0, none⟩), .string ⟨#[66, 89, 72, 79, 85, 82]⟩, .string s] w (PartRes rb w (Pl.partOf r Pl.kBYHOUR s.data.toList)) := by
  have hmf : ∀ (fn : Fn) (first cap : Array Value) (w : World), (Instr.makeFunc fn first cap).run Tryz.prog w = .ok (.func fn first cap) w := fun _ _ _ _ => rfl
  have hq : Pl.partOf r Pl.kBYHOUR s.data.toList = Pl.withInts r s.data.toList fun r l => { r with hour := l } := by
    unfold Pl.partOf; iterate 12 rw [if_neg (by decide)]
    rw [if_pos rfl]
  rw [hq]; clear hq
  obtain ⟨v, hb, hp⟩ := hr
  have n0 := Tryz.ixN0
  have n1 := Tryz.ixN1
  have n2 := Tryz.ixN2
  have n3 := Tryz.ixN3
  have n4 := Tryz.ixN4
  have n5 := Tryz.ixN5
  have p5 := Tryz.ixP5 rb
  have HB := Lib.hid hb; clear hb
  go_enter Tryz.func21, Tryz.ntmps21
  go_wp2
  refine wp_loop_rounds 10 ?_
  rw [rounds_succ]
  go_wp2
  rw [rounds_succ]
  go_wp2
  rw [rounds_succ]
  go_wp2
  rw [rounds_succ]
  go_wp2
  rw [rounds_succ]
  go_wp2
  rw [rounds_succ]
  go_wp2
  go_quiet (fail)
  go_wp2_with fail
  refine (textIntList_any s _ hs).mono ?_
  rintro e w1 ⟨va, vn, vc, rfl, hv1, hb1⟩
  have hB1 := (HB.out.drewN nq).below hb1
  have c1 : w1.cell? ⟨rb, 14, none⟩ = some v.hour := hB1.cell 14
  have f1 := hB1.free 14
  have hbb : ButBelow rb w w1 := (ButBelow.drewN rb w nq).below hb1
  have HB1 := Lib.hid hB1; clear hB1
  have hlt : rb < w.heap.size := HB.out.lt
  cases hi : Pl.intsOf s.data.toList with
  | none =>
    have HI := Lib.hid hi; clear hi
    go_wp2_with (go_at_call 34; refine (told_any _ _).mono ?_; rintro e w' ⟨rfl, rfl⟩)
    go_ret
    refine ⟨by simp only [Pl.withInts, HI.out]; rfl, ?_, hbb.setCell _ _⟩
    simp only [Pl.withInts, HI.out]; exact (fun h => by cases h)
  | some l =>
    have HI := Lib.hid hi
    have hv2 := hv1 l hi
    clear hi hv1
    go_wp2_with (go_at_call 34; refine (told_any _ _).mono ?_; rintro e w' ⟨rfl, rfl⟩)
    go_ret
    refine ⟨by simp only [Pl.withInts, HI.out]; rfl, ?_, hbb.setCell _ _⟩
    simp only [Pl.withInts, HI.out]
    intro _
    have hs2 : SlI rb (w1.setCell ⟨rb, 14, none⟩ (.slice va vn vc)) (.slice va vn vc) l := SlI.but ⟨hv2.1, fun k e => by have := hv2.2 k e; simp at this; omega⟩ ((ButBelow.refl rb w1).setCell 14 (.slice va vn vc))
    have hp2 := hp.but (hbb.setCell 14 (.slice va vn vc))
    exact ⟨{ v with hour := .slice va vn vc }, HB1.out.set 14 _, ⟨hp2.setPos, hp2.month, hp2.monthDay, hp2.yearDay, hp2.weekNo, hp2.day, hs2, hp2.minute, hp2.second, hp2.easter⟩⟩

set_option maxHeartbeats 4000000 in
set_option maxRecDepth 100000 in
theorem part_BYMINUTE (rb : Nat) (r : PR) (s : ByteArray) (w : World) (hs : s.size ≤ 1000000) (hr : RuleAt w rb r) :
    Calls Tryz.prog 21 #[.pointer (some ⟨rb, 0, none⟩), .string ⟨#[66, 89, 77, 73, 78, 85, 84, 69]⟩, .string s] w (PartRes rb w (Pl.partOf r Pl.kBYMINUTE s.data.toList)) := by
  have hmf : ∀ (fn : Fn) (first cap : Array Value) (w : World), (Instr.makeFunc fn first cap).run Tryz.prog w = .ok (.func fn first cap) w := fun _ _ _ _ => rfl
  have hq : Pl.partOf r Pl.kBYMINUTE s.data.toList = Pl.withInts r s.data.toList fun r l => { r with minute := l } := by
    unfold Pl.partOf; iterate 13 rw [if_neg (by decide)]
    rw [if_pos rfl]
  rw [hq]; clear hq
  obtain ⟨v, hb, hp⟩ := hr
  have n0 := Tryz.ixN0
  have n1 := Tryz.ixN1
  have n2 := Tryz.ixN2
  have n3 := Tryz.ixN3
  have n4 := Tryz.ixN4
  have n5 := Tryz.ixN5
  have n6 := Tryz.ixN6
  have p6 := Tryz.ixP6 rb
  have HB := Lib.hid hb; clear hb
  go_enter Tryz.func21, Tryz.ntmps21
  go_wp2
  refine wp_loop_rounds 10 ?_
  rw [rounds_succ]
  go_wp2
  rw [rounds_succ]
  go_wp2
  rw [rounds_succ]
  go_wp2
  rw [rounds_succ]
  go_wp2
  rw [rounds_succ]
  go_wp2
  rw [rounds_succ]
  go_wp2
  rw [rounds_succ]
  go_wp2
  go_quiet (fail)
  go_wp2_with fail
  refine (textIntList_any s _ hs).mono ?_
  rintro e w1 ⟨va, vn, vc, rfl, hv1, hb1⟩
  have hB1 := (HB.out.drewN nq).below hb1
  have c1 : w1.cell? ⟨rb, 15, none⟩ = some v.minute := hB1.cell 15
  have f1 := hB1.free 15
  have hbb : ButBelow rb w w1 := (ButBelow.drewN rb w nq).below hb1
  have HB1 := Lib.hid hB1; clear hB1
  have hlt : rb < w.heap.size := HB.out.lt
  cases hi : Pl.intsOf s.data.toList with
  | none =>
    have HI := Lib.hid hi; clear hi
    go_wp2_with (go_at_call 34; refine (told_any _ _).mono ?_; rintro e w' ⟨rfl, rfl⟩)
    go_ret
    refine ⟨by simp only [Pl.withInts, HI.out]; rfl, ?_, hbb.setCell _ _⟩
    simp only [Pl.withInts, HI.out]; exact (fun h => by cases h)
  | some l =>
    have HI := Lib.hid hi
    have hv2 := hv1 l hi
    clear hi hv1
    go_wp2_with (go_at_call 34; refine (told_any _ _).mono ?_; rintro e w' ⟨rfl, rfl⟩)
    go_ret
    refine ⟨by simp only [Pl.withInts, HI.out]; rfl, ?_, hbb.setCell _ _⟩
    simp only [Pl.withInts, HI.out]
    intro _
    have hs2 : SlI rb (w1.setCell ⟨rb, 15, none⟩ (.slice va vn vc)) (.slice va vn vc) l := SlI.but ⟨hv2.1, fun k e => by have := hv2.2 k e; simp at this; omega⟩ ((ButBelow.refl rb w1).setCell 15 (.slice va vn vc))
    have hp2 := hp.but (hbb.setCell 15 (.slice va vn vc))
    exact ⟨{ v with minute := .slice va vn vc }, HB1.out.set 15 _, ⟨hp2.setPos, hp2.month, hp2.monthDay, hp2.yearDay, hp2.weekNo, hp2.day, hp2.hour, hs2, hp2.second, hp2.easter⟩⟩

set_option maxHeartbeats 4000000 in
set_option maxRecDepth 100000 in
theorem part_BYSECOND (rb : Nat) (r : PR) (s : ByteArray) (w : World) (hs : s.size ≤ 1000000) (hr : RuleAt w rb r) :
    Calls Tryz.prog 21 #[.pointer (some ⟨rb, 0, none⟩), .string ⟨#[66, 89, 83, 69, 67, 79, 78, 68]⟩, .string s] w (PartRes rb w (Pl.partOf r Pl.kBYSECOND s.data.toList)) := by
  have hmf : ∀ (fn : Fn) (first cap : Array Value) (w : World), (Instr.makeFunc fn first cap).run Tryz.prog w = .ok (.func fn first cap) w := fun _ _ _ _ => rfl
  have hq : Pl.partOf r Pl.kBYSECOND s.data.toList = Pl.withInts r s.data.toList fun r l => { r with second := l } := by
    unfold Pl.partOf; iterate 14 rw [if_neg (by decide)]
    rw [if_pos rfl]
  rw [hq]; clear hq
  obtain ⟨v, hb, hp⟩ := hr
  have n0 := Tryz.ixN0
  have n1 := Tryz.ixN1
  have n2 := Tryz.ixN2
  have n3 := Tryz.ixN3
  have n4 := Tryz.ixN4
  have n5 := Tryz.ixN5
  have n6 := Tryz.ixN6
  have n7 := Tryz.ixN7
  have p7 := Tryz.ixP7 rb
  have HB := Lib.hid hb; clear hb
  go_enter Tryz.func21, Tryz.ntmps21
  go_wp2
  refine wp_loop_rounds 10 ?_
  rw [rounds_succ]
  go_wp2
  rw [rounds_succ]
  go_wp2
  rw [rounds_succ]
  go_wp2
  rw [rounds_succ]
  go_wp2
  rw [rounds_succ]
  go_wp2
  rw [rounds_succ]
  go_wp2
  rw [rounds_succ]
  go_wp2
  rw [rounds_succ]
  go_wp2
  go_quiet (fail)
  go_wp2_with fail
  refine (textIntList_any s _ hs).mono ?_
  rintro e w1 ⟨va, vn, vc, rfl, hv1, hb1⟩
  have hB1 := (HB.out.drewN nq).below hb1
  have c1 : w1.cell? ⟨rb, 16, none⟩ = some v.second := hB1.cell 16
  have f1 := hB1.free 16
  have hbb : ButBelow rb w w1 := (ButBelow.drewN rb w nq).below hb1
  have HB1 := Lib.hid hB1; clear hB1
  have hlt : rb < w.heap.size := HB.out.lt
  cases hi : Pl.intsOf s.data.toList with
  | none =>
    have HI := Lib.hid hi; clear hi
    go_wp2_with (go_at_call 34; refine (told_any _ _).mono ?_; rintro e w' ⟨rfl, rfl⟩)
    go_ret
    refine ⟨by simp only [Pl.withInts, HI.out]; rfl, ?_, hbb.setCell _ _⟩
    simp only [Pl.withInts, HI.out]; exact (fun h => by cases h)
  | some l =>
    have HI := Lib.hid hi
    have hv2 := hv1 l hi
    clear hi hv1
    go_wp2_with (go_at_call 34; refine (told_any _ _).mono ?_; rintro e w' ⟨rfl, rfl⟩)
    go_ret
    refine ⟨by simp only [Pl.withInts, HI.out]; rfl, ?_, hbb.setCell _ _⟩
    simp only [Pl.withInts, HI.out]
    intro _
    have hs2 : SlI rb (w1.setCell ⟨rb, 16, none⟩ (.slice va vn vc)) (.slice va vn vc) l := SlI.but ⟨hv2.1, fun k e => by have := hv2.2 k e; simp at this; omega⟩ ((ButBelow.refl rb w1).setCell 16 (.slice va vn vc))
    have hp2 := hp.but (hbb.setCell 16 (.slice va vn vc))
    exact ⟨{ v with second := .slice va vn vc }, HB1.out.set 16 _, ⟨hp2.setPos, hp2.month, hp2.monthDay, hp2.yearDay, hp2.weekNo, hp2.day, hp2.hour, hp2.minute, hs2, hp2.easter⟩⟩

set_option maxHeartbeats 4000000 in
set_option maxRecDepth 100000 in
theorem part_BYEASTER (rb : Nat) (r : PR) (s : ByteArray) (w : World) (hs : s.size ≤ 1000000) (hr : RuleAt w rb r) :
    Calls Tryz.prog 21 #[.pointer (some ⟨rb, 0, none⟩), .string ⟨#[66, 89, 69, 65, 83, 84, 69, 82]⟩, .string s] w (PartRes rb w (Pl.partOf r Pl.kBYEASTER s.data.toList)) := by
  have hmf : ∀ (fn : Fn) (first cap : Array Value) (w : World), (Instr.makeFunc fn first cap).run Tryz.prog w = .ok (.func fn first cap) w := fun _ _ _ _ => rfl
  have hq : Pl.partOf r Pl.kBYEASTER s.data.toList = Pl.withInts r s.data.toList fun r l => { r with easter := l } := by
    unfold Pl.partOf; iterate 15 rw [if_neg (by decide)]
    rw [if_pos rfl]
  rw [hq]; clear hq
  obtain ⟨v, hb, hp⟩ := hr
  have n0 := Tryz.ixN0
  have n1 := Tryz.ixN1
  have n2 := Tryz.ixN2
  have n3 := Tryz.ixN3
  have n4 := Tryz.ixN4
  have n5 := Tryz.ixN5
  have n6 := Tryz.ixN6
  have n7 := Tryz.ixN7
  have n8 := Tryz.ixN8
  have p8 := Tryz.ixP8 rb
  have HB := Lib.hid hb; clear hb
  go_enter Tryz.func21, Tryz.ntmps21
  go_wp2
  refine wp_loop_rounds 10 ?_
  rw [rounds_succ]
  go_wp2
  rw [rounds_succ]
  go_wp2
  rw [rounds_succ]
  go_wp2
  rw [rounds_succ]
  go_wp2
  rw [rounds_succ]
  go_wp2
  rw [rounds_succ]
  go_wp2
  rw [rounds_succ]
  go_wp2
  rw [rounds_succ]
  go_wp2
  rw [rounds_succ]
  go_wp2
  go_quiet (fail)
  go_wp2_with fail
  refine (textIntList_any s _ hs).mono ?_
  rintro e w1 ⟨va, vn, vc, rfl, hv1, hb1⟩
  have hB1 := (HB.out.drewN nq).below hb1
  have c1 : w1.cell? ⟨rb, 17, none⟩ = some v.easter := hB1.cell 17
  have f1 := hB1.free 17
  have hbb : ButBelow rb w w1 := (ButBelow.drewN rb w nq).below hb1
  have HB1 := Lib.hid hB1; clear hB1
  have hlt : rb < w.heap.size := HB.out.lt
  cases hi : Pl.intsOf s.data.toList with
  | none =>
    have HI := Lib.hid hi; clear hi
    go_wp2_with (go_at_call 34; refine (told_any _ _).mono ?_; rintro e w' ⟨rfl, rfl⟩)
    go_ret
    refine ⟨by simp only [Pl.withInts, HI.out]; rfl, ?_, hbb.setCell _ _⟩
    simp only [Pl.withInts, HI.out]; exact (fun h => by cases h)
  | some l =>
    have HI := Lib.hid hi
    have hv2 := hv1 l hi
    clear hi hv1
    go_wp2_with (go_at_call 34; refine (told_any _ _).mono ?_; rintro e w' ⟨rfl, rfl⟩)
    go_ret
    refine ⟨by simp only [Pl.withInts, HI.out]; rfl, ?_, hbb.setCell _ _⟩
    simp only [Pl.withInts, HI.out]
    intro _
    have hs2 : SlI rb (w1.setCell ⟨rb, 17, none⟩ (.slice va vn vc)) (.slice va vn vc) l := SlI.but ⟨hv2.1, fun k e => by have := hv2.2 k e; simp at this; omega⟩ ((ButBelow.refl rb w1).setCell 17 (.slice va vn vc))
    have hp2 := hp.but (hbb.setCell 17 (.slice va vn vc))
    exact ⟨{ v with easter := .slice va vn vc }, HB1.out.set 17 _, ⟨hp2.setPos, hp2.month, hp2.monthDay, hp2.yearDay, hp2.weekNo, hp2.day, hp2.hour, hp2.minute, hp2.second, hs2⟩⟩

end Go.Proofs.YthkgjhnckakliaaGreatDoorR

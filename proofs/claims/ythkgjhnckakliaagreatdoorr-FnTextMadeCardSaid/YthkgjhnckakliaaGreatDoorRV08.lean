/- The contract of the reference's reader of a weekday with or without a number.
  The contract of the reference's reader of a rule's part: the plain parts.
  The contract of the reference's reader of what stands behind DTSTART.
  Laws for a struct that lies in a block of its own: stored whole, loaded whole, handed back beside another result.
  The contracts of the reference's look at a rule's ranges.
  zztime.Parse.
  A region that draws its order, by an invariant: no orders any more. -/
import Derived.Test.YthkgjhnckakliaaGreatDoorRV07
import Derived.Deep.MidRow
import Derived.Test.YthkgjhnckakliaaGreatDoorRV04
import Derived.Test.YthkgjhnckakliaaGreatDoorRV02
import Derived.OrdersHeld
namespace Go.Proofs.YthkgjhnckakliaaGreatDoorR
open Go.RowKit

namespace Pl
/-- The number of a day's name. -/
def dayIdx (s : Bs) : Option Nat :=
  if s = [77, 79] then some 0 else if s = [84, 85] then some 1 else if s = [87, 69] then some 2 else if s = [84, 72] then some 3 else if s = [70, 82] then some 4 else if s = [83, 65] then some 5 else if s = [83, 85] then some 6 else none
/-- A weekday with or without a number. -/
def dayOf (s : Bs) : Option (Int × Int) :=
  if s.length < 2 then none else
  match dayIdx (s.drop (s.length - 2)) with
  | none => none
  | some i => if s.length = 2 then some ((i : Int), 0) else (intOf (s.take (s.length - 2))).map fun n => ((i : Int), n)
theorem dayOf_two (s : Bs) (i : Nat) (h : s.length = 2) (hi : dayIdx (s.drop (s.length - 2)) = some i) : dayOf s = some ((i : Int), 0) := by
  unfold dayOf; rw [if_neg (by omega), hi]; simp [h]
theorem dayOf_more (s : Bs) (i : Nat) (h : 2 < s.length) (hi : dayIdx (s.drop (s.length - 2)) = some i) : dayOf s = (intOf (s.take (s.length - 2))).map fun n => ((i : Int), n) := by
  unfold dayOf; rw [if_neg (by omega), hi]; simp only; rw [if_neg (by omega)]
theorem dayOf_none (s : Bs) (hi : dayIdx (s.drop (s.length - 2)) = none) : dayOf s = none := by
  unfold dayOf; split
  · rfl
  · rw [hi]
end Pl

def vDays : Array Value := #[.string ⟨#[77, 79]⟩, .string ⟨#[84, 85]⟩, .string ⟨#[87, 69]⟩, .string ⟨#[84, 72]⟩, .string ⟨#[70, 82]⟩, .string ⟨#[83, 65]⟩, .string ⟨#[83, 85]⟩]
theorem Tryz.ixD0 (w : World) : (Instr.index 106 (.agg vDays) (.int .i64 0)).run Tryz.prog w = .ok (.string ⟨#[77, 79]⟩) w := by kernel_rfl
theorem Tryz.ixD1 (w : World) : (Instr.index 106 (.agg vDays) (.int .i64 1)).run Tryz.prog w = .ok (.string ⟨#[84, 85]⟩) w := by kernel_rfl
theorem Tryz.ixD2 (w : World) : (Instr.index 106 (.agg vDays) (.int .i64 2)).run Tryz.prog w = .ok (.string ⟨#[87, 69]⟩) w := by kernel_rfl
theorem Tryz.ixD3 (w : World) : (Instr.index 106 (.agg vDays) (.int .i64 3)).run Tryz.prog w = .ok (.string ⟨#[84, 72]⟩) w := by kernel_rfl
theorem Tryz.ixD4 (w : World) : (Instr.index 106 (.agg vDays) (.int .i64 4)).run Tryz.prog w = .ok (.string ⟨#[70, 82]⟩) w := by kernel_rfl
theorem Tryz.ixD5 (w : World) : (Instr.index 106 (.agg vDays) (.int .i64 5)).run Tryz.prog w = .ok (.string ⟨#[83, 65]⟩) w := by kernel_rfl
theorem Tryz.ixD6 (w : World) : (Instr.index 106 (.agg vDays) (.int .i64 6)).run Tryz.prog w = .ok (.string ⟨#[83, 85]⟩) w := by kernel_rfl

set_option maxHeartbeats 4000000 in
set_option maxRecDepth 100000 in
theorem textDay_any (s : ByteArray) (w : World) (he : Env w) (hs : s.size ≤ 1000000) :
    Calls Tryz.prog 37 #[.string s] w fun e w' => ∃ a b : Int,
      e = .returned (.tuple #[.agg #[.int .i64 a, .int .i64 b], .bool (Pl.dayOf s.data.toList).isSome]) ∧ (∀ p, Pl.dayOf s.data.toList = some p → a = p.1 ∧ b = p.2) ∧ Below w.heap.size w w' := by
  obtain ⟨tF, frF, hF⟩ := he.days
  change w.heap[1]? = some (.cells vDays tF frF) at hF
  have hsz := Holds.lt he.days
  clear he
  have hF2 : ∀ o, (w.alloc o).heap[1]? = some (.cells vDays tF frF) := fun o => by rw [Below.heap_alloc w o 1 hsz]; exact hF
  have HF2 := Lib.hid hF2; clear hF2
  have i0 := Tryz.ixD0; have i1 := Tryz.ixD1; have i2 := Tryz.ixD2; have i3 := Tryz.ixD3; have i4 := Tryz.ixD4; have i5 := Tryz.ixD5; have i6 := Tryz.ixD6
  by_cases h1 : s.size < 2
  · have HFIN : Hid (Pl.dayOf s.data.toList = none) := by unfold Pl.dayOf; exact if_pos (by simpa using h1)
    go_enter Tryz.func37, Tryz.ntmps37
    go_wp2
    refine bodyPost_ret (v := .tuple #[.agg #[.int .i64 0, .int .i64 0], .bool false]) (by simp [results, Tryz.results37, go_sem]) rfl ⟨0, 0, by rw [HFIN.out]; rfl, (by rw [HFIN.out]; exact (fun p h => by cases h)), by (repeat (first | exact Below.refl _ _ | refine Below.setCell ?_ (by simp) _ | refine Below.alloc ?_ (by simp) _ | refine Below.drew ?_ | refine below_drewN ?_ _))⟩
  · by_cases h2 : s.size = 2
    · have h2' : (((s.size : Nat) : Int) == 2) = true := by simp [h2]
      have H2 := Lib.hid h2; clear h2
      go_enter Tryz.func37, Tryz.ntmps37
      go_wp2_with (refine wpList_load_row rfl 106 _ rfl 1 rfl tF vDays frF _ (HF2.out _) Tryz.underlying106 rfl (by kernel_rfl) ?_)
      refine wp_loop_rounds 8 ?_
      rw [rounds_succ]
      go_wp2
      rotate_left
      · have hx0 : ((s.extract (s.size - 2) s.size).toList == [77, 79]) = true := by simpa using (by assumption : (!(s.extract (s.size - 2) s.size).toList == [77, 79]) = false)
        have hx : s.data.toList.drop (s.size - 2) = [77, 79] := by rw [← Lib.extract_to_end, ← ByteArray.toList_eq]; exact beq_iff_eq.1 hx0
        have HFIN := Lib.hid (Pl.dayOf_two s.data.toList 0 (by simpa using H2.out) (by rw [show s.data.toList.length = s.size by simp, hx]; rfl)); clear hx hx0
        refine bodyPost_ret (v := .tuple #[.agg #[.int .i64 0, .int .i64 0], .bool true]) (by simp [results, Tryz.results37, go_sem]) rfl ⟨0, 0, by rw [HFIN.out]; rfl, (fun p hp => by rw [HFIN.out] at hp; injection hp with hp; subst hp; exact ⟨rfl, rfl⟩), by (repeat (first | exact Below.refl _ _ | refine Below.setCell ?_ (by simp) _ | refine Below.alloc ?_ (by simp) _ | refine Below.drew ?_ | refine below_drewN ?_ _))⟩
      rw [rounds_succ]
      go_wp2
      rotate_left
      · have hx0 : ((s.extract (s.size - 2) s.size).toList == [84, 85]) = true := by simpa using (by assumption : (!(s.extract (s.size - 2) s.size).toList == [84, 85]) = false)
        have hx : s.data.toList.drop (s.size - 2) = [84, 85] := by rw [← Lib.extract_to_end, ← ByteArray.toList_eq]; exact beq_iff_eq.1 hx0
        have HFIN := Lib.hid (Pl.dayOf_two s.data.toList 1 (by simpa using H2.out) (by rw [show s.data.toList.length = s.size by simp, hx]; rfl)); clear hx hx0
        refine bodyPost_ret (v := .tuple #[.agg #[.int .i64 1, .int .i64 0], .bool true]) (by simp [results, Tryz.results37, go_sem]) rfl ⟨1, 0, by rw [HFIN.out]; rfl, (fun p hp => by rw [HFIN.out] at hp; injection hp with hp; subst hp; exact ⟨rfl, rfl⟩), by (repeat (first | exact Below.refl _ _ | refine Below.setCell ?_ (by simp) _ | refine Below.alloc ?_ (by simp) _ | refine Below.drew ?_ | refine below_drewN ?_ _))⟩
      rw [rounds_succ]
      go_wp2
      rotate_left
      · have hx0 : ((s.extract (s.size - 2) s.size).toList == [87, 69]) = true := by simpa using (by assumption : (!(s.extract (s.size - 2) s.size).toList == [87, 69]) = false)
        have hx : s.data.toList.drop (s.size - 2) = [87, 69] := by rw [← Lib.extract_to_end, ← ByteArray.toList_eq]; exact beq_iff_eq.1 hx0
        have HFIN := Lib.hid (Pl.dayOf_two s.data.toList 2 (by simpa using H2.out) (by rw [show s.data.toList.length = s.size by simp, hx]; rfl)); clear hx hx0
        refine bodyPost_ret (v := .tuple #[.agg #[.int .i64 2, .int .i64 0], .bool true]) (by simp [results, Tryz.results37, go_sem]) rfl ⟨2, 0, by rw [HFIN.out]; rfl, (fun p hp => by rw [HFIN.out] at hp; injection hp with hp; subst hp; exact ⟨rfl, rfl⟩), by (repeat (first | exact Below.refl _ _ | refine Below.setCell ?_ (by simp) _ | refine Below.alloc ?_ (by simp) _ | refine Below.drew ?_ | refine below_drewN ?_ _))⟩
      rw [rounds_succ]
      go_wp2
      rotate_left
      · have hx0 : ((s.extract (s.size - 2) s.size).toList == [84, 72]) = true := by simpa using (by assumption : (!(s.extract (s.size - 2) s.size).toList == [84, 72]) = false)
        have hx : s.data.toList.drop (s.size - 2) = [84, 72] := by rw [← Lib.extract_to_end, ← ByteArray.toList_eq]; exact beq_iff_eq.1 hx0
        have HFIN := Lib.hid (Pl.dayOf_two s.data.toList 3 (by simpa using H2.out) (by rw [show s.data.toList.length = s.size by simp, hx]; rfl)); clear hx hx0
        refine bodyPost_ret (v := .tuple #[.agg #[.int .i64 3, .int .i64 0], .bool true]) (by simp [results, Tryz.results37, go_sem]) rfl ⟨3, 0, by rw [HFIN.out]; rfl, (fun p hp => by rw [HFIN.out] at hp; injection hp with hp; subst hp; exact ⟨rfl, rfl⟩), by (repeat (first | exact Below.refl _ _ | refine Below.setCell ?_ (by simp) _ | refine Below.alloc ?_ (by simp) _ | refine Below.drew ?_ | refine below_drewN ?_ _))⟩
      rw [rounds_succ]
      go_wp2
      rotate_left
      · have hx0 : ((s.extract (s.size - 2) s.size).toList == [70, 82]) = true := by simpa using (by assumption : (!(s.extract (s.size - 2) s.size).toList == [70, 82]) = false)
        have hx : s.data.toList.drop (s.size - 2) = [70, 82] := by rw [← Lib.extract_to_end, ← ByteArray.toList_eq]; exact beq_iff_eq.1 hx0
        have HFIN := Lib.hid (Pl.dayOf_two s.data.toList 4 (by simpa using H2.out) (by rw [show s.data.toList.length = s.size by simp, hx]; rfl)); clear hx hx0
        refine bodyPost_ret (v := .tuple #[.agg #[.int .i64 4, .int .i64 0], .bool true]) (by simp [results, Tryz.results37, go_sem]) rfl ⟨4, 0, by rw [HFIN.out]; rfl, (fun p hp => by rw [HFIN.out] at hp; injection hp with hp; subst hp; exact ⟨rfl, rfl⟩), by (repeat (first | exact Below.refl _ _ | refine Below.setCell ?_ (by simp) _ | refine Below.alloc ?_ (by simp) _ | refine Below.drew ?_ | refine below_drewN ?_ _))⟩
      rw [rounds_succ]
      go_wp2
      rotate_left
      · have hx0 : ((s.extract (s.size - 2) s.size).toList == [83, 65]) = true := by simpa using (by assumption : (!(s.extract (s.size - 2) s.size).toList == [83, 65]) = false)
        have hx : s.data.toList.drop (s.size - 2) = [83, 65] := by rw [← Lib.extract_to_end, ← ByteArray.toList_eq]; exact beq_iff_eq.1 hx0
        have HFIN := Lib.hid (Pl.dayOf_two s.data.toList 5 (by simpa using H2.out) (by rw [show s.data.toList.length = s.size by simp, hx]; rfl)); clear hx hx0
        refine bodyPost_ret (v := .tuple #[.agg #[.int .i64 5, .int .i64 0], .bool true]) (by simp [results, Tryz.results37, go_sem]) rfl ⟨5, 0, by rw [HFIN.out]; rfl, (fun p hp => by rw [HFIN.out] at hp; injection hp with hp; subst hp; exact ⟨rfl, rfl⟩), by (repeat (first | exact Below.refl _ _ | refine Below.setCell ?_ (by simp) _ | refine Below.alloc ?_ (by simp) _ | refine Below.drew ?_ | refine below_drewN ?_ _))⟩
      rw [rounds_succ]
      go_wp2
      rotate_left
      · have hx0 : ((s.extract (s.size - 2) s.size).toList == [83, 85]) = true := by simpa using (by assumption : (!(s.extract (s.size - 2) s.size).toList == [83, 85]) = false)
        have hx : s.data.toList.drop (s.size - 2) = [83, 85] := by rw [← Lib.extract_to_end, ← ByteArray.toList_eq]; exact beq_iff_eq.1 hx0
        have HFIN := Lib.hid (Pl.dayOf_two s.data.toList 6 (by simpa using H2.out) (by rw [show s.data.toList.length = s.size by simp, hx]; rfl)); clear hx hx0
        refine bodyPost_ret (v := .tuple #[.agg #[.int .i64 6, .int .i64 0], .bool true]) (by simp [results, Tryz.results37, go_sem]) rfl ⟨6, 0, by rw [HFIN.out]; rfl, (fun p hp => by rw [HFIN.out] at hp; injection hp with hp; subst hp; exact ⟨rfl, rfl⟩), by (repeat (first | exact Below.refl _ _ | refine Below.setCell ?_ (by simp) _ | refine Below.alloc ?_ (by simp) _ | refine Below.drew ?_ | refine below_drewN ?_ _))⟩
      rw [rounds_succ]
      go_wp2
      simp only [ByteArray.toList_eq, Lib.extract_to_end, Bool.not_eq_true', beq_eq_false_iff_ne, ne_eq] at *
      have HFIN : Hid (Pl.dayOf s.data.toList = none) := Pl.dayOf_none _ (by rw [show s.data.toList.length = s.size by simp]; simp [Pl.dayIdx, *])
      refine bodyPost_ret (v := .tuple #[.agg #[.int .i64 0, .int .i64 0], .bool false]) (by simp [results, Tryz.results37, go_sem]) rfl ⟨0, 0, by rw [HFIN.out]; rfl, (by rw [HFIN.out]; exact (fun p h => by cases h)), by (repeat (first | exact Below.refl _ _ | refine Below.setCell ?_ (by simp) _ | refine Below.alloc ?_ (by simp) _ | refine Below.drew ?_ | refine below_drewN ?_ _))⟩
    · have h2' : (((s.size : Nat) : Int) == 2) = false := by simp; omega
      have h3 : 2 < s.size := by omega
      have H3 := Lib.hid h3
      go_enter Tryz.func37, Tryz.ntmps37
      go_wp2_with (refine wpList_load_row rfl 106 _ rfl 1 rfl tF vDays frF _ (HF2.out _) Tryz.underlying106 rfl (by kernel_rfl) ?_)
      refine wp_loop_rounds 8 ?_
      rw [rounds_succ]
      go_wp2_with (go_at_call 36; refine (textInt_any _ _ (by simp; omega)).mono ?_; rintro e w' ⟨rfl, rfl⟩)
      rotate_left
      · have hx0 : ((s.extract (s.size - 2) s.size).toList == [77, 79]) = true := by simpa using (by assumption : (!(s.extract (s.size - 2) s.size).toList == [77, 79]) = false)
        have hx : s.data.toList.drop (s.size - 2) = [77, 79] := by rw [← Lib.extract_to_end, ← ByteArray.toList_eq]; exact beq_iff_eq.1 hx0
        have HFIN := Lib.hid (Pl.dayOf_more s.data.toList 0 (by simpa using H3.out) (by rw [show s.data.toList.length = s.size by simp, hx]; rfl)); clear hx hx0
        refine bodyPost_ret (v := .tuple #[.agg #[.int .i64 0, .int .i64 ((Pl.intOf (s.extract 0 (s.size - 2)).data.toList).getD 0)], .bool (Pl.intOf (s.extract 0 (s.size - 2)).data.toList).isSome]) (by simp [results, Tryz.results37, go_sem]) rfl ⟨0, (Pl.intOf (s.extract 0 (s.size - 2)).data.toList).getD 0, ?_, ?_, by (repeat (first | exact Below.refl _ _ | refine Below.setCell ?_ (by simp) _ | refine Below.alloc ?_ (by simp) _ | refine Below.drew ?_ | refine below_drewN ?_ _))⟩
        · rw [HFIN.out, Lib.extract_data]; simp
        · intro p hp
          rw [HFIN.out] at hp
          rw [Lib.extract_data]; simp only [List.drop_zero, Nat.sub_zero]
          rw [show s.data.toList.length = s.size by simp] at hp
          cases hi : Pl.intOf (s.data.toList.take (s.size - 2)) with
          | none => rw [hi] at hp; cases hp
          | some n => rw [hi] at hp; injection hp with hp; subst hp; exact ⟨rfl, rfl⟩
      rw [rounds_succ]
      go_wp2_with (go_at_call 36; refine (textInt_any _ _ (by simp; omega)).mono ?_; rintro e w' ⟨rfl, rfl⟩)
      rotate_left
      · have hx0 : ((s.extract (s.size - 2) s.size).toList == [84, 85]) = true := by simpa using (by assumption : (!(s.extract (s.size - 2) s.size).toList == [84, 85]) = false)
        have hx : s.data.toList.drop (s.size - 2) = [84, 85] := by rw [← Lib.extract_to_end, ← ByteArray.toList_eq]; exact beq_iff_eq.1 hx0
        have HFIN := Lib.hid (Pl.dayOf_more s.data.toList 1 (by simpa using H3.out) (by rw [show s.data.toList.length = s.size by simp, hx]; rfl)); clear hx hx0
        refine bodyPost_ret (v := .tuple #[.agg #[.int .i64 1, .int .i64 ((Pl.intOf (s.extract 0 (s.size - 2)).data.toList).getD 0)], .bool (Pl.intOf (s.extract 0 (s.size - 2)).data.toList).isSome]) (by simp [results, Tryz.results37, go_sem]) rfl ⟨1, (Pl.intOf (s.extract 0 (s.size - 2)).data.toList).getD 0, ?_, ?_, by (repeat (first | exact Below.refl _ _ | refine Below.setCell ?_ (by simp) _ | refine Below.alloc ?_ (by simp) _ | refine Below.drew ?_ | refine below_drewN ?_ _))⟩
        · rw [HFIN.out, Lib.extract_data]; simp
        · intro p hp
          rw [HFIN.out] at hp
          rw [Lib.extract_data]; simp only [List.drop_zero, Nat.sub_zero]
          rw [show s.data.toList.length = s.size by simp] at hp
          cases hi : Pl.intOf (s.data.toList.take (s.size - 2)) with
          | none => rw [hi] at hp; cases hp
          | some n => rw [hi] at hp; injection hp with hp; subst hp; exact ⟨rfl, rfl⟩
      rw [rounds_succ]
      go_wp2_with (go_at_call 36; refine (textInt_any _ _ (by simp; omega)).mono ?_; rintro e w' ⟨rfl, rfl⟩)
      rotate_left
      · have hx0 : ((s.extract (s.size - 2) s.size).toList == [87, 69]) = true := by simpa using (by assumption : (!(s.extract (s.size - 2) s.size).toList == [87, 69]) = false)
        have hx : s.data.toList.drop (s.size - 2) = [87, 69] := by rw [← Lib.extract_to_end, ← ByteArray.toList_eq]; exact beq_iff_eq.1 hx0
        have HFIN := Lib.hid (Pl.dayOf_more s.data.toList 2 (by simpa using H3.out) (by rw [show s.data.toList.length = s.size by simp, hx]; rfl)); clear hx hx0
        refine bodyPost_ret (v := .tuple #[.agg #[.int .i64 2, .int .i64 ((Pl.intOf (s.extract 0 (s.size - 2)).data.toList).getD 0)], .bool (Pl.intOf (s.extract 0 (s.size - 2)).data.toList).isSome]) (by simp [results, Tryz.results37, go_sem]) rfl ⟨2, (Pl.intOf (s.extract 0 (s.size - 2)).data.toList).getD 0, ?_, ?_, by (repeat (first | exact Below.refl _ _ | refine Below.setCell ?_ (by simp) _ | refine Below.alloc ?_ (by simp) _ | refine Below.drew ?_ | refine below_drewN ?_ _))⟩
        · rw [HFIN.out, Lib.extract_data]; simp
        · intro p hp
          rw [HFIN.out] at hp
          rw [Lib.extract_data]; simp only [List.drop_zero, Nat.sub_zero]
          rw [show s.data.toList.length = s.size by simp] at hp
          cases hi : Pl.intOf (s.data.toList.take (s.size - 2)) with
          | none => rw [hi] at hp; cases hp
          | some n => rw [hi] at hp; injection hp with hp; subst hp; exact ⟨rfl, rfl⟩
      rw [rounds_succ]
      go_wp2_with (go_at_call 36; refine (textInt_any _ _ (by simp; omega)).mono ?_; rintro e w' ⟨rfl, rfl⟩)
      rotate_left
      · have hx0 : ((s.extract (s.size - 2) s.size).toList == [84, 72]) = true := by simpa using (by assumption : (!(s.extract (s.size - 2) s.size).toList == [84, 72]) = false)
        have hx : s.data.toList.drop (s.size - 2) = [84, 72] := by rw [← Lib.extract_to_end, ← ByteArray.toList_eq]; exact beq_iff_eq.1 hx0
        have HFIN := Lib.hid (Pl.dayOf_more s.data.toList 3 (by simpa using H3.out) (by rw [show s.data.toList.length = s.size by simp, hx]; rfl)); clear hx hx0
        refine bodyPost_ret (v := .tuple #[.agg #[.int .i64 3, .int .i64 ((Pl.intOf (s.extract 0 (s.size - 2)).data.toList).getD 0)], .bool (Pl.intOf (s.extract 0 (s.size - 2)).data.toList).isSome]) (by simp [results, Tryz.results37, go_sem]) rfl ⟨3, (Pl.intOf (s.extract 0 (s.size - 2)).data.toList).getD 0, ?_, ?_, by (repeat (first | exact Below.refl _ _ | refine Below.setCell ?_ (by simp) _ | refine Below.alloc ?_ (by simp) _ | refine Below.drew ?_ | refine below_drewN ?_ _))⟩
        · rw [HFIN.out, Lib.extract_data]; simp
        · intro p hp
          rw [HFIN.out] at hp
          rw [Lib.extract_data]; simp only [List.drop_zero, Nat.sub_zero]
          rw [show s.data.toList.length = s.size by simp] at hp
          cases hi : Pl.intOf (s.data.toList.take (s.size - 2)) with
          | none => rw [hi] at hp; cases hp
          | some n => rw [hi] at hp; injection hp with hp; subst hp; exact ⟨rfl, rfl⟩
      rw [rounds_succ]
      go_wp2_with (go_at_call 36; refine (textInt_any _ _ (by simp; omega)).mono ?_; rintro e w' ⟨rfl, rfl⟩)
      rotate_left
      · have hx0 : ((s.extract (s.size - 2) s.size).toList == [70, 82]) = true := by simpa using (by assumption : (!(s.extract (s.size - 2) s.size).toList == [70, 82]) = false)
        have hx : s.data.toList.drop (s.size - 2) = [70, 82] := by rw [← Lib.extract_to_end, ← ByteArray.toList_eq]; exact beq_iff_eq.1 hx0
        have HFIN := Lib.hid (Pl.dayOf_more s.data.toList 4 (by simpa using H3.out) (by rw [show s.data.toList.length = s.size by simp, hx]; rfl)); clear hx hx0
        refine bodyPost_ret (v := .tuple #[.agg #[.int .i64 4, .int .i64 ((Pl.intOf (s.extract 0 (s.size - 2)).data.toList).getD 0)], .bool (Pl.intOf (s.extract 0 (s.size - 2)).data.toList).isSome]) (by simp [results, Tryz.results37, go_sem]) rfl ⟨4, (Pl.intOf (s.extract 0 (s.size - 2)).data.toList).getD 0, ?_, ?_, by (repeat (first | exact Below.refl _ _ | refine Below.setCell ?_ (by simp) _ | refine Below.alloc ?_ (by simp) _ | refine Below.drew ?_ | refine below_drewN ?_ _))⟩
        · rw [HFIN.out, Lib.extract_data]; simp
        · intro p hp
          rw [HFIN.out] at hp
          rw [Lib.extract_data]; simp only [List.drop_zero, Nat.sub_zero]
          rw [show s.data.toList.length = s.size by simp] at hp
          cases hi : Pl.intOf (s.data.toList.take (s.size - 2)) with
          | none => rw [hi] at hp; cases hp
          | some n => rw [hi] at hp; injection hp with hp; subst hp; exact ⟨rfl, rfl⟩
      rw [rounds_succ]
      go_wp2_with (go_at_call 36; refine (textInt_any _ _ (by simp; omega)).mono ?_; rintro e w' ⟨rfl, rfl⟩)
      rotate_left
      · have hx0 : ((s.extract (s.size - 2) s.size).toList == [83, 65]) = true := by simpa using (by assumption : (!(s.extract (s.size - 2) s.size).toList == [83, 65]) = false)
        have hx : s.data.toList.drop (s.size - 2) = [83, 65] := by rw [← Lib.extract_to_end, ← ByteArray.toList_eq]; exact beq_iff_eq.1 hx0
        have HFIN := Lib.hid (Pl.dayOf_more s.data.toList 5 (by simpa using H3.out) (by rw [show s.data.toList.length = s.size by simp, hx]; rfl)); clear hx hx0
        refine bodyPost_ret (v := .tuple #[.agg #[.int .i64 5, .int .i64 ((Pl.intOf (s.extract 0 (s.size - 2)).data.toList).getD 0)], .bool (Pl.intOf (s.extract 0 (s.size - 2)).data.toList).isSome]) (by simp [results, Tryz.results37, go_sem]) rfl ⟨5, (Pl.intOf (s.extract 0 (s.size - 2)).data.toList).getD 0, ?_, ?_, by (repeat (first | exact Below.refl _ _ | refine Below.setCell ?_ (by simp) _ | refine Below.alloc ?_ (by simp) _ | refine Below.drew ?_ | refine below_drewN ?_ _))⟩
        · rw [HFIN.out, Lib.extract_data]; simp
        · intro p hp
          rw [HFIN.out] at hp
          rw [Lib.extract_data]; simp only [List.drop_zero, Nat.sub_zero]
          rw [show s.data.toList.length = s.size by simp] at hp
          cases hi : Pl.intOf (s.data.toList.take (s.size - 2)) with
          | none => rw [hi] at hp; cases hp
          | some n => rw [hi] at hp; injection hp with hp; subst hp; exact ⟨rfl, rfl⟩
      rw [rounds_succ]
      go_wp2_with (go_at_call 36; refine (textInt_any _ _ (by simp; omega)).mono ?_; rintro e w' ⟨rfl, rfl⟩)
      rotate_left
      · have hx0 : ((s.extract (s.size - 2) s.size).toList == [83, 85]) = true := by simpa using (by assumption : (!(s.extract (s.size - 2) s.size).toList == [83, 85]) = false)
        have hx : s.data.toList.drop (s.size - 2) = [83, 85] := by rw [← Lib.extract_to_end, ← ByteArray.toList_eq]; exact beq_iff_eq.1 hx0
        have HFIN := Lib.hid (Pl.dayOf_more s.data.toList 6 (by simpa using H3.out) (by rw [show s.data.toList.length = s.size by simp, hx]; rfl)); clear hx hx0
        refine bodyPost_ret (v := .tuple #[.agg #[.int .i64 6, .int .i64 ((Pl.intOf (s.extract 0 (s.size - 2)).data.toList).getD 0)], .bool (Pl.intOf (s.extract 0 (s.size - 2)).data.toList).isSome]) (by simp [results, Tryz.results37, go_sem]) rfl ⟨6, (Pl.intOf (s.extract 0 (s.size - 2)).data.toList).getD 0, ?_, ?_, by (repeat (first | exact Below.refl _ _ | refine Below.setCell ?_ (by simp) _ | refine Below.alloc ?_ (by simp) _ | refine Below.drew ?_ | refine below_drewN ?_ _))⟩
        · rw [HFIN.out, Lib.extract_data]; simp
        · intro p hp
          rw [HFIN.out] at hp
          rw [Lib.extract_data]; simp only [List.drop_zero, Nat.sub_zero]
          rw [show s.data.toList.length = s.size by simp] at hp
          cases hi : Pl.intOf (s.data.toList.take (s.size - 2)) with
          | none => rw [hi] at hp; cases hp
          | some n => rw [hi] at hp; injection hp with hp; subst hp; exact ⟨rfl, rfl⟩
      rw [rounds_succ]
      go_wp2
      simp only [ByteArray.toList_eq, Lib.extract_to_end, Bool.not_eq_true', beq_eq_false_iff_ne, ne_eq] at *
      have HFIN : Hid (Pl.dayOf s.data.toList = none) := Pl.dayOf_none _ (by rw [show s.data.toList.length = s.size by simp]; simp [Pl.dayIdx, *])
      refine bodyPost_ret (v := .tuple #[.agg #[.int .i64 0, .int .i64 0], .bool false]) (by simp [results, Tryz.results37, go_sem]) rfl ⟨0, 0, by rw [HFIN.out]; rfl, (by rw [HFIN.out]; exact (fun p h => by cases h)), by (repeat (first | exact Below.refl _ _ | refine Below.setCell ?_ (by simp) _ | refine Below.alloc ?_ (by simp) _ | refine Below.drew ?_ | refine below_drewN ?_ _))⟩

end Go.Proofs.YthkgjhnckakliaaGreatDoorR
namespace Go.Proofs.YthkgjhnckakliaaGreatDoorR
open Go.RowKit

namespace Pl
def kFREQ : Bs := [70, 82, 69, 81]
def kDTSTART : Bs := [68, 84, 83, 84, 65, 82, 84]
def kUNTIL : Bs := [85, 78, 84, 73, 76]
def kINTERVAL : Bs := [73, 78, 84, 69, 82, 86, 65, 76]
def kCOUNT : Bs := [67, 79, 85, 78, 84]
def kWKST : Bs := [87, 75, 83, 84]
def kBYDAY : Bs := [66, 89, 68, 65, 89]
def kBYSETPOS : Bs := [66, 89, 83, 69, 84, 80, 79, 83]
def kBYMONTH : Bs := [66, 89, 77, 79, 78, 84, 72]
def kBYMONTHDAY : Bs := [66, 89, 77, 79, 78, 84, 72, 68, 65, 89]
def kBYYEARDAY : Bs := [66, 89, 89, 69, 65, 82, 68, 65, 89]
def kBYWEEKNO : Bs := [66, 89, 87, 69, 69, 75, 78, 79]
def kBYHOUR : Bs := [66, 89, 72, 79, 85, 82]
def kBYMINUTE : Bs := [66, 89, 77, 73, 78, 85, 84, 69]
def kBYSECOND : Bs := [66, 89, 83, 69, 67, 79, 78, 68]
def kBYEASTER : Bs := [66, 89, 69, 65, 83, 84, 69, 82]
def told (b : Bool) : Nat := if b then 0 else 1
def allDays : List Bs → Option (List (Int × Int))
  | [] => some []
  | x :: r => match dayOf x with
    | none => none
    | some n => match allDays r with
      | none => none
      | some l => some (n :: l)
/-- A rule with what a part tells of numbers. -/
def withInts (r : PR) (v : Bs) (f : PR → List Int → PR) : PR × Nat := match intsOf v with | none => (r, 1) | some l => (f r l, 0)
/-- What a part of a rule's text makes of a rule, and 0 (right), 1 (wrong), 2 (left open). -/
def partOf (r : PR) (key v : Bs) : PR × Nat :=
  if key = kFREQ then ({ r with freq := (freqOf v).getD 0 }, told (freqOf v).isSome)
  else if key = kDTSTART then ({ r with start := (moment v).1, hasStart := (moment v).1 != 0 }, (moment v).2)
  else if key = kUNTIL then ({ r with until_ := (moment v).1, hasUntil := (moment v).1 != 0 }, (moment v).2)
  else if key = kINTERVAL then ({ r with interval := (intOf v).getD 0 }, told (intOf v).isSome)
  else if key = kCOUNT then ({ r with count := (intOf v).getD 0 }, told (intOf v).isSome)
  else if key = kWKST then match dayOf v with | none => (r, 1) | some d => if d.2 != 0 then (r, 2) else ({ r with wkst := d.1 }, 0)
  else if key = kBYDAY then match allDays (split 44 v) with | none => (r, 1) | some l => ({ r with day := l }, 0)
  else if key = kBYSETPOS then withInts r v fun r l => { r with setPos := l }
  else if key = kBYMONTH then withInts r v fun r l => { r with month := l }
  else if key = kBYMONTHDAY then withInts r v fun r l => { r with monthDay := l }
  else if key = kBYYEARDAY then withInts r v fun r l => { r with yearDay := l }
  else if key = kBYWEEKNO then withInts r v fun r l => { r with weekNo := l }
  else if key = kBYHOUR then withInts r v fun r l => { r with hour := l }
  else if key = kBYMINUTE then withInts r v fun r l => { r with minute := l }
  else if key = kBYSECOND then withInts r v fun r l => { r with second := l }
  else if key = kBYEASTER then withInts r v fun r l => { r with easter := l }
  else (r, 1)
end Pl

/-- What the reader of a part leaves. -/
def PartRes (rb : Nat) (w : World) (q : PR × Nat) (e : Ending) (w' : World) : Prop :=
  e = .returned (.int .u8 (q.2 : Nat)) ∧ (q.2 = 0 → RuleAt w' rb q.1) ∧ ButBelow rb w w'

set_option maxHeartbeats 400000 in
theorem told_any (b : Bool) (w : World) : Calls Tryz.prog 34 #[.bool b] w fun e w' => e = .returned (.int .u8 (Pl.told b : Nat)) ∧ w = w' := by
  cases b <;>
  · go_enter Tryz.func34, Tryz.ntmps34
    go_wp2
    go_ret
    exact ⟨rfl, rfl⟩

set_option maxHeartbeats 2000000 in
set_option maxRecDepth 100000 in
theorem part_FREQ (rb : Nat) (r : PR) (s : ByteArray) (w : World) (he : Env w) (hr : RuleAt w rb r) :
    Calls Tryz.prog 21 #[.pointer (some ⟨rb, 0, none⟩), .string ⟨#[70, 82, 69, 81]⟩, .string s] w (PartRes rb w (Pl.partOf r Pl.kFREQ s.data.toList)) := by
  have hmf : ∀ (fn : Fn) (first cap : Array Value) (w : World), (Instr.makeFunc fn first cap).run Tryz.prog w = .ok (.func fn first cap) w := fun _ _ _ _ => rfl
  have hq : Pl.partOf r Pl.kFREQ s.data.toList = ({ r with freq := (Pl.freqOf s.data.toList).getD 0 }, Pl.told (Pl.freqOf s.data.toList).isSome) := if_pos rfl
  rw [hq]; clear hq
  obtain ⟨v, hb, hp⟩ := hr
  have c0 : w.cell? ⟨rb, 0, none⟩ = some (.int .u8 (r.freq : Nat)) := hb.cell 0
  have f0 := hb.free 0
  have HB := Lib.hid hb; clear hb
  go_enter Tryz.func21, Tryz.ntmps21
  go_wp2_with (first | (go_at_call 35; refine (FreqOf_any _ _ he).mono ?_; rintro e w' ⟨rfl, rfl⟩) | (go_at_call 34; refine (told_any _ _).mono ?_; rintro e w' ⟨rfl, rfl⟩))
  go_ret
  have hp2 := hp.but ((ButBelow.refl rb w).setCell 0 (.int .u8 ((Pl.freqOf s.data.toList).getD 0 : Nat)))
  exact ⟨rfl, fun _ => ⟨v, HB.out.set 0 _, ⟨hp2.setPos, hp2.month, hp2.monthDay, hp2.yearDay, hp2.weekNo, hp2.day, hp2.hour, hp2.minute, hp2.second, hp2.easter⟩⟩, (ButBelow.refl _ _).setCell _ _⟩

set_option maxHeartbeats 2000000 in
set_option maxRecDepth 100000 in
theorem part_DTSTART (rb : Nat) (r : PR) (s : ByteArray) (w : World) (hs : s.size ≤ 1000000) (hr : RuleAt w rb r) :
    Calls Tryz.prog 21 #[.pointer (some ⟨rb, 0, none⟩), .string ⟨#[68, 84, 83, 84, 65, 82, 84]⟩, .string s] w (PartRes rb w (Pl.partOf r Pl.kDTSTART s.data.toList)) := by
  have hmf : ∀ (fn : Fn) (first cap : Array Value) (w : World), (Instr.makeFunc fn first cap).run Tryz.prog w = .ok (.func fn first cap) w := fun _ _ _ _ => rfl
  have hq : Pl.partOf r Pl.kDTSTART s.data.toList = ({ r with start := (Pl.moment s.data.toList).1, hasStart := (Pl.moment s.data.toList).1 != 0 }, (Pl.moment s.data.toList).2) := by
    unfold Pl.partOf; rw [if_neg (by decide), if_pos rfl]
  rw [hq]; clear hq
  obtain ⟨v, hb, hp⟩ := hr
  have c1 : w.cell? ⟨rb, 1, none⟩ = some (.bool r.hasStart) := hb.cell 1
  have c2 : w.cell? ⟨rb, 2, none⟩ = some (.int .i64 r.start) := hb.cell 2
  have f1 := hb.free 1
  have f2 := hb.free 2
  have HB := Lib.hid hb; clear hb
  go_enter Tryz.func21, Tryz.ntmps21
  go_wp2_with (go_at_call 33; refine (TextMoment_any _ _ hs).mono ?_; rintro e w' ⟨rfl, rfl⟩)
  go_ret
  have hp2 := hp.but (((ButBelow.refl rb w).setCell 2 (.int .i64 (Pl.moment s.data.toList).1)).setCell 1 (.bool ((Pl.moment s.data.toList).1 != 0)))
  exact ⟨rfl, fun _ => ⟨v, (HB.out.set 2 _).set 1 _, ⟨hp2.setPos, hp2.month, hp2.monthDay, hp2.yearDay, hp2.weekNo, hp2.day, hp2.hour, hp2.minute, hp2.second, hp2.easter⟩⟩, ((ButBelow.refl _ _).setCell _ _).setCell _ _⟩

set_option maxHeartbeats 2000000 in
set_option maxRecDepth 100000 in
theorem part_UNTIL (rb : Nat) (r : PR) (s : ByteArray) (w : World) (hs : s.size ≤ 1000000) (hr : RuleAt w rb r) :
    Calls Tryz.prog 21 #[.pointer (some ⟨rb, 0, none⟩), .string ⟨#[85, 78, 84, 73, 76]⟩, .string s] w (PartRes rb w (Pl.partOf r Pl.kUNTIL s.data.toList)) := by
  have hmf : ∀ (fn : Fn) (first cap : Array Value) (w : World), (Instr.makeFunc fn first cap).run Tryz.prog w = .ok (.func fn first cap) w := fun _ _ _ _ => rfl
  have hq : Pl.partOf r Pl.kUNTIL s.data.toList = ({ r with until_ := (Pl.moment s.data.toList).1, hasUntil := (Pl.moment s.data.toList).1 != 0 }, (Pl.moment s.data.toList).2) := by
    unfold Pl.partOf; rw [if_neg (by decide), if_neg (by decide), if_pos rfl]
  rw [hq]; clear hq
  obtain ⟨v, hb, hp⟩ := hr
  have c6 : w.cell? ⟨rb, 6, none⟩ = some (.bool r.hasUntil) := hb.cell 6
  have c7 : w.cell? ⟨rb, 7, none⟩ = some (.int .i64 r.until_) := hb.cell 7
  have f6 := hb.free 6
  have f7 := hb.free 7
  have HB := Lib.hid hb; clear hb
  go_enter Tryz.func21, Tryz.ntmps21
  go_wp2_with (go_at_call 33; refine (TextMoment_any _ _ hs).mono ?_; rintro e w' ⟨rfl, rfl⟩)
  go_ret
  have hp2 := hp.but (((ButBelow.refl rb w).setCell 7 (.int .i64 (Pl.moment s.data.toList).1)).setCell 6 (.bool ((Pl.moment s.data.toList).1 != 0)))
  exact ⟨rfl, fun _ => ⟨v, (HB.out.set 7 _).set 6 _, ⟨hp2.setPos, hp2.month, hp2.monthDay, hp2.yearDay, hp2.weekNo, hp2.day, hp2.hour, hp2.minute, hp2.second, hp2.easter⟩⟩, ((ButBelow.refl _ _).setCell _ _).setCell _ _⟩

set_option maxHeartbeats 2000000 in
set_option maxRecDepth 100000 in
theorem part_INTERVAL (rb : Nat) (r : PR) (s : ByteArray) (w : World) (hs : s.size ≤ 1000000) (hr : RuleAt w rb r) :
    Calls Tryz.prog 21 #[.pointer (some ⟨rb, 0, none⟩), .string ⟨#[73, 78, 84, 69, 82, 86, 65, 76]⟩, .string s] w (PartRes rb w (Pl.partOf r Pl.kINTERVAL s.data.toList)) := by
  have hmf : ∀ (fn : Fn) (first cap : Array Value) (w : World), (Instr.makeFunc fn first cap).run Tryz.prog w = .ok (.func fn first cap) w := fun _ _ _ _ => rfl
  have hq : Pl.partOf r Pl.kINTERVAL s.data.toList = ({ r with interval := (Pl.intOf s.data.toList).getD 0 }, Pl.told (Pl.intOf s.data.toList).isSome) := by
    unfold Pl.partOf; rw [if_neg (by decide), if_neg (by decide), if_neg (by decide), if_pos rfl]
  rw [hq]; clear hq
  obtain ⟨v, hb, hp⟩ := hr
  have c3 : w.cell? ⟨rb, 3, none⟩ = some (.int .i64 r.interval) := hb.cell 3
  have f3 := hb.free 3
  have HB := Lib.hid hb; clear hb
  go_enter Tryz.func21, Tryz.ntmps21
  go_wp2_with (first | (go_at_call 36; refine (textInt_any _ _ hs).mono ?_; rintro e w' ⟨rfl, rfl⟩) | (go_at_call 34; refine (told_any _ _).mono ?_; rintro e w' ⟨rfl, rfl⟩))
  go_ret
  have hp2 := hp.but ((ButBelow.refl rb w).setCell 3 (.int .i64 ((Pl.intOf s.data.toList).getD 0)))
  exact ⟨rfl, fun _ => ⟨v, HB.out.set 3 _, ⟨hp2.setPos, hp2.month, hp2.monthDay, hp2.yearDay, hp2.weekNo, hp2.day, hp2.hour, hp2.minute, hp2.second, hp2.easter⟩⟩, (ButBelow.refl _ _).setCell _ _⟩

set_option maxHeartbeats 2000000 in
set_option maxRecDepth 100000 in
theorem part_COUNT (rb : Nat) (r : PR) (s : ByteArray) (w : World) (hs : s.size ≤ 1000000) (hr : RuleAt w rb r) :
    Calls Tryz.prog 21 #[.pointer (some ⟨rb, 0, none⟩), .string ⟨#[67, 79, 85, 78, 84]⟩, .string s] w (PartRes rb w (Pl.partOf r Pl.kCOUNT s.data.toList)) := by
  have hmf : ∀ (fn : Fn) (first cap : Array Value) (w : World), (Instr.makeFunc fn first cap).run Tryz.prog w = .ok (.func fn first cap) w := fun _ _ _ _ => rfl
  have hq : Pl.partOf r Pl.kCOUNT s.data.toList = ({ r with count := (Pl.intOf s.data.toList).getD 0 }, Pl.told (Pl.intOf s.data.toList).isSome) := by
    unfold Pl.partOf; rw [if_neg (by decide), if_neg (by decide), if_neg (by decide), if_neg (by decide), if_pos rfl]
  rw [hq]; clear hq
  obtain ⟨v, hb, hp⟩ := hr
  have c5 : w.cell? ⟨rb, 5, none⟩ = some (.int .i64 r.count) := hb.cell 5
  have f5 := hb.free 5
  have HB := Lib.hid hb; clear hb
  go_enter Tryz.func21, Tryz.ntmps21
  go_wp2_with (first | (go_at_call 36; refine (textInt_any _ _ hs).mono ?_; rintro e w' ⟨rfl, rfl⟩) | (go_at_call 34; refine (told_any _ _).mono ?_; rintro e w' ⟨rfl, rfl⟩))
  go_ret
  have hp2 := hp.but ((ButBelow.refl rb w).setCell 5 (.int .i64 ((Pl.intOf s.data.toList).getD 0)))
  exact ⟨rfl, fun _ => ⟨v, HB.out.set 5 _, ⟨hp2.setPos, hp2.month, hp2.monthDay, hp2.yearDay, hp2.weekNo, hp2.day, hp2.hour, hp2.minute, hp2.second, hp2.easter⟩⟩, (ButBelow.refl _ _).setCell _ _⟩

end Go.Proofs.YthkgjhnckakliaaGreatDoorR
namespace Go.Proofs.YthkgjhnckakliaaGreatDoorR
open Go.RowKit

namespace Pl
def tzid : Bs := [84, 90, 73, 68, 61]
def tzutc : Bs := [84, 90, 73, 68, 61, 85, 84, 67]
/-- What stands behind DTSTART: its seconds, and 0 (right), 1 (wrong) or 2 (left open). -/
def tstart (s : Bs) : Int × Nat :=
  if ascii s then
    match split 58 s with
    | [_] => moment s
    | [a, b] => if Lib.hasPrefix a tzid then (if a = tzutc then moment b else (0, 2)) else (0, 1)
    | _ => (0, 1)
  else (0, 2)
end Pl

theorem str_ne_lit (s l : Bs) : ((bs s).toList == l) = decide (s = l) := by
  rw [ByteArray.toList_eq, bs_list, Bool.eq_iff_iff]; simp

set_option maxHeartbeats 2000000 in
set_option maxRecDepth 100000 in
theorem TextStart_any (s : ByteArray) (w : World) (hs : s.size ≤ 1000000) :
    Calls Tryz.prog 19 #[.string s] w fun e w' =>
      e = .returned (.tuple #[.int .i64 (Pl.tstart s.data.toList).1, .int .u8 (Pl.tstart s.data.toList).2]) ∧ Below w.heap.size w w' := by
  cases ha : Pl.ascii s.data.toList with
  | false =>
    have HFIN : Hid (Pl.tstart s.data.toList = (0, 2)) := by unfold Pl.tstart; rw [ha]; rfl
    go_enter Tryz.func19, Tryz.ntmps19
    go_wp2_with (go_at_call 15; refine (textASCII_any _ _ hs).mono ?_; rintro e w' ⟨rfl, rfl⟩)
    go_ret2
    exact ⟨ret_io (by rw [HFIN.out]) (by rw [HFIN.out]; rfl), Below.refl _ _⟩
  | true =>
    have HFIN : Hid (Pl.tstart s.data.toList = match Pl.split 58 s.data.toList with
        | [_] => Pl.moment s.data.toList
        | [a, b] => if Lib.hasPrefix a Pl.tzid then (if a = Pl.tzutc then Pl.moment b else (0, 2)) else (0, 1)
        | _ => (0, 1)) := by unfold Pl.tstart; rw [ha]; rfl
    have hlen := Pl.split_length 58 s.data.toList
    have hlen2 : (Pl.split 58 s.data.toList).length ≤ 1000001 := by simp at hlen; omega
    clear hlen
    have HMEM := Lib.hid (Pl.split_mem_length 58 s.data.toList)
    have hne := Pl.split_ne 58 s.data.toList
    go_enter Tryz.func19, Tryz.ntmps19
    go_wp2_with (first | (go_at_call 15; refine (textASCII_any _ _ hs).mono ?_; rintro e w' ⟨rfl, rfl⟩) | fail)
    refine (textSplit_any s 58 w hs).mono ?_
    rintro e w1 ⟨v, rfl, hrow, hb1⟩
    obtain ⟨b, o, cap, rfl, hbl, hcap, hc⟩ := hrow.open (strs_ne hne)
    rw [strs_length] at hcap ⊢
    have HC := Lib.hid hc; clear hc hrow
    generalize hL : Pl.split 58 s.data.toList = L at *
    have HLL := Lib.hid hL; clear hL ha
    match L, hne with
    | [x], _ =>
      go_wp2_with (go_at_call 33; refine (TextMoment_any _ _ hs).mono ?_; rintro e w' ⟨rfl, rfl⟩)
      go_ret2
      exact ⟨ret_io (by rw [HFIN.out]) (by rw [HFIN.out]), hb1⟩
    | [x, y], _ =>
      have c0 : w1.cell? ⟨b, o, none⟩ = some (.string (bs x)) := by simpa using HC.out 0 _ (strs_get (l := x) rfl)
      have c1 : w1.cell? ⟨b, o + 1, none⟩ = some (.string (bs y)) := HC.out 1 _ (strs_get (l := y) rfl)
      have hyl : (bs y).size ≤ 1000000 := by
        have := HMEM.out y (by simp); rw [bs_size]; simp at this; omega
      have hbeg : Calls Tryz.prog 20 #[.string (bs x), .string ⟨#[84, 90, 73, 68, 61]⟩] w1 fun e w' => e = .returned (.bool (Lib.hasPrefix x Pl.tzid)) ∧ w1 = w' := by
        have := textBegins_any (bs x) ⟨#[84, 90, 73, 68, 61]⟩ w1; rw [bs_list] at this; exact this
      cases hp : Lib.hasPrefix x Pl.tzid with
      | false =>
        rw [hp] at hbeg
        have HF : Hid (Pl.tstart s.data.toList = (0, 1)) := by rw [HFIN.out]; simp [hp, Hid]
        clear hp
        go_wp2_with (go_at_call 20; refine hbeg.mono ?_; rintro e w' ⟨rfl, rfl⟩)
        go_ret2
        exact ⟨ret_io (by rw [HF.out]) (by rw [HF.out]; rfl), hb1⟩
      | true =>
        rw [hp] at hbeg
        by_cases hu : x = Pl.tzutc
        · have hl : ((bs x).toList == [84, 90, 73, 68, 61, 85, 84, 67]) = true := by rw [str_ne_lit]; exact decide_eq_true hu
          have HF : Hid (Pl.tstart s.data.toList = Pl.moment y) := by rw [HFIN.out]; simp only [hp, if_true]; rw [if_pos hu]; rfl
          have hmom : Calls Tryz.prog 33 #[.string (bs y)] w1 fun e w' => e = .returned (.tuple #[.int .i64 (Pl.moment y).1, .int .u8 (Pl.moment y).2]) ∧ w1 = w' := by
            have := TextMoment_any (bs y) w1 hyl; rw [bs_list] at this; exact this
          have HU := Lib.hid hu; clear hu hp
          go_wp2_with (first | (go_at_call 20; refine hbeg.mono ?_; rintro e w' ⟨rfl, rfl⟩) | (go_at_call 33; refine hmom.mono ?_; rintro e w' ⟨rfl, rfl⟩))
          go_ret2
          exact ⟨ret_io (by rw [HF.out]) (by rw [HF.out]), hb1⟩
        · have hl : ((bs x).toList == [84, 90, 73, 68, 61, 85, 84, 67]) = false := by rw [str_ne_lit]; exact decide_eq_false hu
          have HF : Hid (Pl.tstart s.data.toList = (0, 2)) := by rw [HFIN.out]; simp only [hp, if_true]; rw [if_neg hu]; rfl
          have HU := Lib.hid hu; clear hu hp
          go_wp2_with (go_at_call 20; refine hbeg.mono ?_; rintro e w' ⟨rfl, rfl⟩)
          go_ret2
          exact ⟨ret_io (by rw [HF.out]) (by rw [HF.out]; rfl), hb1⟩
    | x :: y :: z :: r, _ =>
      have h3 : 2 < (x :: y :: z :: r).length := by simp
      have HF : Hid (Pl.tstart s.data.toList = (0, 1)) := HFIN
      generalize x :: y :: z :: r = L at *
      have hb1' : ((L.length : Int) == 1) = false := by rw [beq_eq_false_iff_ne]; omega
      go_wp2
      go_ret2
      exact ⟨ret_io (by rw [HF.out]) (by rw [HF.out]; rfl), hb1⟩

end Go.Proofs.YthkgjhnckakliaaGreatDoorR
namespace Go.Proofs.YthkgjhnckakliaaGreatDoorR
open Go.RowKit

theorem Block.range {w : World} {b : Nat} {cs : Array Value} (h : Block w b cs) : w.rangeAt b 0 cs.toList := fun j v hv => by
  rw [Nat.zero_add, h.cell j]; simpa using hv
theorem Block.there {w : World} {b : Nat} {cs : Array Value} (h : Block w b cs) (n : Nat) (hn : n = cs.size) : w.there b 0 n := fun j hj => by
  rw [Nat.zero_add, h.cell j, h.free j]; exact ⟨by rw [Array.getElem?_eq_getElem (by omega)]; rfl, rfl⟩

theorem Block.setMany : ∀ (vs : List Value) (w : World) (b o : Nat) (cs : Array Value), Block w b cs → o + vs.length ≤ cs.size →
    Block (w.setCells b o vs) b ((cs.toList.take o ++ vs ++ cs.toList.drop (o + vs.length)).toArray) ∧ ButBelow b w (w.setCells b o vs)
  | [], w, b, o, cs, h, _ => by
    refine ⟨?_, ButBelow.refl _ _⟩
    simp only [World.setCells, List.append_nil, List.length_nil, Nat.add_zero, List.take_append_drop, Array.toArray_toList]; exact h
  | v :: r, w, b, o, cs, h, hl => by
    have hlt : o < cs.size := by simp at hl; omega
    have ih := Block.setMany r (w.setCell ⟨b, o, none⟩ v) b (o + 1) (cs.setIfInBounds o v) (h.set o v) (by simp at hl ⊢; omega)
    refine ⟨?_, ((ButBelow.refl b w).setCell o v).trans ih.2⟩
    have e : (cs.toList.take o ++ (v :: r) ++ cs.toList.drop (o + (v :: r).length)) = ((cs.setIfInBounds o v).toList.take (o + 1) ++ r ++ (cs.setIfInBounds o v).toList.drop (o + 1 + r.length)) := by
      have hl2 : o < cs.toList.length := by simpa using hlt
      rw [Array.toList_setIfInBounds, List.take_succ_eq_append_getElem (by simpa using hlt), List.take_set_of_le (Nat.le_refl _), List.getElem_set_self,
        List.drop_set_of_lt (by omega)]
      simp [show o + (r.length + 1) = o + 1 + r.length by omega]
    rw [World.setCells, e]; exact ih.1

theorem Block.stored {w : World} {b : Nat} {cs cells : Array Value} (h : Block w b cs) (hs : cells.size = cs.size) : Block (w.setCells b 0 cells.toList) b cells ∧ ButBelow b w (w.setCells b 0 cells.toList) := by
  have := Block.setMany cells.toList w b 0 cs h (by simp; omega)
  refine ⟨?_, this.2⟩
  have e : (cs.toList.take 0 ++ cells.toList ++ cs.toList.drop (0 + cells.toList.length)).toArray = cells := by
    rw [List.take_zero, List.nil_append, List.drop_of_length_le (by simp; omega), List.append_nil]
  have h1 := this.1; rw [e] at h1; exact h1

section
variable {P : Program}
theorem wpList_store_block {ops : Array Oper} {rest : List Oper} {op : Oper} {a : Act} {w : World} {Q : Exit → Act → World → Prop} (hgd : op.guard = none) (ty : TypeId) (x y : Operand) (ho : op.op = .store ty x y)
    (b : Nat) (cs cells : Array Value) (hx : a.eval x = .pointer (some ⟨b, 0, none⟩)) (hy : a.eval y = .agg cells) (hB : Block w b cs) (hsz : cells.size = cs.size)
    (hi : (P.info? ty).map (·.size) = some cells.size) (h1 : cells.all (·.oneCell') = true)
    (h : ∀ w', Block w' b cells → ButBelow b w w' → wpList P ops Q rest (a.put op.dst undef) w') : wpList P ops Q (op :: rest) a w :=
  wpList_store_mid hgd ty x y ho b 0 cells hx hy (hB.there _ hsz) hi h1 (h _ (hB.stored hsz).1 (hB.stored hsz).2)
theorem wpList_load_block {ops : Array Oper} {rest : List Oper} {op : Oper} {a : Act} {w : World} {Q : Exit → Act → World → Prop} (hgd : op.guard = none) (ty : TypeId) (x : Operand) (ho : op.op = .load ty x)
    (b : Nat) (cs : Array Value) (hx : a.eval x = .pointer (some ⟨b, 0, none⟩)) (d : TypeDesc) (hB : Block w b cs)
    (hu : P.underlying ty = some d) (hd : d.isRow = true) (hi : (P.info? ty).map (·.size) = some cs.size)
    (h : wpList P ops Q rest (a.put op.dst (.agg cs)) w) : wpList P ops Q (op :: rest) a w :=
  wpList_load_mid hgd ty x ho b 0 hx cs.toList d hB.range hu hd (by simpa using hi) (by simpa using h)
theorem load_block {w : World} {b : Nat} {cs : Array Value} (hB : Block w b cs) (ty : TypeId) (d : TypeDesc) (hu : P.underlying ty = some d) (hd : d.isRow = true) (hi : (P.info? ty).map (·.size) = some cs.size) :
    (loadVar ty ⟨b, 0, none⟩).run P w = .ok (.agg cs) w := by
  have := run_loadVar_mid w b 0 ty cs.toList d hB.range hu hd (by simpa using hi)
  simpa using this
theorem results_block_tmp {fn : Func} {p t : Tmp} {ty : TypeId} (h : fn.results = #[.cell p ty, .tmp t]) (tmps : Array Value) (w : World) (b : Nat) (cs : Array Value) (d : TypeDesc)
    (hp : tmps.getD p undef = .pointer (some ⟨b, 0, none⟩)) (hB : Block w b cs) (hu : P.underlying ty = some d) (hd : d.isRow = true) (hi : (P.info? ty).map (·.size) = some cs.size) :
    (results fn tmps).run P w = .ok (.tuple #[.agg cs, tmps.getD t undef]) w := by
  have hp' : tmps[p]?.getD undef = .pointer (some ⟨b, 0, none⟩) := by simpa using hp
  simp [results, h, hp', asAddr, load_block hB ty d hu hd hi]
theorem results_block {fn : Func} {p : Tmp} {ty : TypeId} (h : fn.results = #[.cell p ty]) (tmps : Array Value) (w : World) (b : Nat) (cs : Array Value) (d : TypeDesc)
    (hp : tmps.getD p undef = .pointer (some ⟨b, 0, none⟩)) (hB : Block w b cs) (hu : P.underlying ty = some d) (hd : d.isRow = true) (hi : (P.info? ty).map (·.size) = some cs.size) :
    (results fn tmps).run P w = .ok (.agg cs) w := by
  have hp' : tmps[p]?.getD undef = .pointer (some ⟨b, 0, none⟩) := by simpa using hp
  simp [results, h, hp', asAddr, load_block hB ty d hu hd hi]
end
end Go.Proofs.YthkgjhnckakliaaGreatDoorR
namespace Go.Proofs.YthkgjhnckakliaaGreatDoorR
open Go.RowKit

namespace Pl
def outside (a b : Int) (c : Bool) (n : Int) : Bool := (decide (n < a) || decide (b < n)) && !(c && decide (n ≤ -a) && decide (-b ≤ n))
def within (l : List Int) (a b : Int) (c : Bool) : Bool := l.all fun n => !outside a b c n
end Pl

set_option maxHeartbeats 2000000 in
theorem within_any (l : List Int) (v : Value) (a b : Nat) (c : Bool) (w : World) (hl : l.length ≤ 1000000) (ha : a ≤ 1000) (hb : b ≤ 1000) (hr : Row w v (ints l)) :
    Calls Tryz.prog 24 #[v, .int .i64 a, .int .i64 b, .bool c] w fun e w' => e = .returned (.bool (Pl.within l a b c)) ∧ w = w' := by
  obtain ⟨p, cap, rfl, h2, h3⟩ := hr
  rw [ints_length] at h2 ⊢
  cases l with
  | nil =>
    clear h3
    go_enter Tryz.func24, Tryz.ntmps24
    go_wp2
    go_loop [13] (fun i => i = .int .i64 0) (fun _ => 0)
    case atStart => rfl
    case round =>
      obtain rfl := hrel
      go_wp2
      go_ret
      exact ⟨rfl, rfl⟩
  | cons x0 r0 =>
    obtain ⟨bk, o, rfl, hbl, hc⟩ := h3 (by simp [ints])
    have HC := Lib.hid hc; clear hc h3
    generalize x0 :: r0 = l at *
    have hA0 : Hid (Pl.within l a b c = Pl.within (l.drop 0) a b c) := by rw [List.drop_zero]; exact Lib.hid rfl
    have na : IntKind.i64.wrap (-(a : Int)) = -(a : Int) := by simp [IntKind.wrap, IntKind.bits, IntKind.signed]; omega
    have nb : IntKind.i64.wrap (-(b : Int)) = -(b : Int) := by simp [IntKind.wrap, IntKind.bits, IntKind.signed]; omega
    go_enter Tryz.func24, Tryz.ntmps24
    go_wp2
    go_loop [13] (fun i => ∃ k : Nat, k ≤ l.length ∧ i = .int .i64 k ∧ Hid (Pl.within l a b c = Pl.within (l.drop k) a b c)) (fun i => l.length - (intOf i).toNat)
    case atStart => exact ⟨0, Nat.zero_le _, rfl, hA0⟩
    case round =>
      obtain ⟨k, hk, rfl, hA⟩ := hrel
      by_cases hlt : k < l.length
      · obtain ⟨n, hn⟩ : ∃ n, l[k]? = some n := ⟨_, List.getElem?_eq_getElem hlt⟩
        have hcell : w.cell? ⟨bk, o + k, none⟩ = some (.int .i64 n) := HC.out _ _ (by simp [ints, hn])
        have hstep : Pl.within (l.drop k) a b c = (!Pl.outside a b c n && Pl.within (l.drop (k + 1)) a b c) := by
          obtain ⟨h, rfl⟩ := List.getElem?_eq_some_iff.1 hn
          rw [List.drop_eq_getElem_cons h]; rfl
        have HS := Lib.hid hstep; clear hstep hn
        have hgo : Hid (Pl.outside a b c n = false → Pl.within l a b c = Pl.within (l.drop (k + 1)) a b c) := Lib.hid fun h => by rw [hA.out, HS.out, h]; rfl
        have hno : Hid (Pl.outside a b c n = true → Pl.within l a b c = false) := Lib.hid fun h => by rw [hA.out, HS.out, h]; rfl
        clear hA HS hA0
        unfold Pl.outside at hgo hno
        cases c <;> cases h1 : decide (n < (a : Int)) <;> cases h2' : decide ((b : Int) < n) <;> cases h3 : decide (n ≤ -(a : Int)) <;> cases h4 : decide (-(b : Int) ≤ n) <;> simp only [h1, h2', h3, h4] at hgo hno
        all_goals go_wp2
        all_goals first | (go_round; (case rel => exact ⟨k + 1, by omega, by go_num, hgo.out rfl⟩); (case measure => simp [intOf]; omega); done) | (go_ret; exact ⟨by rw [hno.out rfl]; rfl, rfl⟩)
      · obtain rfl : k = l.length := by omega
        have hT : Hid (Pl.within l a b c = true) := by
          show _ = _
          rw [hA.out, List.drop_length]; rfl
        go_wp2
        go_ret
        exact ⟨by rw [hT.out]; rfl, rfl⟩

end Go.Proofs.YthkgjhnckakliaaGreatDoorR
namespace Go.Proofs.YthkgjhnckakliaaGreatDoorR
open Go.RowKit
def zTime : Array Value := #[.int .i64 0, .int .i64 0]
theorem zTime_one : zTime.all (·.oneCell') = true := by simp [zTime, Value.oneCell']
theorem own_store {w w' : World} {o : Obj} (h : ButBelow w.heap.size (w.alloc o) w') : Below w.heap.size w w' :=
  ((Below.refl _ _).alloc (Nat.le_refl _) _).trans (h.own (Nat.le_refl _) (by simp))
/-- An error, and the zero time. -/
def ErrT (w : World) (e : Ending) (w' : World) : Prop := (∃ t u, e = .returned (.tuple #[vTime 0 0, .iface t u])) ∧ Below w.heap.size w w'
/-- A time, and no error. -/
def OkT (m : Int) (w : World) (e : Ending) (w' : World) : Prop := e = .returned (.tuple #[vTime m 0, .nilIface]) ∧ Below w.heap.size w w'

set_option maxHeartbeats 2000000 in
set_option maxRecDepth 100000 in
theorem Parse_noyear (lay : ByteArray) (l : Bs) (w : World) (h1 : DigNo l 4) :
    Calls Tryz.prog 108 #[.string lay, .string (bs l)] w (ErrT w) := by
  have c1 := fun w => dig_no h1 4 rfl w (by omega) (by omega)
  have HB0 : Hid (Block (w.alloc (.cells zTime 59)) w.heap.size zTime) := ⟨59, heap_alloc_new w _⟩
  have hball := Below.refl (w.alloc (.cells zTime 59)).heap.size (w.alloc (.cells zTime 59))
  unfold zTime at HB0 hball
  go_enter Tryz.func108, Tryz.ntmps108
  go_wp2_with fail
  change Hid (Block _ w.heap.size zTime) at HB0
  go_wp2_with (first | (go_at_call 67; refine (New_any _ _).mono ?_; rintro e w' ⟨⟨t, u, rfl⟩, hbx⟩; have hball := hball.trans (hbx.mono hball.size); clear hbx) | (go_at_call 130; with_reducible refine (c1 _).mono ?_; rintro e w' ⟨rfl, hbx⟩; have hball := hball.trans (hbx.mono hball.size); clear hbx) | (refine wpList_store_block rfl 59 _ _ rfl w.heap.size zTime zTime rfl rfl (HB0.out.below hball) rfl (by kernel_rfl) zTime_one ?_; intro wz hBz hbbz))
  refine bodyPost_ret (v := .tuple #[vTime 0 0, .iface t u]) (results_block_tmp Tryz.results108 _ _ w.heap.size zTime _ rfl hBz Tryz.underlying59 rfl (by kernel_rfl)) rfl ⟨⟨t, u, rfl⟩, own_store ((ButBelow.of_below hball).trans hbbz)⟩

set_option maxHeartbeats 2000000 in
set_option maxRecDepth 100000 in
theorem Parse_nomonth (lay : ByteArray) (l L1 : Bs) (y : Nat) (w : World) (h1 : DigOk l 4 y L1) (h2 : DigNo L1 2) :
    Calls Tryz.prog 108 #[.string lay, .string (bs l)] w (ErrT w) := by
  have c1 := fun w => dig_ok h1 4 rfl w (by omega) (by omega)
  have c2 := fun w => dig_no h2 2 rfl w (by omega) (by omega)
  have HB0 : Hid (Block (w.alloc (.cells zTime 59)) w.heap.size zTime) := ⟨59, heap_alloc_new w _⟩
  have hball := Below.refl (w.alloc (.cells zTime 59)).heap.size (w.alloc (.cells zTime 59))
  unfold zTime at HB0 hball
  go_enter Tryz.func108, Tryz.ntmps108
  go_wp2_with fail
  change Hid (Block _ w.heap.size zTime) at HB0
  go_wp2_with (first | (go_at_call 67; refine (New_any _ _).mono ?_; rintro e w' ⟨⟨t, u, rfl⟩, hbx⟩; have hball := hball.trans (hbx.mono hball.size); clear hbx) | (go_at_call 130; with_reducible refine (c1 _).mono ?_; rintro e w' ⟨rfl, hbx⟩; have hball := hball.trans (hbx.mono hball.size); clear hbx) | (go_at_call 130; with_reducible refine (c2 _).mono ?_; rintro e w' ⟨rfl, hbx⟩; have hball := hball.trans (hbx.mono hball.size); clear hbx) | (refine wpList_store_block rfl 59 _ _ rfl w.heap.size zTime zTime rfl rfl (HB0.out.below hball) rfl (by kernel_rfl) zTime_one ?_; intro wz hBz hbbz))
  refine bodyPost_ret (v := .tuple #[vTime 0 0, .iface t u]) (results_block_tmp Tryz.results108 _ _ w.heap.size zTime _ rfl hBz Tryz.underlying59 rfl (by kernel_rfl)) rfl ⟨⟨t, u, rfl⟩, own_store ((ButBelow.of_below hball).trans hbbz)⟩

set_option maxHeartbeats 2000000 in
set_option maxRecDepth 100000 in
theorem Parse_badmonth (lay : ByteArray) (l L1 L2 : Bs) (y m : Nat) (w : World) (h1 : DigOk l 4 y L1) (h2 : DigOk L1 2 m L2) (hm : ¬ (1 ≤ m ∧ m ≤ 12)) :
    Calls Tryz.prog 108 #[.string lay, .string (bs l)] w (ErrT w) := by
  have hd := dig_lt h2
  have c1 := fun w => dig_ok h1 4 rfl w (by omega) (by omega)
  have c2 := fun w => dig_ok h2 2 rfl w (by omega) (by omega)
  have HB0 : Hid (Block (w.alloc (.cells zTime 59)) w.heap.size zTime) := ⟨59, heap_alloc_new w _⟩
  have hball := Below.refl (w.alloc (.cells zTime 59)).heap.size (w.alloc (.cells zTime 59))
  unfold zTime at HB0 hball
  go_enter Tryz.func108, Tryz.ntmps108
  go_wp2_with fail
  change Hid (Block _ w.heap.size zTime) at HB0
  by_cases hm0 : 1 ≤ m
  · have hm1 : 12 < m := by omega
    clear hm
    go_wp2_with (first | (go_at_call 67; refine (New_any _ _).mono ?_; rintro e w' ⟨⟨t, u, rfl⟩, hbx⟩; have hball := hball.trans (hbx.mono hball.size); clear hbx) | (go_at_call 130; with_reducible refine (c1 _).mono ?_; rintro e w' ⟨rfl, hbx⟩; have hball := hball.trans (hbx.mono hball.size); clear hbx) | (go_at_call 130; with_reducible refine (c2 _).mono ?_; rintro e w' ⟨rfl, hbx⟩; have hball := hball.trans (hbx.mono hball.size); clear hbx) | (refine wpList_store_block rfl 59 _ _ rfl w.heap.size zTime zTime rfl rfl (HB0.out.below hball) rfl (by kernel_rfl) zTime_one ?_; intro wz hBz hbbz))
    refine bodyPost_ret (v := .tuple #[vTime 0 0, .iface t u]) (results_block_tmp Tryz.results108 _ _ w.heap.size zTime _ rfl hBz Tryz.underlying59 rfl (by kernel_rfl)) rfl ⟨⟨t, u, rfl⟩, own_store ((ButBelow.of_below hball).trans hbbz)⟩
  · go_wp2_with (first | (go_at_call 67; refine (New_any _ _).mono ?_; rintro e w' ⟨⟨t, u, rfl⟩, hbx⟩; have hball := hball.trans (hbx.mono hball.size); clear hbx) | (go_at_call 130; with_reducible refine (c1 _).mono ?_; rintro e w' ⟨rfl, hbx⟩; have hball := hball.trans (hbx.mono hball.size); clear hbx) | (go_at_call 130; with_reducible refine (c2 _).mono ?_; rintro e w' ⟨rfl, hbx⟩; have hball := hball.trans (hbx.mono hball.size); clear hbx) | (refine wpList_store_block rfl 59 _ _ rfl w.heap.size zTime zTime rfl rfl (HB0.out.below hball) rfl (by kernel_rfl) zTime_one ?_; intro wz hBz hbbz))
    refine bodyPost_ret (v := .tuple #[vTime 0 0, .iface t u]) (results_block_tmp Tryz.results108 _ _ w.heap.size zTime _ rfl hBz Tryz.underlying59 rfl (by kernel_rfl)) rfl ⟨⟨t, u, rfl⟩, own_store ((ButBelow.of_below hball).trans hbbz)⟩

set_option maxHeartbeats 2000000 in
set_option maxRecDepth 100000 in
theorem Parse_noday (lay : ByteArray) (l L1 L2 : Bs) (y m : Nat) (w : World) (h1 : DigOk l 4 y L1) (h2 : DigOk L1 2 m L2) (hm0 : 1 ≤ m) (hm1 : m ≤ 12) (h3 : DigNo L2 2) :
    Calls Tryz.prog 108 #[.string lay, .string (bs l)] w (ErrT w) := by
  have hd := dig_lt h2
  have c1 := fun w => dig_ok h1 4 rfl w (by omega) (by omega)
  have c2 := fun w => dig_ok h2 2 rfl w (by omega) (by omega)
  have c3 := fun w => dig_no h3 2 rfl w (by omega) (by omega)
  have HB0 : Hid (Block (w.alloc (.cells zTime 59)) w.heap.size zTime) := ⟨59, heap_alloc_new w _⟩
  have hball := Below.refl (w.alloc (.cells zTime 59)).heap.size (w.alloc (.cells zTime 59))
  unfold zTime at HB0 hball
  go_enter Tryz.func108, Tryz.ntmps108
  go_wp2_with fail
  change Hid (Block _ w.heap.size zTime) at HB0
  go_wp2_with (first | (go_at_call 67; refine (New_any _ _).mono ?_; rintro e w' ⟨⟨t, u, rfl⟩, hbx⟩; have hball := hball.trans (hbx.mono hball.size); clear hbx) | (go_at_call 130; with_reducible refine (c1 _).mono ?_; rintro e w' ⟨rfl, hbx⟩; have hball := hball.trans (hbx.mono hball.size); clear hbx) | (go_at_call 130; with_reducible refine (c2 _).mono ?_; rintro e w' ⟨rfl, hbx⟩; have hball := hball.trans (hbx.mono hball.size); clear hbx) | (go_at_call 130; with_reducible refine (c3 _).mono ?_; rintro e w' ⟨rfl, hbx⟩; have hball := hball.trans (hbx.mono hball.size); clear hbx) | (refine wpList_store_block rfl 59 _ _ rfl w.heap.size zTime zTime rfl rfl (HB0.out.below hball) rfl (by kernel_rfl) zTime_one ?_; intro wz hBz hbbz))
  refine bodyPost_ret (v := .tuple #[vTime 0 0, .iface t u]) (results_block_tmp Tryz.results108 _ _ w.heap.size zTime _ rfl hBz Tryz.underlying59 rfl (by kernel_rfl)) rfl ⟨⟨t, u, rfl⟩, own_store ((ButBelow.of_below hball).trans hbbz)⟩

set_option maxHeartbeats 4000000 in
set_option maxRecDepth 100000 in
theorem Parse_date (l L1 L2 L3 : Bs) (y m d : Nat) (w : World) (h1 : DigOk l 4 y L1) (h2 : DigOk L1 2 m L2) (h3 : DigOk L2 2 d L3) (hm0 : 1 ≤ m) (hm1 : m ≤ 12) (hL : L3 = []) (hok : Pl.dateOk y m d) :
    Calls Tryz.prog 108 #[.string ⟨#[50, 48, 48, 54, 48, 49, 48, 50]⟩, .string (bs l)] w (OkT (Pl.daysOf y m d * 86400) w) := by
  subst hL
  have hd := dig_lt h3; have hmm := dig_lt h2; have hyy := dig_lt h1
  obtain ⟨_, _, hd0, hdm⟩ := hok
  have hE : (bs []).toList = [] := by rw [ByteArray.toList_eq]; rfl
  have HS : Hid (Pl.daysOf y m d * 86400 + 0 * 3600 + 0 * 60 + 0 = Pl.daysOf y m d * 86400) := by show _ = _; omega
  have hone : ∀ x : Int, (#[Value.int .i64 x, .int .i64 0] : Array Value).all (·.oneCell') = true := fun x => by simp [Value.oneCell']
  have c1 := fun w => dig_ok h1 4 rfl w (by omega) (by omega)
  have c2 := fun w => dig_ok h2 2 rfl w (by omega) (by omega)
  have c3 := fun w => dig_ok h3 2 rfl w (by omega) (by omega)
  have HB0 : Hid (Block (w.alloc (.cells zTime 59)) w.heap.size zTime) := ⟨59, heap_alloc_new w _⟩
  have hball := Below.refl (w.alloc (.cells zTime 59)).heap.size (w.alloc (.cells zTime 59))
  unfold zTime at HB0 hball
  go_enter Tryz.func108, Tryz.ntmps108
  go_wp2_with fail
  change Hid (Block _ w.heap.size zTime) at HB0
  go_wp2_with (first | (go_at_call 67; refine (New_any _ _).mono ?_; rintro e w' ⟨⟨t, u, rfl⟩, hbx⟩; have hball := hball.trans (hbx.mono hball.size); clear hbx) | (go_at_call 130; with_reducible refine (c1 _).mono ?_; rintro e w' ⟨rfl, hbx⟩; have hball := hball.trans (hbx.mono hball.size); clear hbx) | (go_at_call 130; with_reducible refine (c2 _).mono ?_; rintro e w' ⟨rfl, hbx⟩; have hball := hball.trans (hbx.mono hball.size); clear hbx) | (go_at_call 130; with_reducible refine (c3 _).mono ?_; rintro e w' ⟨rfl, hbx⟩; have hball := hball.trans (hbx.mono hball.size); clear hbx) | (go_at_call 113; refine (monthDays_any _ _ _).mono ?_; rintro e w' ⟨rfl, rfl⟩) | (go_at_call 88; refine (Date_any _ _ _ _ _ _ _ (by omega) (by omega) (by omega) (by omega) (by omega) (by omega) (by omega) (by omega) (by omega) (by omega) (by omega) (by omega)).mono ?_; rintro e w' ⟨rfl, hbx⟩; rw [HS.out]; have hball := hball.trans (hbx.mono hball.size); clear hbx) | (refine wpList_store_block rfl 59 _ _ rfl w.heap.size zTime _ rfl rfl (HB0.out.below hball) rfl (by kernel_rfl) (hone _) ?_; intro wz hBz hbbz))
  refine bodyPost_ret (v := .tuple #[vTime (Pl.daysOf y m d * 86400) 0, .nilIface]) (results_block_tmp Tryz.results108 _ _ w.heap.size _ _ rfl hBz Tryz.underlying59 rfl (by kernel_rfl)) rfl ⟨rfl, own_store ((ButBelow.of_below hball).trans hbbz)⟩

set_option maxHeartbeats 4000000 in
set_option maxRecDepth 100000 in
theorem Parse_baddate (l L1 L2 L3 : Bs) (y m d : Nat) (w : World) (h1 : DigOk l 4 y L1) (h2 : DigOk L1 2 m L2) (h3 : DigOk L2 2 d L3) (hm0 : 1 ≤ m) (hm1 : m ≤ 12) (hL : L3 = []) (hok : ¬ Pl.dateOk y m d) :
    Calls Tryz.prog 108 #[.string ⟨#[50, 48, 48, 54, 48, 49, 48, 50]⟩, .string (bs l)] w (ErrT w) := by
  subst hL
  have hd := dig_lt h3; have hmm := dig_lt h2; have hyy := dig_lt h1
  have hE : (bs []).toList = [] := by rw [ByteArray.toList_eq]; rfl
  have c1 := fun w => dig_ok h1 4 rfl w (by omega) (by omega)
  have c2 := fun w => dig_ok h2 2 rfl w (by omega) (by omega)
  have c3 := fun w => dig_ok h3 2 rfl w (by omega) (by omega)
  have HB0 : Hid (Block (w.alloc (.cells zTime 59)) w.heap.size zTime) := ⟨59, heap_alloc_new w _⟩
  have hball := Below.refl (w.alloc (.cells zTime 59)).heap.size (w.alloc (.cells zTime 59))
  unfold zTime at HB0 hball
  go_enter Tryz.func108, Tryz.ntmps108
  go_wp2_with fail
  change Hid (Block _ w.heap.size zTime) at HB0
  by_cases hd0 : 1 ≤ d
  · have hdm : Pl.mdays m y < d := by
      rcases Int.lt_or_le (Pl.mdays m y) d with h | h
      · exact h
      · exact absurd ⟨hm0, hm1, hd0, h⟩ hok
    clear hok
    go_wp2_with (first | (go_at_call 67; refine (New_any _ _).mono ?_; rintro e w' ⟨⟨t, u, rfl⟩, hbx⟩; have hball := hball.trans (hbx.mono hball.size); clear hbx) | (go_at_call 130; with_reducible refine (c1 _).mono ?_; rintro e w' ⟨rfl, hbx⟩; have hball := hball.trans (hbx.mono hball.size); clear hbx) | (go_at_call 130; with_reducible refine (c2 _).mono ?_; rintro e w' ⟨rfl, hbx⟩; have hball := hball.trans (hbx.mono hball.size); clear hbx) | (go_at_call 130; with_reducible refine (c3 _).mono ?_; rintro e w' ⟨rfl, hbx⟩; have hball := hball.trans (hbx.mono hball.size); clear hbx) | (go_at_call 113; refine (monthDays_any _ _ _).mono ?_; rintro e w' ⟨rfl, rfl⟩) | (refine wpList_store_block rfl 59 _ _ rfl w.heap.size zTime zTime rfl rfl (HB0.out.below hball) rfl (by kernel_rfl) zTime_one ?_; intro wz hBz hbbz))
    refine bodyPost_ret (v := .tuple #[vTime 0 0, .iface t u]) (results_block_tmp Tryz.results108 _ _ w.heap.size zTime _ rfl hBz Tryz.underlying59 rfl (by kernel_rfl)) rfl ⟨⟨t, u, rfl⟩, own_store ((ButBelow.of_below hball).trans hbbz)⟩
  · clear hok
    go_wp2_with (first | (go_at_call 67; refine (New_any _ _).mono ?_; rintro e w' ⟨⟨t, u, rfl⟩, hbx⟩; have hball := hball.trans (hbx.mono hball.size); clear hbx) | (go_at_call 130; with_reducible refine (c1 _).mono ?_; rintro e w' ⟨rfl, hbx⟩; have hball := hball.trans (hbx.mono hball.size); clear hbx) | (go_at_call 130; with_reducible refine (c2 _).mono ?_; rintro e w' ⟨rfl, hbx⟩; have hball := hball.trans (hbx.mono hball.size); clear hbx) | (go_at_call 130; with_reducible refine (c3 _).mono ?_; rintro e w' ⟨rfl, hbx⟩; have hball := hball.trans (hbx.mono hball.size); clear hbx) | (go_at_call 113; refine (monthDays_any _ _ _).mono ?_; rintro e w' ⟨rfl, rfl⟩) | (refine wpList_store_block rfl 59 _ _ rfl w.heap.size zTime zTime rfl rfl (HB0.out.below hball) rfl (by kernel_rfl) zTime_one ?_; intro wz hBz hbbz))
    refine bodyPost_ret (v := .tuple #[vTime 0 0, .iface t u]) (results_block_tmp Tryz.results108 _ _ w.heap.size zTime _ rfl hBz Tryz.underlying59 rfl (by kernel_rfl)) rfl ⟨⟨t, u, rfl⟩, own_store ((ButBelow.of_below hball).trans hbbz)⟩
end Go.Proofs.YthkgjhnckakliaaGreatDoorR
namespace Go.Proofs.YthkgjhnckakliaaGreatDoorR
open Go.RowKit
theorem count_set_lt : ∀ (l : List Bool) (i : Nat), l[i]? = some false → (l.set i true).count false + 1 = l.count false
  | [], i, h => by simp at h
  | b :: l, 0, h => by simp at h; subst h; simp
  | b :: l, i + 1, h => by
    have := count_set_lt l i (by simpa using h)
    simp only [List.set_cons_succ, List.count_cons]; omega
section
variable {P : Program} {ops : Array Oper} {Q : Exit → Act → World → Prop} {md : Region.Mode}
theorem wpAny_inv (Inv : Array Bool → Act → World → Prop)
    (hend : ∀ listed a w, Region.ready md ops listed = [] → Inv listed a w → Q .normal a w)
    (hstep : ∀ listed a w i o, ops[i]? = some o → listed.getD i true = false → (∀ e ∈ o.after, Region.binds md e = true → listed.getD e.on false = true) → Inv listed a w →
      if Region.wanted o (yielded ops a.tmps) = true then o.wp P a w (fun a' w' => Inv (listed.setIfInBounds i true) a' w') Q else Inv (listed.setIfInBounds i true) (a.put o.dst undef) w) :
    ∀ (fuel : Nat) (listed : Array Bool) (a : Act) (w : World), listed.toList.count false ≤ fuel → Inv listed a w → wpAny P md ops Q fuel listed a w
  | 0, listed, a, w, hc, hI => by
    have hr : Region.ready md ops listed = [] := by
      refine List.eq_nil_iff_forall_not_mem.2 fun j hj => ?_
      have h0 := (mem_ready.1 hj).1
      have hm : false ∈ listed.toList := by
        rcases Nat.lt_or_ge j listed.size with h | h
        · simp [h] at h0; rw [← h0]; simp
        · simp [Array.getElem?_eq_none h] at h0
      have := List.count_pos_iff.2 hm
      omega
    exact ⟨hr, hend _ _ _ hr hI⟩
  | fuel + 1, listed, a, w, hc, hI => by
    refine ⟨fun hr => hend _ _ _ hr hI, fun i hi => ?_⟩
    obtain ⟨h0, o, ho, hall⟩ := mem_ready.1 hi
    have hs := hstep listed a w i o ho h0 hall hI
    have hlt : listed.toList[i]? = some false := by
      rcases Nat.lt_or_ge i listed.size with h | h
      · simp [h] at h0; simp [h, h0]
      · simp [Array.getElem?_eq_none h] at h0
    have hc2 : (listed.setIfInBounds i true).toList.count false ≤ fuel := by
      have := count_set_lt listed.toList i hlt
      rw [Array.toList_setIfInBounds]; omega
    unfold wpOp
    simp only [ho]
    split
    · rename_i hw
      rw [if_pos hw] at hs
      exact .inl (Oper.wp_mono (fun a' w' h => wpAny_inv Inv hend hstep fuel _ a' w' hc2 h) hs)
    · rename_i hw
      rw [if_neg hw] at hs
      exact wpAny_inv Inv hend hstep fuel _ _ w hc2 hs
theorem region_inv {id : Nat} {a : Act} {w : World} (hm : P.follows .mixedOrders = true) (Inv : Array Bool → Act → World → Prop)
    (h0 : Inv (Array.replicate ops.size false) a { w with drawn := w.drawn + 1 })
    (hend : ∀ listed a w, Region.ready .any ops listed = [] → Inv listed a w → Q .normal a w)
    (hstep : ∀ listed a w i o, ops[i]? = some o → listed.getD i true = false → (∀ e ∈ o.after, Region.binds .any e = true → listed.getD e.on false = true) → Inv listed a w →
      if Region.wanted o (yielded ops a.tmps) = true then o.wp P a w (fun a' w' => Inv (listed.setIfInBounds i true) a' w') Q else Inv (listed.setIfInBounds i true) (a.put o.dst undef) w) :
    (Code.region id ops true).wp P Q a w :=
  wp_region_any hm (wpAny_inv Inv hend hstep ops.size _ a _ (by simp) h0)
/-- The slots of the operations that have come up hold their values. -/
def VI (ops : Array Oper) (val : Nat → Value) (listed : Array Bool) (t : Array Value) : Prop :=
  ∀ (k : Nat) (o : Oper) (d : Nat), ops[k]? = some o → o.dst = some d → listed.getD k false = true → t.getD d undef = val d
/-- The slots that no operation writes are as they were. -/
def KI (ops : Array Oper) (t0 t : Array Value) : Prop := t.size = t0.size ∧ ∀ j, (∀ (k : Nat) (o : Oper), ops[k]? = some o → o.dst ≠ some j) → t.getD j undef = t0.getD j undef
theorem getD_put (t : Array Value) (d j : Nat) (v : Value) : (t.setIfInBounds d v).getD j undef = if d = j ∧ d < t.size then v else t.getD j undef := by
  simp only [Array.getD_eq_getD_getElem?, Array.getElem?_setIfInBounds]
  by_cases e : d = j
  · subst e
    by_cases hl : d < t.size
    · simp [hl]
    · simp [hl]
  · simp [e]
theorem getD_list (l : Array Bool) (k j : Nat) : (l.setIfInBounds k true).getD j false = true → j = k ∨ l.getD j false = true := by
  intro h
  by_cases e : k = j
  · exact .inl e.symm
  · right; simpa [Array.getD_eq_getD_getElem?, Array.getElem?_setIfInBounds, e] using h
theorem VI.start (val : Nat → Value) (n : Nat) (t : Array Value) : VI ops val (Array.replicate n false) t := by
  intro k o d _ _ h
  simp [Array.getD_eq_getD_getElem?, Array.getElem?_replicate] at h
  by_cases e : k < n
  · rw [if_pos e] at h; cases h
  · rw [if_neg e] at h; cases h
theorem VI.get {val : Nat → Value} {listed : Array Bool} {t : Array Value} (h : VI ops val listed t) {k d : Nat} {o : Oper} (ho : ops[k]? = some o) (hd : o.dst = some d) (hl : listed.getD k false = true) : t.getD d undef = val d := h k o d ho hd hl
theorem VI.put {val : Nat → Value} {listed : Array Bool} {t : Array Value} (h : VI ops val listed t) {k d : Nat} {o : Oper} (ho : ops[k]? = some o) (hd : o.dst = some d) (hs : d < t.size) : VI ops val (listed.setIfInBounds k true) (t.setIfInBounds d (val d)) := by
  intro k' o' d' ho' hd' hl
  rw [getD_put]
  by_cases e : d = d'
  · subst e; rw [if_pos ⟨rfl, hs⟩]
  · rw [if_neg (fun x => e x.1)]
    rcases getD_list _ _ _ hl with rfl | hl
    · rw [ho] at ho'; cases ho'; rw [hd] at hd'; cases hd'; exact absurd rfl e
    · exact h k' o' d' ho' hd' hl
theorem VI.skip {val : Nat → Value} {listed : Array Bool} {t : Array Value} (h : VI ops val listed t) {k : Nat} {o : Oper} (ho : ops[k]? = some o) (hd : o.dst = none) : VI ops val (listed.setIfInBounds k true) t := by
  intro k' o' d' ho' hd' hl
  rcases getD_list _ _ _ hl with rfl | hl
  · rw [ho] at ho'; cases ho'; rw [hd] at hd'; cases hd'
  · exact h k' o' d' ho' hd' hl
theorem KI.put {t0 t : Array Value} (h : KI ops t0 t) {k d : Nat} {o : Oper} (ho : ops[k]? = some o) (hd : o.dst = some d) (v : Value) : KI ops t0 (t.setIfInBounds d v) := by
  refine ⟨by simpa using h.1, fun j hj => ?_⟩
  rw [getD_put, if_neg (fun x => hj k o ho (by rw [hd, x.1]))]
  exact h.2 j hj
theorem KI.get {t0 t : Array Value} (h : KI ops t0 t) (j : Nat) (hj : (ops.all fun o => o.dst != some j) = true) : t.getD j undef = t0.getD j undef :=
  h.2 j fun k o ho e => by
    have h1 := Array.all_eq_true'.1 hj o (Array.mem_of_getElem? ho)
    rw [e] at h1; simp at h1
theorem KI.start (t : Array Value) : KI ops t t := ⟨rfl, fun _ _ => rfl⟩
theorem getD_ne (l : Array Bool) {k j : Nat} (h : k ≠ j) (b : Bool) : (l.setIfInBounds k true).getD j b = l.getD j b := by
  simp [Array.getD_eq_getD_getElem?, h]
end
/-- The operations of the region that the code begins with. -/
def headOps : Code → Array Oper
  | .region _ ops _ => ops
  | .seq a _ => headOps a
  | _ => #[]
section
variable {P : Program} {ops : Array Oper}
theorem VI.re {val val' : Nat → Value} {listed : Array Bool} {t : Array Value} (h : VI ops val listed t) (hv : ∀ (k : Nat) (o : Oper) (d : Nat), ops[k]? = some o → o.dst = some d → listed.getD k false = true → val d = val' d) : VI ops val' listed t :=
  fun k o d ho hd hl => (h k o d ho hd hl).trans (hv k o d ho hd hl)
/-- Only number k writes slot j. -/
theorem dst_only {k j : Nat} (h : (List.range ops.size).all (fun i => (((ops[i]?).bind (·.dst)) != some j) || i == k) = true) {i : Nat} {o : Oper} (ho : ops[i]? = some o) (hd : o.dst = some j) : i = k := by
  have hi : i < ops.size := (Array.getElem?_eq_some_iff.1 ho).1
  have := List.all_eq_true.1 h i (List.mem_range.2 hi)
  rw [ho] at this; simp [hd] at this; exact this
theorem unlisted {l : Array Bool} {k : Nat} (h : l.getD k true = false) : l.getD k false = false := by
  rw [Array.getD_eq_getD_getElem?] at h ⊢
  cases e : l[k]? with
  | none => rfl
  | some b => rw [e] at h; exact h
end
section
variable {ops : Array Oper}
/-- Each operation waits only for earlier ones: where none is ready, all have come up. -/
theorem all_listed {listed : Array Bool} (hd : ((List.range ops.size).all fun k => ((ops[k]?).map fun o => o.after.all fun e => decide (e.on < k)).getD true) = true)
    (hn : listed.size = ops.size) (hr : Region.ready .any ops listed = []) : ∀ k, k < ops.size → listed.getD k false = true := by
  intro k
  induction k using Nat.strongRecOn with
  | ind k ih =>
    intro hk
    cases h : listed.getD k false with
    | true => rfl
    | false =>
      exfalso
      have h1 : listed.getD k true = false := by
        have hk2 : k < listed.size := by omega
        simp [Array.getD_eq_getD_getElem?, hk2] at h ⊢; exact h
      have hm : k ∈ Region.ready .any ops listed := by
        refine mem_ready.2 ⟨h1, ops[k], Array.getElem?_eq_getElem hk, fun e he _ => ?_⟩
        have h2 := List.all_eq_true.1 hd k (List.mem_range.2 hk)
        rw [Array.getElem?_eq_getElem hk] at h2
        have h3 := Array.all_eq_true'.1 h2 e he
        have h4 : e.on < k := by simpa using h3
        exact ih e.on h4 (by omega)
      rw [hr] at hm; cases hm
theorem VI.all {val : Nat → Value} {listed : Array Bool} {t : Array Value} (h : VI ops val listed t) (ha : ∀ k, k < ops.size → listed.getD k false = true) {k d : Nat} {o : Oper} (ho : ops[k]? = some o) (hd : o.dst = some d) : t.getD d undef = val d :=
  h k o d ho hd (ha k (Array.getElem?_eq_some_iff.1 ho).1)
end
/-- A frame laid out slot by slot. -/
theorem laid (t : Array Value) (n : Nat) (h : t.size = n) : t = ((List.range n).map fun j => t.getD j undef).toArray := by
  refine Array.ext (by simp [h]) fun i h1 h2 => ?_
  simp [Array.getD_eq_getD_getElem?, h1]
theorem getD_self (l : Array Bool) (k : Nat) (h : l.getD k true = false) : (l.setIfInBounds k true).getD k false = true := by
  have hk : k < l.size := by
    rcases Nat.lt_or_ge k l.size with h' | h'
    · exact h'
    · rw [Array.getD_eq_getD_getElem?, Array.getElem?_eq_none h'] at h; cases h
  simp [Array.getD_eq_getD_getElem?, hk]
theorem unrep {n k : Nat} (h : (Array.replicate n false).getD k false = true) : False := by
  simp [Array.getD_eq_getD_getElem?, Array.getElem?_replicate] at h
  by_cases e : k < n
  · rw [if_pos e] at h; cases h
  · rw [if_neg e] at h; cases h
/-- What a guard's operation has yielded. -/
theorem yld {ops : Array Oper} {t : Array Value} {k d : Nat} {o : Oper} {b : Bool} (ho : ops[k]? = some o) (hd : o.dst = some d) (ht : t.getD d undef = .bool b) : yielded ops t k = some b := by
  have h : t[d]? = some (.bool b) := by
    rw [Array.getD_eq_getD_getElem?] at ht
    cases e : t[d]? with
    | none => rw [e] at ht; cases ht
    | some v => rw [e] at ht; simp at ht; rw [ht]
  simp [yielded, ho, hd, h]
theorem unwanted {o : Oper} {y : Nat → Option Bool} {g : Nat} {b b' : Bool} (hg : o.guard = some (g, b)) (hy : y g = some b') : Region.wanted o y = (b' == b) := by
  unfold Region.wanted; rw [hg]; simp [hy]
/-- A whole block loaded, at an operation. -/
theorem wp_load_block {P : Program} {op : Oper} {a : Act} {w : World} {K : Act → World → Prop} {Q : Exit → Act → World → Prop} (ty : TypeId) (x : Operand) (ho : op.op = .load ty x)
    (b : Nat) (cs : Array Value) (hx : a.eval x = .pointer (some ⟨b, 0, none⟩)) (d : TypeDesc) (hB : Block w b cs)
    (hu : P.underlying ty = some d) (hd : d.isRow = true) (hi : (P.info? ty).map (·.size) = some cs.size)
    (h : K (a.put op.dst (.agg cs)) w) : op.wp P a w K Q :=
  wp_load_mid ty x ho b 0 hx cs.toList d hB.range hu hd (by simpa using hi) (by simpa using h)
/-- The operations of the region of this number, wherever it stands. -/
def findOps (k : Nat) : Code → Array Oper
  | .region id ops _ => if id = k then ops else #[]
  | .seq a b => let x := findOps k a; if x.size = 0 then findOps k b else x
  | .cond _ a b => let x := findOps k a; if x.size = 0 then findOps k b else x
  | .block _ a => findOps k a
  | .loop a => findOps k a
  | .scope a => findOps k a
  | _ => #[]
/-- A struct put together, at an operation. -/
theorem wp_build {P : Program} {op : Oper} {a : Act} {w : World} {K : Act → World → Prop} {Q : Exit → Act → World → Prop} (t : TypeId) (parts : Array (Nat × Operand)) (vals : Array (Nat × Value)) (ho : op.op = .build t parts)
    (cells : Array Value) (hv : parts.map (fun (i, x) => (i, a.eval x)) = vals) (hr : (Instr.build t vals).run P w = .ok (.agg cells) w)
    (h : K (a.put op.dst (.agg cells)) w) : op.wp P a w K Q := by
  unfold Oper.wp execOp
  subst hv
  simp only [ho, Sem.run_bind, hr, Sem.run_pure, Result.andThen_ok]
  exact h
theorem want_on {o : Oper} {y : Nat → Option Bool} {g : Nat} {b : Bool} {p q : Prop} (hg : o.guard = some (g, b)) (hy : y g = some b) (h : p) : if Region.wanted o y = true then p else q := by
  rw [if_pos (by rw [unwanted hg hy]; simp)]; exact h
theorem want_off {o : Oper} {y : Nat → Option Bool} {g : Nat} {b b' : Bool} {p q : Prop} (hg : o.guard = some (g, b)) (hy : y g = some b') (hne : b' ≠ b) (h : q) : if Region.wanted o y = true then p else q := by
  rw [if_neg (by rw [unwanted hg hy]; simpa using hne)]; exact h
theorem want_any {o : Oper} {y : Nat → Option Bool} {p q : Prop} (hg : o.guard = none) (h : p) : if Region.wanted o y = true then p else q := by
  rw [if_pos (by unfold Region.wanted; rw [hg])]; exact h
section
variable {ops : Array Oper}
theorem op_of {k d : Nat} (hk : (ops[k]?).bind (·.dst) = some d) : ∃ o, ops[k]? = some o ∧ o.dst = some d := Option.bind_eq_some_iff.1 hk
/-- The same laws with the operation told by a closed fact. -/
theorem VI.at {val : Nat → Value} {listed : Array Bool} {t : Array Value} (h : VI ops val listed t) {k d : Nat} {v : Value} (hk : (ops[k]?).bind (·.dst) = some d) (hv : val d = v) (hl : listed.getD k false = true) : t.getD d undef = v :=
  have ⟨_, ho, hd⟩ := op_of hk
  (h.get ho hd hl).trans hv
theorem VI.lay {val : Nat → Value} {listed : Array Bool} {t : Array Value} (h : VI ops val listed t) {k d : Nat} {v : Value} (hk : (ops[k]?).bind (·.dst) = some d) (hv : val d = v) (hs : d < t.size) : VI ops val (listed.setIfInBounds k true) (t.setIfInBounds d v) := by
  obtain ⟨_, ho, hd⟩ := op_of hk
  subst hv; exact h.put ho hd hs
theorem VI.pass {val : Nat → Value} {listed : Array Bool} {t : Array Value} (h : VI ops val listed t) {k : Nat} (hk : (ops[k]?).map (·.dst) = some none) : VI ops val (listed.setIfInBounds k true) t := by
  obtain ⟨o, ho, hd⟩ := Option.map_eq_some_iff.1 hk
  exact h.skip ho hd
theorem KI.lay {t0 t : Array Value} (h : KI ops t0 t) {k d : Nat} (hk : (ops[k]?).bind (·.dst) = some d) (v : Value) : KI ops t0 (t.setIfInBounds d v) :=
  have ⟨_, ho, hd⟩ := op_of hk
  h.put ho hd v
theorem VI.end {val : Nat → Value} {listed : Array Bool} {t : Array Value} (h : VI ops val listed t) (ha : ∀ k, k < ops.size → listed.getD k false = true) {k d : Nat} {v : Value} (hk : (ops[k]?).bind (·.dst) = some d) (hv : val d = v) : t.getD d undef = v :=
  have ⟨_, ho, hd⟩ := op_of hk
  (h.all ha ho hd).trans hv
theorem yld_at {t : Array Value} {k d : Nat} {b : Bool} (hk : (ops[k]?).bind (·.dst) = some d) (ht : t.getD d undef = .bool b) : yielded ops t k = some b :=
  have ⟨_, ho, hd⟩ := op_of hk
  yld ho hd ht
end
/-- What an operation of a region owes: from the invariant, where it may come up, to the invariant behind it. -/
def StepAt (P : Program) (Q : Exit → Act → World → Prop) (ops : Array Oper) (Inv : Array Bool → Act → World → Prop) (k : Nat) : Prop :=
  ∀ (listed : Array Bool) (a : Act) (wl : World) (o : Oper), ops[k]? = some o → listed.getD k true = false → (∀ e ∈ o.after, Region.binds .any e = true → listed.getD e.on false = true) → Inv listed a wl →
    if Region.wanted o (yielded ops a.tmps) = true then o.wp P a wl (fun a' w' => Inv (listed.setIfInBounds k true) a' w') Q else Inv (listed.setIfInBounds k true) (a.put o.dst undef) wl
theorem region_steps {P : Program} {ops : Array Oper} {Q : Exit → Act → World → Prop} {id : Nat} {a : Act} {w : World} (hm : P.follows .mixedOrders = true) (Inv : Array Bool → Act → World → Prop)
    (h0 : Inv (Array.replicate ops.size false) a { w with drawn := w.drawn + 1 })
    (hend : ∀ listed a w, Region.ready .any ops listed = [] → Inv listed a w → Q .normal a w)
    (n : Nat) (hn : ops.size = n) (hs : ∀ k, k < n → StepAt P Q ops Inv k) : (Code.region id ops true).wp P Q a w :=
  region_inv hm Inv h0 hend fun listed a wl i o ho h1 h2 h3 => hs i (by rw [← hn]; exact (Array.getElem?_eq_some_iff.1 ho).1) listed a wl o ho h1 h2 h3
/-- An operation that another one waits for has come up. -/
theorem up {o : Oper} {listed : Array Bool} (hall : ∀ e ∈ o.after, Region.binds .any e = true → listed.getD e.on false = true) {k : Nat} (h : (o.after.any fun e => e.on == k && Region.binds .any e) = true) : listed.getD k false = true := by
  obtain ⟨e, he, h2⟩ := Array.any_eq_true'.1 h
  simp only [Bool.and_eq_true, beq_iff_eq] at h2
  rw [← h2.1]; exact hall e he h2.2
end Go.Proofs.YthkgjhnckakliaaGreatDoorR

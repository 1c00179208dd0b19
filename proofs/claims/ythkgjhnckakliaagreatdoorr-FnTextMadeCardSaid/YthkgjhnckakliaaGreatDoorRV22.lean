/- rrule.strToWeekday.
  rrule.processRRuleName.
  rrule.strToWeekdays. -/
import Derived.Test.YthkgjhnckakliaaGreatDoorRV17
import Derived.Test.YthkgjhnckakliaaGreatDoorRV08
import Derived.Test.YthkgjhnckakliaaGreatDoorRV07
import Derived.Test.YthkgjhnckakliaaGreatDoorRV20
import Derived.Maps.OwnOps
import Derived.Test.YthkgjhnckakliaaGreatDoorRV14
import Derived.Test.YthkgjhnckakliaaGreatDoorRV06
import Derived.Test.YthkgjhnckakliaaGreatDoorRV04
namespace Go.Proofs.YthkgjhnckakliaaGreatDoorR
open Go.RowKit
theorem Holds.range {w : World} {g : Nat} {cs : Array Value} (h : Holds w g cs) : w.rangeAt g 0 cs.toList := fun j v hv => by
  rw [Nat.zero_add]; exact h.cell (by simpa using hv)
section
variable {P : Program}
/-- A guard: the walk stands at an operation. -/
theorem atl {ops : Array Oper} {l : List Oper} {a : Act} {w : World} {Q : Exit → Act → World → Prop} (h : wpList P ops Q l a w) : wpList P ops Q l a w := h
theorem wpList_load_holds {ops : Array Oper} {rest : List Oper} {op : Oper} {a : Act} {w : World} {Q : Exit → Act → World → Prop} (hgd : op.guard = none) (ty : TypeId) (x : Operand) (ho : op.op = .load ty x)
    (g : Nat) (cs : Array Value) (hx : a.eval x = .pointer (some ⟨g, 0, none⟩)) (d : TypeDesc) (hH : Holds w g cs)
    (hu : P.underlying ty = some d) (hd : d.isRow = true) (hi : (P.info? ty).map (·.size) = some cs.size)
    (h : wpList P ops Q rest (a.put op.dst (.agg cs)) w) : wpList P ops Q (op :: rest) a w :=
  wpList_load_mid hgd ty x ho g 0 hx cs.toList d hH.range hu hd (by simpa using hi) (by simpa using h)
end
def two (a b : Int) : Array Value := #[.int .i64 a, .int .i64 b]
theorem two_one (a b : Int) : (two a b).all (·.oneCell') = true := by simp [two, Value.oneCell']
def dayL : List (Bs × Value) := [([77, 79], .agg (two 0 0)), ([84, 85], .agg (two 1 0)), ([87, 69], .agg (two 2 0)), ([84, 72], .agg (two 3 0)), ([70, 82], .agg (two 4 0)), ([83, 65], .agg (two 5 0)), ([83, 85], .agg (two 6 0))]
theorem dayL_get (s : Bs) : mget s dayL = (Pl.dayIdx s).map fun (n : Nat) => .agg (two n 0) := by
  unfold Pl.dayIdx dayL
  simp only [mget, eq_comm (b := s)]
  repeat' split
  all_goals rfl
/-- A day with its number and no error, or an error. -/
def WdRes (s : Bs) (w : World) (e : Ending) (w' : World) : Prop :=
  ∃ a b err, e = .returned (.tuple #[.agg (two a b), err]) ∧ ((Pl.dayOf s = some (a, b) ∧ err = .nilIface) ∨ (Pl.dayOf s = none ∧ IsErr err)) ∧ Below w.heap.size w w'

set_option maxHeartbeats 4000000 in
set_option maxRecDepth 100000 in
theorem strToWeekday_any (s : Bs) (w : World) (he : Env w) (hw : 20 ≤ w.heap.size) (hs : s.length ≤ 1000000) :
    Calls Tryz.prog 74 #[.string (bs s)] w (WdRes s w) := by
  have HBR : Hid (Block (w.alloc (.cells (two 0 0) 61)) w.heap.size (two 0 0)) := ⟨61, heap_alloc_new w _⟩
  have hall : Below w.heap.size w (w.alloc (.cells (two 0 0) 61)) := (Below.refl _ _).alloc (Nat.le_refl _) _
  have hs0 : w.heap.size < (w.alloc (.cells (two 0 0) 61)).heap.size := by simp
  have hed := he.below hall
  have hsz : (bs s).size = s.length := bs_size s
  have hcat : ¬ 9223372036854775807 < 19 + (bs s).size := by omega
  unfold two at HBR hall hs0 hed
  by_cases h2 : s.length < 2
  · have HF : Hid (Pl.dayOf s = none) := by show _ = _; unfold Pl.dayOf; rw [if_pos h2]
    go_enter Tryz.func74, Tryz.ntmps74
    go_wp2_with fail
    generalize w.alloc (.cells _ 61) = w0 at *
    change Hid (Block w0 w.heap.size (two 0 0)) at HBR
    go_wp2_with (first | (go_at_call 67; refine (New_any _ _).mono ?_; rintro e w' ⟨⟨t, u, rfl⟩, hbx⟩; have HBR := HBR.out.below hbx; have HBR := Lib.hid HBR; have hall := hall.trans (hbx.mono hall.size); clear hbx) | ((with_reducible refine atl ?_); refine wpList_store_block rfl 61 (.tmp 2) _ rfl (w.heap.size) (two 0 0) (two 0 0) rfl rfl (HBR.out) rfl (by kernel_rfl) (two_one _ _) ?_; intro wz hBz hbbz))
    refine bodyPost_ret (v := .tuple #[.agg (two (0) (0)), .iface t u]) (results_block_tmp Tryz.results74 _ _ w.heap.size _ _ rfl hBz Tryz.underlying61 rfl (by kernel_rfl)) rfl ⟨0, 0, .iface t u, rfl, Or.inr ⟨HF.out, t, u, rfl⟩, hall.trans (hbbz.own (Nat.le_refl _) hall.size)⟩
  · have hmm : ∀ w : World, (Instr.makeMap 169 none).run Tryz.prog w = .ok (.map (some w.heap.size)) (w.alloc (.map #[] 0)) := fun _ => rfl
    have hx : (bs s).extract (s.length - 2) s.length = bs (s.drop (s.length - 2)) := by rw [bs_extract, bs_list, List.take_length]
    have HX := Lib.hid hx; clear hx
    have hget := dayL_get (s.drop (s.length - 2))
    have HBR := Lib.hid (HBR.out.alloc (.map #[] 0))
    have hM : MapAt ((w.alloc (.cells #[.int .i64 0, .int .i64 0] 61)).alloc (.map #[] 0)) (w.heap.size + 1) [] := ⟨#[], 0, by have := heap_alloc_new (w.alloc (.cells #[.int .i64 0, .int .i64 0] 61)) (.map #[] 0); simpa using this, rfl⟩
    have hbm : Below (w.alloc (.cells #[.int .i64 0, .int .i64 0] 61)).heap.size (w.alloc (.cells #[.int .i64 0, .int .i64 0] 61)) ((w.alloc (.cells #[.int .i64 0, .int .i64 0] 61)).alloc (.map #[] 0)) := (Below.refl _ _).alloc (Nat.le_refl _) _
    have hed := hed.below hbm
    have hall := hall.trans (hbm.mono hall.size)
    clear hbm hs0
    cases hi : Pl.dayIdx (s.drop (s.length - 2)) with
    | none =>
      rw [hi] at hget
      have HF : Hid (Pl.dayOf s = none) := Pl.dayOf_none s hi
      clear hi
      go_enter Tryz.func74, Tryz.ntmps74
      go_wp2_with (first | ((with_reducible refine atl ?_); (first | (refine wpList_load_holds rfl 61 (.global 2) rfl 2 (two 0 0) rfl _ hed.mo Tryz.underlying61 rfl (by kernel_rfl) ?_) | (refine wpList_load_holds rfl 61 (.global 4) rfl 4 (two 1 0) rfl _ hed.tu Tryz.underlying61 rfl (by kernel_rfl) ?_) | (refine wpList_load_holds rfl 61 (.global 5) rfl 5 (two 2 0) rfl _ hed.we Tryz.underlying61 rfl (by kernel_rfl) ?_) | (refine wpList_load_holds rfl 61 (.global 6) rfl 6 (two 3 0) rfl _ hed.th Tryz.underlying61 rfl (by kernel_rfl) ?_) | (refine wpList_load_holds rfl 61 (.global 7) rfl 7 (two 4 0) rfl _ hed.fr Tryz.underlying61 rfl (by kernel_rfl) ?_) | (refine wpList_load_holds rfl 61 (.global 8) rfl 8 (two 5 0) rfl _ hed.sa Tryz.underlying61 rfl (by kernel_rfl) ?_) | (refine wpList_load_holds rfl 61 (.global 9) rfl 9 (two 6 0) rfl _ hed.su Tryz.underlying61 rfl (by kernel_rfl) ?_)); go_simp) | ((with_reducible refine atl ?_); refine wpList_insert_new rfl 169 _ _ _ rfl 9 61 Tryz.underlying169 Tryz.underlying9 (w.heap.size + 1) _ _ (.agg (two _ 0)) rfl rfl rfl hM (by simp) ?_; intro w' hM2 hbb2; have hM := hM2; have HBR := Lib.hid (HBR.out.but (by omega) hbb2); have hall := hall.trans (hbb2.own (by omega) hall.size); have hed := hed.but (by omega) hbb2; clear hM2 hbb2; go_simp) | (at_lookup; refine wpList_lookup_has rfl 169 _ _ rfl 9 61 Tryz.underlying169 Tryz.underlying9 (w.heap.size + 1) dayL (s.drop (s.length - 2)) (.agg (two 0 0)) (by kernel_rfl) rfl (congrArg Value.string HX.out) hM ?_; rw [hget]; clear hM; have hlt5 := HBR.out.lt; have HB5 : Hid (Block (w'.alloc (.cells (two 0 0) 61)) w'.heap.size (two 0 0)) := ⟨61, heap_alloc_new w' _⟩; have hed := hed.below ((Below.refl w'.heap.size w').alloc (Nat.le_refl _) (.cells (two 0 0) 61)); have HBR := Lib.hid (HBR.out.alloc (.cells (two 0 0) 61)); have hall := hall.alloc hall.size (.cells (two 0 0) 61); change Hid (Block _ w.heap.size (two 0 0)) at HBR; go_simp) | ((with_reducible refine atl ?_); refine wpList_store_block rfl 61 (.tmp 5) _ rfl w'.heap.size (two 0 0) (two (0) 0) rfl rfl HB5.out rfl (by kernel_rfl) (two_one _ _) ?_; intro w5 hB5 hbb5; have HB5 := Lib.hid hB5; have HBR := Lib.hid (HBR.out.but (by omega) hbb5); have hed := hed.but (by omega) hbb5; have hall := hall.trans (hbb5.own (by omega) hall.size); clear hB5 hbb5; go_simp) | (go_at_call 67; refine (New_any _ _).mono ?_; rintro e w' ⟨⟨t, u, rfl⟩, hbx⟩; have HBR := HBR.out.below hbx; have HBR := Lib.hid HBR; have hall := hall.trans (hbx.mono hall.size); clear hbx) | ((with_reducible refine atl ?_); refine wpList_store_block rfl 61 (.tmp 2) _ rfl (w.heap.size) (two 0 0) (two 0 0) rfl rfl (HBR.out) rfl (by kernel_rfl) (two_one _ _) ?_; intro wz hBz hbbz))
      refine bodyPost_ret (v := .tuple #[.agg (two (0) (0)), .iface t u]) (results_block_tmp Tryz.results74 _ _ w.heap.size _ _ rfl hBz Tryz.underlying61 rfl (by kernel_rfl)) rfl ⟨0, 0, .iface t u, rfl, Or.inr ⟨HF.out, t, u, rfl⟩, hall.trans (hbbz.own (Nat.le_refl _) hall.size)⟩
    | some i =>
      rw [hi] at hget
      rcases Nat.lt_or_ge 2 s.length with h3 | h3
      · have HF := Lib.hid (Pl.dayOf_more s i h3 hi)
        have hax : (bs s).extract 0 (s.length - 2) = bs (s.take (s.length - 2)) := by rw [bs_extract, bs_list]; rfl
        have HAX := Lib.hid hax; clear hax
        have hatoi : ∀ w, Env w → Calls Tryz.prog 73 #[.string ((bs s).extract 0 (s.length - 2))] w (AtoiRes (s.take (s.length - 2)) w) := fun w he => by
          rw [HAX.out]; have := Atoi_any (bs (s.take (s.length - 2))) w he (by rw [bs_size]; simp; omega); rw [bs_list] at this; exact this
        clear hi
        go_enter Tryz.func74, Tryz.ntmps74
        go_wp2_with (first | ((with_reducible refine atl ?_); (first | (refine wpList_load_holds rfl 61 (.global 2) rfl 2 (two 0 0) rfl _ hed.mo Tryz.underlying61 rfl (by kernel_rfl) ?_) | (refine wpList_load_holds rfl 61 (.global 4) rfl 4 (two 1 0) rfl _ hed.tu Tryz.underlying61 rfl (by kernel_rfl) ?_) | (refine wpList_load_holds rfl 61 (.global 5) rfl 5 (two 2 0) rfl _ hed.we Tryz.underlying61 rfl (by kernel_rfl) ?_) | (refine wpList_load_holds rfl 61 (.global 6) rfl 6 (two 3 0) rfl _ hed.th Tryz.underlying61 rfl (by kernel_rfl) ?_) | (refine wpList_load_holds rfl 61 (.global 7) rfl 7 (two 4 0) rfl _ hed.fr Tryz.underlying61 rfl (by kernel_rfl) ?_) | (refine wpList_load_holds rfl 61 (.global 8) rfl 8 (two 5 0) rfl _ hed.sa Tryz.underlying61 rfl (by kernel_rfl) ?_) | (refine wpList_load_holds rfl 61 (.global 9) rfl 9 (two 6 0) rfl _ hed.su Tryz.underlying61 rfl (by kernel_rfl) ?_)); go_simp) | ((with_reducible refine atl ?_); refine wpList_insert_new rfl 169 _ _ _ rfl 9 61 Tryz.underlying169 Tryz.underlying9 (w.heap.size + 1) _ _ (.agg (two _ 0)) rfl rfl rfl hM (by simp) ?_; intro w' hM2 hbb2; have hM := hM2; have HBR := Lib.hid (HBR.out.but (by omega) hbb2); have hall := hall.trans (hbb2.own (by omega) hall.size); have hed := hed.but (by omega) hbb2; clear hM2 hbb2; go_simp) | (at_lookup; refine wpList_lookup_has rfl 169 _ _ rfl 9 61 Tryz.underlying169 Tryz.underlying9 (w.heap.size + 1) dayL (s.drop (s.length - 2)) (.agg (two 0 0)) (by kernel_rfl) rfl (congrArg Value.string HX.out) hM ?_; rw [hget]; clear hM; have hlt5 := HBR.out.lt; have HB5 : Hid (Block (w'.alloc (.cells (two 0 0) 61)) w'.heap.size (two 0 0)) := ⟨61, heap_alloc_new w' _⟩; have hed := hed.below ((Below.refl w'.heap.size w').alloc (Nat.le_refl _) (.cells (two 0 0) 61)); have HBR := Lib.hid (HBR.out.alloc (.cells (two 0 0) 61)); have hall := hall.alloc hall.size (.cells (two 0 0) 61); change Hid (Block _ w.heap.size (two 0 0)) at HBR; go_simp) | ((with_reducible refine atl ?_); refine wpList_store_block rfl 61 (.tmp 5) _ rfl w'.heap.size (two 0 0) (two (i) 0) rfl rfl HB5.out rfl (by kernel_rfl) (two_one _ _) ?_; intro w5 hB5 hbb5; have HB5 := Lib.hid hB5; have HBR := Lib.hid (HBR.out.but (by omega) hbb5); have hed := hed.but (by omega) hbb5; have hall := hall.trans (hbb5.own (by omega) hall.size); clear hB5 hbb5; go_simp))
        refine (hatoi _ hed).mono ?_
        rintro e w6 ⟨v, err, rfl, hE, hbx⟩
        have HB6 := Lib.hid (HB5.out.below hbx)
        have HBR := Lib.hid (HBR.out.below hbx)
        have hl6 := HB6.out.lt
        have hall := hall.trans (hbx.mono hall.size)
        rcases hE with ⟨hv, rfl⟩ | ⟨hv, t, u, rfl⟩
        · have HF2 : Hid (Pl.dayOf s = some ((i : Int), v)) := by show _ = _; rw [HF.out, hv]; rfl
          clear hv
          have z1 : w6.cell? ⟨w'.heap.size, 1, none⟩ = some (.int .i64 0) := HB6.out.cell 1
          have f1 := HB6.out.free 1
          have HB5 : Hid (Block (w6.setCell ⟨w'.heap.size, 1, none⟩ (.int .i64 v)) w'.heap.size (two i v)) := HB6.out.set 1 _
          have hbs := (ButBelow.refl w'.heap.size w6).setCell 1 (.int .i64 v)
          have HBR := Lib.hid (HBR.out.but (by omega) hbs)
          have hall := hall.trans (hbs.own (by omega) hall.size)
          go_wp2_with (first | ((with_reducible refine atl ?_); refine wpList_load_block rfl 61 (.tmp 5) rfl w'.heap.size (two (i) (v)) rfl _ HB5.out Tryz.underlying61 rfl (by kernel_rfl) ?_; go_simp) | ((with_reducible refine atl ?_); refine wpList_store_block rfl 61 (.tmp 2) _ rfl (w.heap.size) (two 0 0) (two i v) rfl rfl (HBR.out) rfl (by kernel_rfl) (two_one _ _) ?_; intro wz hBz hbbz))
          refine bodyPost_ret (v := .tuple #[.agg (two (i) (v)), .nilIface]) (results_block_tmp Tryz.results74 _ _ w.heap.size _ _ rfl hBz Tryz.underlying61 rfl (by kernel_rfl)) rfl ⟨i, v, .nilIface, rfl, Or.inl ⟨HF2.out, rfl⟩, hall.trans (hbbz.own (Nat.le_refl _) hall.size)⟩
        · have HF2 : Hid (Pl.dayOf s = none) := by show _ = _; rw [HF.out, hv]; rfl
          clear hv
          go_wp2_with ((with_reducible refine atl ?_); refine wpList_store_block rfl 61 (.tmp 2) _ rfl (w.heap.size) (two 0 0) (two 0 0) rfl rfl (HBR.out) rfl (by kernel_rfl) (two_one _ _) ?_; intro wz hBz hbbz)
          refine bodyPost_ret (v := .tuple #[.agg (two (0) (0)), .iface t u]) (results_block_tmp Tryz.results74 _ _ w.heap.size _ _ rfl hBz Tryz.underlying61 rfl (by kernel_rfl)) rfl ⟨0, 0, .iface t u, rfl, Or.inr ⟨HF2.out, t, u, rfl⟩, hall.trans (hbbz.own (Nat.le_refl _) hall.size)⟩
      · have h2' : s.length = 2 := by omega
        have HF : Hid (Pl.dayOf s = some ((i : Int), 0)) := Pl.dayOf_two s i h2' hi
        have h3' : ¬ (2 < (s.length : Int)) := by omega
        have h3b : decide (2 < (s.length : Int)) = false := decide_eq_false h3'
        clear hi h2'
        go_enter Tryz.func74, Tryz.ntmps74
        go_wp2_with (first | ((with_reducible refine atl ?_); (first | (refine wpList_load_holds rfl 61 (.global 2) rfl 2 (two 0 0) rfl _ hed.mo Tryz.underlying61 rfl (by kernel_rfl) ?_) | (refine wpList_load_holds rfl 61 (.global 4) rfl 4 (two 1 0) rfl _ hed.tu Tryz.underlying61 rfl (by kernel_rfl) ?_) | (refine wpList_load_holds rfl 61 (.global 5) rfl 5 (two 2 0) rfl _ hed.we Tryz.underlying61 rfl (by kernel_rfl) ?_) | (refine wpList_load_holds rfl 61 (.global 6) rfl 6 (two 3 0) rfl _ hed.th Tryz.underlying61 rfl (by kernel_rfl) ?_) | (refine wpList_load_holds rfl 61 (.global 7) rfl 7 (two 4 0) rfl _ hed.fr Tryz.underlying61 rfl (by kernel_rfl) ?_) | (refine wpList_load_holds rfl 61 (.global 8) rfl 8 (two 5 0) rfl _ hed.sa Tryz.underlying61 rfl (by kernel_rfl) ?_) | (refine wpList_load_holds rfl 61 (.global 9) rfl 9 (two 6 0) rfl _ hed.su Tryz.underlying61 rfl (by kernel_rfl) ?_)); go_simp) | ((with_reducible refine atl ?_); refine wpList_insert_new rfl 169 _ _ _ rfl 9 61 Tryz.underlying169 Tryz.underlying9 (w.heap.size + 1) _ _ (.agg (two _ 0)) rfl rfl rfl hM (by simp) ?_; intro w' hM2 hbb2; have hM := hM2; have HBR := Lib.hid (HBR.out.but (by omega) hbb2); have hall := hall.trans (hbb2.own (by omega) hall.size); have hed := hed.but (by omega) hbb2; clear hM2 hbb2; go_simp) | (at_lookup; refine wpList_lookup_has rfl 169 _ _ rfl 9 61 Tryz.underlying169 Tryz.underlying9 (w.heap.size + 1) dayL (s.drop (s.length - 2)) (.agg (two 0 0)) (by kernel_rfl) rfl (congrArg Value.string HX.out) hM ?_; rw [hget]; clear hM; have hlt5 := HBR.out.lt; have HB5 : Hid (Block (w'.alloc (.cells (two 0 0) 61)) w'.heap.size (two 0 0)) := ⟨61, heap_alloc_new w' _⟩; have hed := hed.below ((Below.refl w'.heap.size w').alloc (Nat.le_refl _) (.cells (two 0 0) 61)); have HBR := Lib.hid (HBR.out.alloc (.cells (two 0 0) 61)); have hall := hall.alloc hall.size (.cells (two 0 0) 61); change Hid (Block _ w.heap.size (two 0 0)) at HBR; go_simp) | ((with_reducible refine atl ?_); refine wpList_store_block rfl 61 (.tmp 5) _ rfl w'.heap.size (two 0 0) (two (i) 0) rfl rfl HB5.out rfl (by kernel_rfl) (two_one _ _) ?_; intro w5 hB5 hbb5; have HB5 := Lib.hid hB5; have HBR := Lib.hid (HBR.out.but (by omega) hbb5); have hed := hed.but (by omega) hbb5; have hall := hall.trans (hbb5.own (by omega) hall.size); clear hB5 hbb5; go_simp) | ((with_reducible refine atl ?_); refine wpList_load_block rfl 61 (.tmp 5) rfl w'.heap.size (two (i) (0)) rfl _ HB5.out Tryz.underlying61 rfl (by kernel_rfl) ?_; go_simp) | ((with_reducible refine atl ?_); refine wpList_store_block rfl 61 (.tmp 2) _ rfl (w.heap.size) (two 0 0) (two i 0) rfl rfl (HBR.out) rfl (by kernel_rfl) (two_one _ _) ?_; intro wz hBz hbbz))
        refine bodyPost_ret (v := .tuple #[.agg (two (i) (0)), .nilIface]) (results_block_tmp Tryz.results74 _ _ w.heap.size _ _ rfl hBz Tryz.underlying61 rfl (by kernel_rfl)) rfl ⟨i, 0, .nilIface, rfl, Or.inl ⟨HF.out, rfl⟩, hall.trans (hbbz.own (Nat.le_refl _) hall.size)⟩
end Go.Proofs.YthkgjhnckakliaaGreatDoorR
namespace Go.Proofs.YthkgjhnckakliaaGreatDoorR
open Go.RowKit
namespace Pl
theorem isEnd_has (c : UInt8) : (!([59, 58] : Bs).contains c) = !isEnd c := by
  unfold isEnd
  rw [List.contains_cons, List.contains_cons, List.contains_nil, Bool.or_false]
theorem takeWhile_len (p : UInt8 → Bool) : ∀ l : Bs, l.take (l.takeWhile p).length = l.takeWhile p
  | [] => rfl
  | a :: l => by
    cases h : p a with
    | true => rw [List.takeWhile_cons_of_pos h, List.length_cons, List.take_succ_cons, takeWhile_len p l]
    | false => rw [List.takeWhile_cons_of_neg (by simp [h])]; rfl
theorem mem_takeWhile (p : UInt8 → Bool) : ∀ (l : Bs) (x : UInt8), x ∈ l.takeWhile p → p x = true
  | [], x, h => by cases h
  | a :: l, x, h => by
    cases hp : p a with
    | true =>
      rw [List.takeWhile_cons_of_pos hp] at h
      rcases List.mem_cons.1 h with h | h
      · rw [h]; exact hp
      · exact mem_takeWhile p l x h
    | false => rw [List.takeWhile_cons_of_neg (by simp [hp])] at h; cases h
theorem idx_cases (U : Bs) : (indexAny U [59, 58] = -1 ∧ U.dropWhile (fun c => !isEnd c) = []) ∨
    (∃ k : Nat, indexAny U [59, 58] = k ∧ k ≤ U.length ∧ U.take k = U.takeWhile (fun c => !isEnd c) ∧ U.dropWhile (fun c => !isEnd c) ≠ []) := by
  have hp : (fun c => !([59, 58] : Bs).contains c) = fun c => !isEnd c := funext isEnd_has
  unfold indexAny
  rw [hp]
  by_cases ha : U.all (fun c => !isEnd c) = true
  · refine Or.inl ⟨if_pos ha, ?_⟩
    exact takeWhile_all _ (fun x hx => List.all_eq_true.1 ha x hx)
  · refine Or.inr ⟨_, by rw [if_neg ha], ?_, takeWhile_len _ _, ?_⟩
    · exact (List.takeWhile_prefix _).length_le
    · intro h
      apply ha
      rw [List.all_eq_true]
      intro x hx
      have e := List.takeWhile_append_dropWhile (p := fun c => !isEnd c) (l := U)
      rw [h, List.append_nil] at e
      rw [← e] at hx
      exact mem_takeWhile _ _ x hx
theorem upper_ascii (c : UInt8) (h : c.toNat < 128) : (Lib.upperB c).toNat < 128 := by
  have := upperB_iff c
  split at this <;> omega
end Pl
theorem trim_mem {l : Bs} {c : UInt8} (h : c ∈ Lib.trimSpace l) : c ∈ l := by
  unfold Lib.trimSpace at h
  have h1 := List.mem_reverse.1 h
  have h2 := (List.dropWhile_suffix _).subset h1
  have h3 := List.mem_reverse.1 h2
  exact (List.dropWhile_suffix _).subset h3
/-- What the reader of a name hands back. -/
def ImNameRes (line : Bs) (w : World) (e : Ending) (w' : World) : Prop :=
  ∃ (nm : Bs) (err : Value), e = .returned (.tuple #[.string (bs nm), err]) ∧ (Pl.isStart line = true → nm = Pl.dtstart ∧ err = .nilIface) ∧ (Pl.isStart line = false → IsErr err ∨ (err = .nilIface ∧ nm ≠ Pl.dtstart)) ∧ Below w.heap.size w w'

set_option maxHeartbeats 2000000 in
set_option maxRecDepth 100000 in
theorem processName_any (l : Bs) (w : World) (he : Env w) (hs : l.length ≤ 1000000) (ha : Pl.ascii l = true) :
    Calls Tryz.prog 68 #[.string (bs l)] w (ImNameRes l w) := by
  have hal : ∀ c ∈ l, c.toNat < 128 := fun c hc => by simpa using List.all_eq_true.1 ha c hc
  have hat : ∀ c ∈ Lib.trimSpace l, c.toNat < 128 := fun c hc => hal c (trim_mem hc)
  have hau : ∀ c ∈ Lib.toUpperA (Lib.trimSpace l), c.toNat < 128 := fun c hc => by
    unfold Lib.toUpperA at hc
    obtain ⟨d, hd, rfl⟩ := List.mem_map.1 hc
    exact Pl.upper_ascii d (hat d hd)
  have htl := trim_length l
  have hul : (Lib.toUpperA (Lib.trimSpace l)).length ≤ 1000000 := by unfold Lib.toUpperA; rw [List.length_map]; omega
  have hcT := Tryz.strings_TrimSpace (bs l) w (by rw [bs_size]; omega) (fun j b hj => hal b (by rw [bs_list] at hj; exact List.mem_of_getElem? hj)) he.space
  rw [bs_list] at hcT
  have hcU : ∀ w, Calls Tryz.prog 103 #[.string (bs (Lib.trimSpace l))] w fun e w' => e = .returned (.string (bs (Lib.toUpperA (Lib.trimSpace l)))) ∧ Below w.heap.size w w' := fun w => by
    have := Tryz.strings_ToUpper_ascii (bs (Lib.trimSpace l)) w (by rw [bs_size]; omega) (fun j b hj => hat b (by rw [bs_list] at hj; exact List.mem_of_getElem? hj))
    rw [bs_list] at this; exact this
  have hst : Pl.isStart l = decide ((Lib.toUpperA (Lib.trimSpace l)).takeWhile (fun c => !Pl.isEnd c) = Pl.dtstart ∧ ((Lib.toUpperA (Lib.trimSpace l)).dropWhile (fun c => !Pl.isEnd c)) ≠ []) := rfl
  have hidx := Pl.idx_cases (Lib.toUpperA (Lib.trimSpace l))
  have hcI : ∀ w, Calls Tryz.prog 104 #[.string (bs (Lib.toUpperA (Lib.trimSpace l))), .string ⟨#[59, 58]⟩] w fun e w' => e = .returned (.int .i64 (Pl.indexAny (Lib.toUpperA (Lib.trimSpace l)) [59, 58])) ∧ Below w.heap.size w w' := fun w => by
    have := zzIndexAny_any (bs (Lib.toUpperA (Lib.trimSpace l))) ⟨#[59, 58]⟩ w (by rw [bs_list]; exact hau) (by decide)
    rw [bs_list] at this; exact this
  generalize Lib.toUpperA (Lib.trimSpace l) = U at *
  generalize Lib.trimSpace l = T at *
  have hball := Below.refl w.heap.size w
  have HST := Lib.hid hst; clear hst hal hat htl
  by_cases hU0 : U = []
  · subst hU0
    have HF : Hid (Pl.isStart l = false) := by show _ = _; rw [HST.out]; simp
    have hE : (bs []).toList = [] := by rw [ByteArray.toList_eq]; rfl
    clear hidx hcI
    go_enter Tryz.func68, Tryz.ntmps68
    go_wp2_with (first | (go_at_call 65; refine hcT.mono ?_; rintro e w' ⟨rfl, rfl⟩; have hball := hball.trans (below_bytesWorld w 5 (bs l))) | (go_at_call 103; refine (hcU _).mono ?_; rintro e w' ⟨rfl, hbx⟩; have hball := hball.trans (hbx.mono hball.size); clear hbx) | (go_at_call 67; refine (New_any _ _).mono ?_; rintro e w' ⟨⟨t, u, rfl⟩, hbx⟩; have hball := hball.trans (hbx.mono hball.size); clear hbx))
    go_ret2
    exact ⟨[], .iface t u, rfl, (by rw [HF.out]; exact (fun h => by cases h)), fun _ => Or.inl ⟨t, u, rfl⟩, hball⟩
  · have hE : (bs U).toList.isEmpty = false := by rw [bs_isEmpty]; exact decide_eq_false hU0
    rcases hidx with ⟨hi, hd⟩ | ⟨k, hi, hkl, htk, hd⟩
    · have HF : Hid (Pl.isStart l = false) := by show _ = _; rw [HST.out, hd]; simp
      rw [hi] at hcI
      clear hd hi hU0
      go_enter Tryz.func68, Tryz.ntmps68
      go_wp2_with (first | (go_at_call 65; refine hcT.mono ?_; rintro e w' ⟨rfl, rfl⟩; have hball := hball.trans (below_bytesWorld w 5 (bs l))) | (go_at_call 103; refine (hcU _).mono ?_; rintro e w' ⟨rfl, hbx⟩; have hball := hball.trans (hbx.mono hball.size); clear hbx) | (go_at_call 104; with_reducible refine (hcI _).mono ?_; rintro e w' ⟨rfl, hbx⟩; have hball := hball.trans (hbx.mono hball.size); clear hbx) | (go_at_call 67; refine (New_any _ _).mono ?_; rintro e w' ⟨⟨t, u, rfl⟩, hbx⟩; have hball := hball.trans (hbx.mono hball.size); clear hbx))
      go_ret2
      exact ⟨[], .iface t u, rfl, (by rw [HF.out]; exact (fun h => by cases h)), fun _ => Or.inl ⟨t, u, rfl⟩, hball⟩
    · have HS2 : Hid (Pl.isStart l = decide (U.take k = Pl.dtstart)) := by show _ = _; rw [HST.out, ← htk, decide_eq_decide]; exact ⟨fun h => h.1, fun h => ⟨h, hd⟩⟩
      rw [hi] at hcI
      clear hd hi htk
      by_cases hk0 : k = 0
      · subst hk0
        have HF : Hid (Pl.isStart l = false) := by show _ = _; rw [HS2.out]; rfl
        go_enter Tryz.func68, Tryz.ntmps68
        go_wp2_with (first | (go_at_call 65; refine hcT.mono ?_; rintro e w' ⟨rfl, rfl⟩; have hball := hball.trans (below_bytesWorld w 5 (bs l))) | (go_at_call 103; refine (hcU _).mono ?_; rintro e w' ⟨rfl, hbx⟩; have hball := hball.trans (hbx.mono hball.size); clear hbx) | (go_at_call 104; with_reducible refine (hcI _).mono ?_; rintro e w' ⟨rfl, hbx⟩; have hball := hball.trans (hbx.mono hball.size); clear hbx) | (go_at_call 67; refine (New_any _ _).mono ?_; rintro e w' ⟨⟨t, u, rfl⟩, hbx⟩; have hball := hball.trans (hbx.mono hball.size); clear hbx))
        go_ret2
        exact ⟨[], .iface t u, rfl, (by rw [HF.out]; exact (fun h => by cases h)), fun _ => Or.inl ⟨t, u, rfl⟩, hball⟩
      · have hsz : (bs U).size = U.length := bs_size U
        have hx : (bs U).extract 0 k = bs (U.take k) := by rw [bs_extract, bs_list]; rfl
        have hcJ : ∀ w, Calls Tryz.prog 104 #[.string ((bs U).extract 0 k), .string ⟨#[61]⟩] w fun e w' => e = .returned (.int .i64 (Pl.indexAny (U.take k) [61])) ∧ Below w.heap.size w w' := fun w => by
          rw [hx]
          have := zzIndexAny_any (bs (U.take k)) ⟨#[61]⟩ w (by rw [bs_list]; exact fun c hc => hau c (List.mem_of_mem_take hc)) (by decide)
          rw [bs_list] at this; exact this
        have HX := Lib.hid hx; clear hx hU0
        by_cases hj : 0 < Pl.indexAny (U.take k) [61]
        · have HF : Hid (Pl.isStart l = false) := by
            show _ = _; rw [HS2.out, decide_eq_false_iff_not]; intro h; rw [h] at hj; revert hj; decide
          go_enter Tryz.func68, Tryz.ntmps68
          go_wp2_with (first | (go_at_call 65; refine hcT.mono ?_; rintro e w' ⟨rfl, rfl⟩; have hball := hball.trans (below_bytesWorld w 5 (bs l))) | (go_at_call 103; refine (hcU _).mono ?_; rintro e w' ⟨rfl, hbx⟩; have hball := hball.trans (hbx.mono hball.size); clear hbx) | (go_at_call 104; with_reducible refine (hcI _).mono ?_; rintro e w' ⟨rfl, hbx⟩; have hball := hball.trans (hbx.mono hball.size); clear hbx) | (go_at_call 104; with_reducible refine (hcJ _).mono ?_; rintro e w' ⟨rfl, hbx⟩; have hball := hball.trans (hbx.mono hball.size); clear hbx) | (go_at_call 67; refine (New_any _ _).mono ?_; rintro e w' ⟨⟨t, u, rfl⟩, hbx⟩; have hball := hball.trans (hbx.mono hball.size); clear hbx))
          go_ret2
          exact ⟨[], .iface t u, rfl, (by rw [HF.out]; exact (fun h => by cases h)), fun _ => Or.inl ⟨t, u, rfl⟩, hball⟩
        · go_enter Tryz.func68, Tryz.ntmps68
          go_wp2_with (first | (go_at_call 65; refine hcT.mono ?_; rintro e w' ⟨rfl, rfl⟩; have hball := hball.trans (below_bytesWorld w 5 (bs l))) | (go_at_call 103; refine (hcU _).mono ?_; rintro e w' ⟨rfl, hbx⟩; have hball := hball.trans (hbx.mono hball.size); clear hbx) | (go_at_call 104; with_reducible refine (hcI _).mono ?_; rintro e w' ⟨rfl, hbx⟩; have hball := hball.trans (hbx.mono hball.size); clear hbx) | (go_at_call 104; with_reducible refine (hcJ _).mono ?_; rintro e w' ⟨rfl, hbx⟩; have hball := hball.trans (hbx.mono hball.size); clear hbx) | (go_at_call 67; refine (New_any _ _).mono ?_; rintro e w' ⟨⟨t, u, rfl⟩, hbx⟩; have hball := hball.trans (hbx.mono hball.size); clear hbx))
          go_ret2
          refine ⟨U.take k, .nilIface, by rw [← HX.out]; rfl, fun h => ?_, fun h => Or.inr ⟨rfl, ?_⟩, hball⟩
          · rw [HS2.out, decide_eq_true_eq] at h; exact ⟨h, rfl⟩
          · rw [HS2.out, decide_eq_false_iff_not] at h; exact h
end Go.Proofs.YthkgjhnckakliaaGreatDoorR
namespace Go.Proofs.YthkgjhnckakliaaGreatDoorR
open Go.RowKit
theorem Tryz.info61 : (Tryz.prog.info? 61).map (fun i => (i.zero, i.size, i.bytes)) = some (some (.agg #[.int .i64 0, .int .i64 0]), 2, 16) := by kernel_rfl
/-- Days and no error, or an error. -/
def DaysErr (s : Bs) (w : World) (e : Ending) (w' : World) : Prop :=
  ∃ a n c err, e = .returned (.tuple #[.slice a n c, err]) ∧ ((∃ l, Pl.allDays (Pl.split 44 s) = some l ∧ RowP w' (.slice a n c) l ∧ (∀ k, (Value.slice a n c).ownBlock = some k → w.heap.size ≤ k) ∧ err = .nilIface) ∨ (Pl.allDays (Pl.split 44 s) = none ∧ IsErr err)) ∧ Below w.heap.size w w'

set_option maxHeartbeats 4000000 in
set_option maxRecDepth 100000 in
theorem strToWeekdays_any (s : Bs) (w : World) (he : Env w) (hw : 20 ≤ w.heap.size) (hs : s.length ≤ 1000000) :
    Calls Tryz.prog 76 #[.string (bs s)] w (DaysErr s w) := by
  obtain ⟨i0, hi, hz0, hz1, hz2⟩ := info_parts Tryz.info61
  have hspl := zzSplit_any (bs s) ⟨#[44]⟩ 44 w (by rw [bs_size]; exact hs) rfl
  rw [bs_list] at hspl
  have hlen := Pl.split_length 44 s
  have hlen2 : (Pl.split 44 s).length ≤ 1000001 := by omega
  clear hlen
  have hne := Pl.split_ne 44 s
  have HMEM := Lib.hid (Pl.split_mem_length 44 s)
  go_enter Tryz.func76, Tryz.ntmps76
  go_wp2_with fail
  refine hspl.mono ?_
  rintro e w1 ⟨v, rfl, hrow, hb1⟩
  have he1 := he.below hb1
  obtain ⟨b, o, cap, rfl, hbl, hcap, hc⟩ := hrow.open (strs_ne hne)
  rw [strs_length] at hcap ⊢
  have HC := Lib.hid hc; clear hc hrow hspl
  generalize hL : Pl.split 44 s = L at *
  have HL := Lib.hid hL; clear hL
  go_wp2_with (at_make; refine wpList_make_full _ rfl _ _ 62 rfl w1.heap.size 61 i0 (.agg #[.int .i64 0, .int .i64 0]) 2 Tryz.underlying62 hi hz0 hz1 .i64 .i64 _ _ L.length rfl rfl rfl rfl (by rw [hz2]; omega) (by unfold maxLen; omega) (Nat.le_refl _) ?_; intro w2 hown hg2; obtain ⟨hB2, hl2⟩ := Block.of_owns hown; clear hown; go_simp)
  have hb2 : Below w1.heap.size w1 w2 := (Below.refl _ _).grown hg2 (by simp) (by simp)
  have hg0 := hB2.lt
  obtain ⟨cs0, hcs0, hsz0⟩ : ∃ cs0 : Array Value, Block w2 w1.heap.size cs0 ∧ cs0.size = L.length * 2 := ⟨_, hB2, by rw [List.size_toArray]; omega⟩
  clear hB2 hl2 hg2
  go_loopw [16] (fun i wr => ∃ (k : Nat) (ns : List (Int × Int)) (cs : Array Value), k ≤ L.length ∧ i = .int .i64 k ∧ ns.length = k ∧ Hid (Pl.allDays (L.take k) = some ns) ∧ Hid (Block wr w1.heap.size cs) ∧ cs.size = L.length * 2 ∧ Hid (∀ (j : Nat) (p : Int × Int), ns[j]? = some p → cs[2 * j]? = some (.int .i64 p.1) ∧ cs[2 * j + 1]? = some (.int .i64 p.2)) ∧ Below w1.heap.size w1 wr) (fun i _ => L.length - (intOf i).toNat)
  case atStart => exact ⟨0, [], cs0, Nat.zero_le _, rfl, rfl, Lib.hid rfl, Lib.hid hcs0, hsz0, Lib.hid (by simp), hb2⟩
  case round =>
    obtain ⟨k, ns, cs, hk, rfl, hnk, hA, hB, hsz, hcs, hbel⟩ := hrel
    have hbase := hbel.size
    have hw1 := hb1.size
    by_cases hlt : k < L.length
    · obtain ⟨x, hx⟩ : ∃ x, L[k]? = some x := ⟨_, List.getElem?_eq_getElem hlt⟩
      have hcell : wr.cell? ⟨b, o + k, none⟩ = some (.string (bs x)) := by rw [hbel.cell (p := ⟨b, o + k, none⟩) hbl]; exact HC.out _ _ (strs_get hx)
      have hxl : (bs x).size ≤ 1000000 := by
        have := HMEM.out x (List.mem_of_getElem? hx)
        rw [bs_size]; omega
      have hT := Pl.allDays_take L k ns x hA.out hx
      have HT := Lib.hid hT; have HX := Lib.hid hx; clear hT hx
      have hcon := strToWeekday_any x wr (he1.below hbel) (by omega) (by rw [bs_size] at hxl; exact hxl)
      go_wp2_with fail
      refine hcon.mono ?_
      rintro e w5 ⟨d1, d2, err, rfl, hE, hb5⟩
      unfold two
      have hB5 := Lib.hid (hB.out.below hb5)
      obtain ⟨u5, c5⟩ : ∃ u, w5.cell? ⟨w1.heap.size, k * 2, none⟩ = some u := ⟨cs[k * 2]'(by omega), by rw [hB5.out.cell]; exact Array.getElem?_eq_getElem (by omega)⟩
      obtain ⟨u6, c6⟩ : ∃ u, w5.cell? ⟨w1.heap.size, k * 2 + 1, none⟩ = some u := ⟨cs[k * 2 + 1]'(by omega), by rw [hB5.out.cell]; exact Array.getElem?_eq_getElem (by omega)⟩
      have f5 := hB5.out.free (k * 2)
      have f6 := hB5.out.free (k * 2 + 1)
      have hbel5 := hbel.trans (hb5.mono hbase)
      clear hcon hb5
      rcases hE with ⟨hn, rfl⟩ | ⟨hn, t, u, rfl⟩
      · have HT2 : Hid (Pl.allDays (L.take (k + 1)) = some (ns ++ [(d1, d2)])) := by have h := HT.out; rw [hn] at h; exact h
        clear hn
        go_wp2
        go_roundw
        case rel =>
          refine ⟨k + 1, ns ++ [(d1, d2)], (cs.setIfInBounds (k * 2) (.int .i64 d1)).setIfInBounds (k * 2 + 1) (.int .i64 d2), by omega, by go_num, by simp; omega, HT2, Lib.hid ((hB5.out.set (k * 2) _).set (k * 2 + 1) _), by simp [hsz], Lib.hid ?_, hbel5.trans ((((ButBelow.refl w1.heap.size w5).setCell (k * 2) (.int .i64 d1)).setCell (k * 2 + 1) (.int .i64 d2)).own (Nat.le_refl _) hbel5.size)⟩
          intro j y hj
          simp only [Array.getElem?_setIfInBounds, Array.size_setIfInBounds]
          by_cases hjk : j = k
          · subst hjk
            rw [← hnk, List.getElem?_concat_length] at hj
            injection hj with hj; rw [← hj]
            rw [if_neg (by omega), if_pos (by omega), if_pos (by omega), if_pos (by omega), if_pos (by omega)]
            exact ⟨rfl, rfl⟩
          · have hjl : j < (ns ++ [(d1, d2)]).length := (List.getElem?_eq_some_iff.1 hj).1
            simp at hjl
            rw [List.getElem?_append_left (by omega)] at hj
            rw [if_neg (by omega), if_neg (by omega), if_neg (by omega), if_neg (by omega)]
            exact hcs.out j y hj
        case measure => simp [intOf]; omega
      · have HF : Hid (Pl.allDays (Pl.split 44 s) = none) := by
          have h := HT.out; rw [hn] at h
          show _ = _
          rw [HL.out, ← List.take_append_drop (k + 1) L]; exact Pl.allDays_none _ _ h
        clear hn
        go_wp2
        go_ret2
        exact ⟨none, 0, 0, .iface t u, rfl, Or.inr ⟨HF.out, t, u, rfl⟩, hb1.trans ((hbel5.trans ((((ButBelow.refl w1.heap.size w5).setCell (k * 2) (.int .i64 d1)).setCell (k * 2 + 1) (.int .i64 d2)).own (Nat.le_refl _) hbel5.size)).mono hb1.size)⟩
    · obtain rfl : k = L.length := by omega
      have HF : Hid (Pl.allDays (Pl.split 44 s) = some ns) := by
        have h := hA.out; rw [List.take_length] at h
        show _ = _
        rw [HL.out]; exact h
      go_wp2
      go_ret2
      refine ⟨some ⟨w1.heap.size, 0, none⟩, L.length, L.length, .nilIface, rfl, Or.inl ⟨ns, HF.out, ⟨some ⟨w1.heap.size, 0, none⟩, L.length, by rw [hnk], by rw [hnk]; exact Nat.le_refl _, fun _ => ⟨w1.heap.size, 0, rfl, hB.out.lt, fun j y hj => ?_⟩⟩, fun j hj => ?_, rfl⟩, hb1.trans (hbel.mono hb1.size)⟩
      · rw [Nat.zero_add, hB.out.cell, hB.out.cell]
        exact hcs.out j y hj
      · injection hj with hj; rw [← hj]; exact hb1.size
end Go.Proofs.YthkgjhnckakliaaGreatDoorR

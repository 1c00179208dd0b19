/- HasPrefix, TrimPrefix, LoadLocation, parseTZID, StrToDtStart. -/
import Derived.Test.YthkgjhnckakliaaGreatDoorRV10
import Derived.StillTailTactics
import Derived.Deep.RegionHeld3
import Derived.Deep.RegionLaw
namespace Go.Proofs.YthkgjhnckakliaaGreatDoorR
open Go.RowKit
set_option maxHeartbeats 400000 in
theorem HasPrefix0_any (s p : ByteArray) (w : World) :
    Calls Tryz.prog 129 #[.string s, .string p] w fun e w' => e = .returned (.bool (Lib.hasPrefix s.data.toList p.data.toList)) ∧ w = w' := by
  by_cases h : p.size ≤ s.size
  · have H := Lib.hid (hasPrefix_take s.data.toList p.data.toList (by simpa using h))
    go_enter Tryz.func129, Tryz.ntmps129
    go_wp2
    go_ret
    refine ⟨ret_bool ?_, rfl⟩
    rw [H.out]
    simp [ByteArray.toList_eq]
  · have H := Lib.hid (hasPrefix_short s.data.toList p.data.toList (by simpa using h))
    have hd : decide (p.size ≤ s.size) = false := by simpa using h
    go_enter Tryz.func129, Tryz.ntmps129
    go_wp2
    go_ret
    exact ⟨ret_bool H.out.symm, rfl⟩
set_option maxHeartbeats 400000 in
theorem HasPrefix_any (s p : ByteArray) (w : World) :
    Calls Tryz.prog 127 #[.string s, .string p] w fun e w' => e = .returned (.bool (Lib.hasPrefix s.data.toList p.data.toList)) ∧ w = w' := by
  go_enter Tryz.func127, Tryz.ntmps127
  go_wp2_with (go_at_call 129; refine (HasPrefix0_any _ _ _).mono ?_; rintro e w' ⟨rfl, rfl⟩)
  go_ret
  exact ⟨rfl, rfl⟩
set_option maxHeartbeats 400000 in
theorem TrimPrefix_any (s p : ByteArray) (w : World) :
    Calls Tryz.prog 70 #[.string s, .string p] w fun e w' => e = .returned (.string (bs (Lib.trimPrefix s.data.toList p.data.toList))) ∧ w = w' := by
  have h0 : Calls Tryz.prog 106 #[.string s, .string p] w fun e w' => e = .returned (.string (bs (Lib.trimPrefix s.data.toList p.data.toList))) ∧ w = w' := by
    have hc := HasPrefix0_any s p w
    cases hp : Lib.hasPrefix s.data.toList p.data.toList with
    | false =>
      rw [hp] at hc
      have HF : Hid (s = bs (Lib.trimPrefix s.data.toList p.data.toList)) := by show _ = _; unfold Lib.trimPrefix; rw [hp]; exact (bs_eta s).symm
      clear hp
      go_enter Tryz.func106, Tryz.ntmps106
      go_wp2_with (go_at_call 129; refine hc.mono ?_; rintro e w' ⟨rfl, rfl⟩)
      go_ret
      exact ⟨ret_str HF.out, rfl⟩
    | true =>
      rw [hp] at hc
      have hle : p.size ≤ s.size := by
        rcases Nat.lt_or_ge s.data.toList.length p.data.toList.length with h | h
        · rw [hasPrefix_short _ _ h] at hp; cases hp
        · simpa using h
      have HF : Hid (s.extract p.size s.size = bs (Lib.trimPrefix s.data.toList p.data.toList)) := by
        show _ = _
        unfold Lib.trimPrefix; rw [hp, if_pos rfl, bs_extract, List.take_of_length_le (by simp)]; simp
      clear hp
      go_enter Tryz.func106, Tryz.ntmps106
      go_wp2_with (go_at_call 129; refine hc.mono ?_; rintro e w' ⟨rfl, rfl⟩)
      go_ret
      exact ⟨ret_str HF.out, rfl⟩
  go_enter Tryz.func70, Tryz.ntmps70
  go_wp2_with (go_at_call 106; refine h0.mono ?_; rintro e w' ⟨rfl, rfl⟩)
  go_ret
  exact ⟨rfl, rfl⟩

theorem Pl.split_one {b : UInt8} {s x : Bs} (h : Pl.split b s = [x]) : x = s := by
  by_cases hb : b ∈ s
  · obtain ⟨k, hk⟩ : ∃ k, s[k]? = some b ∧ b ∉ s.take k := by
      induction s with
      | nil => cases hb
      | cons a r ih =>
        by_cases ha : a = b
        · exact ⟨0, by simp [ha], by simp⟩
        · have hr : b ∈ r := by rcases List.mem_cons.1 hb with h | h; exact absurd h.symm ha; exact h
          have hx : ∀ y, Pl.split b r = [y] → y = y := fun _ _ => rfl
          obtain ⟨k, h1, h2⟩ : ∃ k, r[k]? = some b ∧ b ∉ r.take k := by
            clear ih h hb hx
            induction r with
            | nil => cases hr
            | cons c r ih =>
              by_cases hc : c = b
              · exact ⟨0, by simp [hc], by simp⟩
              · obtain ⟨k, h1, h2⟩ := ih (by rcases List.mem_cons.1 hr with h | h; exact absurd h.symm hc; exact h)
                exact ⟨k + 1, by simpa using h1, by simp [h2, Ne.symm hc]⟩
          exact ⟨k + 1, by simpa using h1, by simp [h2, Ne.symm ha]⟩
    rw [Pl.split_here hk.1 hk.2] at h
    injection h with _ h
    exact absurd h (Pl.split_ne _ _)
  · rw [Pl.split_free _ _ hb] at h; injection h with h; exact h.symm

set_option maxHeartbeats 1000000 in
theorem LoadLocation_utc (w : World) :
    Calls Tryz.prog 128 #[.string ⟨#[85, 84, 67]⟩] w fun e w' => e = .returned (.tuple #[.agg #[], .nilIface]) ∧ Below w.heap.size w w' := by
  have hB : Block (w.alloc (.cells #[] 102)) w.heap.size #[] := ⟨102, heap_alloc_new w _⟩
  go_enter Tryz.func128, Tryz.ntmps128
  go_wp2
  refine bodyPost_ret (v := .tuple #[.agg #[], .nilIface]) (results_block_tmp Tryz.results128 _ _ w.heap.size #[] _ rfl hB Tryz.underlying102 rfl (by kernel_rfl)) rfl ⟨rfl, (Below.refl _ _).alloc (Nat.le_refl _) _⟩

set_option maxHeartbeats 1000000 in
theorem parseTZID_utc (w : World) :
    Calls Tryz.prog 105 #[.string (bs Pl.tzutc)] w fun e w' => e = .returned (.tuple #[.agg #[], .nilIface]) ∧ Below w.heap.size w w' := by
  have HB : Hid (Block (w.alloc (.cells #[] 102)) w.heap.size #[]) := ⟨102, heap_alloc_new w _⟩
  have hp : Calls Tryz.prog 127 #[.string (bs Pl.tzutc), .string ⟨#[84, 90, 73, 68, 61]⟩] (w.alloc (.cells #[] 102)) fun e w' => e = .returned (.bool true) ∧ w.alloc (.cells #[] 102) = w' := HasPrefix_any _ _ _
  have hs : (bs Pl.tzutc).size = 8 := by rw [bs_size]; rfl
  have hx : (bs Pl.tzutc).extract 5 8 = ⟨#[85, 84, 67]⟩ := by rw [bs_extract, bs_list]; rfl
  generalize bs Pl.tzutc = s at *
  go_enter Tryz.func105, Tryz.ntmps105
  go_wp2_with (first | (go_at_call 127; refine hp.mono ?_; rintro e w' ⟨rfl, rfl⟩) | (go_at_call 128; refine (LoadLocation_utc _).mono ?_; rintro e w' ⟨rfl, hb⟩))
  refine bodyPost_ret (v := .tuple #[.agg #[], .nilIface]) (results_block_tmp Tryz.results105 _ _ w.heap.size #[] _ rfl (HB.out.below hb) Tryz.underlying102 rfl (by kernel_rfl)) rfl ⟨rfl, ((Below.refl _ _).alloc (Nat.le_refl _) _).trans (hb.mono (by simp))⟩

set_option maxHeartbeats 1000000 in
theorem parseTZID_err (s : ByteArray) (w : World) (h : Lib.hasPrefix s.data.toList Pl.tzid = false) :
    Calls Tryz.prog 105 #[.string s] w fun e w' => (∃ t u, e = .returned (.tuple #[.agg #[], .iface t u])) ∧ Below w.heap.size w w' := by
  have HB : Hid (Block (w.alloc (.cells #[] 102)) w.heap.size #[]) := ⟨102, heap_alloc_new w _⟩
  have hball := Below.refl (w.alloc (.cells #[] 102)).heap.size (w.alloc (.cells #[] 102))
  have hp : Calls Tryz.prog 127 #[.string s, .string ⟨#[84, 90, 73, 68, 61]⟩] (w.alloc (.cells #[] 102)) fun e w' => e = .returned (.bool false) ∧ w.alloc (.cells #[] 102) = w' := by
    rw [← h]; exact HasPrefix_any _ _ _
  clear h
  go_enter Tryz.func105, Tryz.ntmps105
  go_wp2_with (first | (go_at_call 67; refine (New_any _ _).mono ?_; rintro e w' ⟨⟨t, u, rfl⟩, hbx⟩; have hball := hball.trans (hbx.mono hball.size); clear hbx) | (go_at_call 127; refine hp.mono ?_; rintro e w' ⟨rfl, rfl⟩))
  refine bodyPost_ret (v := .tuple #[.agg #[], .iface t u]) (results_block_tmp Tryz.results105 _ _ w.heap.size #[] _ rfl (HB.out.below hball) Tryz.underlying102 rfl (by kernel_rfl)) rfl ⟨⟨t, u, rfl⟩, ((Below.refl _ _).alloc (Nat.le_refl _) _).trans (hball.mono (by simp))⟩

namespace Pl
def tstOut (s : Bs) : Option Int := if (tstart s).2 = 0 then some (tstart s).1 else none
end Pl
set_option maxHeartbeats 4000000 in
set_option maxRecDepth 100000 in
theorem StrToDtStart_any (l : Bs) (w : World) (hs : l.length ≤ 1000000) (h2 : (Pl.tstart l).2 ≠ 2) :
    Calls Tryz.prog 69 #[.string (bs l), .agg #[]] w (TRes (Pl.tstOut l) w) := by
  cases ha : Pl.ascii l with
  | false => exact absurd (by unfold Pl.tstart; rw [ha]; rfl) h2
  | true =>
  have hts : Pl.tstart l = match Pl.split 58 l with
      | [_] => Pl.moment l
      | [a, b] => if Lib.hasPrefix a Pl.tzid then (if a = Pl.tzutc then Pl.moment b else (0, 2)) else (0, 1)
      | _ => (0, 1) := by unfold Pl.tstart; rw [ha]; rfl
  have hlen := Pl.split_length 58 l
  have HMEM := Lib.hid (Pl.split_mem_length 58 l)
  have hne := Pl.split_ne 58 l
  have HB0 : Hid (Block ((w.alloc (.cells #[] 102)).alloc (.cells zTime 59)) (w.heap.size + 1) zTime) := ⟨59, by have := heap_alloc_new (w.alloc (.cells #[] 102)) (.cells zTime 59); simpa using this⟩
  have HL0 : Hid (Block ((w.alloc (.cells #[] 102)).alloc (.cells zTime 59)) w.heap.size #[]) := ⟨102, by
    show (World.alloc _ _).heap[w.heap.size]? = _
    rw [Below.heap_alloc _ _ _ (by simp)]; exact heap_alloc_new w _⟩
  have hball := Below.refl ((w.alloc (.cells #[] 102)).alloc (.cells zTime 59)).heap.size ((w.alloc (.cells #[] 102)).alloc (.cells zTime 59))
  have hone : ∀ x : Int, (#[Value.int .i64 x, .int .i64 0] : Array Value).all (·.oneCell') = true := fun x => by simp [Value.oneCell']
  unfold zTime at HB0 HL0 hball
  have hspl := zzSplit_any (bs l) ⟨#[58]⟩ 58 ((w.alloc (.cells #[] 102)).alloc (.cells #[.int .i64 0, .int .i64 0] 59)) (by rw [bs_size]; exact hs) rfl
  rw [bs_list] at hspl
  go_enter Tryz.func69, Tryz.ntmps69
  go_wp2_with fail
  refine hspl.mono ?_
  rintro e w1 ⟨v, rfl, hrow, hb1⟩
  have hball := hball.trans hb1
  change Hid (Block _ (w.heap.size + 1) zTime) at HB0
  obtain ⟨b, o, cap, rfl, hbl, hcap, hc⟩ := hrow.open (strs_ne hne)
  rw [strs_length] at hcap ⊢
  have HC := Lib.hid hc; clear hc hrow hspl
  generalize hL : Pl.split 58 l = L at *
  have HLL := Lib.hid hL; clear hL ha
  match L, hne with
  | [x], _ =>
    have hx : x = l := Pl.split_one HLL.out
    subst hx
    have c0 : w1.cell? ⟨b, o, none⟩ = some (.string (bs x)) := by simpa using HC.out 0 _ (strs_get (l := x) rfl)
    have hto : Pl.tstOut x = Pl.momOut x := by unfold Pl.tstOut Pl.momOut; rw [hts]
    have HTO := Lib.hid hto; clear hto
    have hm2 : (Pl.moment x).2 ≠ 2 := by rw [hts] at h2; exact h2
    have hcon := fun w => toTime_any x w hs hm2
    clear hts h2 hm2
    have HL1 : Hid (Block w1 w.heap.size #[]) := HL0.out.below hball
    go_wp2_with fail
    go_region_with (go_at_call 72; refine (hcon _).mono ?_; rintro e w2 ⟨v, err, rfl, hE, hbx⟩; have hball2 := hball.trans (Below.mono (by first | exact hbx | exact (Below.refl _ _).drew.trans hbx) hball.size); have hB2 := HB0.out.below hball2; have z0 : w2.cell? ⟨w.heap.size + 1, 0, none⟩ = some (.int .i64 0) := hB2.cell 0; have z1 : w2.cell? ⟨w.heap.size + 1, 1, none⟩ = some (.int .i64 0) := hB2.cell 1; have f0 := hB2.free 0; have f1 := hB2.free 1)
    all_goals (
      go_wp2
      have hBz : Block ((w2.setCell ⟨w.heap.size + 1, 0, none⟩ (.int .i64 v)).setCell ⟨w.heap.size + 1, 1, none⟩ (.int .i64 0)) (w.heap.size + 1) #[.int .i64 v, .int .i64 0] := (hB2.set 0 _).set 1 _
      have hbbz := ((ButBelow.of_below hball2).setCell (rb := w.heap.size + 1) 0 (.int .i64 v)).setCell 1 (.int .i64 0)
      refine bodyPost_ret (v := .tuple #[vTime v 0, err]) (results_block_tmp Tryz.results69 _ _ (w.heap.size + 1) _ _ rfl hBz Tryz.underlying59 rfl (by kernel_rfl)) rfl ⟨v, err, rfl, by rw [HTO.out]; exact hE, own_store2 hbbz⟩)
  | [x, y], _ =>
    have c0 : w1.cell? ⟨b, o, none⟩ = some (.string (bs x)) := by simpa using HC.out 0 _ (strs_get (l := x) rfl)
    have c1 : w1.cell? ⟨b, o + 1, none⟩ = some (.string (bs y)) := HC.out 1 _ (strs_get (l := y) rfl)
    have hyl : y.length ≤ 1000000 := by
      have := HMEM.out y (by simp); omega
    cases hp : Lib.hasPrefix x Pl.tzid with
    | false =>
      have HTO : Hid (Pl.tstOut l = none) := by show _ = _; unfold Pl.tstOut; rw [hts]; simp [hp]
      have hcon := fun w => parseTZID_err (bs x) w (by rw [bs_list]; exact hp)
      clear hts h2 hp
      go_wp2_with (first | (go_at_call 105; refine (hcon _).mono ?_; rintro e w' ⟨⟨t, u, rfl⟩, hbx⟩; have hball := hball.trans (hbx.mono hball.size); clear hbx) | (refine wpList_store_block rfl 59 _ _ rfl (w.heap.size + 1) zTime _ rfl rfl ((HB0.out.below hball).alloc _) rfl (by kernel_rfl) (hone _) ?_; intro wz hBz hbbz))
      refine bodyPost_ret (v := .tuple #[vTime 0 0, .iface t u]) (results_block_tmp Tryz.results69 _ _ (w.heap.size + 1) _ _ rfl hBz Tryz.underlying59 rfl (by kernel_rfl)) rfl ⟨0, .iface t u, rfl, Or.inr ⟨HTO.out, rfl, t, u, rfl⟩, own_store2 (((ButBelow.of_below hball).alloc _).trans hbbz)⟩
    | true =>
      have hu : x = Pl.tzutc := by
        rcases Classical.em (x = Pl.tzutc) with h | h
        · exact h
        · rw [hts] at h2; simp [hp, h] at h2
      subst hu
      have hto : Pl.tstOut l = Pl.momOut y := by unfold Pl.tstOut Pl.momOut; rw [hts]; simp [hp]
      have hm2 : (Pl.moment y).2 ≠ 2 := by rw [hts] at h2; simpa [hp] using h2
      have HTO := Lib.hid hto; clear hto
      have hcon2 := fun w => toTime_any y w hyl hm2
      clear hts h2 hp hm2
      go_wp2_with (go_at_call 105; refine (parseTZID_utc _).mono ?_; rintro e w2 ⟨rfl, hbx⟩; have c1 := (hbx.cell (p := ⟨b, o + 1, none⟩) hbl).trans c1; have hbl := Nat.lt_of_lt_of_le hbl hbx.size; have hball := hball.trans (hbx.mono hball.size); clear hbx)
      go_wp2_with fail
      have hba : Below w2.heap.size w2 (w2.alloc (.cells #[] 102)) := (Below.refl _ _).alloc (Nat.le_refl _) _
      have c1 := (hba.cell (p := ⟨b, o + 1, none⟩) hbl).trans c1
      have HL2 : Hid (Block (w2.alloc (.cells #[] 102)) w2.heap.size #[]) := ⟨102, heap_alloc_new w2 _⟩
      have hball := hball.trans (hba.mono hball.size)
      clear hba
      generalize hwq : w2.alloc (.cells #[] 102) = wq at *
      clear hwq
      go_region_with (go_at_call 72; refine (hcon2 _).mono ?_; rintro e w5 ⟨v, err, rfl, hE, hbx⟩; have hball2 := hball.trans (Below.mono (by first | exact hbx | exact (Below.refl _ _).drew.trans hbx) hball.size); have hB2 := HB0.out.below hball2; have z0 : w5.cell? ⟨w.heap.size + 1, 0, none⟩ = some (.int .i64 0) := hB2.cell 0; have z1 : w5.cell? ⟨w.heap.size + 1, 1, none⟩ = some (.int .i64 0) := hB2.cell 1; have f0 := hB2.free 0; have f1 := hB2.free 1)
      all_goals (
        go_wp2
        have hBz : Block ((w5.setCell ⟨w.heap.size + 1, 0, none⟩ (.int .i64 v)).setCell ⟨w.heap.size + 1, 1, none⟩ (.int .i64 0)) (w.heap.size + 1) #[.int .i64 v, .int .i64 0] := (hB2.set 0 _).set 1 _
        have hbbz := ((ButBelow.of_below hball2).setCell (rb := w.heap.size + 1) 0 (.int .i64 v)).setCell 1 (.int .i64 0)
        refine bodyPost_ret (v := .tuple #[vTime v 0, err]) (results_block_tmp Tryz.results69 _ _ (w.heap.size + 1) _ _ rfl hBz Tryz.underlying59 rfl (by kernel_rfl)) rfl ⟨v, err, rfl, by rw [HTO.out]; exact hE, own_store2 hbbz⟩)
  | x :: y :: z :: r, _ =>
    have HTO : Hid (Pl.tstOut l = none) := by show _ = _; unfold Pl.tstOut; rw [hts]; rfl
    clear hts h2
    have h3 : 2 < (x :: y :: z :: r).length := by simp
    generalize x :: y :: z :: r = L at *
    go_wp2_with (first | (go_at_call 67; refine (New_any _ _).mono ?_; rintro e w' ⟨⟨t, u, rfl⟩, hbx⟩; have hball := hball.trans (hbx.mono hball.size); clear hbx) | (refine wpList_store_block rfl 59 _ _ rfl (w.heap.size + 1) zTime _ rfl rfl (HB0.out.below hball) rfl (by kernel_rfl) (hone _) ?_; intro wz hBz hbbz))
    refine bodyPost_ret (v := .tuple #[vTime 0 0, .iface t u]) (results_block_tmp Tryz.results69 _ _ (w.heap.size + 1) _ _ rfl hBz Tryz.underlying59 rfl (by kernel_rfl)) rfl ⟨0, .iface t u, rfl, Or.inr ⟨HTO.out, rfl, t, u, rfl⟩, own_store2 ((ButBelow.of_below hball).trans hbbz)⟩
end Go.Proofs.YthkgjhnckakliaaGreatDoorR

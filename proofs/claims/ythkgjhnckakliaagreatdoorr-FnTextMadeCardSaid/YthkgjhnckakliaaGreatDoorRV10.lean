/- zztime.Parse at the forms with a time.
  zztime.Parse at the forms with a time, where the time is wrong.
  zztime.Parse at the forms with a time, where what stands behind the time is wrong, or the day.
  zztime.Parse at a form with a fraction behind the seconds, where the day is wrong.
  zztime.Parse by the plain reading of a moment; strToTimeInLoc, LoadLocation, parseTZID.
  ParseInLocation, strToTimeInLoc, LoadLocation, parseTZID, StrToDtStart. -/
import Derived.Test.YthkgjhnckakliaaGreatDoorRV08
import Derived.Deep.DeepCutAuto
import Derived.Test.YthkgjhnckakliaaGreatDoorRV07
namespace Go.Proofs.YthkgjhnckakliaaGreatDoorR
open Go.RowKit

set_option maxHeartbeats 4000000 in
set_option maxRecDepth 100000 in
theorem Parse_time (l L1 L2 L3 L4 L5 L6 z : Bs) (y m d h n x : Nat) (lay T Z : ByteArray) (hlay : 8 ≤ lay.size) (e1 : lay.extract 8 lay.size = T) (hT : 7 ≤ T.size) (e2 : T.extract 7 T.size = Z) (w : World) (h1 : DigOk l 4 y L1) (h2 : DigOk L1 2 m L2) (h3 : DigOk L2 2 d L3) (hok : Pl.dateOk y m d)
    (h84 : L3[0]? = some 84) (h4 : DigOk (L3.drop 1) 2 h L4) (h5 : DigOk L4 2 n L5) (h6 : DigOk L5 2 x L6) (hh : h ≤ 23) (hn : n ≤ 59) (hx : x ≤ 59) (hz : z = [] ∨ z = [90]) (hZ : Z = bs z) (hL : L6 = z) :
    Calls Tryz.prog 108 #[.string lay, .string (bs l)] w (OkT (Pl.daysOf y m d * 86400 + (h * 3600 + n * 60 + x)) w) := by
  subst hL
  subst hZ
  have hd := dig_lt h3; have hmm := dig_lt h2; have hyy := dig_lt h1
  obtain ⟨hm0, hm1, hd0, hdm⟩ := hok
  have hT0 : T.toList.isEmpty = false := isEmpty_of_size (by omega)
  have h3l : 0 < L3.length := by
    cases L3 with
    | nil => cases h84
    | cons _ _ => simp
  have hs3 : (bs L3).size = L3.length := bs_size _
  have hne3 : ¬ (L3 = []) := fun h => by rw [h] at h3l; cases h3l
  have hnb3 : ((L3.length : Int) == 0) = false := by rw [beq_eq_false_iff_ne]; omega
  have hi3 : ((bs L3)[0]'(by omega)).toNat = 84 := by
    have := list_get (bs L3) 0 (by omega)
    rw [bs_list, h84] at this; injection this with this; rw [← this]; rfl
  clear h84
  have hs6 : L6.length ≤ 1 := by rcases hz with h | h <;> rw [h] <;> simp
  have hs6n : ¬ (2 ≤ (L6.length : Int)) := by omega
  have hs6b : decide (2 ≤ (L6.length : Int)) = false := decide_eq_false hs6n
  clear hz
  have hs6s : (bs L6).size = L6.length := bs_size _
  have hx1 : (bs L3).extract 1 L3.length = bs (L3.drop 1) := by rw [bs_extract, bs_list, List.take_length]
  have HS : Hid (Pl.daysOf y m d * 86400 + h * 3600 + n * 60 + x = Pl.daysOf y m d * 86400 + (h * 3600 + n * 60 + x)) := by show _ = _; omega
  have hone : ∀ x : Int, (#[Value.int .i64 x, .int .i64 0] : Array Value).all (·.oneCell') = true := fun x => by simp [Value.oneCell']
  have c1 := fun w => dig_ok h1 4 rfl w (by omega) (by omega)
  have c2 := fun w => dig_ok h2 2 rfl w (by omega) (by omega)
  have c3 := fun w => dig_ok h3 2 rfl w (by omega) (by omega)
  have c4 := fun w => dig_ok h4 2 rfl w (by omega) (by omega)
  rw [← hx1] at c4
  clear hx1
  have c5 := fun w => dig_ok h5 2 rfl w (by omega) (by omega)
  have c6 := fun w => dig_ok h6 2 rfl w (by omega) (by omega)
  clear h1 h2 h3 h4 h5 h6
  have HB0 : Hid (Block (w.alloc (.cells zTime 59)) w.heap.size zTime) := ⟨59, heap_alloc_new w _⟩
  have hball := Below.refl (w.alloc (.cells zTime 59)).heap.size (w.alloc (.cells zTime 59))
  unfold zTime at HB0 hball
  go_enter Tryz.func108, Tryz.ntmps108
  go_wp2_with fail
  change Hid (Block _ w.heap.size zTime) at HB0
  go_wp2_with (first | (go_at_call 67; refine (New_any _ _).mono ?_; rintro e w' ⟨⟨t, u, rfl⟩, hbx⟩; have hball := hball.trans (hbx.mono hball.size); clear hbx) | (go_at_call 130; with_reducible refine (c1 _).mono ?_; rintro e w' ⟨rfl, hbx⟩; have hball := hball.trans (hbx.mono hball.size); clear hbx) | (go_at_call 130; with_reducible refine (c2 _).mono ?_; rintro e w' ⟨rfl, hbx⟩; have hball := hball.trans (hbx.mono hball.size); clear hbx) | (go_at_call 130; with_reducible refine (c3 _).mono ?_; rintro e w' ⟨rfl, hbx⟩; have hball := hball.trans (hbx.mono hball.size); clear hbx) | (go_at_call 130; with_reducible refine (c4 _).mono ?_; rintro e w' ⟨rfl, hbx⟩; have hball := hball.trans (hbx.mono hball.size); clear hbx) | (go_at_call 130; with_reducible refine (c5 _).mono ?_; rintro e w' ⟨rfl, hbx⟩; have hball := hball.trans (hbx.mono hball.size); clear hbx) | (go_at_call 130; with_reducible refine (c6 _).mono ?_; rintro e w' ⟨rfl, hbx⟩; have hball := hball.trans (hbx.mono hball.size); clear hbx) | (go_at_call 113; refine (monthDays_any _ _ _).mono ?_; rintro e w' ⟨rfl, rfl⟩) | (go_at_call 88; refine (Date_any _ _ _ _ _ _ _ (by omega) (by omega) (by omega) (by omega) (by omega) (by omega) (by omega) (by omega) (by omega) (by omega) (by omega) (by omega)).mono ?_; rintro e w' ⟨rfl, hbx⟩; rw [HS.out]; have hball := hball.trans (hbx.mono hball.size); clear hbx) | (refine wpList_store_block rfl 59 _ _ rfl w.heap.size zTime _ rfl rfl (HB0.out.below hball) rfl (by kernel_rfl) (hone _) ?_; intro wz hBz hbbz))
  refine bodyPost_ret (v := .tuple #[vTime (Pl.daysOf y m d * 86400 + (h * 3600 + n * 60 + x)) 0, .nilIface]) (results_block_tmp Tryz.results108 _ _ w.heap.size _ _ rfl hBz Tryz.underlying59 rfl (by kernel_rfl)) rfl ⟨rfl, own_store ((ButBelow.of_below hball).trans hbbz)⟩
end Go.Proofs.YthkgjhnckakliaaGreatDoorR
namespace Go.Proofs.YthkgjhnckakliaaGreatDoorR
open Go.RowKit

set_option maxHeartbeats 4000000 in
set_option maxRecDepth 100000 in
theorem Parse_noT (l L1 L2 L3 : Bs) (y m d : Nat) (lay T : ByteArray) (hlay : 8 ≤ lay.size) (e1 : lay.extract 8 lay.size = T) (hT : 7 ≤ T.size) (w : World) (h1 : DigOk l 4 y L1) (h2 : DigOk L1 2 m L2) (h3 : DigOk L2 2 d L3) (hm0 : 1 ≤ m) (hm1 : m ≤ 12) (hne3 : ¬ (L3 = [])) (h84 : L3[0]? ≠ some 84) :
    Calls Tryz.prog 108 #[.string lay, .string (bs l)] w (ErrT w) := by
  have hd := dig_lt h3; have hmm := dig_lt h2; have hyy := dig_lt h1
  have hT0 : T.toList.isEmpty = false := isEmpty_of_size (by omega)
  have h3l : 0 < L3.length := List.length_pos_iff.2 hne3
  have hs3 : (bs L3).size = L3.length := bs_size _
  have hnb3 : ((L3.length : Int) == 0) = false := by rw [beq_eq_false_iff_ne]; omega
  have c1 := fun w => dig_ok h1 4 rfl w (by omega) (by omega)
  have c2 := fun w => dig_ok h2 2 rfl w (by omega) (by omega)
  have c3 := fun w => dig_ok h3 2 rfl w (by omega) (by omega)
  clear h1 h2 h3
  have hi3 : ¬ ((((bs L3)[0]'(by omega)).toNat : Int) = 84) := by
    intro h
    have := list_get (bs L3) 0 (by omega)
    rw [bs_list] at this; rw [this] at h84; apply h84; congr 1; apply UInt8.toNat_inj.1; show _ = 84; omega
  have hi3b : ((((bs L3)[0]'(by omega)).toNat : Int) == 84) = false := by rw [beq_eq_false_iff_ne]; exact hi3
  clear h84
  have HB0 : Hid (Block (w.alloc (.cells zTime 59)) w.heap.size zTime) := ⟨59, heap_alloc_new w _⟩
  have hball := Below.refl (w.alloc (.cells zTime 59)).heap.size (w.alloc (.cells zTime 59))
  unfold zTime at HB0 hball
  go_enter Tryz.func108, Tryz.ntmps108
  go_wp2_with fail
  change Hid (Block _ w.heap.size zTime) at HB0
  go_wp2_with (first | (go_at_call 67; refine (New_any _ _).mono ?_; rintro e w' ⟨⟨t, u, rfl⟩, hbx⟩; have hball := hball.trans (hbx.mono hball.size); clear hbx) | (go_at_call 130; with_reducible refine (c1 _).mono ?_; rintro e w' ⟨rfl, hbx⟩; have hball := hball.trans (hbx.mono hball.size); clear hbx) | (go_at_call 130; with_reducible refine (c2 _).mono ?_; rintro e w' ⟨rfl, hbx⟩; have hball := hball.trans (hbx.mono hball.size); clear hbx) | (go_at_call 130; with_reducible refine (c3 _).mono ?_; rintro e w' ⟨rfl, hbx⟩; have hball := hball.trans (hbx.mono hball.size); clear hbx) | (refine wpList_store_block rfl 59 _ _ rfl w.heap.size zTime zTime rfl rfl (HB0.out.below hball) rfl (by kernel_rfl) zTime_one ?_; intro wz hBz hbbz))
  refine bodyPost_ret (v := .tuple #[vTime 0 0, .iface t u]) (results_block_tmp Tryz.results108 _ _ w.heap.size zTime _ rfl hBz Tryz.underlying59 rfl (by kernel_rfl)) rfl ⟨⟨t, u, rfl⟩, own_store ((ButBelow.of_below hball).trans hbbz)⟩

set_option maxHeartbeats 4000000 in
set_option maxRecDepth 100000 in
theorem Parse_nohour (l L1 L2 L3 : Bs) (y m d : Nat) (lay T : ByteArray) (hlay : 8 ≤ lay.size) (e1 : lay.extract 8 lay.size = T) (hT : 7 ≤ T.size) (w : World) (h1 : DigOk l 4 y L1) (h2 : DigOk L1 2 m L2) (h3 : DigOk L2 2 d L3) (hm0 : 1 ≤ m) (hm1 : m ≤ 12) (hne3 : ¬ (L3 = [])) (h84 : L3[0]? = some 84) (h4 : DigNo (L3.drop 1) 2) :
    Calls Tryz.prog 108 #[.string lay, .string (bs l)] w (ErrT w) := by
  have hd := dig_lt h3; have hmm := dig_lt h2; have hyy := dig_lt h1
  have hT0 : T.toList.isEmpty = false := isEmpty_of_size (by omega)
  have h3l : 0 < L3.length := List.length_pos_iff.2 hne3
  have hs3 : (bs L3).size = L3.length := bs_size _
  have hnb3 : ((L3.length : Int) == 0) = false := by rw [beq_eq_false_iff_ne]; omega
  have c1 := fun w => dig_ok h1 4 rfl w (by omega) (by omega)
  have c2 := fun w => dig_ok h2 2 rfl w (by omega) (by omega)
  have c3 := fun w => dig_ok h3 2 rfl w (by omega) (by omega)
  clear h1 h2 h3
  have hi3 : ((bs L3)[0]'(by omega)).toNat = 84 := by
    have := list_get (bs L3) 0 (by omega)
    rw [bs_list, h84] at this; injection this with this; rw [← this]; rfl
  clear h84
  have hx1 : (bs L3).extract 1 L3.length = bs (L3.drop 1) := by rw [bs_extract, bs_list, List.take_length]
  have c4 := fun w => dig_no h4 2 rfl w (by omega) (by omega)
  rw [← hx1] at c4
  clear hx1 h4
  have HB0 : Hid (Block (w.alloc (.cells zTime 59)) w.heap.size zTime) := ⟨59, heap_alloc_new w _⟩
  have hball := Below.refl (w.alloc (.cells zTime 59)).heap.size (w.alloc (.cells zTime 59))
  unfold zTime at HB0 hball
  go_enter Tryz.func108, Tryz.ntmps108
  go_wp2_with fail
  change Hid (Block _ w.heap.size zTime) at HB0
  go_wp2_with (first | (go_at_call 67; refine (New_any _ _).mono ?_; rintro e w' ⟨⟨t, u, rfl⟩, hbx⟩; have hball := hball.trans (hbx.mono hball.size); clear hbx) | (go_at_call 130; with_reducible refine (c1 _).mono ?_; rintro e w' ⟨rfl, hbx⟩; have hball := hball.trans (hbx.mono hball.size); clear hbx) | (go_at_call 130; with_reducible refine (c2 _).mono ?_; rintro e w' ⟨rfl, hbx⟩; have hball := hball.trans (hbx.mono hball.size); clear hbx) | (go_at_call 130; with_reducible refine (c3 _).mono ?_; rintro e w' ⟨rfl, hbx⟩; have hball := hball.trans (hbx.mono hball.size); clear hbx) | (go_at_call 130; with_reducible refine (c4 _).mono ?_; rintro e w' ⟨rfl, hbx⟩; have hball := hball.trans (hbx.mono hball.size); clear hbx) | (refine wpList_store_block rfl 59 _ _ rfl w.heap.size zTime zTime rfl rfl (HB0.out.below hball) rfl (by kernel_rfl) zTime_one ?_; intro wz hBz hbbz))
  refine bodyPost_ret (v := .tuple #[vTime 0 0, .iface t u]) (results_block_tmp Tryz.results108 _ _ w.heap.size zTime _ rfl hBz Tryz.underlying59 rfl (by kernel_rfl)) rfl ⟨⟨t, u, rfl⟩, own_store ((ButBelow.of_below hball).trans hbbz)⟩

set_option maxHeartbeats 4000000 in
set_option maxRecDepth 100000 in
theorem Parse_badhour (l L1 L2 L3 : Bs) (y m d : Nat) (lay T : ByteArray) (hlay : 8 ≤ lay.size) (e1 : lay.extract 8 lay.size = T) (hT : 7 ≤ T.size) (w : World) (h1 : DigOk l 4 y L1) (h2 : DigOk L1 2 m L2) (h3 : DigOk L2 2 d L3) (hm0 : 1 ≤ m) (hm1 : m ≤ 12) (hne3 : ¬ (L3 = [])) (h84 : L3[0]? = some 84) (h : Nat) (L4 : Bs) (h4 : DigOk (L3.drop 1) 2 h L4) (hh : 23 < h) :
    Calls Tryz.prog 108 #[.string lay, .string (bs l)] w (ErrT w) := by
  have hd := dig_lt h3; have hmm := dig_lt h2; have hyy := dig_lt h1
  have hT0 : T.toList.isEmpty = false := isEmpty_of_size (by omega)
  have h3l : 0 < L3.length := List.length_pos_iff.2 hne3
  have hs3 : (bs L3).size = L3.length := bs_size _
  have hnb3 : ((L3.length : Int) == 0) = false := by rw [beq_eq_false_iff_ne]; omega
  have c1 := fun w => dig_ok h1 4 rfl w (by omega) (by omega)
  have c2 := fun w => dig_ok h2 2 rfl w (by omega) (by omega)
  have c3 := fun w => dig_ok h3 2 rfl w (by omega) (by omega)
  clear h1 h2 h3
  have hi3 : ((bs L3)[0]'(by omega)).toNat = 84 := by
    have := list_get (bs L3) 0 (by omega)
    rw [bs_list, h84] at this; injection this with this; rw [← this]; rfl
  clear h84
  have hx1 : (bs L3).extract 1 L3.length = bs (L3.drop 1) := by rw [bs_extract, bs_list, List.take_length]
  have hhh := dig_lt h4
  have c4 := fun w => dig_ok h4 2 rfl w (by omega) (by omega)
  rw [← hx1] at c4
  clear hx1 h4
  have HB0 : Hid (Block (w.alloc (.cells zTime 59)) w.heap.size zTime) := ⟨59, heap_alloc_new w _⟩
  have hball := Below.refl (w.alloc (.cells zTime 59)).heap.size (w.alloc (.cells zTime 59))
  unfold zTime at HB0 hball
  go_enter Tryz.func108, Tryz.ntmps108
  go_wp2_with fail
  change Hid (Block _ w.heap.size zTime) at HB0
  go_wp2_with (first | (go_at_call 67; refine (New_any _ _).mono ?_; rintro e w' ⟨⟨t, u, rfl⟩, hbx⟩; have hball := hball.trans (hbx.mono hball.size); clear hbx) | (go_at_call 130; with_reducible refine (c1 _).mono ?_; rintro e w' ⟨rfl, hbx⟩; have hball := hball.trans (hbx.mono hball.size); clear hbx) | (go_at_call 130; with_reducible refine (c2 _).mono ?_; rintro e w' ⟨rfl, hbx⟩; have hball := hball.trans (hbx.mono hball.size); clear hbx) | (go_at_call 130; with_reducible refine (c3 _).mono ?_; rintro e w' ⟨rfl, hbx⟩; have hball := hball.trans (hbx.mono hball.size); clear hbx) | (go_at_call 130; with_reducible refine (c4 _).mono ?_; rintro e w' ⟨rfl, hbx⟩; have hball := hball.trans (hbx.mono hball.size); clear hbx) | (refine wpList_store_block rfl 59 _ _ rfl w.heap.size zTime zTime rfl rfl (HB0.out.below hball) rfl (by kernel_rfl) zTime_one ?_; intro wz hBz hbbz))
  refine bodyPost_ret (v := .tuple #[vTime 0 0, .iface t u]) (results_block_tmp Tryz.results108 _ _ w.heap.size zTime _ rfl hBz Tryz.underlying59 rfl (by kernel_rfl)) rfl ⟨⟨t, u, rfl⟩, own_store ((ButBelow.of_below hball).trans hbbz)⟩

set_option maxHeartbeats 4000000 in
set_option maxRecDepth 100000 in
theorem Parse_nomin (l L1 L2 L3 : Bs) (y m d : Nat) (lay T : ByteArray) (hlay : 8 ≤ lay.size) (e1 : lay.extract 8 lay.size = T) (hT : 7 ≤ T.size) (w : World) (h1 : DigOk l 4 y L1) (h2 : DigOk L1 2 m L2) (h3 : DigOk L2 2 d L3) (hm0 : 1 ≤ m) (hm1 : m ≤ 12) (hne3 : ¬ (L3 = [])) (h84 : L3[0]? = some 84) (h : Nat) (L4 : Bs) (h4 : DigOk (L3.drop 1) 2 h L4) (hh : h ≤ 23) (h5 : DigNo L4 2) :
    Calls Tryz.prog 108 #[.string lay, .string (bs l)] w (ErrT w) := by
  have hd := dig_lt h3; have hmm := dig_lt h2; have hyy := dig_lt h1
  have hT0 : T.toList.isEmpty = false := isEmpty_of_size (by omega)
  have h3l : 0 < L3.length := List.length_pos_iff.2 hne3
  have hs3 : (bs L3).size = L3.length := bs_size _
  have hnb3 : ((L3.length : Int) == 0) = false := by rw [beq_eq_false_iff_ne]; omega
  have c1 := fun w => dig_ok h1 4 rfl w (by omega) (by omega)
  have c2 := fun w => dig_ok h2 2 rfl w (by omega) (by omega)
  have c3 := fun w => dig_ok h3 2 rfl w (by omega) (by omega)
  clear h1 h2 h3
  have hi3 : ((bs L3)[0]'(by omega)).toNat = 84 := by
    have := list_get (bs L3) 0 (by omega)
    rw [bs_list, h84] at this; injection this with this; rw [← this]; rfl
  clear h84
  have hx1 : (bs L3).extract 1 L3.length = bs (L3.drop 1) := by rw [bs_extract, bs_list, List.take_length]
  have c4 := fun w => dig_ok h4 2 rfl w (by omega) (by omega)
  have c5 := fun w => dig_no h5 2 rfl w (by omega) (by omega)
  rw [← hx1] at c4
  clear hx1 h4 h5
  have HB0 : Hid (Block (w.alloc (.cells zTime 59)) w.heap.size zTime) := ⟨59, heap_alloc_new w _⟩
  have hball := Below.refl (w.alloc (.cells zTime 59)).heap.size (w.alloc (.cells zTime 59))
  unfold zTime at HB0 hball
  go_enter Tryz.func108, Tryz.ntmps108
  go_wp2_with fail
  change Hid (Block _ w.heap.size zTime) at HB0
  go_wp2_with (first | (go_at_call 67; refine (New_any _ _).mono ?_; rintro e w' ⟨⟨t, u, rfl⟩, hbx⟩; have hball := hball.trans (hbx.mono hball.size); clear hbx) | (go_at_call 130; with_reducible refine (c1 _).mono ?_; rintro e w' ⟨rfl, hbx⟩; have hball := hball.trans (hbx.mono hball.size); clear hbx) | (go_at_call 130; with_reducible refine (c2 _).mono ?_; rintro e w' ⟨rfl, hbx⟩; have hball := hball.trans (hbx.mono hball.size); clear hbx) | (go_at_call 130; with_reducible refine (c3 _).mono ?_; rintro e w' ⟨rfl, hbx⟩; have hball := hball.trans (hbx.mono hball.size); clear hbx) | (go_at_call 130; with_reducible refine (c4 _).mono ?_; rintro e w' ⟨rfl, hbx⟩; have hball := hball.trans (hbx.mono hball.size); clear hbx) | (go_at_call 130; with_reducible refine (c5 _).mono ?_; rintro e w' ⟨rfl, hbx⟩; have hball := hball.trans (hbx.mono hball.size); clear hbx) | (refine wpList_store_block rfl 59 _ _ rfl w.heap.size zTime zTime rfl rfl (HB0.out.below hball) rfl (by kernel_rfl) zTime_one ?_; intro wz hBz hbbz))
  refine bodyPost_ret (v := .tuple #[vTime 0 0, .iface t u]) (results_block_tmp Tryz.results108 _ _ w.heap.size zTime _ rfl hBz Tryz.underlying59 rfl (by kernel_rfl)) rfl ⟨⟨t, u, rfl⟩, own_store ((ButBelow.of_below hball).trans hbbz)⟩

set_option maxHeartbeats 4000000 in
set_option maxRecDepth 100000 in
theorem Parse_badmin (l L1 L2 L3 : Bs) (y m d : Nat) (lay T : ByteArray) (hlay : 8 ≤ lay.size) (e1 : lay.extract 8 lay.size = T) (hT : 7 ≤ T.size) (w : World) (h1 : DigOk l 4 y L1) (h2 : DigOk L1 2 m L2) (h3 : DigOk L2 2 d L3) (hm0 : 1 ≤ m) (hm1 : m ≤ 12) (hne3 : ¬ (L3 = [])) (h84 : L3[0]? = some 84) (h n : Nat) (L4 L5 : Bs) (h4 : DigOk (L3.drop 1) 2 h L4) (hh : h ≤ 23) (h5 : DigOk L4 2 n L5) (hn : 59 < n) :
    Calls Tryz.prog 108 #[.string lay, .string (bs l)] w (ErrT w) := by
  have hd := dig_lt h3; have hmm := dig_lt h2; have hyy := dig_lt h1
  have hT0 : T.toList.isEmpty = false := isEmpty_of_size (by omega)
  have h3l : 0 < L3.length := List.length_pos_iff.2 hne3
  have hs3 : (bs L3).size = L3.length := bs_size _
  have hnb3 : ((L3.length : Int) == 0) = false := by rw [beq_eq_false_iff_ne]; omega
  have c1 := fun w => dig_ok h1 4 rfl w (by omega) (by omega)
  have c2 := fun w => dig_ok h2 2 rfl w (by omega) (by omega)
  have c3 := fun w => dig_ok h3 2 rfl w (by omega) (by omega)
  clear h1 h2 h3
  have hi3 : ((bs L3)[0]'(by omega)).toNat = 84 := by
    have := list_get (bs L3) 0 (by omega)
    rw [bs_list, h84] at this; injection this with this; rw [← this]; rfl
  clear h84
  have hx1 : (bs L3).extract 1 L3.length = bs (L3.drop 1) := by rw [bs_extract, bs_list, List.take_length]
  have hnn := dig_lt h5
  have c4 := fun w => dig_ok h4 2 rfl w (by omega) (by omega)
  have c5 := fun w => dig_ok h5 2 rfl w (by omega) (by omega)
  rw [← hx1] at c4
  clear hx1 h4 h5
  have HB0 : Hid (Block (w.alloc (.cells zTime 59)) w.heap.size zTime) := ⟨59, heap_alloc_new w _⟩
  have hball := Below.refl (w.alloc (.cells zTime 59)).heap.size (w.alloc (.cells zTime 59))
  unfold zTime at HB0 hball
  go_enter Tryz.func108, Tryz.ntmps108
  go_wp2_with fail
  change Hid (Block _ w.heap.size zTime) at HB0
  go_wp2_with (first | (go_at_call 67; refine (New_any _ _).mono ?_; rintro e w' ⟨⟨t, u, rfl⟩, hbx⟩; have hball := hball.trans (hbx.mono hball.size); clear hbx) | (go_at_call 130; with_reducible refine (c1 _).mono ?_; rintro e w' ⟨rfl, hbx⟩; have hball := hball.trans (hbx.mono hball.size); clear hbx) | (go_at_call 130; with_reducible refine (c2 _).mono ?_; rintro e w' ⟨rfl, hbx⟩; have hball := hball.trans (hbx.mono hball.size); clear hbx) | (go_at_call 130; with_reducible refine (c3 _).mono ?_; rintro e w' ⟨rfl, hbx⟩; have hball := hball.trans (hbx.mono hball.size); clear hbx) | (go_at_call 130; with_reducible refine (c4 _).mono ?_; rintro e w' ⟨rfl, hbx⟩; have hball := hball.trans (hbx.mono hball.size); clear hbx) | (go_at_call 130; with_reducible refine (c5 _).mono ?_; rintro e w' ⟨rfl, hbx⟩; have hball := hball.trans (hbx.mono hball.size); clear hbx) | (refine wpList_store_block rfl 59 _ _ rfl w.heap.size zTime zTime rfl rfl (HB0.out.below hball) rfl (by kernel_rfl) zTime_one ?_; intro wz hBz hbbz))
  refine bodyPost_ret (v := .tuple #[vTime 0 0, .iface t u]) (results_block_tmp Tryz.results108 _ _ w.heap.size zTime _ rfl hBz Tryz.underlying59 rfl (by kernel_rfl)) rfl ⟨⟨t, u, rfl⟩, own_store ((ButBelow.of_below hball).trans hbbz)⟩

set_option maxHeartbeats 4000000 in
set_option maxRecDepth 100000 in
theorem Parse_nosec (l L1 L2 L3 : Bs) (y m d : Nat) (lay T : ByteArray) (hlay : 8 ≤ lay.size) (e1 : lay.extract 8 lay.size = T) (hT : 7 ≤ T.size) (w : World) (h1 : DigOk l 4 y L1) (h2 : DigOk L1 2 m L2) (h3 : DigOk L2 2 d L3) (hm0 : 1 ≤ m) (hm1 : m ≤ 12) (hne3 : ¬ (L3 = [])) (h84 : L3[0]? = some 84) (h n : Nat) (L4 L5 : Bs) (h4 : DigOk (L3.drop 1) 2 h L4) (hh : h ≤ 23) (h5 : DigOk L4 2 n L5) (hn : n ≤ 59) (h6 : DigNo L5 2) :
    Calls Tryz.prog 108 #[.string lay, .string (bs l)] w (ErrT w) := by
  have hd := dig_lt h3; have hmm := dig_lt h2; have hyy := dig_lt h1
  have hT0 : T.toList.isEmpty = false := isEmpty_of_size (by omega)
  have h3l : 0 < L3.length := List.length_pos_iff.2 hne3
  have hs3 : (bs L3).size = L3.length := bs_size _
  have hnb3 : ((L3.length : Int) == 0) = false := by rw [beq_eq_false_iff_ne]; omega
  have c1 := fun w => dig_ok h1 4 rfl w (by omega) (by omega)
  have c2 := fun w => dig_ok h2 2 rfl w (by omega) (by omega)
  have c3 := fun w => dig_ok h3 2 rfl w (by omega) (by omega)
  clear h1 h2 h3
  have hi3 : ((bs L3)[0]'(by omega)).toNat = 84 := by
    have := list_get (bs L3) 0 (by omega)
    rw [bs_list, h84] at this; injection this with this; rw [← this]; rfl
  clear h84
  have hx1 : (bs L3).extract 1 L3.length = bs (L3.drop 1) := by rw [bs_extract, bs_list, List.take_length]
  have c4 := fun w => dig_ok h4 2 rfl w (by omega) (by omega)
  have c5 := fun w => dig_ok h5 2 rfl w (by omega) (by omega)
  have c6 := fun w => dig_no h6 2 rfl w (by omega) (by omega)
  rw [← hx1] at c4
  clear hx1 h4 h5 h6
  have HB0 : Hid (Block (w.alloc (.cells zTime 59)) w.heap.size zTime) := ⟨59, heap_alloc_new w _⟩
  have hball := Below.refl (w.alloc (.cells zTime 59)).heap.size (w.alloc (.cells zTime 59))
  unfold zTime at HB0 hball
  go_enter Tryz.func108, Tryz.ntmps108
  go_wp2_with fail
  change Hid (Block _ w.heap.size zTime) at HB0
  go_wp2_with (first | (go_at_call 67; refine (New_any _ _).mono ?_; rintro e w' ⟨⟨t, u, rfl⟩, hbx⟩; have hball := hball.trans (hbx.mono hball.size); clear hbx) | (go_at_call 130; with_reducible refine (c1 _).mono ?_; rintro e w' ⟨rfl, hbx⟩; have hball := hball.trans (hbx.mono hball.size); clear hbx) | (go_at_call 130; with_reducible refine (c2 _).mono ?_; rintro e w' ⟨rfl, hbx⟩; have hball := hball.trans (hbx.mono hball.size); clear hbx) | (go_at_call 130; with_reducible refine (c3 _).mono ?_; rintro e w' ⟨rfl, hbx⟩; have hball := hball.trans (hbx.mono hball.size); clear hbx) | (go_at_call 130; with_reducible refine (c4 _).mono ?_; rintro e w' ⟨rfl, hbx⟩; have hball := hball.trans (hbx.mono hball.size); clear hbx) | (go_at_call 130; with_reducible refine (c5 _).mono ?_; rintro e w' ⟨rfl, hbx⟩; have hball := hball.trans (hbx.mono hball.size); clear hbx) | (go_at_call 130; with_reducible refine (c6 _).mono ?_; rintro e w' ⟨rfl, hbx⟩; have hball := hball.trans (hbx.mono hball.size); clear hbx) | (refine wpList_store_block rfl 59 _ _ rfl w.heap.size zTime zTime rfl rfl (HB0.out.below hball) rfl (by kernel_rfl) zTime_one ?_; intro wz hBz hbbz))
  refine bodyPost_ret (v := .tuple #[vTime 0 0, .iface t u]) (results_block_tmp Tryz.results108 _ _ w.heap.size zTime _ rfl hBz Tryz.underlying59 rfl (by kernel_rfl)) rfl ⟨⟨t, u, rfl⟩, own_store ((ButBelow.of_below hball).trans hbbz)⟩

set_option maxHeartbeats 4000000 in
set_option maxRecDepth 100000 in
theorem Parse_badsec (l L1 L2 L3 : Bs) (y m d : Nat) (lay T : ByteArray) (hlay : 8 ≤ lay.size) (e1 : lay.extract 8 lay.size = T) (hT : 7 ≤ T.size) (w : World) (h1 : DigOk l 4 y L1) (h2 : DigOk L1 2 m L2) (h3 : DigOk L2 2 d L3) (hm0 : 1 ≤ m) (hm1 : m ≤ 12) (hne3 : ¬ (L3 = [])) (h84 : L3[0]? = some 84) (h n x : Nat) (L4 L5 L6 : Bs) (h4 : DigOk (L3.drop 1) 2 h L4) (hh : h ≤ 23) (h5 : DigOk L4 2 n L5) (hn : n ≤ 59) (h6 : DigOk L5 2 x L6) (hx : 59 < x) :
    Calls Tryz.prog 108 #[.string lay, .string (bs l)] w (ErrT w) := by
  have hd := dig_lt h3; have hmm := dig_lt h2; have hyy := dig_lt h1
  have hT0 : T.toList.isEmpty = false := isEmpty_of_size (by omega)
  have h3l : 0 < L3.length := List.length_pos_iff.2 hne3
  have hs3 : (bs L3).size = L3.length := bs_size _
  have hnb3 : ((L3.length : Int) == 0) = false := by rw [beq_eq_false_iff_ne]; omega
  have c1 := fun w => dig_ok h1 4 rfl w (by omega) (by omega)
  have c2 := fun w => dig_ok h2 2 rfl w (by omega) (by omega)
  have c3 := fun w => dig_ok h3 2 rfl w (by omega) (by omega)
  clear h1 h2 h3
  have hi3 : ((bs L3)[0]'(by omega)).toNat = 84 := by
    have := list_get (bs L3) 0 (by omega)
    rw [bs_list, h84] at this; injection this with this; rw [← this]; rfl
  clear h84
  have hx1 : (bs L3).extract 1 L3.length = bs (L3.drop 1) := by rw [bs_extract, bs_list, List.take_length]
  have hxx := dig_lt h6
  have c4 := fun w => dig_ok h4 2 rfl w (by omega) (by omega)
  have c5 := fun w => dig_ok h5 2 rfl w (by omega) (by omega)
  have c6 := fun w => dig_ok h6 2 rfl w (by omega) (by omega)
  rw [← hx1] at c4
  clear hx1 h4 h5 h6
  have HB0 : Hid (Block (w.alloc (.cells zTime 59)) w.heap.size zTime) := ⟨59, heap_alloc_new w _⟩
  have hball := Below.refl (w.alloc (.cells zTime 59)).heap.size (w.alloc (.cells zTime 59))
  unfold zTime at HB0 hball
  go_enter Tryz.func108, Tryz.ntmps108
  go_wp2_with fail
  change Hid (Block _ w.heap.size zTime) at HB0
  go_wp2_with (first | (go_at_call 67; refine (New_any _ _).mono ?_; rintro e w' ⟨⟨t, u, rfl⟩, hbx⟩; have hball := hball.trans (hbx.mono hball.size); clear hbx) | (go_at_call 130; with_reducible refine (c1 _).mono ?_; rintro e w' ⟨rfl, hbx⟩; have hball := hball.trans (hbx.mono hball.size); clear hbx) | (go_at_call 130; with_reducible refine (c2 _).mono ?_; rintro e w' ⟨rfl, hbx⟩; have hball := hball.trans (hbx.mono hball.size); clear hbx) | (go_at_call 130; with_reducible refine (c3 _).mono ?_; rintro e w' ⟨rfl, hbx⟩; have hball := hball.trans (hbx.mono hball.size); clear hbx) | (go_at_call 130; with_reducible refine (c4 _).mono ?_; rintro e w' ⟨rfl, hbx⟩; have hball := hball.trans (hbx.mono hball.size); clear hbx) | (go_at_call 130; with_reducible refine (c5 _).mono ?_; rintro e w' ⟨rfl, hbx⟩; have hball := hball.trans (hbx.mono hball.size); clear hbx) | (go_at_call 130; with_reducible refine (c6 _).mono ?_; rintro e w' ⟨rfl, hbx⟩; have hball := hball.trans (hbx.mono hball.size); clear hbx) | (refine wpList_store_block rfl 59 _ _ rfl w.heap.size zTime zTime rfl rfl (HB0.out.below hball) rfl (by kernel_rfl) zTime_one ?_; intro wz hBz hbbz))
  refine bodyPost_ret (v := .tuple #[vTime 0 0, .iface t u]) (results_block_tmp Tryz.results108 _ _ w.heap.size zTime _ rfl hBz Tryz.underlying59 rfl (by kernel_rfl)) rfl ⟨⟨t, u, rfl⟩, own_store ((ButBelow.of_below hball).trans hbbz)⟩
end Go.Proofs.YthkgjhnckakliaaGreatDoorR
namespace Go.Proofs.YthkgjhnckakliaaGreatDoorR
open Go.RowKit
/-- A fraction of a second stands ahead. -/
def Pl.frac : Bs → Bool
  | a :: b :: _ => (decide (a.toNat = 46) || decide (a.toNat = 44)) && (decide (48 ≤ b.toNat) && decide (b.toNat ≤ 57))
  | _ => false
theorem frac_get (a b : UInt8) (r : Bs) (h2 : 2 ≤ (bs (a :: b :: r)).size) : (bs (a :: b :: r))[0]'(by omega) = a ∧ (bs (a :: b :: r))[1]'(by omega) = b := by
  have e0 := list_get (bs (a :: b :: r)) 0 (by omega)
  have e1 := list_get (bs (a :: b :: r)) 1 (by omega)
  rw [bs_list] at e0 e1
  simp only [List.getElem?_cons_zero, List.getElem?_cons_succ, Option.some.injEq] at e0 e1
  exact ⟨e0.symm, e1.symm⟩
theorem frac_no (L : Bs) (h : Pl.frac L = false) : ∀ h2 : 2 ≤ (bs L).size, ¬ ((((bs L)[0]'(by omega)).toNat = 46 ∨ ((bs L)[0]'(by omega)).toNat = 44) ∧ 48 ≤ ((bs L)[1]'(by omega)).toNat ∧ ((bs L)[1]'(by omega)).toNat ≤ 57) := by
  have hs := bs_size L
  match L, h with
  | [], h => intro h2; rw [hs] at h2; exact absurd h2 (by simp)
  | [a], h => intro h2; rw [hs] at h2; exact absurd h2 (by simp)
  | a :: b :: r, h =>
    intro h2
    obtain ⟨e0, e1⟩ := frac_get a b r h2
    rw [e0, e1]
    simp only [Pl.frac, Bool.and_eq_false_iff, Bool.or_eq_false_iff, decide_eq_false_iff_not] at h
    omega
theorem frac_yes (L : Bs) (h : Pl.frac L = true) : ∃ h2 : 2 ≤ (bs L).size, (((bs L)[0]'(by omega)).toNat = 46 ∨ ((bs L)[0]'(by omega)).toNat = 44) ∧ 48 ≤ ((bs L)[1]'(by omega)).toNat ∧ ((bs L)[1]'(by omega)).toNat ≤ 57 := by
  match L, h with
  | [], h => cases h
  | [a], h => cases h
  | a :: b :: r, h =>
    have h2 : 2 ≤ (bs (a :: b :: r)).size := by rw [bs_size]; simp
    obtain ⟨e0, e1⟩ := frac_get a b r h2
    refine ⟨h2, ?_⟩
    rw [e0, e1]
    simp only [Pl.frac, Bool.and_eq_true, Bool.or_eq_true, decide_eq_true_eq] at h
    omega

set_option maxHeartbeats 8000000 in
set_option maxRecDepth 100000 in
theorem Parse_nofrac (l L1 L2 L3 : Bs) (y m d : Nat) (lay T : ByteArray) (hlay : 8 ≤ lay.size) (e1 : lay.extract 8 lay.size = T) (hT : 7 ≤ T.size) (w : World) (h1 : DigOk l 4 y L1) (h2 : DigOk L1 2 m L2) (h3 : DigOk L2 2 d L3) (hm0 : 1 ≤ m) (hm1 : m ≤ 12) (hne3 : ¬ (L3 = [])) (h84 : L3[0]? = some 84) (h n x : Nat) (L4 L5 L6 : Bs) (h4 : DigOk (L3.drop 1) 2 h L4) (hh : h ≤ 23) (h5 : DigOk L4 2 n L5) (hn : n ≤ 59) (h6 : DigOk L5 2 x L6) (hx : x ≤ 59) (z : Bs) (e2 : T.extract 7 T.size = bs z) (hf : Pl.frac L6 = false) (hL : L6 ≠ z) :
    Calls Tryz.prog 108 #[.string lay, .string (bs l)] w (ErrT w) := by
  have hq : ((bs L6).toList == (bs z).toList) = false := by rw [ByteArray.toList_eq, ByteArray.toList_eq, bs_list, bs_list, beq_eq_false_iff_ne]; exact hL
  have hF := frac_no _ hf
  have HF := Lib.hid hF; clear hF
  clear hL hf
  have hd := dig_lt h3; have hmm := dig_lt h2; have hyy := dig_lt h1
  have hT0 : T.toList.isEmpty = false := isEmpty_of_size (by omega)
  have h3l : 0 < L3.length := List.length_pos_iff.2 hne3
  have hs3 : (bs L3).size = L3.length := bs_size _
  have hnb3 : ((L3.length : Int) == 0) = false := by rw [beq_eq_false_iff_ne]; omega
  have c1 := fun w => dig_ok h1 4 rfl w (by omega) (by omega)
  have c2 := fun w => dig_ok h2 2 rfl w (by omega) (by omega)
  have c3 := fun w => dig_ok h3 2 rfl w (by omega) (by omega)
  clear h1 h2 h3
  have hi3 : ((bs L3)[0]'(by omega)).toNat = 84 := by
    have := list_get (bs L3) 0 (by omega)
    rw [bs_list, h84] at this; injection this with this; rw [← this]; rfl
  clear h84
  have hx1 : (bs L3).extract 1 L3.length = bs (L3.drop 1) := by rw [bs_extract, bs_list, List.take_length]
  have c4 := fun w => dig_ok h4 2 rfl w (by omega) (by omega)
  have c5 := fun w => dig_ok h5 2 rfl w (by omega) (by omega)
  have c6 := fun w => dig_ok h6 2 rfl w (by omega) (by omega)
  have hs6l : L6.length ≤ 1000000 := by rw [h6.rest, List.length_drop]; have := h6.small; omega
  rw [← hx1] at c4
  clear hx1 h4 h5 h6
  have HB0 : Hid (Block (w.alloc (.cells zTime 59)) w.heap.size zTime) := ⟨59, heap_alloc_new w _⟩
  have hball := Below.refl (w.alloc (.cells zTime 59)).heap.size (w.alloc (.cells zTime 59))
  unfold zTime at HB0 hball
  go_enter Tryz.func108, Tryz.ntmps108
  go_wp2_with fail
  change Hid (Block _ w.heap.size zTime) at HB0
  go_wp2_with (first | (go_at_call 67; refine (New_any _ _).mono ?_; rintro e w' ⟨⟨t, u, rfl⟩, hbx⟩; have hball := hball.trans (hbx.mono hball.size); clear hbx) | (go_at_call 130; with_reducible refine (c1 _).mono ?_; rintro e w' ⟨rfl, hbx⟩; have hball := hball.trans (hbx.mono hball.size); clear hbx) | (go_at_call 130; with_reducible refine (c2 _).mono ?_; rintro e w' ⟨rfl, hbx⟩; have hball := hball.trans (hbx.mono hball.size); clear hbx) | (go_at_call 130; with_reducible refine (c3 _).mono ?_; rintro e w' ⟨rfl, hbx⟩; have hball := hball.trans (hbx.mono hball.size); clear hbx) | (go_at_call 130; with_reducible refine (c4 _).mono ?_; rintro e w' ⟨rfl, hbx⟩; have hball := hball.trans (hbx.mono hball.size); clear hbx) | (go_at_call 130; with_reducible refine (c5 _).mono ?_; rintro e w' ⟨rfl, hbx⟩; have hball := hball.trans (hbx.mono hball.size); clear hbx))
  go_upto_region 25 with (go_at_call 130; with_reducible refine (c6 _).mono ?_; rintro e w' ⟨rfl, hbx⟩; have hball := hball.trans (hbx.mono hball.size); clear hbx)
  go_cut [135] (fun c wx => c = .bool false ∧ wx = w')
  case first =>
    go_wp2_with fail
    all_goals go_meet
    all_goals first | exact ⟨rfl, rfl⟩ | exact absurd ⟨by omega, by omega, by omega⟩ (HF.out (by omega)) | exact ⟨congrArg Value.bool (decide_eq_false (fun h57 => HF.out (by omega) ⟨by omega, by omega, by omega⟩)), rfl⟩
  case rest =>
    obtain ⟨rfl, rfl⟩ := hcut
    go_wp2_with (first | (go_at_call 113; refine (monthDays_any _ _ _).mono ?_; rintro e w' ⟨rfl, rfl⟩) | (refine wpList_store_block rfl 59 _ _ rfl w.heap.size zTime zTime rfl rfl (HB0.out.below hball) rfl (by kernel_rfl) zTime_one ?_; intro wz hBz hbbz))
    refine bodyPost_ret (v := .tuple #[vTime 0 0, .iface t u]) (results_block_tmp Tryz.results108 _ _ w.heap.size zTime _ rfl hBz Tryz.underlying59 rfl (by kernel_rfl)) rfl ⟨⟨t, u, rfl⟩, own_store ((ButBelow.of_below hball).trans hbbz)⟩

set_option maxHeartbeats 8000000 in
set_option maxRecDepth 100000 in
theorem Parse_nofracday (l L1 L2 L3 : Bs) (y m d : Nat) (lay T : ByteArray) (hlay : 8 ≤ lay.size) (e1 : lay.extract 8 lay.size = T) (hT : 7 ≤ T.size) (w : World) (h1 : DigOk l 4 y L1) (h2 : DigOk L1 2 m L2) (h3 : DigOk L2 2 d L3) (hm0 : 1 ≤ m) (hm1 : m ≤ 12) (hne3 : ¬ (L3 = [])) (h84 : L3[0]? = some 84) (h n x : Nat) (L4 L5 L6 : Bs) (h4 : DigOk (L3.drop 1) 2 h L4) (hh : h ≤ 23) (h5 : DigOk L4 2 n L5) (hn : n ≤ 59) (h6 : DigOk L5 2 x L6) (hx : x ≤ 59) (z : Bs) (e2 : T.extract 7 T.size = bs z) (hf : Pl.frac L6 = false) (hok : ¬ Pl.dateOk y m d) :
    Calls Tryz.prog 108 #[.string lay, .string (bs l)] w (ErrT w) := by
  have hF := frac_no _ hf
  have HF := Lib.hid hF; clear hF
  by_cases hL : L6 = z
  rotate_left
  · exact Parse_nofrac l L1 L2 L3 y m d lay T hlay e1 hT w h1 h2 h3 hm0 hm1 hne3 h84 h n x L4 L5 L6 h4 hh h5 hn h6 hx z e2 hf hL
  have hq : ((bs L6).toList == (bs z).toList) = true := by rw [hL, beq_iff_eq]
  clear hL hf
  have hd := dig_lt h3; have hmm := dig_lt h2; have hyy := dig_lt h1
  have hT0 : T.toList.isEmpty = false := isEmpty_of_size (by omega)
  have h3l : 0 < L3.length := List.length_pos_iff.2 hne3
  have hs3 : (bs L3).size = L3.length := bs_size _
  have hnb3 : ((L3.length : Int) == 0) = false := by rw [beq_eq_false_iff_ne]; omega
  have c1 := fun w => dig_ok h1 4 rfl w (by omega) (by omega)
  have c2 := fun w => dig_ok h2 2 rfl w (by omega) (by omega)
  have c3 := fun w => dig_ok h3 2 rfl w (by omega) (by omega)
  clear h1 h2 h3
  have hi3 : ((bs L3)[0]'(by omega)).toNat = 84 := by
    have := list_get (bs L3) 0 (by omega)
    rw [bs_list, h84] at this; injection this with this; rw [← this]; rfl
  clear h84
  have hx1 : (bs L3).extract 1 L3.length = bs (L3.drop 1) := by rw [bs_extract, bs_list, List.take_length]
  have c4 := fun w => dig_ok h4 2 rfl w (by omega) (by omega)
  have c5 := fun w => dig_ok h5 2 rfl w (by omega) (by omega)
  have c6 := fun w => dig_ok h6 2 rfl w (by omega) (by omega)
  have hs6l : L6.length ≤ 1000000 := by rw [h6.rest, List.length_drop]; have := h6.small; omega
  rw [← hx1] at c4
  clear hx1 h4 h5 h6
  have HB0 : Hid (Block (w.alloc (.cells zTime 59)) w.heap.size zTime) := ⟨59, heap_alloc_new w _⟩
  have hball := Below.refl (w.alloc (.cells zTime 59)).heap.size (w.alloc (.cells zTime 59))
  unfold zTime at HB0 hball
  go_enter Tryz.func108, Tryz.ntmps108
  go_wp2_with fail
  change Hid (Block _ w.heap.size zTime) at HB0
  go_wp2_with (first | (go_at_call 67; refine (New_any _ _).mono ?_; rintro e w' ⟨⟨t, u, rfl⟩, hbx⟩; have hball := hball.trans (hbx.mono hball.size); clear hbx) | (go_at_call 130; with_reducible refine (c1 _).mono ?_; rintro e w' ⟨rfl, hbx⟩; have hball := hball.trans (hbx.mono hball.size); clear hbx) | (go_at_call 130; with_reducible refine (c2 _).mono ?_; rintro e w' ⟨rfl, hbx⟩; have hball := hball.trans (hbx.mono hball.size); clear hbx) | (go_at_call 130; with_reducible refine (c3 _).mono ?_; rintro e w' ⟨rfl, hbx⟩; have hball := hball.trans (hbx.mono hball.size); clear hbx) | (go_at_call 130; with_reducible refine (c4 _).mono ?_; rintro e w' ⟨rfl, hbx⟩; have hball := hball.trans (hbx.mono hball.size); clear hbx) | (go_at_call 130; with_reducible refine (c5 _).mono ?_; rintro e w' ⟨rfl, hbx⟩; have hball := hball.trans (hbx.mono hball.size); clear hbx))
  go_upto_region 25 with (go_at_call 130; with_reducible refine (c6 _).mono ?_; rintro e w' ⟨rfl, hbx⟩; have hball := hball.trans (hbx.mono hball.size); clear hbx)
  go_cut [135] (fun c wx => c = .bool false ∧ wx = w')
  case first =>
    go_wp2_with fail
    all_goals go_meet
    all_goals first | exact ⟨rfl, rfl⟩ | exact absurd ⟨by omega, by omega, by omega⟩ (HF.out (by omega)) | exact ⟨congrArg Value.bool (decide_eq_false (fun h57 => HF.out (by omega) ⟨by omega, by omega, by omega⟩)), rfl⟩
  case rest =>
    obtain ⟨rfl, rfl⟩ := hcut
    by_cases hd0 : 1 ≤ d
    · have hdm : Pl.mdays m y < d := by
        rcases Int.lt_or_le (Pl.mdays m y) d with h | h
        · exact h
        · exact absurd ⟨hm0, hm1, hd0, h⟩ hok
      clear hok
      go_wp2_with (first | (go_at_call 113; refine (monthDays_any _ _ _).mono ?_; rintro e w' ⟨rfl, rfl⟩) | (refine wpList_store_block rfl 59 _ _ rfl w.heap.size zTime zTime rfl rfl (HB0.out.below hball) rfl (by kernel_rfl) zTime_one ?_; intro wz hBz hbbz))
      refine bodyPost_ret (v := .tuple #[vTime 0 0, .iface t u]) (results_block_tmp Tryz.results108 _ _ w.heap.size zTime _ rfl hBz Tryz.underlying59 rfl (by kernel_rfl)) rfl ⟨⟨t, u, rfl⟩, own_store ((ButBelow.of_below hball).trans hbbz)⟩
    · clear hok
      go_wp2_with (first | (go_at_call 113; refine (monthDays_any _ _ _).mono ?_; rintro e w' ⟨rfl, rfl⟩) | (refine wpList_store_block rfl 59 _ _ rfl w.heap.size zTime zTime rfl rfl (HB0.out.below hball) rfl (by kernel_rfl) zTime_one ?_; intro wz hBz hbbz))
      refine bodyPost_ret (v := .tuple #[vTime 0 0, .iface t u]) (results_block_tmp Tryz.results108 _ _ w.heap.size zTime _ rfl hBz Tryz.underlying59 rfl (by kernel_rfl)) rfl ⟨⟨t, u, rfl⟩, own_store ((ButBelow.of_below hball).trans hbbz)⟩
end Go.Proofs.YthkgjhnckakliaaGreatDoorR
namespace Go.Proofs.YthkgjhnckakliaaGreatDoorR
open Go.RowKit

set_option maxHeartbeats 8000000 in
set_option maxRecDepth 100000 in
theorem Parse_fracday (l L1 L2 L3 : Bs) (y m d : Nat) (lay T : ByteArray) (hlay : 8 ≤ lay.size) (e1 : lay.extract 8 lay.size = T) (hT : 7 ≤ T.size) (w : World) (h1 : DigOk l 4 y L1) (h2 : DigOk L1 2 m L2) (h3 : DigOk L2 2 d L3) (hm0 : 1 ≤ m) (hm1 : m ≤ 12) (hne3 : ¬ (L3 = [])) (h84 : L3[0]? = some 84) (h n x : Nat) (L4 L5 L6 : Bs) (h4 : DigOk (L3.drop 1) 2 h L4) (hh : h ≤ 23) (h5 : DigOk L4 2 n L5) (hn : n ≤ 59) (h6 : DigOk L5 2 x L6) (hx : x ≤ 59) (z : Bs) (e2 : T.extract 7 T.size = bs z) (hf : Pl.frac L6 = true) (hok : ¬ Pl.dateOk y m d) :
    Calls Tryz.prog 108 #[.string lay, .string (bs l)] w (ErrT w) := by
  obtain ⟨h26, hFF⟩ := frac_yes _ hf
  have HF := Lib.hid hFF; clear hFF hf
  have hd := dig_lt h3; have hmm := dig_lt h2; have hyy := dig_lt h1
  have hT0 : T.toList.isEmpty = false := isEmpty_of_size (by omega)
  have h3l : 0 < L3.length := List.length_pos_iff.2 hne3
  have hs3 : (bs L3).size = L3.length := bs_size _
  have hnb3 : ((L3.length : Int) == 0) = false := by rw [beq_eq_false_iff_ne]; omega
  have c1 := fun w => dig_ok h1 4 rfl w (by omega) (by omega)
  have c2 := fun w => dig_ok h2 2 rfl w (by omega) (by omega)
  have c3 := fun w => dig_ok h3 2 rfl w (by omega) (by omega)
  clear h1 h2 h3
  have hi3 : ((bs L3)[0]'(by omega)).toNat = 84 := by
    have := list_get (bs L3) 0 (by omega)
    rw [bs_list, h84] at this; injection this with this; rw [← this]; rfl
  clear h84
  have hx1 : (bs L3).extract 1 L3.length = bs (L3.drop 1) := by rw [bs_extract, bs_list, List.take_length]
  have c4 := fun w => dig_ok h4 2 rfl w (by omega) (by omega)
  have c5 := fun w => dig_ok h5 2 rfl w (by omega) (by omega)
  have c6 := fun w => dig_ok h6 2 rfl w (by omega) (by omega)
  have hs6l : L6.length ≤ 1000000 := by rw [h6.rest, List.length_drop]; have := h6.small; omega
  rw [← hx1] at c4
  clear hx1 h4 h5 h6
  have hs6 : (bs L6).size = L6.length := bs_size _
  have HDAY : Hid (1 ≤ d → Pl.mdays m y < d) := fun hd0 => by
    rcases Int.lt_or_le (Pl.mdays m y) d with h | h
    · exact h
    · exact absurd ⟨hm0, hm1, hd0, h⟩ hok
  clear hok
  have HB0 : Hid (Block (w.alloc (.cells zTime 59)) w.heap.size zTime) := ⟨59, heap_alloc_new w _⟩
  have hball := Below.refl (w.alloc (.cells zTime 59)).heap.size (w.alloc (.cells zTime 59))
  unfold zTime at HB0 hball
  go_enter Tryz.func108, Tryz.ntmps108
  go_wp2_with fail
  change Hid (Block _ w.heap.size zTime) at HB0
  go_wp2_with (first | (go_at_call 67; refine (New_any _ _).mono ?_; rintro e w' ⟨⟨t, u, rfl⟩, hbx⟩; have hball := hball.trans (hbx.mono hball.size); clear hbx) | (go_at_call 130; with_reducible refine (c1 _).mono ?_; rintro e w' ⟨rfl, hbx⟩; have hball := hball.trans (hbx.mono hball.size); clear hbx) | (go_at_call 130; with_reducible refine (c2 _).mono ?_; rintro e w' ⟨rfl, hbx⟩; have hball := hball.trans (hbx.mono hball.size); clear hbx) | (go_at_call 130; with_reducible refine (c3 _).mono ?_; rintro e w' ⟨rfl, hbx⟩; have hball := hball.trans (hbx.mono hball.size); clear hbx) | (go_at_call 130; with_reducible refine (c4 _).mono ?_; rintro e w' ⟨rfl, hbx⟩; have hball := hball.trans (hbx.mono hball.size); clear hbx) | (go_at_call 130; with_reducible refine (c5 _).mono ?_; rintro e w' ⟨rfl, hbx⟩; have hball := hball.trans (hbx.mono hball.size); clear hbx))
  go_upto_region 25 with (go_at_call 130; with_reducible refine (c6 _).mono ?_; rintro e w' ⟨rfl, hbx⟩; have hball := hball.trans (hbx.mono hball.size); clear hbx)
  go_cut [135] (fun c wx => c = .bool true ∧ wx = w')
  case first =>
    go_wp2_with fail
    all_goals go_meet
    all_goals first | exact ⟨rfl, rfl⟩ | exact ⟨congrArg Value.bool (decide_eq_true (by have := HF.out; omega)), rfl⟩ | (exfalso; have := HF.out; omega)
  case rest =>
    obtain ⟨rfl, rfl⟩ := hcut
    clear HF c1 c2 c3 c4 c5 c6
    go_wp2_with fail
    go_loopw [15, 14, 16] (fun i v u wl => ∃ (k : Nat) (a b : Int), 1 ≤ k ∧ k ≤ L6.length ∧ i = .int .i64 k ∧ v = .int .i64 a ∧ u = .int .i64 b ∧ Below wc.heap.size wc wl) (fun i _ _ _ => L6.length - (intOf i).toNat)
    case atStart => exact ⟨1, 0, 100000000, by omega, by omega, rfl, rfl, rfl, Below.refl _ _⟩
    case round =>
      obtain ⟨k, a, b, hk1, hk2, rfl, rfl, rfl, hbw⟩ := hrel
      have hball := hball.trans (hbw.mono hball.size)
      by_cases hlt : k < L6.length
      · have hkb : k < (bs L6).size := by omega
        by_cases hlo : 48 ≤ (bs L6)[k].toNat
        · by_cases hhi : (bs L6)[k].toNat ≤ 57
          · have hsub : IntKind.u8.wrap (((bs L6)[k].toNat : Int) - 48) = ((bs L6)[k].toNat : Int) - 48 := by simp [IntKind.wrap, IntKind.bits, IntKind.signed]; omega
            go_wp2
            go_roundw
            case rel => exact ⟨k + 1, _, _, by omega, by omega, by go_num, rfl, rfl, hbw⟩
            case measure => simp [intOf]; omega
          · rcases hq : ((bs L6).extract k L6.length).toList == (bs z).toList with _ | _
            · go_wp2_with (refine wpList_store_block rfl 59 _ _ rfl w.heap.size zTime zTime rfl rfl (HB0.out.below hball) rfl (by kernel_rfl) zTime_one ?_; intro wz hBz hbbz)
              refine bodyPost_ret (v := .tuple #[vTime 0 0, .iface t u]) (results_block_tmp Tryz.results108 _ _ w.heap.size zTime _ rfl hBz Tryz.underlying59 rfl (by kernel_rfl)) rfl ⟨⟨t, u, rfl⟩, own_store ((ButBelow.of_below hball).trans hbbz)⟩
            · by_cases hd0 : 1 ≤ d
              · have hdm := HDAY.out hd0
                go_wp2_with (first | (go_at_call 113; refine (monthDays_any _ _ _).mono ?_; rintro e w' ⟨rfl, rfl⟩) | (refine wpList_store_block rfl 59 _ _ rfl w.heap.size zTime zTime rfl rfl (HB0.out.below hball) rfl (by kernel_rfl) zTime_one ?_; intro wz hBz hbbz))
                refine bodyPost_ret (v := .tuple #[vTime 0 0, .iface t u]) (results_block_tmp Tryz.results108 _ _ w.heap.size zTime _ rfl hBz Tryz.underlying59 rfl (by kernel_rfl)) rfl ⟨⟨t, u, rfl⟩, own_store ((ButBelow.of_below hball).trans hbbz)⟩
              · go_wp2_with (first | (go_at_call 113; refine (monthDays_any _ _ _).mono ?_; rintro e w' ⟨rfl, rfl⟩) | (refine wpList_store_block rfl 59 _ _ rfl w.heap.size zTime zTime rfl rfl (HB0.out.below hball) rfl (by kernel_rfl) zTime_one ?_; intro wz hBz hbbz))
                refine bodyPost_ret (v := .tuple #[vTime 0 0, .iface t u]) (results_block_tmp Tryz.results108 _ _ w.heap.size zTime _ rfl hBz Tryz.underlying59 rfl (by kernel_rfl)) rfl ⟨⟨t, u, rfl⟩, own_store ((ButBelow.of_below hball).trans hbbz)⟩
        · rcases hq : ((bs L6).extract k L6.length).toList == (bs z).toList with _ | _
          · go_wp2_with (refine wpList_store_block rfl 59 _ _ rfl w.heap.size zTime zTime rfl rfl (HB0.out.below hball) rfl (by kernel_rfl) zTime_one ?_; intro wz hBz hbbz)
            refine bodyPost_ret (v := .tuple #[vTime 0 0, .iface t u]) (results_block_tmp Tryz.results108 _ _ w.heap.size zTime _ rfl hBz Tryz.underlying59 rfl (by kernel_rfl)) rfl ⟨⟨t, u, rfl⟩, own_store ((ButBelow.of_below hball).trans hbbz)⟩
          · by_cases hd0 : 1 ≤ d
            · have hdm := HDAY.out hd0
              go_wp2_with (first | (go_at_call 113; refine (monthDays_any _ _ _).mono ?_; rintro e w' ⟨rfl, rfl⟩) | (refine wpList_store_block rfl 59 _ _ rfl w.heap.size zTime zTime rfl rfl (HB0.out.below hball) rfl (by kernel_rfl) zTime_one ?_; intro wz hBz hbbz))
              refine bodyPost_ret (v := .tuple #[vTime 0 0, .iface t u]) (results_block_tmp Tryz.results108 _ _ w.heap.size zTime _ rfl hBz Tryz.underlying59 rfl (by kernel_rfl)) rfl ⟨⟨t, u, rfl⟩, own_store ((ButBelow.of_below hball).trans hbbz)⟩
            · go_wp2_with (first | (go_at_call 113; refine (monthDays_any _ _ _).mono ?_; rintro e w' ⟨rfl, rfl⟩) | (refine wpList_store_block rfl 59 _ _ rfl w.heap.size zTime zTime rfl rfl (HB0.out.below hball) rfl (by kernel_rfl) zTime_one ?_; intro wz hBz hbbz))
              refine bodyPost_ret (v := .tuple #[vTime 0 0, .iface t u]) (results_block_tmp Tryz.results108 _ _ w.heap.size zTime _ rfl hBz Tryz.underlying59 rfl (by kernel_rfl)) rfl ⟨⟨t, u, rfl⟩, own_store ((ButBelow.of_below hball).trans hbbz)⟩
      · rcases hq : ((bs L6).extract k L6.length).toList == (bs z).toList with _ | _
        · go_wp2_with (refine wpList_store_block rfl 59 _ _ rfl w.heap.size zTime zTime rfl rfl (HB0.out.below hball) rfl (by kernel_rfl) zTime_one ?_; intro wz hBz hbbz)
          refine bodyPost_ret (v := .tuple #[vTime 0 0, .iface t u]) (results_block_tmp Tryz.results108 _ _ w.heap.size zTime _ rfl hBz Tryz.underlying59 rfl (by kernel_rfl)) rfl ⟨⟨t, u, rfl⟩, own_store ((ButBelow.of_below hball).trans hbbz)⟩
        · by_cases hd0 : 1 ≤ d
          · have hdm := HDAY.out hd0
            go_wp2_with (first | (go_at_call 113; refine (monthDays_any _ _ _).mono ?_; rintro e w' ⟨rfl, rfl⟩) | (refine wpList_store_block rfl 59 _ _ rfl w.heap.size zTime zTime rfl rfl (HB0.out.below hball) rfl (by kernel_rfl) zTime_one ?_; intro wz hBz hbbz))
            refine bodyPost_ret (v := .tuple #[vTime 0 0, .iface t u]) (results_block_tmp Tryz.results108 _ _ w.heap.size zTime _ rfl hBz Tryz.underlying59 rfl (by kernel_rfl)) rfl ⟨⟨t, u, rfl⟩, own_store ((ButBelow.of_below hball).trans hbbz)⟩
          · go_wp2_with (first | (go_at_call 113; refine (monthDays_any _ _ _).mono ?_; rintro e w' ⟨rfl, rfl⟩) | (refine wpList_store_block rfl 59 _ _ rfl w.heap.size zTime zTime rfl rfl (HB0.out.below hball) rfl (by kernel_rfl) zTime_one ?_; intro wz hBz hbbz))
            refine bodyPost_ret (v := .tuple #[vTime 0 0, .iface t u]) (results_block_tmp Tryz.results108 _ _ w.heap.size zTime _ rfl hBz Tryz.underlying59 rfl (by kernel_rfl)) rfl ⟨⟨t, u, rfl⟩, own_store ((ButBelow.of_below hball).trans hbbz)⟩
end Go.Proofs.YthkgjhnckakliaaGreatDoorR
namespace Go.Proofs.YthkgjhnckakliaaGreatDoorR
open Go.RowKit
/-- A time and no error where there is one, else the zero time and an error. -/
def ErrIs (o : Option Int) (v : Int) (err : Value) : Prop := (o = some v ∧ err = .nilIface) ∨ (o = none ∧ v = 0 ∧ IsErr err)
def TRes (o : Option Int) (w : World) (e : Ending) (w' : World) : Prop := ∃ v err, e = .returned (.tuple #[vTime v 0, err]) ∧ ErrIs o v err ∧ Below w.heap.size w w'
theorem OkT.res {m : Int} {w : World} {e : Ending} {w' : World} (h : OkT m w e w') : TRes (some m) w e w' := ⟨m, .nilIface, h.1, Or.inl ⟨rfl, rfl⟩, h.2⟩
theorem ErrT.res {w : World} {e : Ending} {w' : World} (h : ErrT w e w') : TRes none w e w' := by
  obtain ⟨⟨t, u, h1⟩, h2⟩ := h; exact ⟨0, _, h1, Or.inr ⟨rfl, rfl, t, u, rfl⟩, h2⟩
namespace Pl
/-- What a package's reader makes of a moment. -/
def momOut (l : Bs) : Option Int := if (moment l).2 = 0 then some (moment l).1 else none
theorem momOut_right {l : Bs} {t : Int} (h : moment l = (t, 0)) : momOut l = some t := by unfold momOut; rw [h]; rfl
theorem momOut_wrong {l : Bs} (h : moment l = (0, 1)) : momOut l = none := by unfold momOut; rw [h]; rfl
end Pl
theorem DigOk.mk' (l : Bs) (p n v : Nat) (hs : l.length ≤ 1000000) (hn : 1 ≤ n) (h : Pl.digitsAt l p n = some v) : DigOk (l.drop p) n v (l.drop (p + n)) :=
  ⟨by simp; omega, by rw [Pl.digitsAt_drop _ _ _ _ hn]; exact h, by rw [List.drop_drop]⟩
theorem DigNo.mk' (l : Bs) (p n : Nat) (hs : l.length ≤ 1000000) (hn : 1 ≤ n) (h : Pl.digitsAt l p n = none) : DigNo (l.drop p) n :=
  ⟨by simp; omega, by rw [Pl.digitsAt_drop _ _ _ _ hn]; exact h⟩

theorem Parse_moment8 (l : Bs) (w : World) (hs : l.length ≤ 1000000) (h8 : l.length = 8) :
    Calls Tryz.prog 108 #[.string ⟨#[50, 48, 48, 54, 48, 49, 48, 50]⟩, .string (bs l)] w (TRes (Pl.momOut l) w) := by
  have e0 : l.drop 0 = l := List.drop_zero
  cases h1 : Pl.digitsAt l 0 4 with
  | none =>
    rw [Pl.momOut_wrong (by unfold Pl.moment; rw [h1])]
    have := DigNo.mk' l 0 4 hs (by omega) h1; rw [e0] at this
    exact (Parse_noyear _ l w this).mono fun _ _ => ErrT.res
  | some y =>
    have k1 := DigOk.mk' l 0 4 y hs (by omega) h1; rw [e0] at k1
    cases h2 : Pl.digitsAt l 4 2 with
    | none =>
      rw [Pl.momOut_wrong (by unfold Pl.moment; rw [h1, h2])]
      exact (Parse_nomonth _ l _ y w k1 (DigNo.mk' l 4 2 hs (by omega) h2)).mono fun _ _ => ErrT.res
    | some m =>
      have k2 := DigOk.mk' l 4 2 m hs (by omega) h2
      by_cases hm : 1 ≤ m ∧ m ≤ 12
      rotate_left
      · rw [Pl.momOut_wrong]
        · exact (Parse_badmonth _ l _ _ y m w k1 k2 hm).mono fun _ _ => ErrT.res
        · unfold Pl.moment; rw [h1, h2]
          cases h3 : Pl.digitsAt l 6 2 with
          | none => rfl
          | some d => simp only; rw [if_neg]; intro hd; exact hm ⟨hd.1, hd.2.1⟩
      · cases h3 : Pl.digitsAt l 6 2 with
        | none =>
          rw [Pl.momOut_wrong (by unfold Pl.moment; rw [h1, h2, h3])]
          exact (Parse_noday _ l _ _ y m w k1 k2 hm.1 hm.2 (DigNo.mk' l 6 2 hs (by omega) h3)).mono fun _ _ => ErrT.res
        | some d =>
          have k3 := DigOk.mk' l 6 2 d hs (by omega) h3
          have hL : l.drop (6 + 2) = [] := List.drop_of_length_le (by omega)
          by_cases hok : Pl.dateOk y m d
          · rw [Pl.momOut_right (t := Pl.daysOf y m d * 86400) (by unfold Pl.moment; rw [h1, h2, h3]; simp only; rw [if_pos hok, if_pos h8])]
            exact (Parse_date l _ _ _ y m d w k1 k2 k3 hm.1 hm.2 hL hok).mono fun _ _ => OkT.res
          · rw [Pl.momOut_wrong (by unfold Pl.moment; rw [h1, h2, h3]; simp only; rw [if_neg hok])]
            exact (Parse_baddate l _ _ _ y m d w k1 k2 k3 hm.1 hm.2 hL hok).mono fun _ _ => ErrT.res

/-- The forms with a time: z is what must stand behind it. -/
theorem Parse_moment (l : Bs) (lay T : ByteArray) (z : Bs) (hlay : 8 ≤ lay.size) (e1 : lay.extract 8 lay.size = T) (hT : 7 ≤ T.size) (e2 : T.extract 7 T.size = bs z) (w : World) (hs : l.length ≤ 1000000) (h8 : l.length ≠ 8) (hz : (l.length = 15 ∧ z = []) ∨ (l.length ≠ 15 ∧ z = [90])) (hm2 : (Pl.moment l).2 ≠ 2) :
    Calls Tryz.prog 108 #[.string lay, .string (bs l)] w (TRes (Pl.momOut l) w) := by
  have e0 : l.drop 0 = l := List.drop_zero
  cases h1 : Pl.digitsAt l 0 4 with
  | none =>
    rw [Pl.momOut_wrong (by unfold Pl.moment; rw [h1])]
    have := DigNo.mk' l 0 4 hs (by omega) h1; rw [e0] at this
    exact (Parse_noyear _ l w this).mono fun _ _ => ErrT.res
  | some y =>
  have k1 := DigOk.mk' l 0 4 y hs (by omega) h1; rw [e0] at k1
  cases h2 : Pl.digitsAt l 4 2 with
  | none =>
    rw [Pl.momOut_wrong (by unfold Pl.moment; rw [h1, h2])]
    exact (Parse_nomonth _ l _ y w k1 (DigNo.mk' l 4 2 hs (by omega) h2)).mono fun _ _ => ErrT.res
  | some m =>
  have k2 := DigOk.mk' l 4 2 m hs (by omega) h2
  by_cases hm : 1 ≤ m ∧ m ≤ 12
  rotate_left
  · rw [Pl.momOut_wrong]
    · exact (Parse_badmonth _ l _ _ y m w k1 k2 hm).mono fun _ _ => ErrT.res
    · unfold Pl.moment; rw [h1, h2]
      cases h3 : Pl.digitsAt l 6 2 with
      | none => rfl
      | some d => simp only; rw [if_neg]; intro hd; exact hm ⟨hd.1, hd.2.1⟩
  cases h3 : Pl.digitsAt l 6 2 with
  | none =>
    rw [Pl.momOut_wrong (by unfold Pl.moment; rw [h1, h2, h3])]
    exact (Parse_noday _ l _ _ y m w k1 k2 hm.1 hm.2 (DigNo.mk' l 6 2 hs (by omega) h3)).mono fun _ _ => ErrT.res
  | some d =>
  have k3 := DigOk.mk' l 6 2 d hs (by omega) h3
  have hl8 := Pl.digitsAt_len h3
  have hne3 : ¬ (l.drop (6 + 2) = []) := fun h => by have := List.drop_eq_nil_iff.1 h; omega
  obtain ⟨hm0, hm1⟩ := hm
  have hmom : Pl.moment l = if Pl.dateOk y m d then
      match Pl.digitsAt l 9 2, Pl.digitsAt l 11 2, Pl.digitsAt l 13 2 with
      | some h, some n, some x =>
        if Pl.timeOk l h n x then
          if l.length = 15 ∨ l.length = 16 ∧ l[15]? = some 90 then (Pl.daysOf y m d * 86400 + (h * 3600 + n * 60 + x), 0)
          else if l[15]? = some 46 ∨ l[15]? = some 44 then (0, 2) else (0, 1)
        else (0, 1)
      | _, _, _ => (0, 1)
    else (0, 1) := by unfold Pl.moment; rw [h1, h2, h3]; simp only; rw [if_neg h8]; rfl
  have hw1 : (Pl.dateOk y m d → Pl.moment l = (0, 1)) → Pl.moment l = (0, 1) := fun h => by
    by_cases hok : Pl.dateOk y m d
    · exact h hok
    · rw [hmom, if_neg hok]
  have hdd : (l.drop (6 + 2)).drop 1 = l.drop 9 := by rw [List.drop_drop]
  by_cases h84 : (l.drop (6 + 2))[0]? = some 84
  rotate_left
  · rw [Pl.momOut_wrong]
    · exact (Parse_noT l _ _ _ y m d lay T hlay e1 hT w k1 k2 k3 hm0 hm1 hne3 h84).mono fun _ _ => ErrT.res
    · refine hw1 fun hok => ?_
      rw [hmom, if_pos hok]
      have h84' : l[8]? ≠ some 84 := by rw [List.getElem?_drop] at h84; exact h84
      cases Pl.digitsAt l 9 2 <;> cases Pl.digitsAt l 11 2 <;> cases Pl.digitsAt l 13 2 <;> first | rfl | (simp only; rw [if_neg]; intro ht; exact h84' ht.1)
  cases h4 : Pl.digitsAt l 9 2 with
  | none =>
    rw [Pl.momOut_wrong (hw1 fun hok => by rw [hmom, if_pos hok, h4])]
    exact (Parse_nohour l _ _ _ y m d lay T hlay e1 hT w k1 k2 k3 hm0 hm1 hne3 h84 (by rw [hdd]; exact DigNo.mk' l 9 2 hs (by omega) h4)).mono fun _ _ => ErrT.res
  | some h =>
  have k4 := DigOk.mk' l 9 2 h hs (by omega) h4
  rw [← hdd] at k4
  by_cases hh : h ≤ 23
  rotate_left
  · rw [Pl.momOut_wrong]
    · exact (Parse_badhour l _ _ _ y m d lay T hlay e1 hT w k1 k2 k3 hm0 hm1 hne3 h84 h _ k4 (by omega)).mono fun _ _ => ErrT.res
    · refine hw1 fun hok => ?_
      rw [hmom, if_pos hok, h4]
      cases Pl.digitsAt l 11 2 <;> cases Pl.digitsAt l 13 2 <;> first | rfl | (simp only; rw [if_neg]; intro ht; exact hh ht.2.1)
  cases h5 : Pl.digitsAt l 11 2 with
  | none =>
    rw [Pl.momOut_wrong (hw1 fun hok => by rw [hmom, if_pos hok, h4, h5])]
    exact (Parse_nomin l _ _ _ y m d lay T hlay e1 hT w k1 k2 k3 hm0 hm1 hne3 h84 h _ k4 hh (DigNo.mk' l 11 2 hs (by omega) h5)).mono fun _ _ => ErrT.res
  | some n =>
  have k5 := DigOk.mk' l 11 2 n hs (by omega) h5
  by_cases hn : n ≤ 59
  rotate_left
  · rw [Pl.momOut_wrong]
    · exact (Parse_badmin l _ _ _ y m d lay T hlay e1 hT w k1 k2 k3 hm0 hm1 hne3 h84 h n _ _ k4 hh k5 (by omega)).mono fun _ _ => ErrT.res
    · refine hw1 fun hok => ?_
      rw [hmom, if_pos hok, h4, h5]
      cases Pl.digitsAt l 13 2 <;> first | rfl | (simp only; rw [if_neg]; intro ht; exact hn ht.2.2.1)
  cases h6 : Pl.digitsAt l 13 2 with
  | none =>
    rw [Pl.momOut_wrong (hw1 fun hok => by rw [hmom, if_pos hok, h4, h5, h6])]
    exact (Parse_nosec l _ _ _ y m d lay T hlay e1 hT w k1 k2 k3 hm0 hm1 hne3 h84 h n _ _ k4 hh k5 hn (DigNo.mk' l 13 2 hs (by omega) h6)).mono fun _ _ => ErrT.res
  | some x =>
  have k6 := DigOk.mk' l 13 2 x hs (by omega) h6
  by_cases hx : x ≤ 59
  rotate_left
  · rw [Pl.momOut_wrong]
    · exact (Parse_badsec l _ _ _ y m d lay T hlay e1 hT w k1 k2 k3 hm0 hm1 hne3 h84 h n x _ _ _ k4 hh k5 hn k6 (by omega)).mono fun _ _ => ErrT.res
    · refine hw1 fun hok => ?_
      rw [hmom, if_pos hok, h4, h5, h6]; simp only; rw [if_neg]; intro ht; exact hx ht.2.2.2
  have hl15 := Pl.digitsAt_len h6
  have h84' : l[8]? = some 84 := by rw [List.getElem?_drop] at h84; exact h84
  have htime : Pl.timeOk l h n x := ⟨h84', hh, hn, hx⟩
  rw [h4, h5, h6] at hmom
  simp only [if_pos htime] at hmom
  by_cases hok : Pl.dateOk y m d
  · rw [if_pos hok] at hmom
    by_cases hL : l.drop (13 + 2) = z
    · have hcond : l.length = 15 ∨ l.length = 16 ∧ l[15]? = some 90 := by
        rcases hz with ⟨h15, _⟩ | ⟨h15, rfl⟩
        · exact Or.inl h15
        · have h16 := congrArg List.length hL
          have hg := congrArg (fun q => q[0]?) hL
          simp at h16 hg
          exact Or.inr ⟨by omega, hg⟩
      rw [if_pos hcond] at hmom
      rw [Pl.momOut_right hmom]
      exact (Parse_time l _ _ _ _ _ _ z y m d h n x lay T (bs z) hlay e1 hT e2 w k1 k2 k3 hok h84 k4 k5 k6 hh hn hx (by rcases hz with ⟨_, h⟩ | ⟨_, h⟩ <;> simp [h]) rfl hL).mono fun _ _ => OkT.res
    · have hcond : ¬ (l.length = 15 ∨ l.length = 16 ∧ l[15]? = some 90) := by
        rintro (h15 | ⟨h16, h90⟩)
        · rcases hz with ⟨_, rfl⟩ | ⟨h, _⟩
          · exact hL (List.drop_of_length_le (by omega))
          · exact h h15
        · rcases hz with ⟨h15, _⟩ | ⟨_, rfl⟩
          · omega
          · apply hL
            have hlt : 15 < l.length := by omega
            rw [List.getElem?_eq_getElem hlt] at h90; injection h90 with h90
            show l.drop 15 = _
            rw [List.drop_eq_getElem_cons hlt, h90, List.drop_of_length_le (by omega)]
      rw [if_neg hcond] at hmom
      by_cases ho : l[15]? = some 46 ∨ l[15]? = some 44
      · rw [if_pos ho] at hmom; rw [hmom] at hm2; exact absurd rfl hm2
      · rw [if_neg ho] at hmom
        rw [Pl.momOut_wrong hmom]
        refine (Parse_nofrac l _ _ _ y m d lay T hlay e1 hT w k1 k2 k3 hm0 hm1 hne3 h84 h n x _ _ _ k4 hh k5 hn k6 hx z e2 ?_ hL).mono fun _ _ => ErrT.res
        have hg : (l.drop (13 + 2))[0]? = l[15]? := by rw [List.getElem?_drop]
        match hq : l.drop (13 + 2) with
        | [] => rfl
        | [_] => rfl
        | a :: b :: r =>
          rw [hq] at hg
          have ha : l[15]? = some a := hg.symm
          rw [ha] at ho
          have h46 : ¬ a.toNat = 46 := fun h => ho (Or.inl (by rw [UInt8.toNat_inj.1 (show a.toNat = (46 : UInt8).toNat from h)]))
          have h44 : ¬ a.toNat = 44 := fun h => ho (Or.inr (by rw [UInt8.toNat_inj.1 (show a.toNat = (44 : UInt8).toNat from h)]))
          simp [Pl.frac, h46, h44]
  · rw [if_neg hok] at hmom
    rw [Pl.momOut_wrong hmom]
    cases hf : Pl.frac (l.drop (13 + 2)) with
    | false => exact (Parse_nofracday l _ _ _ y m d lay T hlay e1 hT w k1 k2 k3 hm0 hm1 hne3 h84 h n x _ _ _ k4 hh k5 hn k6 hx z e2 hf hok).mono fun _ _ => ErrT.res
    | true => exact (Parse_fracday l _ _ _ y m d lay T hlay e1 hT w k1 k2 k3 hm0 hm1 hne3 h84 h n x _ _ _ k4 hh k5 hn k6 hx z e2 hf hok).mono fun _ _ => ErrT.res
end Go.Proofs.YthkgjhnckakliaaGreatDoorR
namespace Go.Proofs.YthkgjhnckakliaaGreatDoorR
open Go.RowKit
theorem own_store2 {w w' : World} {o p : Obj} (h : ButBelow (w.heap.size + 1) ((w.alloc o).alloc p) w') : Below w.heap.size w w' :=
  (((Below.refl _ _).alloc (Nat.le_refl _) _).alloc (by simp) _).trans (h.own (by omega) (by simp; omega))

set_option maxHeartbeats 2000000 in
set_option maxRecDepth 100000 in
theorem ParseIn_of (lay s : ByteArray) (o : Option Int) (hp : ∀ w, Calls Tryz.prog 108 #[.string lay, .string s] w (TRes o w)) (w : World) :
    Calls Tryz.prog 107 #[.string lay, .string s, .agg #[]] w (TRes o w) := by
  have HB0 : Hid (Block ((w.alloc (.cells #[] 102)).alloc (.cells zTime 59)) (w.heap.size + 1) zTime) := ⟨59, by have := heap_alloc_new (w.alloc (.cells #[] 102)) (.cells zTime 59); simpa using this⟩
  have hball := Below.refl ((w.alloc (.cells #[] 102)).alloc (.cells zTime 59)).heap.size ((w.alloc (.cells #[] 102)).alloc (.cells zTime 59))
  have hone : ∀ x : Int, (#[Value.int .i64 x, .int .i64 0] : Array Value).all (·.oneCell') = true := fun x => by simp [Value.oneCell']
  unfold zTime at HB0 hball
  go_enter Tryz.func107, Tryz.ntmps107
  go_wp2_with fail
  refine (hp _).mono ?_
  rintro e w1 ⟨v, err, rfl, hE, hbx⟩
  have hball := hball.trans hbx
  change Hid (Block _ (w.heap.size + 1) zTime) at HB0
  go_wp2_with (refine wpList_store_block rfl 59 _ _ rfl (w.heap.size + 1) zTime _ rfl rfl (HB0.out.below hball) rfl (by kernel_rfl) (hone _) ?_; intro wz hBz hbbz)
  refine bodyPost_ret (v := .tuple #[vTime v 0, err]) (results_block_tmp Tryz.results107 _ _ (w.heap.size + 1) _ _ rfl hBz Tryz.underlying59 rfl (by kernel_rfl)) rfl ⟨v, err, rfl, hE, own_store2 ((ButBelow.of_below hball).trans hbbz)⟩

/-- strToTimeInLoc, where Parse reads the text as o at the form of the text's length. -/
def FormOf (n : Nat) : ByteArray := if n = 8 then ⟨#[50, 48, 48, 54, 48, 49, 48, 50]⟩ else if n = 15 then ⟨#[50, 48, 48, 54, 48, 49, 48, 50, 84, 49, 53, 48, 52, 48, 53]⟩ else ⟨#[50, 48, 48, 54, 48, 49, 48, 50, 84, 49, 53, 48, 52, 48, 53, 90]⟩
set_option maxHeartbeats 2000000 in
set_option maxRecDepth 100000 in
theorem toTime_of (s : ByteArray) (o : Option Int) (hp : ∀ w, Calls Tryz.prog 108 #[.string (FormOf s.size), .string s] w (TRes o w)) (w : World) :
    Calls Tryz.prog 72 #[.string s, .agg #[]] w (TRes o w) := by
  have HB0 : Hid (Block ((w.alloc (.cells #[] 102)).alloc (.cells zTime 59)) (w.heap.size + 1) zTime) := ⟨59, by have := heap_alloc_new (w.alloc (.cells #[] 102)) (.cells zTime 59); simpa using this⟩
  have hball := Below.refl ((w.alloc (.cells #[] 102)).alloc (.cells zTime 59)).heap.size ((w.alloc (.cells #[] 102)).alloc (.cells zTime 59))
  have hone : ∀ x : Int, (#[Value.int .i64 x, .int .i64 0] : Array Value).all (·.oneCell') = true := fun x => by simp [Value.oneCell']
  unfold zTime at HB0 hball
  have hpi := ParseIn_of _ _ o hp
  by_cases h8 : s.size = 8
  · have hF : FormOf s.size = ⟨#[50, 48, 48, 54, 48, 49, 48, 50]⟩ := by unfold FormOf; rw [if_pos h8]
    rw [hF] at hpi; clear hF hp
    have h8b : ((s.size : Int) == 8) = true := by rw [h8]; rfl
    have HH := Lib.hid h8; clear h8
    go_enter Tryz.func72, Tryz.ntmps72
    go_wp2_with fail
    refine (hpi _).mono ?_
    rintro e w1 ⟨v, err, rfl, hE, hbx⟩
    have hball := hball.trans hbx
    change Hid (Block _ (w.heap.size + 1) zTime) at HB0
    go_wp2_with (refine wpList_store_block rfl 59 _ _ rfl (w.heap.size + 1) zTime _ rfl rfl (HB0.out.below hball) rfl (by kernel_rfl) (hone _) ?_; intro wz hBz hbbz)
    refine bodyPost_ret (v := .tuple #[vTime v 0, err]) (results_block_tmp Tryz.results72 _ _ (w.heap.size + 1) _ _ rfl hBz Tryz.underlying59 rfl (by kernel_rfl)) rfl ⟨v, err, rfl, hE, own_store2 ((ButBelow.of_below hball).trans hbbz)⟩
  · have h8b : ((s.size : Int) == 8) = false := by rw [beq_eq_false_iff_ne]; omega
    by_cases h15 : s.size = 15
    · have hF : FormOf s.size = ⟨#[50, 48, 48, 54, 48, 49, 48, 50, 84, 49, 53, 48, 52, 48, 53]⟩ := by unfold FormOf; rw [if_neg h8, if_pos h15]
      rw [hF] at hpi; clear hF hp
      have h15b : ((s.size : Int) == 15) = true := by rw [h15]; rfl
      have HH := Lib.hid h8; have HH2 := Lib.hid h15; clear h8 h15
      go_enter Tryz.func72, Tryz.ntmps72
      go_wp2_with fail
      refine (hpi _).mono ?_
      rintro e w1 ⟨v, err, rfl, hE, hbx⟩
      have hball := hball.trans hbx
      change Hid (Block _ (w.heap.size + 1) zTime) at HB0
      go_wp2_with (refine wpList_store_block rfl 59 _ _ rfl (w.heap.size + 1) zTime _ rfl rfl (HB0.out.below hball) rfl (by kernel_rfl) (hone _) ?_; intro wz hBz hbbz)
      refine bodyPost_ret (v := .tuple #[vTime v 0, err]) (results_block_tmp Tryz.results72 _ _ (w.heap.size + 1) _ _ rfl hBz Tryz.underlying59 rfl (by kernel_rfl)) rfl ⟨v, err, rfl, hE, own_store2 ((ButBelow.of_below hball).trans hbbz)⟩
    · have hF : FormOf s.size = ⟨#[50, 48, 48, 54, 48, 49, 48, 50, 84, 49, 53, 48, 52, 48, 53, 90]⟩ := by unfold FormOf; rw [if_neg h8, if_neg h15]
      rw [hF] at hp; clear hF hpi
      have h15b : ((s.size : Int) == 15) = false := by rw [beq_eq_false_iff_ne]; omega
      have HH := Lib.hid h8; have HH2 := Lib.hid h15; clear h8 h15
      go_enter Tryz.func72, Tryz.ntmps72
      go_wp2_with fail
      refine (hp _).mono ?_
      rintro e w1 ⟨v, err, rfl, hE, hbx⟩
      have hball := hball.trans hbx
      change Hid (Block _ (w.heap.size + 1) zTime) at HB0
      go_wp2_with (refine wpList_store_block rfl 59 _ _ rfl (w.heap.size + 1) zTime _ rfl rfl (HB0.out.below hball) rfl (by kernel_rfl) (hone _) ?_; intro wz hBz hbbz)
      refine bodyPost_ret (v := .tuple #[vTime v 0, err]) (results_block_tmp Tryz.results72 _ _ (w.heap.size + 1) _ _ rfl hBz Tryz.underlying59 rfl (by kernel_rfl)) rfl ⟨v, err, rfl, hE, own_store2 ((ButBelow.of_below hball).trans hbbz)⟩

theorem toTime_any (l : Bs) (w : World) (hs : l.length ≤ 1000000) (hm2 : (Pl.moment l).2 ≠ 2) :
    Calls Tryz.prog 72 #[.string (bs l), .agg #[]] w (TRes (Pl.momOut l) w) := by
  refine toTime_of (bs l) _ (fun w => ?_) w
  rw [bs_size]
  unfold FormOf
  by_cases h8 : l.length = 8
  · rw [if_pos h8]; exact Parse_moment8 l w hs h8
  · rw [if_neg h8]
    by_cases h15 : l.length = 15
    · rw [if_pos h15]; exact Parse_moment l _ ⟨#[84, 49, 53, 48, 52, 48, 53]⟩ [] (by decide) (by rw [bs_extract]; rfl) (by decide) (by rw [bs_extract]; rfl) w hs h8 (Or.inl ⟨h15, rfl⟩) hm2
    · rw [if_neg h15]; exact Parse_moment l _ ⟨#[84, 49, 53, 48, 52, 48, 53, 90]⟩ [90] (by decide) (by rw [bs_extract]; rfl) (by decide) (by rw [bs_extract]; rfl) w hs h8 (Or.inr ⟨h15, rfl⟩) hm2
end Go.Proofs.YthkgjhnckakliaaGreatDoorR

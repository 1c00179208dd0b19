/- Contracts of the parts of a Time: its date, its time of day, its day of the week; and of adding a duration.
  Contracts of the reference's small text functions: ASCII, splitting, trimming, capital letters, beginnings, digits.
  errors.New.
  The step of a range over a string, in any world where the iterator lies. -/
import Derived.Test.YthkgjhnckakliaaGreatDoorRV02
import Derived.Deep.QuietTactic
import Derived.BigQuiet
import Derived.Lib.Space
import Derived.Lib.Case
import Derived.Laws.RangeString
namespace Go.Proofs.YthkgjhnckakliaaGreatDoorR
open Go.RowKit

namespace Pl
/-- The month of the x-th day (from 0 on) of a year, and the days of that year ahead of it. -/
theorem month_ex (y x : Int) (h0 : 0 ≤ x) (h1 : x < ydays y) : ∃ k : Nat, k ≤ 11 ∧ cum y k ≤ x ∧ x < cum y (k + 1) := by
  have h12 := cum12 y
  have : ∀ n : Nat, x < cum y n → ∃ k : Nat, k + 1 ≤ n ∧ cum y k ≤ x ∧ x < cum y (k + 1) := by
    intro n; induction n with
    | zero => intro h; simp [cum] at h; omega
    | succ n ih =>
      intro h
      by_cases h2 : x < cum y n
      · obtain ⟨k, a, b, c⟩ := ih h2; exact ⟨k, by omega, b, c⟩
      · exact ⟨n, by omega, by omega, h⟩
  obtain ⟨k, a, b, c⟩ := this 12 (by omega)
  exact ⟨k, by omega, b, c⟩
theorem cum_mono (y : Int) : ∀ (a b : Nat), a ≤ b → cum y a ≤ cum y b := by
  intro a b h; induction b with
  | zero => have : a = 0 := by omega
            subst this; exact Int.le_refl _
  | succ b ih =>
    by_cases h2 : a ≤ b
    · have := ih h2; have := mdays_bd ((b : Int) + 1) y; simp only [cum]; omega
    · have : a = b + 1 := by omega
      subst this; exact Int.le_refl _
/-- 'D days are the date (y, m, d)', d from 1 on. -/
structure Civ (D y m d : Int) : Prop where
  m0 : 1 ≤ m
  m1 : m ≤ 12
  d0 : 1 ≤ d
  d1 : d ≤ mdays m y
  eq : D = daysTo y + cum y (m - 1).toNat + (d - 1)
theorem civ_ex (D : Int) : ∃ m d, Civ D (yearOf D) m d := by
  have h := yearOf_in D
  rw [daysTo_succ] at h
  obtain ⟨k, a, b, c⟩ := month_ex (yearOf D) (D - daysTo (yearOf D)) (by omega) (by omega)
  refine ⟨(k : Int) + 1, D - daysTo (yearOf D) - cum (yearOf D) k + 1, by omega, by omega, by omega, ?_, ?_⟩
  · simp only [cum] at c; omega
  · have : ((k : Int) + 1 - 1).toNat = k := by omega
    rw [this]; omega
end Pl

set_option maxHeartbeats 1000000 in
theorem DateOf_any (s n m d : Int) (w : World) (h0 : -100000000000000 ≤ s) (h1 : s ≤ 100000000000000) (hc : Pl.Civ (s / 86400) (Pl.yearOf (s / 86400)) m d) : Calls Tryz.prog 96 #[vTime s n] w fun e w' =>
    e = .returned (.tuple #[.int .i64 (Pl.yearOf (s / 86400)), .int .i64 m, .int .i64 d]) ∧ Below w.heap.size w w' := by
  obtain ⟨m0, m1, d0, d1, eq⟩ := hc
  have HE := Lib.hid eq; clear eq
  have HX := Lib.hid (Pl.ydayOf_eq (s / 86400))
  go_enter Tryz.func96, Tryz.ntmps96
  go_wp2_with (go_at_call 119; refine (split_any _ _ _ (by omega) (by omega)).mono ?_; rintro e w1 ⟨rfl, hb⟩)
  go_loop [6, 8] (fun x i => ∃ k : Nat, (k : Int) + 1 ≤ m ∧ i = .int .i64 ((k : Int) + 1) ∧ x = .int .i64 (Pl.ydayOf (s / 86400) - Pl.cum (Pl.yearOf (s / 86400)) k)) (fun _ i => (14 - intOf i).toNat)
  case atStart => exact ⟨0, by omega, rfl, by simp [Pl.cum]⟩
  case round =>
    obtain ⟨k, hk, rfl, rfl⟩ := hrel
    have hcum := Pl.cum_bd (Pl.yearOf (s / 86400)) k
    have hcm := Pl.cum_bd (Pl.yearOf (s / 86400)) (m - 1).toNat
    have hm := Pl.mdays_bd ((k : Int) + 1) (Pl.yearOf (s / 86400))
    have hm2 := Pl.mdays_bd m (Pl.yearOf (s / 86400))
    have hx0 : 0 ≤ Pl.ydayOf (s / 86400) ∧ Pl.ydayOf (s / 86400) ≤ 1000 := by have := HE.out; have := HX.out; omega
    by_cases hlt : (k : Int) + 1 < m
    · have hmono := Pl.cum_mono (Pl.yearOf (s / 86400)) (k + 1) (m - 1).toNat (by omega)
      have hge : Pl.mdays ((k : Int) + 1) (Pl.yearOf (s / 86400)) ≤ Pl.ydayOf (s / 86400) - Pl.cum (Pl.yearOf (s / 86400)) k := by
        have := HE.out; have := HX.out; simp only [Pl.cum] at hmono; omega
      clear hmono
      go_wp2_with (go_at_call 113; refine (monthDays_any _ _ _).mono ?_; rintro e w' ⟨rfl, rfl⟩)
      go_round
      case rel => exact ⟨k + 1, by omega, by go_num, by simp only [Pl.cum]; congr 1; omega⟩
      case measure => simp [intOf]; omega
    · obtain rfl : m = (k : Int) + 1 := by omega
      have hk2 : ((k : Int) + 1 - 1).toNat = k := by omega
      have hlt2 : Pl.ydayOf (s / 86400) - Pl.cum (Pl.yearOf (s / 86400)) k < Pl.mdays ((k : Int) + 1) (Pl.yearOf (s / 86400)) := by
        have := HX.out; have := HE.out; rw [hk2] at this; omega
      have HK := Lib.hid hk2; clear hk2
      go_wp2_with (go_at_call 113; refine (monthDays_any _ _ _).mono ?_; rintro e w' ⟨rfl, rfl⟩)
      go_ret3
      refine ⟨ret_int3 rfl rfl ?_, ?_⟩
      · have h1 := HE.out; have h2 := HX.out; rw [HK.out] at h1; omega
      · exact Below.trans (by (repeat (first | exact Below.refl _ _ | refine Below.setCell ?_ (by simp) _ | refine Below.alloc ?_ (by simp) _ | refine Below.drew ?_ | refine below_drewN ?_ _))) (hb.mono (by simp))

/-- A call behind which what was in memory is as it was: nested in a call's own blocks. -/
theorem below_trans1 {w w1 : World} {o : Obj} (h : Below (w.alloc o).heap.size (w.alloc o) w1) : Below w.heap.size w w1 :=
  Below.trans (((Below.refl _ _).alloc (Nat.le_refl _) _)) (h.mono (by simp))

set_option maxHeartbeats 400000 in
theorem Month_any (s n m d : Int) (w : World) (h0 : -100000000000000 ≤ s) (h1 : s ≤ 100000000000000) (hc : Pl.Civ (s / 86400) (Pl.yearOf (s / 86400)) m d) : Calls Tryz.prog 81 #[vTime s n] w fun e w' =>
    e = .returned (.int .i64 m) ∧ Below w.heap.size w w' := by
  have HC := Lib.hid hc; clear hc
  go_enter Tryz.func81, Tryz.ntmps81
  go_wp2_with (go_at_call 96; refine (DateOf_any _ _ _ _ _ h0 h1 HC.out).mono ?_; rintro e w1 ⟨rfl, hb⟩)
  go_ret
  exact ⟨rfl, below_trans1 hb⟩

set_option maxHeartbeats 400000 in
theorem Day_any (s n m d : Int) (w : World) (h0 : -100000000000000 ≤ s) (h1 : s ≤ 100000000000000) (hc : Pl.Civ (s / 86400) (Pl.yearOf (s / 86400)) m d) : Calls Tryz.prog 82 #[vTime s n] w fun e w' =>
    e = .returned (.int .i64 d) ∧ Below w.heap.size w w' := by
  have HC := Lib.hid hc; clear hc
  go_enter Tryz.func82, Tryz.ntmps82
  go_wp2_with (go_at_call 96; refine (DateOf_any _ _ _ _ _ h0 h1 HC.out).mono ?_; rintro e w1 ⟨rfl, hb⟩)
  go_ret
  exact ⟨rfl, below_trans1 hb⟩

set_option maxHeartbeats 400000 in
theorem Clock_any (s n : Int) (w : World) (h0 : -100000000000000 ≤ s) (h1 : s ≤ 100000000000000) : Calls Tryz.prog 97 #[vTime s n] w fun e w' =>
    e = .returned (.tuple #[.int .i64 (s % 86400 / 3600), .int .i64 (s % 86400 / 60 % 60), .int .i64 (s % 86400 % 60)]) ∧ Below w.heap.size w w' := by
  go_enter Tryz.func97, Tryz.ntmps97
  go_wp2_with (go_at_call 119; refine (split_any _ _ _ h0 h1).mono ?_; rintro e w1 ⟨rfl, hb⟩)
  go_ret3
  exact ⟨ret_int3 rfl rfl rfl, below_trans1 hb⟩

set_option maxHeartbeats 400000 in
theorem Hour_any (s n : Int) (w : World) (h0 : -100000000000000 ≤ s) (h1 : s ≤ 100000000000000) : Calls Tryz.prog 85 #[vTime s n] w fun e w' =>
    e = .returned (.int .i64 (s % 86400 / 3600)) ∧ Below w.heap.size w w' := by
  go_enter Tryz.func85, Tryz.ntmps85
  go_wp2_with (go_at_call 97; refine (Clock_any _ _ _ h0 h1).mono ?_; rintro e w1 ⟨rfl, hb⟩)
  go_ret
  exact ⟨rfl, below_trans1 hb⟩

set_option maxHeartbeats 400000 in
theorem Minute_any (s n : Int) (w : World) (h0 : -100000000000000 ≤ s) (h1 : s ≤ 100000000000000) : Calls Tryz.prog 86 #[vTime s n] w fun e w' =>
    e = .returned (.int .i64 (s % 86400 / 60 % 60)) ∧ Below w.heap.size w w' := by
  go_enter Tryz.func86, Tryz.ntmps86
  go_wp2_with (go_at_call 97; refine (Clock_any _ _ _ h0 h1).mono ?_; rintro e w1 ⟨rfl, hb⟩)
  go_ret
  exact ⟨rfl, below_trans1 hb⟩

set_option maxHeartbeats 400000 in
theorem Second_any (s n : Int) (w : World) (h0 : -100000000000000 ≤ s) (h1 : s ≤ 100000000000000) : Calls Tryz.prog 87 #[vTime s n] w fun e w' =>
    e = .returned (.int .i64 (s % 86400 % 60)) ∧ Below w.heap.size w w' := by
  go_enter Tryz.func87, Tryz.ntmps87
  go_wp2_with (go_at_call 97; refine (Clock_any _ _ _ h0 h1).mono ?_; rintro e w1 ⟨rfl, hb⟩)
  go_ret
  exact ⟨ret_int (by omega), below_trans1 hb⟩

set_option maxHeartbeats 400000 in
/-- The day of the week, Sunday 0: the beginning of the year 1 was a Monday. -/
theorem Weekday_any (s n : Int) (w : World) (h0 : -100000000000000 ≤ s) (h1 : s ≤ 100000000000000) : Calls Tryz.prog 84 #[vTime s n] w fun e w' =>
    e = .returned (.int .i64 ((s / 86400 + 1) % 7)) ∧ Below w.heap.size w w' := by
  go_enter Tryz.func84, Tryz.ntmps84
  go_wp2_with (go_at_call 111; refine (floor_any _ _ _ (by omega) (by omega) (by omega) (by omega)).mono ?_; rintro e w' ⟨rfl, rfl⟩)
  go_ret
  exact ⟨ret_int (by omega), by (repeat (first | exact Below.refl _ _ | refine Below.setCell ?_ (by simp) _ | refine Below.alloc ?_ (by simp) _ | refine Below.drew ?_ | refine below_drewN ?_ _))⟩

set_option maxHeartbeats 400000 in
theorem Add_any (s d : Int) (w : World) (h0 : -100000000000000 ≤ s) (h1 : s ≤ 100000000000000) (hd0 : 0 ≤ d) (hd1 : d ≤ 9223372036854775807) : Calls Tryz.prog 80 #[vTime s 0, .int .i64 d] w fun e w' =>
    e = .returned (vTime (s + d / 1000000000) (d % 1000000000)) ∧ Below w.heap.size w w' := by
  go_enter Tryz.func80, Tryz.ntmps80
  go_wp2
  go_quiet (fail)
  go_wp2
  refine bodyPost_ret (v := vTime (s + d / 1000000000) (d % 1000000000)) (by simp [results, Tryz.results80, go_sem]) rfl ⟨rfl, ?_⟩
  (repeat (first | exact Below.refl _ _ | refine Below.setCell ?_ (by simp) _ | refine Below.alloc ?_ (by simp) _ | refine Below.drew ?_ | refine below_drewN ?_ _))

set_option maxHeartbeats 400000 in
theorem toPyWeekday_any (k : Nat) (w : World) (hk : k < 7) : Calls Tryz.prog 83 #[.int .i64 k] w fun e w' =>
    e = .returned (.int .i64 ((k + 6) % 7 : Nat)) ∧ Below w.heap.size w w' := by
  match k, hk with
  | 0, _ | 1, _ | 2, _ | 3, _ | 4, _ | 5, _ | 6, _ =>
    go_enter Tryz.func83, Tryz.ntmps83
    go_wp2
    go_ret
    exact ⟨rfl, by (repeat (first | exact Below.refl _ _ | refine Below.setCell ?_ (by simp) _ | refine Below.alloc ?_ (by simp) _ | refine Below.drew ?_ | refine below_drewN ?_ _))⟩

end Go.Proofs.YthkgjhnckakliaaGreatDoorR
namespace Go.Proofs.YthkgjhnckakliaaGreatDoorR
open Go.RowKit

theorem Tryz.info9 : (Tryz.prog.info? 9).map (fun i => (i.zero, i.size, i.bytes)) = some (some (.string ⟨#[]⟩), 1, 16) := by kernel_rfl

theorem take_snoc (s : ByteArray) (k : Nat) (h : k < s.size) : s.data.toList.take (k + 1) = s.data.toList.take k ++ [s[k]] := by
  rw [List.take_succ_eq_append_getElem (by simpa using h)]; rfl

def Pl.ascii (l : Bs) : Bool := l.all fun c => decide (c.toNat < 128)
theorem ascii_snoc (l : Bs) (c : UInt8) : Pl.ascii (l ++ [c]) = (Pl.ascii l && decide (c.toNat < 128)) := by simp [Pl.ascii]

set_option maxHeartbeats 400000 in
theorem textASCII_any (s : ByteArray) (w : World) (hs : s.size ≤ 1000000) :
    Calls Tryz.prog 15 #[.string s] w fun e w' => e = .returned (.bool (Pl.ascii s.data.toList)) ∧ w = w' := by
  go_enter Tryz.func15, Tryz.ntmps15
  go_wp2
  go_loop [6] (fun i => ∃ k : Nat, k ≤ s.size ∧ i = .int .i64 k ∧ Pl.ascii (s.data.toList.take k) = true) (fun i => s.size - (intOf i).toNat)
  case atStart => exact ⟨0, Nat.zero_le _, rfl, rfl⟩
  case round =>
    obtain ⟨k, hk, rfl, ha⟩ := hrel
    have HA := Lib.hid ha; clear ha
    by_cases hlt : k < s.size
    · have HS := Lib.hid (take_snoc s k hlt)
      by_cases hc : s[k].toNat < 128
      · have hc' : ¬ (128 ≤ (s[k].toNat : Int)) := by omega
        go_wp2
        go_round
        case rel => exact ⟨k + 1, by omega, by go_num, by rw [HS.out, ascii_snoc, HA.out]; simp [hc]⟩
        case measure => simp [intOf]; omega
      · have hc' : 128 ≤ (s[k].toNat : Int) := by omega
        have hf : Pl.ascii s.data.toList = false := by
          simp only [Pl.ascii, List.all_eq_false]
          exact ⟨s[k], by simp [ByteArray.getElem_eq_getElem_data], by simpa using hc⟩
        have HF := Lib.hid hf; clear hf
        go_wp2
        go_ret
        exact ⟨ret_bool HF.out.symm, rfl⟩
    · have : k = s.size := by omega
      go_wp2
      go_ret
      have h := HA.out
      rw [List.take_of_length_le (by simp; omega)] at h
      exact ⟨ret_bool h.symm, rfl⟩

/-- Between bytes: what has been cut off, and what is being read. -/
structure SplitAt (b : UInt8) (l : Bs) (i : Nat) (out : List Bs) (fr : Nat) : Prop where
  le : fr ≤ i
  eq : Pl.split b l = out ++ Pl.split b (l.drop fr)
  free : b ∉ (l.take i).drop fr
  len : out.length ≤ fr
theorem SplitAt.start (b : UInt8) (l : Bs) : SplitAt b l 0 [] 0 := ⟨Nat.le_refl _, rfl, by simp, Nat.le_refl _⟩
theorem drop_take_snoc (l : Bs) (f i : Nat) (c : UInt8) (hf : f ≤ i) (h : l[i]? = some c) : (l.take (i + 1)).drop f = (l.take i).drop f ++ [c] := by
  have hi : i < l.length := (List.getElem?_eq_some_iff.1 h).1
  rw [List.take_add_one, h]
  simp [List.drop_append, List.length_take, Nat.min_eq_left (Nat.le_of_lt hi), Nat.sub_eq_zero_of_le hf]
theorem SplitAt.other {b : UInt8} {l : Bs} {i : Nat} {out : List Bs} {fr : Nat} (h : SplitAt b l i out fr) {c : UInt8} (hc : l[i]? = some c) (hne : c ≠ b) : SplitAt b l (i + 1) out fr :=
  ⟨by have := h.le; omega, h.eq, by rw [drop_take_snoc l fr i c h.le hc]; simp [h.free, Ne.symm hne], h.len⟩
theorem drop_split (l : Bs) (f i : Nat) (c : UInt8) (hf : f ≤ i) (h : l[i]? = some c) : l.drop f = (l.take i).drop f ++ c :: l.drop (i + 1) := by
  have hi : i < l.length := (List.getElem?_eq_some_iff.1 h).1
  conv => lhs; rw [← List.take_append_drop i l]
  rw [List.drop_append, List.length_take, Nat.min_eq_left (Nat.le_of_lt hi), Nat.sub_eq_zero_of_le hf, List.drop_zero, List.drop_eq_getElem_cons hi]
  rw [List.getElem?_eq_getElem hi] at h; simp at h; rw [h]
theorem SplitAt.cut {b : UInt8} {l : Bs} {i : Nat} {out : List Bs} {fr : Nat} (h : SplitAt b l i out fr) (hc : l[i]? = some b) : SplitAt b l (i + 1) (out ++ [(l.take i).drop fr]) (i + 1) :=
  ⟨Nat.le_refl _, by rw [h.eq, drop_split l fr i b h.le hc, Pl.split_at _ _ _ h.free]; simp, by simp, by have := h.len; have := h.le; simp; omega⟩
theorem SplitAt.done {b : UInt8} {l : Bs} {out : List Bs} {fr : Nat} (h : SplitAt b l l.length out fr) : Pl.split b l = out ++ [l.drop fr] := by
  have hf := h.free
  rw [List.take_length] at hf
  rw [h.eq, Pl.split_free _ _ hf]

theorem strs_snoc (ls : List Bs) (l : Bs) : strs (ls ++ [l]) = strs ls ++ [.string (bs l)] := by simp [strs]

set_option maxHeartbeats 1000000 in
set_option maxRecDepth 100000 in
theorem textSplit_any (s : ByteArray) (b : UInt8) (w : World) (hs : s.size ≤ 1000000) :
    Calls Tryz.prog 16 #[.string s, .int .u8 b.toNat] w fun e w' => ∃ v, e = .returned v ∧ Row w' v (strs (Pl.split b s.data.toList)) ∧ Below w.heap.size w w' := by
  obtain ⟨i0, hi, hz0, hz1, hz2⟩ := info_parts Tryz.info9
  go_enter Tryz.func16, Tryz.ntmps16
  go_wp2
  go_loopw [5, 6, 11] (fun v f i wr => ∃ (k fr : Nat) (out : List Bs), k ≤ s.size ∧ fr ≤ k ∧ i = .int .i64 k ∧ f = .int .i64 fr ∧ Hid (SplitAt b s.data.toList k out fr) ∧ out.length ≤ k ∧ wr.ownsRow w.heap.size 9 1 v out.length (strs out) ∧ Below w.heap.size w wr) (fun _ _ i _ => s.size - (intOf i).toNat)
  case atStart => exact ⟨0, 0, [], Nat.zero_le _, Nat.le_refl _, rfl, rfl, Lib.hid (SplitAt.start _ _), Nat.le_refl _, World.ownsRow_made _ _ _ (Nat.le_refl _) (by unfold maxLen; omega) rfl, by (repeat (first | exact Below.refl _ _ | refine Below.setCell ?_ (by simp) _ | refine Below.alloc ?_ (by simp) _ | refine Below.drew ?_ | refine below_drewN ?_ _))⟩
  case round =>
    obtain ⟨k, fr, out, hk, hfr, rfl, rfl, hS, hol, hown, hbel⟩ := hrel
    have hbase := hbel.size
    by_cases hlt : k < s.size
    · have hget : s.data.toList[k]? = some s[k] := by
        rw [List.getElem?_eq_getElem (by simpa using hlt)]; rfl
      have HG := Lib.hid hget; clear hget
      by_cases hc : s[k] = b
      · have hc' : ((s[k].toNat : Int) == (b.toNat : Int)) = true := by rw [hc]; simp
        have HC := Lib.hid hc; clear hc
        go_wp2_with (at_builtin; refine wpList_append_own _ rfl _ _ 41 rfl w.heap.size 9 i0 (.string ⟨#[]⟩) 1 16 Tryz.underlying41 hi hz0 hz1 hz2 rfl (by decide) _ _ _ rfl (hown.alloc _) ⟨wr.heap.size, 0, none⟩ 1 1 [.string (s.extract fr k)] rfl rfl ?c1 ?c2 ?c3 ?c4 ?c5 ?_)
        case c1 => exact cell_one_new _ _ _
        case c2 => simp [Value.oneCell']
        case c3 => unfold maxLen; omega
        case c4 => omega
        case c5 => simp; omega
        intro v1 w1 hown1 hg1 _
        have hb1 : Below w.heap.size w w1 := ((hbel.alloc hbase _).grown hg1 (by simp; omega) (fun j hj => (hown.lt j hj).1))
        go_wp2
        go_roundw
        case rel =>
          refine ⟨k + 1, k + 1, out ++ [(s.data.toList.take k).drop fr], by omega, Nat.le_refl _, by go_num, by go_num, Lib.hid (hS.out.cut ?_), by simp; omega, ?_, hb1⟩
          · rw [HG.out, HC.out]
          · rw [strs_snoc, ← bs_extract]; simpa using hown1
        case measure => simp [intOf]; omega
      · have hc' : ((s[k].toNat : Int) == (b.toNat : Int)) = false := by
          rw [beq_eq_false_iff_ne]; intro h; exact hc (UInt8.toNat_inj.1 (by omega))
        have HC := Lib.hid hc; clear hc
        go_wp2
        go_roundw
        case rel => exact ⟨k + 1, fr, out, by omega, by omega, by go_num, rfl, Lib.hid (hS.out.other HG.out HC.out), by omega, hown, hbel⟩
        case measure => simp [intOf]; omega
    · obtain rfl : k = s.size := by omega
      go_wp2_with (at_builtin; refine wpList_append_own _ rfl _ _ 41 rfl w.heap.size 9 i0 (.string ⟨#[]⟩) 1 16 Tryz.underlying41 hi hz0 hz1 hz2 rfl (by decide) _ _ _ rfl (hown.alloc _) ⟨wr.heap.size, 0, none⟩ 1 1 [.string (s.extract fr s.size)] rfl rfl ?d1 ?d2 ?d3 ?d4 ?d5 ?_)
      case d1 => exact cell_one_new _ _ _
      case d2 => simp [Value.oneCell']
      case d3 => unfold maxLen; omega
      case d4 => omega
      case d5 => simp; omega
      intro v1 w1 hown1 hg1 _
      have hb1 : Below w.heap.size w w1 := ((hbel.alloc hbase _).grown hg1 (by simp; omega) (fun j hj => (hown.lt j hj).1))
      go_wp2
      go_ret
      refine ⟨v1, rfl, Row.of_owns (n := out.length + 1) (e := 9) (base := w.heap.size) ?_, hb1⟩
      have hd := SplitAt.done (by have := hS.out; rw [show s.size = s.data.toList.length by simp] at this; exact this)
      rw [hd, strs_snoc]
      have he : bs (s.data.toList.drop fr) = s.extract fr s.size := by rw [bs_extract, List.take_of_length_le (by simp)]
      rw [he]; simpa using hown1

set_option maxRecDepth 100000 in
theorem isSp_iff (c : UInt8) : Lib.isSp c = (decide (c.toNat = 32) || (decide (9 ≤ c.toNat) && decide (c.toNat ≤ 13))) := by
  have key : ∀ n : Fin 256, Lib.isSp (UInt8.ofNat n.val) = (decide (n.val = 32) || (decide (9 ≤ n.val) && decide (n.val ≤ 13))) := by decide +kernel
  have := key ⟨c.toNat, c.toNat_lt⟩
  simpa using this

set_option maxHeartbeats 400000 in
theorem blank_any (c : UInt8) (w : World) :
    Calls Tryz.prog 31 #[.int .u8 c.toNat] w fun e w' => e = .returned (.bool (Lib.isSp c)) ∧ w = w' := by
  have HC := Lib.hid (isSp_iff c)
  go_enter Tryz.func31, Tryz.ntmps31
  go_wp2
  all_goals go_ret
  all_goals exact ⟨ret_bool (by rw [HC.out, Bool.eq_iff_iff]; simp; omega), rfl⟩

def strLen : Value → Nat | .string t => t.size | _ => 0

set_option maxHeartbeats 1000000 in
set_option maxRecDepth 100000 in
theorem textTrim_any (s : ByteArray) (w : World) (hs : s.size ≤ 1000000) :
    Calls Tryz.prog 17 #[.string s] w fun e w' => e = .returned (.string (bs (Lib.trimSpace s.data.toList))) ∧ Below w.heap.size w w' := by
  have hmf : ∀ (fn : Fn) (first cap : Array Value) (w : World), (Instr.makeFunc fn first cap).run Tryz.prog w = .ok (.func fn first cap) w := fun _ _ _ _ => rfl
  go_enter Tryz.func17, Tryz.ntmps17
  go_wp2
  go_loopw [0] (fun v wr => ∃ t : ByteArray, v = .string t ∧ t.size ≤ s.size ∧ Hid (t.data.toList.dropWhile Lib.isSp = s.data.toList.dropWhile Lib.isSp) ∧ Below w.heap.size w wr) (fun v _ => strLen v)
  case atStart => exact ⟨s, rfl, Nat.le_refl _, Lib.hid rfl, Below.refl _ _⟩
  case round =>
    obtain ⟨t, rfl, hts, hd, hb⟩ := hrel
    by_cases hgo : ∃ h : 0 < t.size, Lib.isSp t[0] = true
    · obtain ⟨h0, hsp⟩ := hgo
      have hE := isEmpty_of_size h0
      have HSP := Lib.hid hsp; clear hsp
      go_wp2_with (go_at_call 31; refine (blank_any _ _).mono ?_; rw [HSP.out]; rintro e w' ⟨rfl, rfl⟩)
      go_roundw
      case rel =>
        refine ⟨_, rfl, by simp; omega, Lib.hid ?_, hb⟩
        have := hd.out
        rw [get_zero h0, List.dropWhile_cons_of_pos HSP.out] at this
        rw [← this, Lib.extract_to_end]
      case measure => simp [strLen]; omega
    · have key : t.data.toList.dropWhile Lib.isSp = t.data.toList := by
        rcases Nat.eq_zero_or_pos t.size with h | h
        · rw [empty_of_size h]; rfl
        · rw [get_zero h, List.dropWhile_cons_of_neg]; intro h2; exact hgo ⟨h, h2⟩
      have KEY : Hid (t.data.toList = s.data.toList.dropWhile Lib.isSp) := by
        have := hd.out; rw [key] at this; exact this
      clear key hd
      have htest : (t.size = 0 ∧ t = ByteArray.empty) ∨ (∃ h : 0 < t.size, Lib.isSp t[0] = false) := by
        rcases Nat.eq_zero_or_pos t.size with h | h
        · exact Or.inl ⟨h, empty_of_size h⟩
        · refine Or.inr ⟨h, ?_⟩
          cases hh : Lib.isSp t[0] with
          | false => rfl
          | true => exact absurd ⟨h, hh⟩ hgo
      clear hgo
      rcases htest with ⟨_, rfl⟩ | ⟨h0, hsp⟩
      · go_wp2
        go_loopw [0] (fun v wr2 => ∃ t2 : ByteArray, v = .string t2 ∧ t2.size ≤ s.size ∧ Hid (t2.data.toList.reverse.dropWhile Lib.isSp = (s.data.toList.dropWhile Lib.isSp).reverse.dropWhile Lib.isSp) ∧ Below w.heap.size w wr2) (fun v _ => strLen v)
        case atStart => exact ⟨_, rfl, hts, Lib.hid (by rw [KEY.out]), hb⟩
        case round =>
          obtain ⟨t2, rfl, hts2, hd2, hb2⟩ := hrel
          by_cases hgo : ∃ h : 0 < t2.size, Lib.isSp t2[t2.size - 1] = true
          · obtain ⟨h02, hsp2⟩ := hgo
            have hE2 := isEmpty_of_size h02
            have HSP2 := Lib.hid hsp2; clear hsp2
            go_wp2_with (go_at_call 31; refine (blank_any _ _).mono ?_; rw [HSP2.out]; rintro e w' ⟨rfl, rfl⟩)
            go_roundw
            case rel =>
              refine ⟨_, rfl, by simp; omega, Lib.hid ?_, hb2⟩
              have := hd2.out
              rw [get_last h02, List.reverse_append, List.reverse_cons, List.reverse_nil, List.nil_append, List.singleton_append, List.dropWhile_cons_of_pos HSP2.out] at this
              rw [← this, Lib.extract_data, List.drop_zero, Nat.sub_zero]
            case measure => simp [strLen]; omega
          · have key2 : t2.data.toList.reverse.dropWhile Lib.isSp = t2.data.toList.reverse := by
              rcases Nat.eq_zero_or_pos t2.size with h | h
              · rw [empty_of_size h]; rfl
              · rw [get_last h, List.reverse_append, List.reverse_cons, List.reverse_nil, List.nil_append, List.singleton_append, List.dropWhile_cons_of_neg]; intro h2; exact hgo ⟨h, h2⟩
            have FIN : Hid (t2 = bs (Lib.trimSpace s.data.toList)) := by
              have h := hd2.out; rw [key2] at h
              show t2 = _
              rw [← bs_eta t2]; unfold Lib.trimSpace; rw [← h, List.reverse_reverse]
            clear key2 hd2
            have htest : (t2.size = 0 ∧ t2 = ByteArray.empty) ∨ (∃ h : 0 < t2.size, Lib.isSp t2[t2.size - 1] = false) := by
              rcases Nat.eq_zero_or_pos t2.size with h | h
              · exact Or.inl ⟨h, empty_of_size h⟩
              · refine Or.inr ⟨h, ?_⟩
                cases hh : Lib.isSp t2[t2.size - 1] with
                | false => rfl
                | true => exact absurd ⟨h, hh⟩ hgo
            clear hgo
            rcases htest with ⟨_, rfl⟩ | ⟨h02, hsp2⟩
            · go_wp2
              go_ret
              exact ⟨ret_str FIN.out, hb2⟩
            · have hE2 := isEmpty_of_size h02
              have HSP2 := Lib.hid hsp2; clear hsp2
              go_wp2_with (go_at_call 31; refine (blank_any _ _).mono ?_; rw [HSP2.out]; rintro e w' ⟨rfl, rfl⟩)
              go_ret
              exact ⟨ret_str FIN.out, hb2⟩
      · have hE := isEmpty_of_size h0
        have HSP := Lib.hid hsp; clear hsp
        go_wp2_with (go_at_call 31; refine (blank_any _ _).mono ?_; rw [HSP.out]; rintro e w' ⟨rfl, rfl⟩)
        go_loopw [0] (fun v wr2 => ∃ t2 : ByteArray, v = .string t2 ∧ t2.size ≤ s.size ∧ Hid (t2.data.toList.reverse.dropWhile Lib.isSp = (s.data.toList.dropWhile Lib.isSp).reverse.dropWhile Lib.isSp) ∧ Below w.heap.size w wr2) (fun v _ => strLen v)
        case atStart => exact ⟨_, rfl, hts, Lib.hid (by rw [KEY.out]), hb⟩
        case round =>
          obtain ⟨t2, rfl, hts2, hd2, hb2⟩ := hrel
          by_cases hgo : ∃ h : 0 < t2.size, Lib.isSp t2[t2.size - 1] = true
          · obtain ⟨h02, hsp2⟩ := hgo
            have hE2 := isEmpty_of_size h02
            have HSP2 := Lib.hid hsp2; clear hsp2
            go_wp2_with (go_at_call 31; refine (blank_any _ _).mono ?_; rw [HSP2.out]; rintro e w' ⟨rfl, rfl⟩)
            go_roundw
            case rel =>
              refine ⟨_, rfl, by simp; omega, Lib.hid ?_, hb2⟩
              have := hd2.out
              rw [get_last h02, List.reverse_append, List.reverse_cons, List.reverse_nil, List.nil_append, List.singleton_append, List.dropWhile_cons_of_pos HSP2.out] at this
              rw [← this, Lib.extract_data, List.drop_zero, Nat.sub_zero]
            case measure => simp [strLen]; omega
          · have key2 : t2.data.toList.reverse.dropWhile Lib.isSp = t2.data.toList.reverse := by
              rcases Nat.eq_zero_or_pos t2.size with h | h
              · rw [empty_of_size h]; rfl
              · rw [get_last h, List.reverse_append, List.reverse_cons, List.reverse_nil, List.nil_append, List.singleton_append, List.dropWhile_cons_of_neg]; intro h2; exact hgo ⟨h, h2⟩
            have FIN : Hid (t2 = bs (Lib.trimSpace s.data.toList)) := by
              have h := hd2.out; rw [key2] at h
              show t2 = _
              rw [← bs_eta t2]; unfold Lib.trimSpace; rw [← h, List.reverse_reverse]
            clear key2 hd2
            have htest : (t2.size = 0 ∧ t2 = ByteArray.empty) ∨ (∃ h : 0 < t2.size, Lib.isSp t2[t2.size - 1] = false) := by
              rcases Nat.eq_zero_or_pos t2.size with h | h
              · exact Or.inl ⟨h, empty_of_size h⟩
              · refine Or.inr ⟨h, ?_⟩
                cases hh : Lib.isSp t2[t2.size - 1] with
                | false => rfl
                | true => exact absurd ⟨h, hh⟩ hgo
            clear hgo
            rcases htest with ⟨_, rfl⟩ | ⟨h02, hsp2⟩
            · go_wp2
              go_ret
              exact ⟨ret_str FIN.out, hb2⟩
            · have hE2 := isEmpty_of_size h02
              have HSP2 := Lib.hid hsp2; clear hsp2
              go_wp2_with (go_at_call 31; refine (blank_any _ _).mono ?_; rw [HSP2.out]; rintro e w' ⟨rfl, rfl⟩)
              go_ret
              exact ⟨ret_str FIN.out, hb2⟩

end Go.Proofs.YthkgjhnckakliaaGreatDoorR
namespace Go.Proofs.YthkgjhnckakliaaGreatDoorR
open Go.RowKit
/-- An error that is there. -/
def IsErr (v : Value) : Prop := ∃ t u, v = .iface t u
set_option maxHeartbeats 400000 in
theorem New_any (s : ByteArray) (w : World) :
    Calls Tryz.prog 67 #[.string s] w fun e w' => (∃ t u, e = .returned (.iface t u)) ∧ Below w.heap.size w w' := by
  go_enter Tryz.func67, Tryz.ntmps67
  go_wp2
  go_ret
  exact ⟨⟨_, _, rfl⟩, (Below.refl _ _).alloc (Nat.le_refl _) _⟩
end Go.Proofs.YthkgjhnckakliaaGreatDoorR
namespace Go.Proofs.YthkgjhnckakliaaGreatDoorR
open Go.RowKit
def IterAt (w : World) (b : Nat) (s : ByteArray) (pos : Nat) : Prop := w.heap[b]? = some (.stringIter s pos)
def iterStep (w : World) (b : Nat) (s : ByteArray) (pos : Nat) : World := { w with heap := w.heap.setIfInBounds b (.stringIter s pos) }
theorem next_ascii {P : Program} (w : World) (b : Nat) (s : ByteArray) (pos : Nat) (ty : TypeId) (hi : IterAt w b s pos) (h : pos < s.size) (ha : (s[pos]'h).toNat < 128) :
    (Instr.next (.pointer (some ⟨b, 0, none⟩)) true ty).run P w =
      .ok (.tuple #[.bool true, .int .i64 pos, .int .i32 (s[pos]'h).toNat]) (iterStep w b s (pos + 1)) := by
  unfold IterAt at hi
  simp only [Instr.next, getObj, setObj, Sem.run_bind, Sem.run, hi, Result.andThen, h, if_true, decode_ascii s pos h ha]
  simp [goInt, iterStep]
theorem next_end {P : Program} (w : World) (b : Nat) (s : ByteArray) (pos : Nat) (ty : TypeId) (hi : IterAt w b s pos) (h : ¬ pos < s.size) :
    (Instr.next (.pointer (some ⟨b, 0, none⟩)) true ty).run P w = .ok (.tuple #[.bool false]) w := by
  unfold IterAt at hi
  simp [Instr.next, getObj, Sem.run, hi, h]
theorem IterAt.new (w : World) (s : ByteArray) : IterAt (w.iter s 0) w.heap.size s 0 := World.iter_heap w s 0
theorem IterAt.step {w : World} {b : Nat} {s : ByteArray} {pos : Nat} (h : IterAt w b s pos) (p : Nat) : IterAt (iterStep w b s p) b s p := by
  have hl : b < w.heap.size := by
    rcases Nat.lt_or_ge b w.heap.size with h' | h'
    · exact h'
    · unfold IterAt at h; rw [Array.getElem?_eq_none h'] at h; cases h
  simp [IterAt, iterStep, hl]
end Go.Proofs.YthkgjhnckakliaaGreatDoorR

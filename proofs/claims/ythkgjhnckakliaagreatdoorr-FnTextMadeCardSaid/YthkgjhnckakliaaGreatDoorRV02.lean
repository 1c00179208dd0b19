/- Words that all walks of this claim share: texts as lists of bytes, slices that read as lists, and how both stay as they are while memory grows.
  Contracts of the calendar functions of zztime: each returns what plain integer arithmetic gives; what was in memory stays as it was.
  Contracts of the reference's calendar functions. -/
import Derived.Test.YthkgjhnckakliaaGreatDoorRProg
import Derived.WalkKit
import Derived.WalkSpells
import Derived.WalkLawsBesides
import Derived.Lib.Hide
import Derived.Lib.Strings
import Derived.Lib.IndexBytes
import Derived.Test.YthkgjhnckakliaaGreatDoorRV00
import Derived.IntWalk
namespace Go.Proofs.YthkgjhnckakliaaGreatDoorR
open Go.RowKit

theorem ret_int {k : IntKind} {a b : Int} (h : a = b) : Ending.returned (.int k a) = .returned (.int k b) := by rw [h]
theorem ret_bool {a b : Bool} (h : a = b) : Ending.returned (.bool a) = .returned (.bool b) := by rw [h]
theorem ret_str {a b : ByteArray} (h : a = b) : Ending.returned (.string a) = .returned (.string b) := by rw [h]
abbrev Bs := List UInt8
/-- A text, by its bytes. -/
def bs (l : Bs) : ByteArray := ⟨l.toArray⟩
theorem bs_list (l : Bs) : (bs l).data.toList = l := by simp [bs]
theorem bs_size (l : Bs) : (bs l).size = l.length := by simp [bs, ByteArray.size]
theorem bs_eta (s : ByteArray) : bs s.data.toList = s := by cases s; simp [bs]
theorem bs_extract (s : ByteArray) (a b : Nat) : s.extract a b = bs ((s.data.toList.take b).drop a) := by
  rw [← bs_eta (s.extract a b)]; congr 1
  rw [Lib.extract_data]; simp [List.drop_take]

theorem empty_of_size {s : ByteArray} (h : s.size = 0) : s = ByteArray.empty := by
  rw [← bs_eta s, show s.data.toList = [] by apply List.eq_nil_of_length_eq_zero; simpa using h]; rfl
theorem isEmpty_of_size {s : ByteArray} (h : 0 < s.size) : s.toList.isEmpty = false := by
  rw [ByteArray.toList_eq]; cases hs : s.data.toList with
  | nil => rw [← bs_eta s, hs, bs_size] at h; simp at h
  | cons a b => rfl
theorem get_zero {s : ByteArray} (h : 0 < s.size) : s.data.toList = s[0] :: s.data.toList.drop 1 := by
  have h1 : 0 < s.data.toList.length := by simpa using h
  conv => lhs; rw [← List.drop_zero (l := s.data.toList), List.drop_eq_getElem_cons h1]
  rfl
theorem get_last {s : ByteArray} (h : 0 < s.size) : s.data.toList = s.data.toList.take (s.size - 1) ++ [s[s.size - 1]] := by
  have h1 : s.size - 1 < s.data.toList.length := by simp; omega
  conv => lhs; rw [← List.take_of_length_le (l := s.data.toList) (i := s.size - 1 + 1) (by simp; omega), List.take_succ_eq_append_getElem h1]
  rfl
/-- A slice of elements of one cell reads as a list of cells. -/
def Row (w : World) (v : Value) (vs : List Value) : Prop :=
  ∃ a cap, v = .slice a vs.length cap ∧ vs.length ≤ cap ∧ (vs ≠ [] → ∃ b o, a = some ⟨b, o, none⟩ ∧ b < w.heap.size ∧ ∀ i x, vs[i]? = some x → w.cell? ⟨b, o + i, none⟩ = some x)
/-- A slice of pairs of integers. -/
def RowP (w : World) (v : Value) (ps : List (Int × Int)) : Prop :=
  ∃ a cap, v = .slice a ps.length cap ∧ ps.length ≤ cap ∧ (ps ≠ [] → ∃ b o, a = some ⟨b, o, none⟩ ∧ b < w.heap.size ∧
    ∀ i p, ps[i]? = some p → w.cell? ⟨b, o + 2 * i, none⟩ = some (.int .i64 p.1) ∧ w.cell? ⟨b, o + 2 * i + 1, none⟩ = some (.int .i64 p.2))

def strs (ls : List Bs) : List Value := ls.map fun l => .string (bs l)
def ints (ns : List Int) : List Value := ns.map fun n => .int .i64 n
theorem strs_length (ls : List Bs) : (strs ls).length = ls.length := by simp [strs]
theorem ints_length (ns : List Int) : (ints ns).length = ns.length := by simp [ints]

theorem Row.below {w w' : World} {v : Value} {vs : List Value} (h : Row w v vs) (hb : Below w.heap.size w w') : Row w' v vs := by
  obtain ⟨a, cap, h1, h2, h3⟩ := h
  refine ⟨a, cap, h1, h2, fun hne => ?_⟩
  obtain ⟨b, o, ha, hbl, hc⟩ := h3 hne
  exact ⟨b, o, ha, Nat.lt_of_lt_of_le hbl hb.size, fun i x hx => by rw [hb.cell (p := ⟨b, o + i, none⟩) hbl]; exact hc i x hx⟩
theorem RowP.below {w w' : World} {v : Value} {vs : List (Int × Int)} (h : RowP w v vs) (hb : Below w.heap.size w w') : RowP w' v vs := by
  obtain ⟨a, cap, h1, h2, h3⟩ := h
  refine ⟨a, cap, h1, h2, fun hne => ?_⟩
  obtain ⟨b, o, ha, hbl, hc⟩ := h3 hne
  exact ⟨b, o, ha, Nat.lt_of_lt_of_le hbl hb.size, fun i p hp => by
    rw [hb.cell (p := ⟨b, o + 2 * i, none⟩) hbl, hb.cell (p := ⟨b, o + 2 * i + 1, none⟩) hbl]; exact hc i p hp⟩
theorem Row.nil (w : World) : Row w (.slice none 0 0) [] := ⟨none, 0, rfl, Nat.le_refl _, fun h => absurd rfl h⟩
theorem RowP.nil (w : World) : RowP w (.slice none 0 0) [] := ⟨none, 0, rfl, Nat.le_refl _, fun h => absurd rfl h⟩
/-- What the call owns reads as a row. -/
theorem Row.of_owns {w : World} {base : Nat} {e : TypeId} {v : Value} {n : Nat} {xs : List Value} (h : w.ownsRow base e 1 v n xs) : Row w v xs := by
  obtain ⟨hl, h⟩ := h
  have hn : xs.length = n := by omega
  rcases h with ⟨rfl, rfl⟩ | ⟨g, cap, cur, rfl, hg, hh, hc, _, hs, ht⟩
  · have : xs = [] := List.eq_nil_of_length_eq_zero (by omega)
    subst this; exact Row.nil w
  · refine ⟨some ⟨g, 0, none⟩, cap, by rw [hn], by omega, fun _ => ⟨g, 0, rfl, ?_, fun i x hx => ?_⟩⟩
    · rcases Nat.lt_or_ge g w.heap.size with h | h
      · exact h
      · rw [Array.getElem?_eq_none h] at hh; cases hh
    · have hi : i < xs.length := (List.getElem?_eq_some_iff.1 hx).1
      rw [← ht, Nat.mul_one, List.getElem?_take, if_pos (by omega)] at hx
      simp only [World.cell?, hh, Nat.zero_add]
      simpa using hx
theorem below1 {w w1 : World} {o : Obj} (h : Below (w.alloc o).heap.size (w.alloc o) w1) : Below w.heap.size w w1 :=
  Below.trans (((Below.refl _ _).alloc (Nat.le_refl _) _)) (h.mono (by simp))
theorem bcells {W w1 : World} (hb : Below W.heap.size W w1) : (∀ b o, b < W.heap.size → w1.cell? ⟨b, o, none⟩ = W.cell? ⟨b, o, none⟩) ∧ (∀ b o, b < W.heap.size → w1.frozen? ⟨b, o, none⟩ = W.frozen? ⟨b, o, none⟩) :=
  ⟨fun b o h => hb.cell (p := ⟨b, o, none⟩) h, fun b o h => hb.frozen (p := ⟨b, o, none⟩) h⟩

namespace Pl
/-- The parts of a text between bytes. -/
def split (b : UInt8) : Bs → List Bs
  | [] => [[]]
  | c :: r => if c = b then [] :: split b r else match split b r with
    | h :: t => (c :: h) :: t
    | [] => [[c]]
theorem split_ne (b : UInt8) : ∀ s, split b s ≠ []
  | [] => by simp [split]
  | c :: r => by unfold split; split <;> (try split) <;> simp
theorem split_free (b : UInt8) : ∀ s : Bs, b ∉ s → split b s = [s]
  | [], _ => rfl
  | c :: r, h => by
    have h1 : c ≠ b := fun e => h (by simp [e])
    have h2 := split_free b r (fun m => h (List.mem_cons_of_mem _ m))
    simp [split, h1, h2]
theorem split_at (b : UInt8) : ∀ (p r : Bs), b ∉ p → split b (p ++ b :: r) = p :: split b r
  | [], r, _ => by simp [split]
  | c :: p, r, h => by
    have h1 : c ≠ b := fun e => h (by simp [e])
    have h2 := split_at b p r (fun m => h (List.mem_cons_of_mem _ m))
    simp [split, h1, h2]
theorem split_length (b : UInt8) : ∀ s : Bs, (split b s).length ≤ s.length + 1
  | [] => by simp [split]
  | c :: r => by
    have := split_length b r
    unfold split; split
    · simp; omega
    · split
      · rename_i h; rw [h] at this; simp at *; omega
      · simp
theorem split_mem_length (b : UInt8) : ∀ (s x : Bs), x ∈ split b s → x.length ≤ s.length
  | [], x, h => by simp [split] at h; simp [h]
  | c :: r, x, h => by
    have ih := split_mem_length b r
    unfold split at h; split at h
    · rcases List.mem_cons.1 h with h | h
      · simp [h]
      · have := ih x h; simp; omega
    · split at h
      · rename_i hd tl he
        rcases List.mem_cons.1 h with h | h
        · have := ih hd (by rw [he]; simp); simp [h]; omega
        · have := ih x (by rw [he]; simp [h]); simp; omega
      · simp at h; simp [h]
end Pl
end Go.Proofs.YthkgjhnckakliaaGreatDoorR
namespace Go.Proofs.YthkgjhnckakliaaGreatDoorR
open Go.RowKit


theorem ediv_of {a b q : Int} (hb : 0 < b) (h1 : b * q ≤ a) (h2 : a < b * q + b) : a / b = q := by
  have := Int.add_mul_ediv_left (a - b * q) q (show b ≠ 0 by omega)
  rw [show a - b * q + b * q = a by omega] at this
  have h0 : (a - b * q) / b = 0 := Int.ediv_eq_zero_of_lt (by omega) (by omega)
  omega
theorem tdiv_floor (a b : Int) (hb : 1 ≤ b) : (if a.tmod b < 0 then a.tdiv b - 1 else a.tdiv b) = a / b := by
  have h1 := Int.tmod_add_mul_tdiv a b
  by_cases h : a.tmod b < 0
  · rw [if_pos h]
    have h2 := Int.lt_tmod_of_pos a (show (0:Int) < b by omega)
    exact (ediv_of (by omega) (by rw [Int.mul_sub]; omega) (by rw [Int.mul_sub]; omega)).symm
  · rw [if_neg h]
    have h2 := Int.tmod_lt_of_pos a (show (0:Int) < b by omega)
    exact (ediv_of (by omega) (by omega) (by omega)).symm
theorem tdiv_bd (a b : Int) (h0 : -9223372036854775807 ≤ a) (h1 : a ≤ 9223372036854775807) (hb : 1 ≤ b) (h : a.tmod b < 0) : -9223372036854775807 ≤ a.tdiv b ∧ a.tdiv b ≤ 0 := by
  have ha : a < 0 := by
    rcases Int.lt_or_le a 0 with h2 | h2
    · exact h2
    · have := Int.tmod_nonneg b h2; omega
  have h2 : (-a).tdiv b = - a.tdiv b := Int.neg_tdiv _ _
  have h3 : 0 ≤ (-a).tdiv b := Int.tdiv_nonneg (by omega) (by omega)
  have h4 : (-a).tdiv b ≤ -a := by rw [Int.tdiv_eq_ediv_of_nonneg (by omega)]; exact Int.ediv_le_self _ (by omega)
  omega

set_option maxHeartbeats 400000 in
theorem floor_any (a b : Int) (w : World) (h0 : -9223372036854775807 ≤ a) (h1 : a ≤ 9223372036854775807) (hb : 1 ≤ b) (hb' : b ≤ 9223372036854775807) :
    Calls Tryz.prog 111 #[.int .i64 a, .int .i64 b] w fun e w' => e = .returned (.int .i64 (a / b)) ∧ w = w' := by
  have hF := tdiv_floor a b hb
  have hB := tdiv_bd a b h0 h1 hb
  have HF := Lib.hid hF; clear hF
  have HB := Lib.hid hB; clear hB
  go_enter Tryz.func111, Tryz.ntmps111
  go_wp2
  · have h : a.tmod b < 0 := by assumption
    go_ret
    refine ⟨ret_int ?_, rfl⟩
    have := HB.out h
    rw [← HF.out, if_pos h]; unfold wrap64; omega
  · have h : 0 ≤ a.tmod b := by assumption
    go_ret
    exact ⟨ret_int (by rw [← HF.out, if_neg (by omega)]), rfl⟩

theorem leap_t (y : Int) : Pl.leap y = (y.tmod 4 == 0 && (y.tmod 100 != 0 || y.tmod 400 == 0)) := by
  unfold Pl.leap
  have h4 := Pl.tmod_zero_iff y 4
  have h100 := Pl.tmod_zero_iff y 100
  have h400 := Pl.tmod_zero_iff y 400
  rw [Bool.eq_iff_iff]; simp [h4, h100, h400]

set_option maxHeartbeats 400000 in
theorem leap_any (y : Int) (w : World) :
    Calls Tryz.prog 136 #[.int .i64 y] w fun e w' => e = .returned (.bool (Pl.leap y)) ∧ w = w' := by
  have HL := Lib.hid (leap_t y)
  go_enter Tryz.func136, Tryz.ntmps136
  go_wp2
  all_goals go_ret
  all_goals exact ⟨ret_bool (by rw [HL.out]; simp [*]), rfl⟩

set_option maxHeartbeats 400000 in
theorem daysTo_any (y : Int) (w : World) (h0 : -1000000 ≤ y) (h1 : y ≤ 1000000) :
    Calls Tryz.prog 112 #[.int .i64 y] w fun e w' => e = .returned (.int .i64 (Pl.daysTo y)) ∧ w = w' := by
  go_enter Tryz.func112, Tryz.ntmps112
  go_wp2_with (go_at_call 111; refine (floor_any _ _ _ (by omega) (by omega) (by omega) (by omega)).mono ?_; rintro e w' ⟨rfl, rfl⟩)
  go_ret
  exact ⟨ret_int (by unfold Pl.daysTo; rfl), rfl⟩

set_option maxHeartbeats 400000 in
theorem monthDays_any (m y : Int) (w : World) :
    Calls Tryz.prog 113 #[.int .i64 m, .int .i64 y] w fun e w' => e = .returned (.int .i64 (Pl.mdays m y)) ∧ w = w' := by
  go_enter Tryz.func113, Tryz.ntmps113
  go_wp2_with (go_at_call 136; refine (leap_any _ _).mono ?_; rintro e w' ⟨rfl, rfl⟩)
  all_goals go_ret
  all_goals exact ⟨ret_int (by simp_all [Pl.mdays]), rfl⟩

/-- A struct Time as a value. -/
abbrev vTime (s n : Int) : Value := .agg #[.int .i64 s, .int .i64 n]

theorem bcell {W w1 : World} (hb : Below W.heap.size W w1) : (∀ b o, b < W.heap.size → w1.cell? ⟨b, o, none⟩ = W.cell? ⟨b, o, none⟩) ∧ (∀ b o, b < W.heap.size → w1.frozen? ⟨b, o, none⟩ = W.frozen? ⟨b, o, none⟩) :=
  ⟨fun b o h => hb.cell (p := ⟨b, o, none⟩) h, fun b o h => hb.frozen (p := ⟨b, o, none⟩) h⟩

set_option maxHeartbeats 1000000 in
/-- The seconds of a date: months, days, hours, minutes and seconds may lie beyond their ranges. -/
theorem Date_any (y m d h n s : Int) (w : World) (hy0 : -100000 ≤ y) (hy1 : y ≤ 100000) (hm0 : -10000 ≤ m) (hm1 : m ≤ 10000) (hd0 : -100000000 ≤ d) (hd1 : d ≤ 100000000)
    (hh0 : -1000000 ≤ h) (hh1 : h ≤ 1000000) (hn0 : -1000000 ≤ n) (hn1 : n ≤ 1000000) (hs0 : -1000000 ≤ s) (hs1 : s ≤ 1000000) :
    Calls Tryz.prog 88 #[.int .i64 y, .int .i64 m, .int .i64 d, .int .i64 h, .int .i64 n, .int .i64 s, .int .i64 0, .agg #[]] w fun e w' =>
      e = .returned (vTime (Pl.daysOf y m d * 86400 + h * 3600 + n * 60 + s) 0) ∧ Below w.heap.size w w' := by
  have b1 := Pl.daysTo_bd (y + (m - 1) / 12) (by omega) (by omega)
  go_enter Tryz.func88, Tryz.ntmps88
  go_wp2_with (first | (go_at_call 111; refine (floor_any _ _ _ (by omega) (by omega) (by omega) (by omega)).mono ?_; rintro e w' ⟨rfl, rfl⟩) | (go_at_call 112; refine (daysTo_any _ _ (by omega) (by omega)).mono ?_; rintro e w' ⟨rfl, rfl⟩))
  go_loop [20, 19] (fun i x => ∃ k : Nat, (k : Int) ≤ m - 1 - 12 * ((m - 1) / 12) ∧ i = .int .i64 ((k : Int) + 1) ∧ x = .int .i64 (Pl.daysTo (y + (m - 1) / 12) + d - 1 + Pl.cum (y + (m - 1) / 12) k)) (fun i _ => (14 - intOf i).toNat)
  case atStart => exact ⟨0, by omega, rfl, by simp [Pl.cum]⟩
  case round =>
    obtain ⟨k, hk, rfl, rfl⟩ := hrel
    have hc := Pl.cum_bd (y + (m - 1) / 12) k
    have hm := Pl.mdays_bd ((k : Int) + 1) (y + (m - 1) / 12)
    by_cases hlt : (k : Int) + 1 ≤ m - 1 - 12 * ((m - 1) / 12)
    · go_wp2_with (go_at_call 113; refine (monthDays_any _ _ _).mono ?_; rintro e w' ⟨rfl, rfl⟩)
      go_round
      case rel => exact ⟨k + 1, by omega, by go_num, by simp only [Pl.cum]; congr 1; omega⟩
      case measure => simp [intOf]; omega
    · have hk' : k = ((m - 1) % 12).toNat := by omega
      have HK := Lib.hid hk'; clear hk'
      go_wp2_with (go_at_call 111; refine (floor_any _ _ _ (by omega) (by omega) (by omega) (by omega)).mono ?_; rintro e w' ⟨rfl, rfl⟩)
      refine bodyPost_ret (v := vTime (Pl.daysOf y m d * 86400 + h * 3600 + n * 60 + s) 0) (by simp [results, Tryz.results88, go_sem, Pl.daysOf, ← HK.out]) rfl ⟨rfl, ?_⟩
      (repeat (first | exact Below.refl _ _ | refine Below.setCell ?_ (by simp) _ | refine Below.alloc ?_ (by simp) _ | refine Below.drew ?_ | refine below_drewN ?_ _))

/-! One-line functions of Time. -/
set_option maxHeartbeats 400000 in
theorem Of_any (s : Int) (w : World) : Calls Tryz.prog 46 #[.int .i64 s] w fun e w' => e = .returned (vTime s 0) ∧ Below w.heap.size w w' := by
  go_enter Tryz.func46, Tryz.ntmps46
  go_wp2
  refine bodyPost_ret (v := vTime s 0) (by simp [results, Tryz.results46, go_sem]) rfl ⟨rfl, ?_⟩
  (repeat (first | exact Below.refl _ _ | refine Below.setCell ?_ (by simp) _ | refine Below.alloc ?_ (by simp) _ | refine Below.drew ?_ | refine below_drewN ?_ _))

set_option maxHeartbeats 400000 in
theorem At_any (s : Int) (w : World) (h0 : -9223372036854775808 ≤ s) (h1 : s ≤ 9000000000000000000) : Calls Tryz.prog 78 #[.int .i64 s] w fun e w' => e = .returned (vTime (s + 62135596800) 0) ∧ Below w.heap.size w w' := by
  go_enter Tryz.func78, Tryz.ntmps78
  go_wp2
  refine bodyPost_ret (v := vTime (s + 62135596800) 0) (by simp [results, Tryz.results78, go_sem]) rfl ⟨rfl, ?_⟩
  (repeat (first | exact Below.refl _ _ | refine Below.setCell ?_ (by simp) _ | refine Below.alloc ?_ (by simp) _ | refine Below.drew ?_ | refine below_drewN ?_ _))

set_option maxHeartbeats 400000 in
theorem Seconds_any (s n : Int) (w : World) : Calls Tryz.prog 41 #[vTime s n] w fun e w' => e = .returned (.int .i64 s) ∧ Below w.heap.size w w' := by
  go_enter Tryz.func41, Tryz.ntmps41
  go_wp2
  go_ret
  exact ⟨rfl, by (repeat (first | exact Below.refl _ _ | refine Below.setCell ?_ (by simp) _ | refine Below.alloc ?_ (by simp) _ | refine Below.drew ?_ | refine below_drewN ?_ _))⟩

set_option maxHeartbeats 400000 in
theorem IsZero_any (s : Int) (w : World) : Calls Tryz.prog 40 #[vTime s 0] w fun e w' => e = .returned (.bool (s == 0)) ∧ Below w.heap.size w w' := by
  go_enter Tryz.func40, Tryz.ntmps40
  go_wp2
  all_goals go_ret
  all_goals exact ⟨ret_bool (by simp [*]), by (repeat (first | exact Below.refl _ _ | refine Below.setCell ?_ (by simp) _ | refine Below.alloc ?_ (by simp) _ | refine Below.drew ?_ | refine below_drewN ?_ _))⟩

set_option maxHeartbeats 400000 in
theorem Truncate_any (s n d : Int) (w : World) : Calls Tryz.prog 79 #[vTime s n, .int .i64 d] w fun e w' => e = .returned (vTime s 0) ∧ Below w.heap.size w w' := by
  go_enter Tryz.func79, Tryz.ntmps79
  go_wp2
  refine bodyPost_ret (v := vTime s 0) (by simp [results, Tryz.results79, go_sem]) rfl ⟨rfl, ?_⟩
  (repeat (first | exact Below.refl _ _ | refine Below.setCell ?_ (by simp) _ | refine Below.alloc ?_ (by simp) _ | refine Below.drew ?_ | refine below_drewN ?_ _))

set_option maxHeartbeats 400000 in
theorem UTC_any (s n : Int) (w : World) : Calls Tryz.prog 92 #[vTime s n] w fun e w' => e = .returned (vTime s n) ∧ Below w.heap.size w w' := by
  go_enter Tryz.func92, Tryz.ntmps92
  go_wp2
  refine bodyPost_ret (v := vTime s n) (by simp [results, Tryz.results92, go_sem]) rfl ⟨rfl, ?_⟩
  (repeat (first | exact Below.refl _ _ | refine Below.setCell ?_ (by simp) _ | refine Below.alloc ?_ (by simp) _ | refine Below.drew ?_ | refine below_drewN ?_ _))

set_option maxHeartbeats 400000 in
theorem Location_any (s n : Int) (w : World) : Calls Tryz.prog 62 #[vTime s n] w fun e w' => e = .returned (.agg #[]) ∧ Below w.heap.size w w' := by
  go_enter Tryz.func62, Tryz.ntmps62
  go_wp2
  refine bodyPost_ret (v := .agg #[]) (by simp [results, Tryz.results62, go_sem]) rfl ⟨rfl, ?_⟩
  (repeat (first | exact Below.refl _ _ | refine Below.setCell ?_ (by simp) _ | refine Below.alloc ?_ (by simp) _ | refine Below.drew ?_ | refine below_drewN ?_ _))

set_option maxHeartbeats 400000 in
theorem LocString_any (w : World) : Calls Tryz.prog 63 #[.agg #[]] w fun e w' => e = .returned (.string ⟨#[85, 84, 67]⟩) ∧ Below w.heap.size w w' := by
  go_enter Tryz.func63, Tryz.ntmps63
  go_wp2
  go_ret
  exact ⟨rfl, by (repeat (first | exact Below.refl _ _ | refine Below.setCell ?_ (by simp) _ | refine Below.alloc ?_ (by simp) _ | refine Below.drew ?_ | refine below_drewN ?_ _))⟩

set_option maxHeartbeats 400000 in
theorem UTCfn_any (w : World) : Calls Tryz.prog 50 #[] w fun e w' => e = .returned (.agg #[]) ∧ Below w.heap.size w w' := by
  go_enter Tryz.func50, Tryz.ntmps50
  go_wp2
  refine bodyPost_ret (v := .agg #[]) (by simp [results, Tryz.results50, go_sem]) rfl ⟨rfl, ?_⟩
  (repeat (first | exact Below.refl _ _ | refine Below.setCell ?_ (by simp) _ | refine Below.alloc ?_ (by simp) _ | refine Below.drew ?_ | refine below_drewN ?_ _))

theorem ret_int3 {k k2 k3 : IntKind} {a b c a' b' c' : Int} (h1 : a = a') (h2 : b = b') (h3 : c = c') : Ending.returned (.tuple #[.int k a, .int k2 b, .int k3 c]) = .returned (.tuple #[.int k a', .int k2 b', .int k3 c']) := by rw [h1, h2, h3]

set_option maxHeartbeats 1000000 in
theorem split_any (s n : Int) (w : World) (h0 : -100000000000000 ≤ s) (h1 : s ≤ 100000000000000) : Calls Tryz.prog 119 #[vTime s n] w fun e w' =>
    e = .returned (.tuple #[.int .i64 (Pl.yearOf (s / 86400)), .int .i64 (Pl.ydayOf (s / 86400)), .int .i64 (s % 86400)]) ∧ Below w.heap.size w w' := by
  obtain ⟨D, hD⟩ : ∃ D, D = s / 86400 := ⟨_, rfl⟩
  obtain ⟨c, hc⟩ : ∃ c, c = if (D - D / 146097 * 146097) / 36524 = 4 then 3 else (D - D / 146097 * 146097) / 36524 := ⟨_, rfl⟩
  obtain ⟨o, ho⟩ : ∃ o, o = if (D - D / 146097 * 146097 - c * 36524 - (D - D / 146097 * 146097 - c * 36524) / 1461 * 1461) / 365 = 4 then 3 else (D - D / 146097 * 146097 - c * 36524 - (D - D / 146097 * 146097 - c * 36524) / 1461 * 1461) / 365 := ⟨_, rfl⟩
  obtain ⟨hy, hx⟩ := Pl.yearOf_of D c o hc ho
  rw [hD] at hc ho hy hx
  have HY := Lib.hid hy; have HX := Lib.hid hx; clear hy hx hD D
  by_cases h4 : (s / 86400 - s / 86400 / 146097 * 146097) / 36524 = 4
  · rw [if_pos h4] at hc; subst hc
    have h5 : (s / 86400 - s / 86400 / 146097 * 146097 - 3 * 36524 - (s / 86400 - s / 86400 / 146097 * 146097 - 3 * 36524) / 1461 * 1461) / 365 = 4 := by omega
    rw [if_pos h5] at ho; subst ho
    go_enter Tryz.func119, Tryz.ntmps119
    go_wp2_with (go_at_call 111; refine (floor_any _ _ _ (by omega) (by omega) (by omega) (by omega)).mono ?_; rintro e w' ⟨rfl, rfl⟩)
    go_ret3
    exact ⟨ret_int3 (by rw [HY.out]; try omega) (by rw [HX.out]; try omega) (by omega), by (repeat (first | exact Below.refl _ _ | refine Below.setCell ?_ (by simp) _ | refine Below.alloc ?_ (by simp) _ | refine Below.drew ?_ | refine below_drewN ?_ _))⟩
  · rw [if_neg h4] at hc; subst hc
    by_cases h5 : (s / 86400 - s / 86400 / 146097 * 146097 - (s / 86400 - s / 86400 / 146097 * 146097) / 36524 * 36524 - (s / 86400 - s / 86400 / 146097 * 146097 - (s / 86400 - s / 86400 / 146097 * 146097) / 36524 * 36524) / 1461 * 1461) / 365 = 4
    · rw [if_pos h5] at ho; subst ho
      go_enter Tryz.func119, Tryz.ntmps119
      go_wp2_with (go_at_call 111; refine (floor_any _ _ _ (by omega) (by omega) (by omega) (by omega)).mono ?_; rintro e w' ⟨rfl, rfl⟩)
      go_ret3
      exact ⟨ret_int3 (by rw [HY.out]; try omega) (by rw [HX.out]; try omega) (by omega), by (repeat (first | exact Below.refl _ _ | refine Below.setCell ?_ (by simp) _ | refine Below.alloc ?_ (by simp) _ | refine Below.drew ?_ | refine below_drewN ?_ _))⟩
    · rw [if_neg h5] at ho; subst ho
      go_enter Tryz.func119, Tryz.ntmps119
      go_wp2_with (go_at_call 111; refine (floor_any _ _ _ (by omega) (by omega) (by omega) (by omega)).mono ?_; rintro e w' ⟨rfl, rfl⟩)
      go_ret3
      exact ⟨ret_int3 (by rw [HY.out]; try omega) (by rw [HX.out]; try omega) (by omega), by (repeat (first | exact Below.refl _ _ | refine Below.setCell ?_ (by simp) _ | refine Below.alloc ?_ (by simp) _ | refine Below.drew ?_ | refine below_drewN ?_ _))⟩

end Go.Proofs.YthkgjhnckakliaaGreatDoorR
namespace Go.Proofs.YthkgjhnckakliaaGreatDoorR
open Go.RowKit

namespace Pl
theorem daysTo_eq (e o : Int) (h0 : 0 ≤ o) (h1 : o < 400) : daysTo (400 * e + o + 1) = e * 146097 + o * 365 + o / 4 - o / 100 := by
  unfold daysTo; omega
/-- The reference's count of days is the calendar's. -/
theorem textDays_eq (y m d y' era off : Int) (hy' : y' = if m ≤ 2 then y - 1 else y) (he : era = y' / 400) (ho : off = y' - era * 400) (hm0 : 1 ≤ m) (hm1 : m ≤ 12) :
    era * 146097 + (off * 365 + off / 4 - off / 100 + ((153 * ((m + 9) % 12) + 2) / 5 + d - 1)) - 306 = daysOf y m d := by
  have hb : 0 ≤ off ∧ off < 400 := by omega
  have h1 := daysTo_eq era off hb.1 hb.2
  rw [show 400 * era + off + 1 = y' + 1 by omega] at h1
  unfold daysOf
  have hz : (m - 1) / 12 = 0 := by omega
  rw [hz, Int.add_zero]
  have hs := daysTo_succ y
  have hk : ∀ k : Nat, (m - 1) % 12 = k → ((m - 1) % 12).toNat = k := fun k h => by omega
  rcases (by omega : m = 1 ∨ m = 2 ∨ m = 3 ∨ m = 4 ∨ m = 5 ∨ m = 6 ∨ m = 7 ∨ m = 8 ∨ m = 9 ∨ m = 10 ∨ m = 11 ∨ m = 12) with rfl | rfl | rfl | rfl | rfl | rfl | rfl | rfl | rfl | rfl | rfl | rfl
  · rw [if_pos (by omega)] at hy'; subst hy'; rw [show y - 1 + 1 = y by omega] at h1; simp [cum]; omega
  · rw [if_pos (by omega)] at hy'; subst hy'; rw [show y - 1 + 1 = y by omega] at h1; simp [cum, mdays]; omega
  all_goals
    rw [if_neg (by omega)] at hy'; subst hy'
    simp only [ydays] at hs
    simp [cum, mdays]
    cases hl : leap y' <;> simp [hl] at hs ⊢ <;> omega
end Pl

set_option maxHeartbeats 400000 in
theorem sLeap_any (y : Int) (w : World) :
    Calls Tryz.prog 55 #[.int .i64 y] w fun e w' => e = .returned (.bool (Pl.leap y)) ∧ w = w' := by
  have HL := Lib.hid (leap_t y)
  go_enter Tryz.func55, Tryz.ntmps55
  go_wp2
  all_goals go_ret
  all_goals exact ⟨ret_bool (by rw [HL.out]; simp [*]), rfl⟩

set_option maxHeartbeats 400000 in
theorem sYearDays_any (y : Int) (w : World) :
    Calls Tryz.prog 44 #[.int .i64 y] w fun e w' => e = .returned (.int .i64 (Pl.ydays y)) ∧ w = w' := by
  go_enter Tryz.func44, Tryz.ntmps44
  go_wp2_with (go_at_call 55; refine (sLeap_any _ _).mono ?_; rintro e w' ⟨rfl, rfl⟩)
  all_goals go_ret
  all_goals exact ⟨ret_int (by simp [Pl.ydays, *]), rfl⟩

set_option maxHeartbeats 400000 in
theorem sMonthDays_any (y m : Int) (w : World) :
    Calls Tryz.prog 27 #[.int .i64 y, .int .i64 m] w fun e w' => e = .returned (.int .i64 (Pl.mdays m y)) ∧ w = w' := by
  have hy : 365 ≤ Pl.ydays y ∧ Pl.ydays y ≤ 366 := by unfold Pl.ydays; split <;> omega
  have hq : Pl.ydays y - 337 = if Pl.leap y then 29 else 28 := by unfold Pl.ydays; split <;> omega
  have HQ := Lib.hid hq; clear hq
  go_enter Tryz.func27, Tryz.ntmps27
  go_wp2_with (go_at_call 44; refine (sYearDays_any _ _).mono ?_; rintro e w' ⟨rfl, rfl⟩)
  all_goals go_ret
  all_goals exact ⟨ret_int (by have := HQ.out; simp_all [Pl.mdays]), rfl⟩

set_option maxHeartbeats 1000000 in
theorem sTextDays_any (y m d : Int) (w : World) (hy0 : 0 ≤ y) (hy1 : y ≤ 100000) (hm0 : 1 ≤ m) (hm1 : m ≤ 12) (hd0 : -1000 ≤ d) (hd1 : d ≤ 1000) :
    Calls Tryz.prog 52 #[.int .i64 y, .int .i64 m, .int .i64 d] w fun e w' => e = .returned (.int .i64 (Pl.daysOf y m d)) ∧ w = w' := by
  have HE := Lib.hid (Pl.textDays_eq y m d _ _ _ rfl rfl rfl hm0 hm1)
  by_cases h2 : m ≤ 2
  · by_cases hz : y = 0
    · subst hz
      go_enter Tryz.func52, Tryz.ntmps52
      go_wp2
      go_ret
      exact ⟨ret_int (by have h := HE.out; rw [if_pos h2] at h; rw [← h]; try omega), rfl⟩
    · go_enter Tryz.func52, Tryz.ntmps52
      go_wp2
      go_ret
      exact ⟨ret_int (by have h := HE.out; rw [if_pos h2] at h; rw [← h]; try omega), rfl⟩
  · go_enter Tryz.func52, Tryz.ntmps52
    go_wp2
    go_ret
    exact ⟨ret_int (by have h := HE.out; rw [if_neg (by omega)] at h; rw [← h]; try omega), rfl⟩

set_option maxHeartbeats 400000 in
theorem sNewYear_any (y : Int) (w : World) (hy0 : 1 ≤ y) (hy1 : y ≤ 100000) :
    Calls Tryz.prog 26 #[.int .i64 y] w fun e w' => e = .returned (.int .i64 (Pl.daysTo y)) ∧ w = w' := by
  go_enter Tryz.func26, Tryz.ntmps26
  go_wp2
  go_ret
  exact ⟨ret_int (by unfold Pl.daysTo; omega), rfl⟩

set_option maxHeartbeats 1000000 in
theorem sDaysOf_any (y m d : Int) (w : World) (hy0 : 1 ≤ y) (hy1 : y ≤ 100000) (hm0 : 1 ≤ m) (hm1 : m ≤ 12) (hd0 : -1000 ≤ d) (hd1 : d ≤ 1000) :
    Calls Tryz.prog 11 #[.int .i64 y, .int .i64 m, .int .i64 d] w fun e w' => e = .returned (.int .i64 (Pl.daysOf y m d)) ∧ w = w' := by
  have b1 := Pl.daysTo_bd y (by omega) (by omega)
  have hm' : ((m - 1) % 12).toNat = (m - 1).toNat := by omega
  have hz : y + (m - 1) / 12 = y := by omega
  have HF : Hid (Pl.daysOf y m d = Pl.daysTo y + d - 1 + Pl.cum y (m - 1).toNat) := by unfold Pl.daysOf; rw [hz, hm']; simp [Hid]
  clear hm' hz
  go_enter Tryz.func11, Tryz.ntmps11
  go_wp2_with (go_at_call 26; refine (sNewYear_any _ _ hy0 hy1).mono ?_; rintro e w' ⟨rfl, rfl⟩)
  go_loop [7, 8] (fun x i => ∃ k : Nat, (k : Int) + 1 ≤ m ∧ i = .int .i64 ((k : Int) + 1) ∧ x = .int .i64 (Pl.daysTo y + d - 1 + Pl.cum y k)) (fun _ i => (14 - intOf i).toNat)
  case atStart => exact ⟨0, by omega, rfl, by simp [Pl.cum]⟩
  case round =>
    obtain ⟨k, hk, rfl, rfl⟩ := hrel
    have hc := Pl.cum_bd y k
    have hm := Pl.mdays_bd ((k : Int) + 1) y
    by_cases hlt : (k : Int) + 1 < m
    · go_wp2_with (go_at_call 27; refine (sMonthDays_any _ _ _).mono ?_; rintro e w' ⟨rfl, rfl⟩)
      go_round
      case rel => exact ⟨k + 1, by omega, by go_num, by simp only [Pl.cum]; congr 1; omega⟩
      case measure => simp [intOf]; omega
    · have hk' : k = (m - 1).toNat := by omega
      have HK := Lib.hid hk'; clear hk'
      go_wp2
      go_ret
      exact ⟨ret_int (by rw [HF.out, ← HK.out]), rfl⟩

end Go.Proofs.YthkgjhnckakliaaGreatDoorR

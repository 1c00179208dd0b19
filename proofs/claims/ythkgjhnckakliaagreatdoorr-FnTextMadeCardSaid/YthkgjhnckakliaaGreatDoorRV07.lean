/- Contracts of the reference's text functions: beginnings, digits, capital letters.
  The contract of the reference's reader of a moment.
  The reference's reader of a moment: a right date with a time that is beyond its range.
  The reference's reader of a moment: a right date with a right time.
  The contract of the reference's reader of a moment.
  The contract of the reference's reader of a line's name: whether the line is a start's.
  zztime.digits: a number of just so many digits at the beginning of a text.
  Contracts of the package's own searches in texts: zzIndex and zzSplit at a text of one byte.
  zzSplit: a text cut at each sign of one byte.
  zzIndexAny: the first place of one of a few signs, in texts of ASCII.
  Contracts of the reference's readers of names: frequencies, days of the week; and of numbers.
  The contract of the reference's reader of a number.
  The contract of the reference's reader of numbers with commas between them.
  A rule of the reference as a record of plain data, and how it lies in a block of memory.
  Maps keyed by texts: made, filled with literal keys, asked once.
  The package-level variables stay as they are where one block of a call's own is written. -/
import Derived.Test.YthkgjhnckakliaaGreatDoorRV04
import Derived.Test.YthkgjhnckakliaaGreatDoorRV06
import Derived.Lib.ConvBytes
import Derived.Laws.BytesArg
import Derived.Test.YthkgjhnckakliaaGreatDoorRV02
import Derived.Laws.RangeAny
import Derived.Lib.AtoiAll
import Derived.MapKept
import Derived.Maps.Own
namespace Go.Proofs.YthkgjhnckakliaaGreatDoorR
open Go.RowKit

theorem list_get (s : ByteArray) (k : Nat) (h : k < s.size) : s.data.toList[k]? = some s[k] := by
  rw [List.getElem?_eq_getElem (by simpa using h)]; rfl

/-- Some digits at a place of a text, in a row. -/
def Pl.digits : Bs → Nat → Option Nat
  | [], acc => some acc
  | c :: r, acc => if 48 ≤ c.toNat ∧ c.toNat ≤ 57 then Pl.digits r (acc * 10 + (c.toNat - 48)) else none
def Pl.digitsAt (s : Bs) (at_ n : Nat) : Option Nat := if at_ + n ≤ s.length then Pl.digits ((s.drop at_).take n) 0 else none
theorem Pl.digits_snoc : ∀ (l : Bs) (c : UInt8) (acc : Nat), Pl.digits (l ++ [c]) acc = (Pl.digits l acc).bind fun n => if 48 ≤ c.toNat ∧ c.toNat ≤ 57 then some (n * 10 + (c.toNat - 48)) else none
  | [], c, acc => by simp [Pl.digits]
  | d :: l, c, acc => by
    simp only [List.cons_append, Pl.digits]
    split
    · exact Pl.digits_snoc l c _
    · rfl
theorem Pl.digits_none : ∀ (l r : Bs) (acc : Nat), Pl.digits l acc = none → Pl.digits (l ++ r) acc = none
  | [], _, _, h => by simp [Pl.digits] at h
  | c :: l, r, acc, h => by
    simp only [List.cons_append, Pl.digits] at h ⊢
    split
    · rename_i hc; rw [if_pos hc] at h; exact Pl.digits_none l r _ h
    · rfl
theorem Pl.digits_bd : ∀ (l : Bs) (acc n : Nat), Pl.digits l acc = some n → n < (acc + 1) * 10 ^ l.length
  | [], acc, n, h => by simp [Pl.digits] at h; simp; omega
  | c :: l, acc, n, h => by
    simp only [Pl.digits] at h
    split at h
    · have := Pl.digits_bd l _ n h
      rw [List.length_cons, Nat.pow_succ, Nat.mul_comm (10 ^ l.length) 10, ← Nat.mul_assoc]
      exact Nat.lt_of_lt_of_le this (Nat.mul_le_mul_right _ (by omega))
    · cases h

set_option maxHeartbeats 1000000 in
set_option maxRecDepth 100000 in
theorem textDigitsAt_any (s : ByteArray) (p n : Nat) (w : World) (hs : s.size ≤ 1000000) (hp : p ≤ 100) (hn0 : 1 ≤ n) (hn : n ≤ 8) :
    Calls Tryz.prog 51 #[.string s, .int .i64 p, .int .i64 n] w fun e w' =>
      e = .returned (.tuple #[.int .i64 ((Pl.digitsAt s.data.toList p n).getD 0), .bool (Pl.digitsAt s.data.toList p n).isSome]) ∧ w = w' := by
  go_enter Tryz.func51, Tryz.ntmps51
  go_wp2
  go_loop [9, 8] (fun i x => ∃ (k acc : Nat), k ≤ n ∧ i = .int .i64 ((p : Int) + k) ∧ x = .int .i64 acc ∧ acc < 10 ^ k ∧ p + k ≤ s.size + 100 ∧ Hid (Pl.digits ((s.data.toList.drop p).take k) 0 = some acc ∧ (0 < k → p + k ≤ s.size))) (fun i _ => (p + n) - (intOf i).toNat)
  case atStart => exact ⟨0, 0, Nat.zero_le _, by simp, rfl, by simp, by omega, by simp [Pl.digits, Hid]⟩
  case round =>
    obtain ⟨k, acc, hk, rfl, rfl, ha, hb, hd⟩ := hrel
    by_cases hkn : k < n
    · have hten : acc < 100000000 := Nat.lt_of_lt_of_le ha (Nat.le_trans (Nat.pow_le_pow_right (by omega) (show k ≤ 8 by omega)) (by decide))
      by_cases hlt : p + k < s.size
      · have hsn : (s.data.toList.drop p).take (k + 1) = (s.data.toList.drop p).take k ++ [s[p + k]] := by
          rw [List.take_add_one, List.getElem?_drop, list_get s (p + k) hlt]; rfl
        have HSN := Lib.hid hsn; clear hsn
        have hfail : ¬ (48 ≤ s[p + k].toNat ∧ s[p + k].toNat ≤ 57) → Pl.digitsAt s.data.toList p n = none := by
          intro hc
          unfold Pl.digitsAt; split
          · obtain ⟨r, hr⟩ : ∃ r, (s.data.toList.drop p).take n = (s.data.toList.drop p).take (k + 1) ++ r := ⟨((s.data.toList.drop p).take n).drop (k + 1), by
              rw [show (s.data.toList.drop p).take (k + 1) = ((s.data.toList.drop p).take n).take (k + 1) by rw [List.take_take]; congr 1; omega, List.take_append_drop]⟩
            rw [hr]; apply Pl.digits_none
            rw [HSN.out, Pl.digits_snoc, hd.out.1]; simp [hc]
          · rfl
        by_cases hlo : 48 ≤ s[p + k].toNat
        · by_cases hhi : s[p + k].toNat ≤ 57
          · clear hfail
            have hsub : IntKind.u8.wrap ((s[p + k].toNat : Int) - 48) = (s[p + k].toNat : Int) - 48 := by simp [IntKind.wrap, IntKind.bits, IntKind.signed]; omega
            go_wp2
            go_round
            case rel =>
              refine ⟨k + 1, acc * 10 + (s[p + k].toNat - 48), by omega, by go_num, ?_, ?_, by omega, Lib.hid ⟨?_, fun _ => by omega⟩⟩
              · go_num
              · rw [Nat.pow_succ]; omega
              · rw [HSN.out, Pl.digits_snoc, hd.out.1]; simp [hlo, hhi]
            case measure => simp [intOf]; omega
          · have hF := Lib.hid (hfail (by omega)); clear hfail
            go_wp2
            go_ret2
            exact ⟨by rw [hF.out]; rfl, rfl⟩
        · have hF := Lib.hid (hfail (by omega)); clear hfail
          go_wp2
          go_ret2
          exact ⟨by rw [hF.out]; rfl, rfl⟩
      · have hF : Hid (Pl.digitsAt s.data.toList p n = none) := by
          unfold Pl.digitsAt; exact if_neg (by simp; omega)
        go_wp2
        go_ret2
        exact ⟨by rw [hF.out]; rfl, rfl⟩
    · obtain rfl : k = n := by omega
      have hF : Hid (Pl.digitsAt s.data.toList p k = if p + k ≤ s.size then some acc else none) := by
        unfold Pl.digitsAt
        rw [hd.out.1]; simp [Hid]
      rw [if_pos (hd.out.2 hn0)] at hF
      go_wp2
      go_ret2
      exact ⟨by rw [hF.out]; rfl, rfl⟩

theorem str_eq_iff (s : ByteArray) (l : Bs) : (s.toList == l) = decide (s.data.toList = l) := by
  rw [ByteArray.toList_eq, Bool.eq_iff_iff]; simp

theorem hasPrefix_take (s p : Bs) (h : p.length ≤ s.length) : Lib.hasPrefix s p = (s.take p.length == p) := by
  rw [Bool.eq_iff_iff]; simp only [Lib.hasPrefix, List.isPrefixOf_iff_prefix, beq_iff_eq]
  constructor
  · rintro ⟨r, rfl⟩; simp
  · intro h2; rw [← h2]; exact List.take_prefix _ _
theorem hasPrefix_short (s p : Bs) (h : s.length < p.length) : Lib.hasPrefix s p = false := by
  rw [Bool.eq_false_iff]; intro h2
  simp only [Lib.hasPrefix, List.isPrefixOf_iff_prefix] at h2
  have := h2.length_le; omega

set_option maxHeartbeats 400000 in
theorem textBegins_any (s p : ByteArray) (w : World) :
    Calls Tryz.prog 20 #[.string s, .string p] w fun e w' => e = .returned (.bool (Lib.hasPrefix s.data.toList p.data.toList)) ∧ w = w' := by
  by_cases h : p.size ≤ s.size
  · have H := Lib.hid (hasPrefix_take s.data.toList p.data.toList (by simpa using h))
    go_enter Tryz.func20, Tryz.ntmps20
    go_wp2
    go_ret
    refine ⟨ret_bool ?_, rfl⟩
    rw [H.out]
    simp [ByteArray.toList_eq]
  · have H := Lib.hid (hasPrefix_short s.data.toList p.data.toList (by simpa using h))
    have hd : decide (p.size ≤ s.size) = false := by simpa using h
    go_enter Tryz.func20, Tryz.ntmps20
    go_wp2
    go_ret
    exact ⟨ret_bool H.out.symm, rfl⟩

theorem upperB_iff (c : UInt8) : ((Lib.upperB c).toNat : Int) = if 97 ≤ (c.toNat : Int) ∧ (c.toNat : Int) ≤ 122 then (c.toNat : Int) - 32 else c.toNat := by
  have key : ∀ n : Fin 256, ((Lib.upperB (UInt8.ofNat n.val)).toNat : Int) = if 97 ≤ (n.val : Int) ∧ (n.val : Int) ≤ 122 then (n.val : Int) - 32 else n.val := by decide +kernel
  have := key ⟨c.toNat, c.toNat_lt⟩
  simpa using this

theorem below_bytesWorld (w : World) (e : TypeId) (s : ByteArray) : Below w.heap.size w (Lib.bytesWorld w e s) := by
  refine ⟨?_, ?_, ?_, by rw [Lib.bytesWorld_size]; omega, fun k hk => Lib.bytesWorld_at_old w e s k hk⟩ <;>
    simp [Lib.bytesWorld, World.freeze, World.drew, World.alloc, -World.alloc_eq, -World.drew_eq]
theorem bytesWorld_free (w : World) (e : TypeId) (s : ByteArray) (j : Nat) (hj : j < s.size) : (Lib.bytesWorld w e s).frozen? ⟨w.heap.size, j, none⟩ = false := by
  simp [World.frozen?, Lib.bytesWorld_at_new, Lib.bytesCells]; omega

set_option maxHeartbeats 1000000 in
set_option maxRecDepth 100000 in
theorem textUpper_any (s : ByteArray) (w : World) (hs : s.size ≤ 1000000) :
    Calls Tryz.prog 32 #[.string s] w fun e w' => e = .returned (.string (bs (Lib.toUpperA s.data.toList))) ∧ Below w.heap.size w w' := by
  have hcv := fun w => Lib.run_convert_string_bytes (P := Tryz.prog) w 9 104 5 s Tryz.underlying9 Tryz.underlying104 Tryz.underlying5
  have hb0 := below_bytesWorld w 5 s
  have hsz := Lib.bytesWorld_size w 5 s
  have hc0 : ∀ j, j < s.size → (Lib.bytesWorld w 5 s).cell? ⟨w.heap.size, j, none⟩ = some (.int .u8 (s.data.toList.getD j 0).toNat) := fun j hj => Lib.bytesWorld_cell w 5 s j hj
  have hf0 : ∀ j, j < s.size → (Lib.bytesWorld w 5 s).frozen? ⟨w.heap.size, j, none⟩ = false := fun j hj => bytesWorld_free w 5 s j hj
  have HC0 := Lib.hid hc0; have HF0 := Lib.hid hf0; clear hc0 hf0
  have HSZ := Lib.hid hsz; clear hsz
  go_enter Tryz.func32, Tryz.ntmps32
  go_wp2
  clear hcv
  generalize Lib.bytesWorld w 5 s = w0 at *
  go_loopw [10] (fun i wr => ∃ k : Nat, k ≤ s.size ∧ i = .int .i64 k ∧ Below w.heap.size w wr ∧
      Hid (∀ j, j < s.size → wr.cell? ⟨w.heap.size, j, none⟩ = some (.int .u8 (if j < k then (Lib.upperB (s.data.toList.getD j 0)).toNat else (s.data.toList.getD j 0).toNat : Nat))) ∧ Hid (∀ j, j < s.size → wr.frozen? ⟨w.heap.size, j, none⟩ = false))
    (fun i _ => s.size - (intOf i).toNat)
  case atStart => exact ⟨0, Nat.zero_le _, rfl, hb0, Lib.hid (fun j hj => by rw [HC0.out j hj]; simp), HF0⟩
  case round =>
    obtain ⟨k, hk, rfl, hb, hc, hf⟩ := hrel
    by_cases hlt : k < s.size
    · have hck : wr.cell? ⟨w.heap.size, k, none⟩ = some (.int .u8 ((s.data.toList.getD k 0).toNat : Nat)) := by rw [hc.out k hlt]; simp
      have hfk := hf.out k hlt
      have hup := upperB_iff (s.data.toList.getD k 0)
      have HUP := Lib.hid hup; clear hup
      obtain ⟨c, hcd⟩ : ∃ c, c = s.data.toList.getD k 0 := ⟨_, rfl⟩
      rw [← hcd] at hck HUP
      have HCD := Lib.hid hcd; clear hcd
      by_cases hlow : 97 ≤ (c.toNat : Int) ∧ (c.toNat : Int) ≤ 122
      · have HU : Hid (((Lib.upperB c).toNat : Int) = (c.toNat : Int) - 32) := by rw [HUP.out, if_pos hlow]; simp [Hid]
        obtain ⟨hl1, hl2⟩ := hlow
        have hsub : IntKind.u8.wrap ((c.toNat : Int) - 32) = (c.toNat : Int) - 32 := by simp [IntKind.wrap, IntKind.bits, IntKind.signed]; omega
        go_wp2
        go_roundw
        case rel =>
          refine ⟨k + 1, by omega, by go_num, hb.setCell (by simp) _, Lib.hid ?_, Lib.hid ?_⟩
          · intro j hj
            by_cases e : j = k
            · subst e; rw [World.cell?_setCell_same _ _ _ hck, if_pos (by omega), ← HCD.out, HU.out]
            · rw [World.cell?_setCell_other _ _ _ _ (by intro h; injection h; omega), hc.out j hj]
              congr 3; simp only [show (j < k + 1) = (j < k) by simp; omega]
          · intro j hj; rw [World.frozen?_setCell]; exact hf.out j hj
        case measure => simp [intOf]; omega
      · have HU : Hid (((Lib.upperB c).toNat : Int) = (c.toNat : Int)) := by rw [HUP.out, if_neg hlow]; simp [Hid]
        go_wp2
        all_goals
          refine ⟨⟨k + 1, by omega, by go_num, hb, Lib.hid ?_, hf⟩, by simp [intOf]; omega⟩
          intro j hj
          by_cases e : j = k
          · subst e; rw [hc.out j hj, if_neg (by omega), if_pos (by omega), ← HCD.out, HU.out]
          · rw [hc.out j hj]
            congr 3; simp only [show (j < k + 1) = (j < k) by simp; omega]
    · obtain rfl : k = s.size := by omega
      have hcb := run_convert_bytes_arg (P := Tryz.prog) wr 104 5 Tryz.underlying104 Tryz.underlying5 w.heap.size 0 s.size (grownCap w s.size 0 5) (s.data.toList.map fun c => ((Lib.upperB c).toNat : Int)) (by simp)
        (by intro i hi; rw [Nat.zero_add, hc.out i hi, if_pos hi]; simp [List.getD, hi]) 9 Tryz.underlying9
      go_wp2
      go_ret
      refine ⟨ret_str ?_, hb⟩
      simp [strOfNums, bs, Lib.toUpperA, Function.comp_def]

end Go.Proofs.YthkgjhnckakliaaGreatDoorR
namespace Go.Proofs.YthkgjhnckakliaaGreatDoorR
open Go.RowKit

theorem ret_io {a b a' b' : Int} (h1 : a = a') (h2 : b = b') : Ending.returned (.tuple #[.int .i64 a, .int .u8 b]) = .returned (.tuple #[.int .i64 a', .int .u8 b']) := by rw [h1, h2]

theorem textDigitsAt_lit (s : ByteArray) (p n : Int) (w : World) (hs : s.size ≤ 1000000) (hp0 : 0 ≤ p) (hp : p ≤ 100) (hn0 : 1 ≤ n) (hn : n ≤ 8) :
    Calls Tryz.prog 51 #[.string s, .int .i64 p, .int .i64 n] w fun e w' =>
      e = .returned (.tuple #[.int .i64 ((Pl.digitsAt s.data.toList p.toNat n.toNat).getD 0), .bool (Pl.digitsAt s.data.toList p.toNat n.toNat).isSome]) ∧ w = w' := by
  have := textDigitsAt_any s p.toNat n.toNat w hs (by omega) (by omega) (by omega)
  rwa [show ((p.toNat : Nat) : Int) = p by omega, show ((n.toNat : Nat) : Int) = n by omega] at this

namespace Pl
/-- A date. -/
def dateOk (y m d : Nat) : Prop := 1 ≤ m ∧ m ≤ 12 ∧ 1 ≤ d ∧ (d : Int) ≤ mdays m y
instance (y m d : Nat) : Decidable (dateOk y m d) := by unfold dateOk; infer_instance
def timeOk (s : Bs) (h n x : Nat) : Prop := s[8]? = some 84 ∧ h ≤ 23 ∧ n ≤ 59 ∧ x ≤ 59
instance (s : Bs) (h n x : Nat) : Decidable (timeOk s h n x) := by unfold timeOk; infer_instance
/-- A date, or a date with a time, with or without a Z: its seconds, and 0 (right), 1 (wrong) or 2 (left open). -/
def moment (s : Bs) : Int × Nat :=
  match digitsAt s 0 4, digitsAt s 4 2, digitsAt s 6 2 with
  | some y, some m, some d =>
    if dateOk y m d then
      if s.length = 8 then (daysOf y m d * 86400, 0) else
      match digitsAt s 9 2, digitsAt s 11 2, digitsAt s 13 2 with
      | some h, some n, some x =>
        if timeOk s h n x then
          if s.length = 15 ∨ s.length = 16 ∧ s[15]? = some 90 then (daysOf y m d * 86400 + (h * 3600 + n * 60 + x), 0)
          else if s[15]? = some 46 ∨ s[15]? = some 44 then (0, 2) else (0, 1)
        else (0, 1)
      | _, _, _ => (0, 1)
    else (0, 1)
  | _, _, _ => (0, 1)
theorem digitsAt_len {s : Bs} {p n v : Nat} (h : digitsAt s p n = some v) : p + n ≤ s.length := by
  unfold digitsAt at h; split at h
  · assumption
  · cases h
theorem digitsAt_bd {s : Bs} {p n v : Nat} (h : digitsAt s p n = some v) : v < 10 ^ n := by
  unfold digitsAt at h; split at h
  · rename_i hl
    have := digits_bd _ _ _ h
    simp only [Nat.zero_add, Nat.one_mul, List.length_take, List.length_drop] at this
    exact Nat.lt_of_lt_of_le this (Nat.pow_le_pow_right (by omega) (by omega))
  · cases h
end Pl

end Go.Proofs.YthkgjhnckakliaaGreatDoorR
namespace Go.Proofs.YthkgjhnckakliaaGreatDoorR
open Go.RowKit

set_option maxHeartbeats 8000000 in
set_option maxRecDepth 100000 in
theorem Moment_badtime (s : ByteArray) (w : World) (hs : s.size ≤ 1000000) (y m d : Nat) (h1 : Pl.digitsAt s.data.toList 0 4 = some y) (h2 : Pl.digitsAt s.data.toList 4 2 = some m) (h3 : Pl.digitsAt s.data.toList 6 2 = some d) (hok : Pl.dateOk y m d) (h88 : ¬ s.size = 8) (h n x : Nat) (h4 : Pl.digitsAt s.data.toList 9 2 = some h) (h5 : Pl.digitsAt s.data.toList 11 2 = some n) (h6 : Pl.digitsAt s.data.toList 13 2 = some x) (htk : ¬ Pl.timeOk s.data.toList h n x) :
    Calls Tryz.prog 33 #[.string s] w fun e w' =>
      e = .returned (.tuple #[.int .i64 (Pl.moment s.data.toList).1, .int .u8 (Pl.moment s.data.toList).2]) ∧ w = w' := by
  have hlen : s.data.toList.length = s.size := by simp
  have HLEN := Lib.hid hlen; clear hlen
  have hy : y < 10000 := Pl.digitsAt_bd h1
  have hm : m < 100 := Pl.digitsAt_bd h2
  have hd : d < 100 := Pl.digitsAt_bd h3
  have h8 : 8 ≤ s.size := by have := Pl.digitsAt_len h3; rw [HLEN.out] at this; exact this
  have HOK := Lib.hid hok
  obtain ⟨k1, k2, k3, k4⟩ := hok
  have hD : -366000400 ≤ Pl.daysOf y m d ∧ Pl.daysOf y m d ≤ 366010000 := by
    have a1 := Pl.daysTo_bd (y + ((m : Int) - 1) / 12) (by omega) (by omega)
    have a2 := Pl.cum_bd (y + ((m : Int) - 1) / 12) (((m : Int) - 1) % 12).toNat
    unfold Pl.daysOf; omega
  have b88 : ((s.size : Int) == 8) = false := by simp; omega
  have h9 : 8 < s.size := by omega
  have g8 := list_get s 8 h9
  have G8 := Lib.hid g8; clear g8
  have hh : h < 100 := Pl.digitsAt_bd h4
  have hn : n < 100 := Pl.digitsAt_bd h5
  have hx : x < 100 := Pl.digitsAt_bd h6
  have h15 : 15 ≤ s.size := by have := Pl.digitsAt_len h6; rw [HLEN.out] at this; exact this
  have HFIN : Hid (Pl.moment s.data.toList = (0, 1)) := (by unfold Pl.moment; rw [h1, h2, h3]; simp only; rw [if_pos HOK.out, if_neg (by rw [HLEN.out]; exact h88)]; rw [h4, h5, h6]; exact if_neg htk)
  have hcs : s[8].toNat ≠ 84 ∨ (s[8].toNat = 84 ∧ 23 < h) ∨ (s[8].toNat = 84 ∧ h ≤ 23 ∧ 59 < n) ∨ (s[8].toNat = 84 ∧ h ≤ 23 ∧ n ≤ 59 ∧ 59 < x) := by
    by_cases hT : s[8].toNat = 84
    · have hT2 : s.data.toList[8]? = some 84 := by rw [G8.out]; congr 1; exact UInt8.toNat_inj.1 hT
      by_cases a2 : h ≤ 23
      · by_cases a3 : n ≤ 59
        · exact Or.inr (Or.inr (Or.inr ⟨hT, a2, a3, Nat.not_le.1 (fun h => htk ⟨hT2, a2, a3, h⟩)⟩))
        · exact Or.inr (Or.inr (Or.inl ⟨hT, a2, by omega⟩))
      · exact Or.inr (Or.inl ⟨hT, by omega⟩)
    · exact Or.inl hT
  have HH := Lib.hid h88; clear h88 htk
  rcases hcs with t1 | ⟨t1, t2⟩ | ⟨t1, t2, t3⟩ | ⟨t1, t2, t3, t4⟩
  · go_enter Tryz.func33, Tryz.ntmps33
    go_wp2_with (first | (go_at_call 51; refine (textDigitsAt_lit _ _ _ _ hs (by omega) (by omega) (by omega) (by omega)).mono ?_; rintro e w' ⟨rfl, rfl⟩) | (go_at_call 27; refine (sMonthDays_any _ _ _).mono ?_; rintro e w' ⟨rfl, rfl⟩) | (go_at_call 52; refine (sTextDays_any _ _ _ _ (by omega) (by omega) (by omega) (by omega) (by omega) (by omega)).mono ?_; rintro e w' ⟨rfl, rfl⟩))
    all_goals (go_ret2; exact ⟨ret_io (by rw [HFIN.out]) (by rw [HFIN.out]; rfl), rfl⟩)
  · go_enter Tryz.func33, Tryz.ntmps33
    go_wp2_with (first | (go_at_call 51; refine (textDigitsAt_lit _ _ _ _ hs (by omega) (by omega) (by omega) (by omega)).mono ?_; rintro e w' ⟨rfl, rfl⟩) | (go_at_call 27; refine (sMonthDays_any _ _ _).mono ?_; rintro e w' ⟨rfl, rfl⟩) | (go_at_call 52; refine (sTextDays_any _ _ _ _ (by omega) (by omega) (by omega) (by omega) (by omega) (by omega)).mono ?_; rintro e w' ⟨rfl, rfl⟩))
    all_goals (go_ret2; exact ⟨ret_io (by rw [HFIN.out]) (by rw [HFIN.out]; rfl), rfl⟩)
  · go_enter Tryz.func33, Tryz.ntmps33
    go_wp2_with (first | (go_at_call 51; refine (textDigitsAt_lit _ _ _ _ hs (by omega) (by omega) (by omega) (by omega)).mono ?_; rintro e w' ⟨rfl, rfl⟩) | (go_at_call 27; refine (sMonthDays_any _ _ _).mono ?_; rintro e w' ⟨rfl, rfl⟩) | (go_at_call 52; refine (sTextDays_any _ _ _ _ (by omega) (by omega) (by omega) (by omega) (by omega) (by omega)).mono ?_; rintro e w' ⟨rfl, rfl⟩))
    all_goals (go_ret2; exact ⟨ret_io (by rw [HFIN.out]) (by rw [HFIN.out]; rfl), rfl⟩)
  · go_enter Tryz.func33, Tryz.ntmps33
    go_wp2_with (first | (go_at_call 51; refine (textDigitsAt_lit _ _ _ _ hs (by omega) (by omega) (by omega) (by omega)).mono ?_; rintro e w' ⟨rfl, rfl⟩) | (go_at_call 27; refine (sMonthDays_any _ _ _).mono ?_; rintro e w' ⟨rfl, rfl⟩) | (go_at_call 52; refine (sTextDays_any _ _ _ _ (by omega) (by omega) (by omega) (by omega) (by omega) (by omega)).mono ?_; rintro e w' ⟨rfl, rfl⟩))
    all_goals (go_ret2; exact ⟨ret_io (by rw [HFIN.out]) (by rw [HFIN.out]; rfl), rfl⟩)

end Go.Proofs.YthkgjhnckakliaaGreatDoorR
namespace Go.Proofs.YthkgjhnckakliaaGreatDoorR
open Go.RowKit

set_option maxHeartbeats 8000000 in
set_option maxRecDepth 100000 in
theorem Moment_righttime (s : ByteArray) (w : World) (hs : s.size ≤ 1000000) (y m d : Nat) (h1 : Pl.digitsAt s.data.toList 0 4 = some y) (h2 : Pl.digitsAt s.data.toList 4 2 = some m) (h3 : Pl.digitsAt s.data.toList 6 2 = some d) (hok : Pl.dateOk y m d) (h88 : ¬ s.size = 8) (h n x : Nat) (h4 : Pl.digitsAt s.data.toList 9 2 = some h) (h5 : Pl.digitsAt s.data.toList 11 2 = some n) (h6 : Pl.digitsAt s.data.toList 13 2 = some x) (htk : Pl.timeOk s.data.toList h n x) :
    Calls Tryz.prog 33 #[.string s] w fun e w' =>
      e = .returned (.tuple #[.int .i64 (Pl.moment s.data.toList).1, .int .u8 (Pl.moment s.data.toList).2]) ∧ w = w' := by
  have hlen : s.data.toList.length = s.size := by simp
  have HLEN := Lib.hid hlen; clear hlen
  have hy : y < 10000 := Pl.digitsAt_bd h1
  have hm : m < 100 := Pl.digitsAt_bd h2
  have hd : d < 100 := Pl.digitsAt_bd h3
  have h8 : 8 ≤ s.size := by have := Pl.digitsAt_len h3; rw [HLEN.out] at this; exact this
  have HOK := Lib.hid hok
  obtain ⟨k1, k2, k3, k4⟩ := hok
  have hD : -366000400 ≤ Pl.daysOf y m d ∧ Pl.daysOf y m d ≤ 366010000 := by
    have a1 := Pl.daysTo_bd (y + ((m : Int) - 1) / 12) (by omega) (by omega)
    have a2 := Pl.cum_bd (y + ((m : Int) - 1) / 12) (((m : Int) - 1) % 12).toNat
    unfold Pl.daysOf; omega
  have b88 : ((s.size : Int) == 8) = false := by simp; omega
  have h9 : 8 < s.size := by omega
  have g8 := list_get s 8 h9
  have G8 := Lib.hid g8; clear g8
  have hh : h < 100 := Pl.digitsAt_bd h4
  have hn : n < 100 := Pl.digitsAt_bd h5
  have hx : x < 100 := Pl.digitsAt_bd h6
  have h15 : 15 ≤ s.size := by have := Pl.digitsAt_len h6; rw [HLEN.out] at this; exact this
  have HTK := Lib.hid htk
  obtain ⟨t1, t2, t3, t4⟩ := htk
  have t1' : s[8].toNat = 84 := by have := G8.out; rw [t1] at this; injection this with this; rw [← this]; rfl
  clear t1
  have hsum : Hid ((Pl.daysOf y m d * 86400 + ((h : Int) * 3600 + n * 60 + x)) = Pl.daysOf y m d * 86400 + (h * 3600 + n * 60 + x)) := rfl
  by_cases hz : s.size = 15
  · have HFIN : Hid (Pl.moment s.data.toList = (Pl.daysOf y m d * 86400 + (h * 3600 + n * 60 + x), 0)) := (by unfold Pl.moment; rw [h1, h2, h3]; simp only; rw [if_pos HOK.out, if_neg (by rw [HLEN.out]; exact h88)]; rw [h4, h5, h6]; simp only; rw [if_pos HTK.out, if_pos (Or.inl (by rw [HLEN.out]; exact hz))]; rfl)
    have HH := Lib.hid h88; clear h88
    go_enter Tryz.func33, Tryz.ntmps33
    go_wp2_with (first | (go_at_call 51; refine (textDigitsAt_lit _ _ _ _ hs (by omega) (by omega) (by omega) (by omega)).mono ?_; rintro e w' ⟨rfl, rfl⟩) | (go_at_call 27; refine (sMonthDays_any _ _ _).mono ?_; rintro e w' ⟨rfl, rfl⟩) | (go_at_call 52; refine (sTextDays_any _ _ _ _ (by omega) (by omega) (by omega) (by omega) (by omega) (by omega)).mono ?_; rintro e w' ⟨rfl, rfl⟩))
    all_goals (go_ret2; exact ⟨ret_io (by rw [HFIN.out]) (by rw [HFIN.out]; rfl), rfl⟩)
  · have h16 : 15 < s.size := by omega
    have g15 := list_get s 15 h16
    have G15 := Lib.hid g15; clear g15
    by_cases hZ : s.size = 16 ∧ s[15].toNat = 90
    · obtain ⟨z1, z2⟩ := hZ
      have HFIN : Hid (Pl.moment s.data.toList = (Pl.daysOf y m d * 86400 + (h * 3600 + n * 60 + x), 0)) := (by unfold Pl.moment; rw [h1, h2, h3]; simp only; rw [if_pos HOK.out, if_neg (by rw [HLEN.out]; exact h88)]; rw [h4, h5, h6]; simp only; rw [if_pos HTK.out, if_pos (Or.inr ⟨by rw [HLEN.out]; exact z1, by rw [G15.out]; congr 1; exact UInt8.toNat_inj.1 z2⟩)]; rfl)
      have HH := Lib.hid h88; clear h88
      go_enter Tryz.func33, Tryz.ntmps33
      go_wp2_with (first | (go_at_call 51; refine (textDigitsAt_lit _ _ _ _ hs (by omega) (by omega) (by omega) (by omega)).mono ?_; rintro e w' ⟨rfl, rfl⟩) | (go_at_call 27; refine (sMonthDays_any _ _ _).mono ?_; rintro e w' ⟨rfl, rfl⟩) | (go_at_call 52; refine (sTextDays_any _ _ _ _ (by omega) (by omega) (by omega) (by omega) (by omega) (by omega)).mono ?_; rintro e w' ⟨rfl, rfl⟩))
      all_goals (go_ret2; exact ⟨ret_io (by rw [HFIN.out]) (by rw [HFIN.out]; rfl), rfl⟩)
    · have hnR : ¬ (s.data.toList.length = 15 ∨ s.data.toList.length = 16 ∧ s.data.toList[15]? = some 90) := by
        rw [HLEN.out, G15.out]
        rintro (a | ⟨a, b⟩)
        · exact hz a
        · injection b with b; exact hZ ⟨a, by rw [b]; rfl⟩
      have hcs : (s.size = 16 ∧ s[15].toNat ≠ 90) ∨ 16 < s.size := by
        by_cases a : s.size = 16
        · exact Or.inl ⟨a, fun b => hZ ⟨a, b⟩⟩
        · exact Or.inr (by omega)
      have HNR := Lib.hid hnR; clear hnR hZ
      by_cases d1 : s[15].toNat = 46 ∨ s[15].toNat = 44
      · have HFIN : Hid (Pl.moment s.data.toList = (0, 2)) := (by unfold Pl.moment; rw [h1, h2, h3]; simp only; rw [if_pos HOK.out, if_neg (by rw [HLEN.out]; exact h88)]; rw [h4, h5, h6]; simp only; rw [if_pos HTK.out, if_neg HNR.out, if_pos (by rw [G15.out]; rcases d1 with d | d; exact Or.inl (by congr 1; exact UInt8.toNat_inj.1 d); exact Or.inr (by congr 1; exact UInt8.toNat_inj.1 d))]; rfl)
        have HH := Lib.hid h88; clear h88
        rcases d1 with d1 | d1 <;> rcases hcs with ⟨e1, e2⟩ | e1
        · go_enter Tryz.func33, Tryz.ntmps33
          go_wp2_with (first | (go_at_call 51; refine (textDigitsAt_lit _ _ _ _ hs (by omega) (by omega) (by omega) (by omega)).mono ?_; rintro e w' ⟨rfl, rfl⟩) | (go_at_call 27; refine (sMonthDays_any _ _ _).mono ?_; rintro e w' ⟨rfl, rfl⟩) | (go_at_call 52; refine (sTextDays_any _ _ _ _ (by omega) (by omega) (by omega) (by omega) (by omega) (by omega)).mono ?_; rintro e w' ⟨rfl, rfl⟩))
          all_goals (go_ret2; exact ⟨ret_io (by rw [HFIN.out]) (by rw [HFIN.out]; rfl), rfl⟩)
        · go_enter Tryz.func33, Tryz.ntmps33
          go_wp2_with (first | (go_at_call 51; refine (textDigitsAt_lit _ _ _ _ hs (by omega) (by omega) (by omega) (by omega)).mono ?_; rintro e w' ⟨rfl, rfl⟩) | (go_at_call 27; refine (sMonthDays_any _ _ _).mono ?_; rintro e w' ⟨rfl, rfl⟩) | (go_at_call 52; refine (sTextDays_any _ _ _ _ (by omega) (by omega) (by omega) (by omega) (by omega) (by omega)).mono ?_; rintro e w' ⟨rfl, rfl⟩))
          all_goals (go_ret2; exact ⟨ret_io (by rw [HFIN.out]) (by rw [HFIN.out]; rfl), rfl⟩)
        · go_enter Tryz.func33, Tryz.ntmps33
          go_wp2_with (first | (go_at_call 51; refine (textDigitsAt_lit _ _ _ _ hs (by omega) (by omega) (by omega) (by omega)).mono ?_; rintro e w' ⟨rfl, rfl⟩) | (go_at_call 27; refine (sMonthDays_any _ _ _).mono ?_; rintro e w' ⟨rfl, rfl⟩) | (go_at_call 52; refine (sTextDays_any _ _ _ _ (by omega) (by omega) (by omega) (by omega) (by omega) (by omega)).mono ?_; rintro e w' ⟨rfl, rfl⟩))
          all_goals (go_ret2; exact ⟨ret_io (by rw [HFIN.out]) (by rw [HFIN.out]; rfl), rfl⟩)
        · go_enter Tryz.func33, Tryz.ntmps33
          go_wp2_with (first | (go_at_call 51; refine (textDigitsAt_lit _ _ _ _ hs (by omega) (by omega) (by omega) (by omega)).mono ?_; rintro e w' ⟨rfl, rfl⟩) | (go_at_call 27; refine (sMonthDays_any _ _ _).mono ?_; rintro e w' ⟨rfl, rfl⟩) | (go_at_call 52; refine (sTextDays_any _ _ _ _ (by omega) (by omega) (by omega) (by omega) (by omega) (by omega)).mono ?_; rintro e w' ⟨rfl, rfl⟩))
          all_goals (go_ret2; exact ⟨ret_io (by rw [HFIN.out]) (by rw [HFIN.out]; rfl), rfl⟩)
      · have HFIN : Hid (Pl.moment s.data.toList = (0, 1)) := (by unfold Pl.moment; rw [h1, h2, h3]; simp only; rw [if_pos HOK.out, if_neg (by rw [HLEN.out]; exact h88)]; rw [h4, h5, h6]; simp only; rw [if_pos HTK.out, if_neg HNR.out, if_neg (by rw [G15.out]; rintro (d | d); exact d1 (Or.inl (by injection d with d; rw [d]; rfl)); exact d1 (Or.inr (by injection d with d; rw [d]; rfl)))]; rfl)
        have HH := Lib.hid h88; clear h88
        have d2 : ((s[15].toNat : Int) == 46) = false := by rw [beq_eq_false_iff_ne]; omega
        have d3 : ((s[15].toNat : Int) == 44) = false := by rw [beq_eq_false_iff_ne]; omega
        have D1 := Lib.hid d1; clear d1
        rcases hcs with ⟨e1, e2⟩ | e1
        · go_enter Tryz.func33, Tryz.ntmps33
          go_wp2_with (first | (go_at_call 51; refine (textDigitsAt_lit _ _ _ _ hs (by omega) (by omega) (by omega) (by omega)).mono ?_; rintro e w' ⟨rfl, rfl⟩) | (go_at_call 27; refine (sMonthDays_any _ _ _).mono ?_; rintro e w' ⟨rfl, rfl⟩) | (go_at_call 52; refine (sTextDays_any _ _ _ _ (by omega) (by omega) (by omega) (by omega) (by omega) (by omega)).mono ?_; rintro e w' ⟨rfl, rfl⟩))
          all_goals (go_ret2; exact ⟨ret_io (by rw [HFIN.out]) (by rw [HFIN.out]; rfl), rfl⟩)
        · go_enter Tryz.func33, Tryz.ntmps33
          go_wp2_with (first | (go_at_call 51; refine (textDigitsAt_lit _ _ _ _ hs (by omega) (by omega) (by omega) (by omega)).mono ?_; rintro e w' ⟨rfl, rfl⟩) | (go_at_call 27; refine (sMonthDays_any _ _ _).mono ?_; rintro e w' ⟨rfl, rfl⟩) | (go_at_call 52; refine (sTextDays_any _ _ _ _ (by omega) (by omega) (by omega) (by omega) (by omega) (by omega)).mono ?_; rintro e w' ⟨rfl, rfl⟩))
          all_goals (go_ret2; exact ⟨ret_io (by rw [HFIN.out]) (by rw [HFIN.out]; rfl), rfl⟩)

end Go.Proofs.YthkgjhnckakliaaGreatDoorR
namespace Go.Proofs.YthkgjhnckakliaaGreatDoorR
open Go.RowKit

theorem Moment_time (s : ByteArray) (w : World) (hs : s.size ≤ 1000000) (y m d : Nat) (h1 : Pl.digitsAt s.data.toList 0 4 = some y) (h2 : Pl.digitsAt s.data.toList 4 2 = some m) (h3 : Pl.digitsAt s.data.toList 6 2 = some d) (hok : Pl.dateOk y m d) (h88 : ¬ s.size = 8) (h n x : Nat) (h4 : Pl.digitsAt s.data.toList 9 2 = some h) (h5 : Pl.digitsAt s.data.toList 11 2 = some n) (h6 : Pl.digitsAt s.data.toList 13 2 = some x) :
    Calls Tryz.prog 33 #[.string s] w fun e w' =>
      e = .returned (.tuple #[.int .i64 (Pl.moment s.data.toList).1, .int .u8 (Pl.moment s.data.toList).2]) ∧ w = w' := by
  by_cases htk : Pl.timeOk s.data.toList h n x
  · exact Moment_righttime s w hs y m d h1 h2 h3 hok h88 h n x h4 h5 h6 htk
  · exact Moment_badtime s w hs y m d h1 h2 h3 hok h88 h n x h4 h5 h6 htk

set_option maxHeartbeats 8000000 in
set_option maxRecDepth 100000 in
theorem Moment_rest (s : ByteArray) (w : World) (hs : s.size ≤ 1000000) (y m d : Nat) (h1 : Pl.digitsAt s.data.toList 0 4 = some y) (h2 : Pl.digitsAt s.data.toList 4 2 = some m) (h3 : Pl.digitsAt s.data.toList 6 2 = some d) (hok : Pl.dateOk y m d) (h88 : ¬ s.size = 8) :
    Calls Tryz.prog 33 #[.string s] w fun e w' =>
      e = .returned (.tuple #[.int .i64 (Pl.moment s.data.toList).1, .int .u8 (Pl.moment s.data.toList).2]) ∧ w = w' := by
  have hlen : s.data.toList.length = s.size := by simp
  have HLEN := Lib.hid hlen; clear hlen
  have hy : y < 10000 := Pl.digitsAt_bd h1
  have hm : m < 100 := Pl.digitsAt_bd h2
  have hd : d < 100 := Pl.digitsAt_bd h3
  have h8 : 8 ≤ s.size := by have := Pl.digitsAt_len h3; rw [HLEN.out] at this; exact this
  have HOK := Lib.hid hok
  obtain ⟨k1, k2, k3, k4⟩ := hok
  have hD : -366000400 ≤ Pl.daysOf y m d ∧ Pl.daysOf y m d ≤ 366010000 := by
    have a1 := Pl.daysTo_bd (y + ((m : Int) - 1) / 12) (by omega) (by omega)
    have a2 := Pl.cum_bd (y + ((m : Int) - 1) / 12) (((m : Int) - 1) % 12).toNat
    unfold Pl.daysOf; omega
  have b88 : ((s.size : Int) == 8) = false := by simp; omega
  have h9 : 8 < s.size := by omega
  have g8 := list_get s 8 h9
  have G8 := Lib.hid g8; clear g8
  cases h4 : Pl.digitsAt s.data.toList 9 2 with
  | none =>
    have HFIN : Hid (Pl.moment s.data.toList = (0, 1)) := (by unfold Pl.moment; rw [h1, h2, h3]; simp only; rw [if_pos HOK.out, if_neg (by rw [HLEN.out]; exact h88)]; rw [h4]; rfl)
    have HH := Lib.hid h88; clear h88
    by_cases hT : s[8].toNat = 84
    · go_enter Tryz.func33, Tryz.ntmps33
      go_wp2_with (first | (go_at_call 51; refine (textDigitsAt_lit _ _ _ _ hs (by omega) (by omega) (by omega) (by omega)).mono ?_; rintro e w' ⟨rfl, rfl⟩) | (go_at_call 27; refine (sMonthDays_any _ _ _).mono ?_; rintro e w' ⟨rfl, rfl⟩) | (go_at_call 52; refine (sTextDays_any _ _ _ _ (by omega) (by omega) (by omega) (by omega) (by omega) (by omega)).mono ?_; rintro e w' ⟨rfl, rfl⟩))
      all_goals (go_ret2; exact ⟨ret_io (by rw [HFIN.out]) (by rw [HFIN.out]; rfl), rfl⟩)
    · go_enter Tryz.func33, Tryz.ntmps33
      go_wp2_with (first | (go_at_call 51; refine (textDigitsAt_lit _ _ _ _ hs (by omega) (by omega) (by omega) (by omega)).mono ?_; rintro e w' ⟨rfl, rfl⟩) | (go_at_call 27; refine (sMonthDays_any _ _ _).mono ?_; rintro e w' ⟨rfl, rfl⟩) | (go_at_call 52; refine (sTextDays_any _ _ _ _ (by omega) (by omega) (by omega) (by omega) (by omega) (by omega)).mono ?_; rintro e w' ⟨rfl, rfl⟩))
      all_goals (go_ret2; exact ⟨ret_io (by rw [HFIN.out]) (by rw [HFIN.out]; rfl), rfl⟩)
  | some h =>
    cases h5 : Pl.digitsAt s.data.toList 11 2 with
    | none =>
      have HFIN : Hid (Pl.moment s.data.toList = (0, 1)) := (by unfold Pl.moment; rw [h1, h2, h3]; simp only; rw [if_pos HOK.out, if_neg (by rw [HLEN.out]; exact h88)]; rw [h4, h5]; rfl)
      have HH := Lib.hid h88; clear h88
      by_cases hT : s[8].toNat = 84
      · go_enter Tryz.func33, Tryz.ntmps33
        go_wp2_with (first | (go_at_call 51; refine (textDigitsAt_lit _ _ _ _ hs (by omega) (by omega) (by omega) (by omega)).mono ?_; rintro e w' ⟨rfl, rfl⟩) | (go_at_call 27; refine (sMonthDays_any _ _ _).mono ?_; rintro e w' ⟨rfl, rfl⟩) | (go_at_call 52; refine (sTextDays_any _ _ _ _ (by omega) (by omega) (by omega) (by omega) (by omega) (by omega)).mono ?_; rintro e w' ⟨rfl, rfl⟩))
        all_goals (go_ret2; exact ⟨ret_io (by rw [HFIN.out]) (by rw [HFIN.out]; rfl), rfl⟩)
      · go_enter Tryz.func33, Tryz.ntmps33
        go_wp2_with (first | (go_at_call 51; refine (textDigitsAt_lit _ _ _ _ hs (by omega) (by omega) (by omega) (by omega)).mono ?_; rintro e w' ⟨rfl, rfl⟩) | (go_at_call 27; refine (sMonthDays_any _ _ _).mono ?_; rintro e w' ⟨rfl, rfl⟩) | (go_at_call 52; refine (sTextDays_any _ _ _ _ (by omega) (by omega) (by omega) (by omega) (by omega) (by omega)).mono ?_; rintro e w' ⟨rfl, rfl⟩))
        all_goals (go_ret2; exact ⟨ret_io (by rw [HFIN.out]) (by rw [HFIN.out]; rfl), rfl⟩)
    | some n =>
      cases h6 : Pl.digitsAt s.data.toList 13 2 with
      | none =>
        have HFIN : Hid (Pl.moment s.data.toList = (0, 1)) := (by unfold Pl.moment; rw [h1, h2, h3]; simp only; rw [if_pos HOK.out, if_neg (by rw [HLEN.out]; exact h88)]; rw [h4, h5, h6]; rfl)
        have HH := Lib.hid h88; clear h88
        by_cases hT : s[8].toNat = 84
        · go_enter Tryz.func33, Tryz.ntmps33
          go_wp2_with (first | (go_at_call 51; refine (textDigitsAt_lit _ _ _ _ hs (by omega) (by omega) (by omega) (by omega)).mono ?_; rintro e w' ⟨rfl, rfl⟩) | (go_at_call 27; refine (sMonthDays_any _ _ _).mono ?_; rintro e w' ⟨rfl, rfl⟩) | (go_at_call 52; refine (sTextDays_any _ _ _ _ (by omega) (by omega) (by omega) (by omega) (by omega) (by omega)).mono ?_; rintro e w' ⟨rfl, rfl⟩))
          all_goals (go_ret2; exact ⟨ret_io (by rw [HFIN.out]) (by rw [HFIN.out]; rfl), rfl⟩)
        · go_enter Tryz.func33, Tryz.ntmps33
          go_wp2_with (first | (go_at_call 51; refine (textDigitsAt_lit _ _ _ _ hs (by omega) (by omega) (by omega) (by omega)).mono ?_; rintro e w' ⟨rfl, rfl⟩) | (go_at_call 27; refine (sMonthDays_any _ _ _).mono ?_; rintro e w' ⟨rfl, rfl⟩) | (go_at_call 52; refine (sTextDays_any _ _ _ _ (by omega) (by omega) (by omega) (by omega) (by omega) (by omega)).mono ?_; rintro e w' ⟨rfl, rfl⟩))
          all_goals (go_ret2; exact ⟨ret_io (by rw [HFIN.out]) (by rw [HFIN.out]; rfl), rfl⟩)
      | some x =>
        exact Moment_time s w hs y m d h1 h2 h3 HOK.out h88 h n x h4 h5 h6

set_option maxHeartbeats 8000000 in
set_option maxRecDepth 100000 in
theorem Moment_date (s : ByteArray) (w : World) (hs : s.size ≤ 1000000) (y m d : Nat) (h1 : Pl.digitsAt s.data.toList 0 4 = some y) (h2 : Pl.digitsAt s.data.toList 4 2 = some m) (h3 : Pl.digitsAt s.data.toList 6 2 = some d) (hok : Pl.dateOk y m d) :
    Calls Tryz.prog 33 #[.string s] w fun e w' =>
      e = .returned (.tuple #[.int .i64 (Pl.moment s.data.toList).1, .int .u8 (Pl.moment s.data.toList).2]) ∧ w = w' := by
  have hlen : s.data.toList.length = s.size := by simp
  have HLEN := Lib.hid hlen; clear hlen
  have hy : y < 10000 := Pl.digitsAt_bd h1
  have hm : m < 100 := Pl.digitsAt_bd h2
  have hd : d < 100 := Pl.digitsAt_bd h3
  have h8 : 8 ≤ s.size := by have := Pl.digitsAt_len h3; rw [HLEN.out] at this; exact this
  have HOK := Lib.hid hok
  obtain ⟨k1, k2, k3, k4⟩ := hok
  have hD : -366000400 ≤ Pl.daysOf y m d ∧ Pl.daysOf y m d ≤ 366010000 := by
    have a1 := Pl.daysTo_bd (y + ((m : Int) - 1) / 12) (by omega) (by omega)
    have a2 := Pl.cum_bd (y + ((m : Int) - 1) / 12) (((m : Int) - 1) % 12).toNat
    unfold Pl.daysOf; omega
  by_cases h88 : s.size = 8
  · have HFIN : Hid (Pl.moment s.data.toList = (Pl.daysOf y m d * 86400, 0)) := by
      unfold Pl.moment; rw [h1, h2, h3]; simp only; rw [if_pos HOK.out, if_pos (by rw [HLEN.out]; exact h88)]; rfl
    have b88 : ((s.size : Int) == 8) = true := by simp [h88]
    have H88 := Lib.hid h88; clear h88
    go_enter Tryz.func33, Tryz.ntmps33
    go_wp2_with (first | (go_at_call 51; refine (textDigitsAt_lit _ _ _ _ hs (by omega) (by omega) (by omega) (by omega)).mono ?_; rintro e w' ⟨rfl, rfl⟩) | (go_at_call 27; refine (sMonthDays_any _ _ _).mono ?_; rintro e w' ⟨rfl, rfl⟩) | (go_at_call 52; refine (sTextDays_any _ _ _ _ (by omega) (by omega) (by omega) (by omega) (by omega) (by omega)).mono ?_; rintro e w' ⟨rfl, rfl⟩))
    all_goals (go_ret2; exact ⟨ret_io (by rw [HFIN.out]) (by rw [HFIN.out]; rfl), rfl⟩)
  · exact Moment_rest s w hs y m d h1 h2 h3 HOK.out h88

set_option maxHeartbeats 8000000 in
set_option maxRecDepth 100000 in
theorem TextMoment_any (s : ByteArray) (w : World) (hs : s.size ≤ 1000000) :
    Calls Tryz.prog 33 #[.string s] w fun e w' =>
      e = .returned (.tuple #[.int .i64 (Pl.moment s.data.toList).1, .int .u8 (Pl.moment s.data.toList).2]) ∧ w = w' := by
  have hlen : s.data.toList.length = s.size := by simp
  have HLEN := Lib.hid hlen; clear hlen
  cases h1 : Pl.digitsAt s.data.toList 0 4 with
  | none =>
    have HFIN : Hid (Pl.moment s.data.toList = (0, 1)) := by unfold Pl.moment; rw [h1]; rfl
    go_enter Tryz.func33, Tryz.ntmps33
    go_wp2_with (first | (go_at_call 51; refine (textDigitsAt_lit _ _ _ _ hs (by omega) (by omega) (by omega) (by omega)).mono ?_; rintro e w' ⟨rfl, rfl⟩) | (go_at_call 27; refine (sMonthDays_any _ _ _).mono ?_; rintro e w' ⟨rfl, rfl⟩) | (go_at_call 52; refine (sTextDays_any _ _ _ _ (by omega) (by omega) (by omega) (by omega) (by omega) (by omega)).mono ?_; rintro e w' ⟨rfl, rfl⟩))
    all_goals (go_ret2; exact ⟨ret_io (by rw [HFIN.out]) (by rw [HFIN.out]; rfl), rfl⟩)
  | some y =>
    cases h2 : Pl.digitsAt s.data.toList 4 2 with
    | none =>
      have HFIN : Hid (Pl.moment s.data.toList = (0, 1)) := by unfold Pl.moment; rw [h1, h2]; rfl
      go_enter Tryz.func33, Tryz.ntmps33
      go_wp2_with (first | (go_at_call 51; refine (textDigitsAt_lit _ _ _ _ hs (by omega) (by omega) (by omega) (by omega)).mono ?_; rintro e w' ⟨rfl, rfl⟩) | (go_at_call 27; refine (sMonthDays_any _ _ _).mono ?_; rintro e w' ⟨rfl, rfl⟩) | (go_at_call 52; refine (sTextDays_any _ _ _ _ (by omega) (by omega) (by omega) (by omega) (by omega) (by omega)).mono ?_; rintro e w' ⟨rfl, rfl⟩))
      all_goals (go_ret2; exact ⟨ret_io (by rw [HFIN.out]) (by rw [HFIN.out]; rfl), rfl⟩)
    | some m =>
      cases h3 : Pl.digitsAt s.data.toList 6 2 with
      | none =>
        have HFIN : Hid (Pl.moment s.data.toList = (0, 1)) := by unfold Pl.moment; rw [h1, h2, h3]; rfl
        go_enter Tryz.func33, Tryz.ntmps33
        go_wp2_with (first | (go_at_call 51; refine (textDigitsAt_lit _ _ _ _ hs (by omega) (by omega) (by omega) (by omega)).mono ?_; rintro e w' ⟨rfl, rfl⟩) | (go_at_call 27; refine (sMonthDays_any _ _ _).mono ?_; rintro e w' ⟨rfl, rfl⟩) | (go_at_call 52; refine (sTextDays_any _ _ _ _ (by omega) (by omega) (by omega) (by omega) (by omega) (by omega)).mono ?_; rintro e w' ⟨rfl, rfl⟩))
        all_goals (go_ret2; exact ⟨ret_io (by rw [HFIN.out]) (by rw [HFIN.out]; rfl), rfl⟩)
      | some d =>
        have hy : y < 10000 := Pl.digitsAt_bd h1
        have hm : m < 100 := Pl.digitsAt_bd h2
        have hd : d < 100 := Pl.digitsAt_bd h3
        have h8 : 8 ≤ s.size := by have := Pl.digitsAt_len h3; rw [HLEN.out] at this; exact this
        by_cases hok : Pl.dateOk y m d
        · exact Moment_date s w hs y m d h1 h2 h3 hok
        · have HFIN : Hid (Pl.moment s.data.toList = (0, 1)) := by unfold Pl.moment; rw [h1, h2, h3]; exact if_neg hok
          have hcs : m < 1 ∨ (1 ≤ m ∧ 12 < m) ∨ (1 ≤ m ∧ m ≤ 12 ∧ d < 1) ∨ (1 ≤ m ∧ m ≤ 12 ∧ 1 ≤ d ∧ Pl.mdays m y < d) := by
            unfold Pl.dateOk at hok
            by_cases a1 : 1 ≤ m
            · by_cases a2 : m ≤ 12
              · by_cases a3 : 1 ≤ d
                · exact Or.inr (Or.inr (Or.inr ⟨a1, a2, a3, Int.not_le.1 (fun h => hok ⟨a1, a2, a3, h⟩)⟩))
                · exact Or.inr (Or.inr (Or.inl ⟨a1, a2, by omega⟩))
              · exact Or.inr (Or.inl ⟨a1, by omega⟩)
            · exact Or.inl (by omega)
          clear hok
          rcases hcs with k1 | ⟨k1, k2⟩ | ⟨k1, k2, k3⟩ | ⟨k1, k2, k3, k4⟩
          · go_enter Tryz.func33, Tryz.ntmps33
            go_wp2_with (first | (go_at_call 51; refine (textDigitsAt_lit _ _ _ _ hs (by omega) (by omega) (by omega) (by omega)).mono ?_; rintro e w' ⟨rfl, rfl⟩) | (go_at_call 27; refine (sMonthDays_any _ _ _).mono ?_; rintro e w' ⟨rfl, rfl⟩) | (go_at_call 52; refine (sTextDays_any _ _ _ _ (by omega) (by omega) (by omega) (by omega) (by omega) (by omega)).mono ?_; rintro e w' ⟨rfl, rfl⟩))
            all_goals (go_ret2; exact ⟨ret_io (by rw [HFIN.out]) (by rw [HFIN.out]; rfl), rfl⟩)
          · go_enter Tryz.func33, Tryz.ntmps33
            go_wp2_with (first | (go_at_call 51; refine (textDigitsAt_lit _ _ _ _ hs (by omega) (by omega) (by omega) (by omega)).mono ?_; rintro e w' ⟨rfl, rfl⟩) | (go_at_call 27; refine (sMonthDays_any _ _ _).mono ?_; rintro e w' ⟨rfl, rfl⟩) | (go_at_call 52; refine (sTextDays_any _ _ _ _ (by omega) (by omega) (by omega) (by omega) (by omega) (by omega)).mono ?_; rintro e w' ⟨rfl, rfl⟩))
            all_goals (go_ret2; exact ⟨ret_io (by rw [HFIN.out]) (by rw [HFIN.out]; rfl), rfl⟩)
          · go_enter Tryz.func33, Tryz.ntmps33
            go_wp2_with (first | (go_at_call 51; refine (textDigitsAt_lit _ _ _ _ hs (by omega) (by omega) (by omega) (by omega)).mono ?_; rintro e w' ⟨rfl, rfl⟩) | (go_at_call 27; refine (sMonthDays_any _ _ _).mono ?_; rintro e w' ⟨rfl, rfl⟩) | (go_at_call 52; refine (sTextDays_any _ _ _ _ (by omega) (by omega) (by omega) (by omega) (by omega) (by omega)).mono ?_; rintro e w' ⟨rfl, rfl⟩))
            all_goals (go_ret2; exact ⟨ret_io (by rw [HFIN.out]) (by rw [HFIN.out]; rfl), rfl⟩)
          · go_enter Tryz.func33, Tryz.ntmps33
            go_wp2_with (first | (go_at_call 51; refine (textDigitsAt_lit _ _ _ _ hs (by omega) (by omega) (by omega) (by omega)).mono ?_; rintro e w' ⟨rfl, rfl⟩) | (go_at_call 27; refine (sMonthDays_any _ _ _).mono ?_; rintro e w' ⟨rfl, rfl⟩) | (go_at_call 52; refine (sTextDays_any _ _ _ _ (by omega) (by omega) (by omega) (by omega) (by omega) (by omega)).mono ?_; rintro e w' ⟨rfl, rfl⟩))
            all_goals (go_ret2; exact ⟨ret_io (by rw [HFIN.out]) (by rw [HFIN.out]; rfl), rfl⟩)

end Go.Proofs.YthkgjhnckakliaaGreatDoorR
namespace Go.Proofs.YthkgjhnckakliaaGreatDoorR
open Go.RowKit

namespace Pl
/-- 'DTSTART' -/
def dtstart : Bs := [68, 84, 83, 84, 65, 82, 84]
/-- Whether c ends a name. -/
def isEnd (c : UInt8) : Bool := c == 59 || c == 58
/-- A line's name is DTSTART: in whatever letters, behind blanks, and a sign behind it. -/
def isStart (line : Bs) : Bool :=
  let u := Lib.toUpperA (Lib.trimSpace line)
  decide (u.takeWhile (fun c => !isEnd c) = dtstart ∧ (u.dropWhile (fun c => !isEnd c)) ≠ [])
theorem takeWhile_at {p : UInt8 → Bool} : ∀ (l : Bs) (k : Nat) (c : UInt8), (∀ x ∈ l.take k, p x = true) → l[k]? = some c → p c = false → l.takeWhile p = l.take k ∧ l.dropWhile p ≠ []
  | [], k, c, _, h, _ => by simp at h
  | a :: l, 0, c, _, h, hc => by
    simp at h; subst h; simp [hc]
  | a :: l, k + 1, c, ha, h, hc => by
    have h1 : p a = true := ha a (by simp)
    have := takeWhile_at l k c (fun x hx => ha x (by simp [hx])) (by simpa using h) hc
    simp [h1, this]
theorem takeWhile_all {p : UInt8 → Bool} : ∀ (l : Bs), (∀ x ∈ l, p x = true) → l.dropWhile p = []
  | [], _ => rfl
  | a :: l, h => by simp [h a (by simp)]; exact takeWhile_all l (fun x hx => h x (by simp [hx]))
end Pl

theorem ret_sb {a a' : ByteArray} {b b' : Bool} (h1 : a = a') (h2 : b = b') : Ending.returned (.tuple #[.string a, .bool b]) = .returned (.tuple #[.string a', .bool b']) := by rw [h1, h2]

/-- What the reader of a name hands back. -/
def NameRes (w : World) (line : Bs) (e : Ending) (w' : World) : Prop :=
  ∃ (nm : Bs) (ok : Bool), e = .returned (.tuple #[.string (bs nm), .bool ok]) ∧ Pl.isStart line = (ok && decide (nm = Pl.dtstart)) ∧ nm.length ≤ line.length ∧ Below w.heap.size w w'

theorem isEnd_iff (c : UInt8) : Pl.isEnd c = (decide ((c.toNat : Int) = 59) || decide ((c.toNat : Int) = 58)) := by
  rw [Bool.eq_iff_iff]; simp only [Pl.isEnd, Bool.or_eq_true, beq_iff_eq, decide_eq_true_eq, ← UInt8.toNat_inj]
  exact ⟨fun h => by rcases h with h | h <;> rw [h] <;> decide, fun h => by
    rcases h with h | h
    · exact Or.inl (by show c.toNat = 59; omega)
    · exact Or.inr (by show c.toNat = 58; omega)⟩

theorem trim_length (l : Bs) : (Lib.trimSpace l).length ≤ l.length := by
  unfold Lib.trimSpace
  rw [List.length_reverse]
  have h1 := (List.dropWhile_suffix (l := (l.dropWhile Lib.isSp).reverse) Lib.isSp).length_le
  have h2 := (List.dropWhile_suffix (l := l) Lib.isSp).length_le
  rw [List.length_reverse] at h1; omega

set_option maxHeartbeats 2000000 in
set_option maxRecDepth 100000 in
theorem textName_any (s : ByteArray) (w : World) (hs : s.size ≤ 1000000) :
    Calls Tryz.prog 18 #[.string s] w (NameRes w s.data.toList) := by
  have hle : (Lib.toUpperA (Lib.trimSpace s.data.toList)).length ≤ s.size := by
    have := trim_length s.data.toList; simp [Lib.toUpperA] at this ⊢; omega
  go_enter Tryz.func18, Tryz.ntmps18
  go_wp2_with fail
  refine (textTrim_any s w hs).mono ?_
  rintro e w1 ⟨rfl, hb1⟩
  go_wp2_with fail
  refine (textUpper_any _ _ (by rw [bs_size]; simp [Lib.toUpperA] at hle; omega)).mono ?_
  rintro e w2 ⟨rfl, hb2⟩
  rw [bs_list] at *
  have HLE := Lib.hid hle
  generalize hU : Lib.toUpperA (Lib.trimSpace s.data.toList) = U at *
  have HU := Lib.hid hU; clear hU
  go_wp2
  obtain ⟨T, hT⟩ : ∃ T, T = bs U := ⟨_, rfl⟩
  rw [← hT]
  have hTd : Hid (T.data.toList = U) := by rw [hT]; exact bs_list U
  have hTs : T.size ≤ 1000000 := by rw [hT, bs_size]; omega
  have hTl : Hid (U.length = T.size) := by rw [hT, bs_size]; rfl
  clear hT
  have hbel : Below w.heap.size w w2 := hb1.trans (hb2.mono hb1.size)
  have hst : Hid (Pl.isStart s.data.toList = decide (U.takeWhile (fun c => !Pl.isEnd c) = Pl.dtstart ∧ (U.dropWhile (fun c => !Pl.isEnd c)) ≠ [])) := by
    unfold Pl.isStart; rw [HU.out]; rfl
  go_loop [12] (fun i => ∃ k : Nat, k ≤ T.size ∧ i = .int .i64 k ∧ Hid (∀ x ∈ U.take k, (!Pl.isEnd x) = true)) (fun i => T.size - (intOf i).toNat)
  case atStart => exact ⟨0, Nat.zero_le _, rfl, by intro x hx; simp at hx⟩
  case round =>
    obtain ⟨k, hk, rfl, hfree⟩ := hrel
    by_cases hlt : k < T.size
    · have hget : Hid (U[k]? = some T[k]) := by rw [← hTd.out]; exact list_get T k hlt
      by_cases he : Pl.isEnd T[k] = true
      · have hnm := Pl.takeWhile_at U k T[k] hfree.out hget.out (by rw [he]; rfl)
        have HNM := Lib.hid hnm; clear hnm
        have hname : Hid (T.extract 0 k = bs (U.take k)) := by rw [bs_extract, hTd.out, List.drop_zero]; rfl
        have hst2 : Hid (Pl.isStart s.data.toList = decide (U.take k = Pl.dtstart)) := by
          rw [hst.out, HNM.out.1]; simp [HNM.out.2, Hid]
        have hkl : k ≤ s.data.toList.length := by have := HLE.out; have := hTl.out; simp; omega
        have HE := Lib.hid he
        rw [isEnd_iff] at he
        by_cases h59 : (T[k].toNat : Int) = 59
        · clear he
          go_wp2
          have hNs : (T.extract 0 k).size ≤ k ∧ k ≤ (T.extract 0 k).size := by simp; omega
          generalize T.extract 0 k = N at *
          obtain ⟨n1, n2⟩ := hNs
          have hNd : Hid (N.data.toList = U.take k) := by rw [hname.out]; exact bs_list _
          go_loop [30] (fun i => ∃ j : Nat, j ≤ k ∧ i = .int .i64 j) (fun i => k - (intOf i).toNat)
          case atStart => exact ⟨0, Nat.zero_le _, rfl⟩
          case round =>
            obtain ⟨j, hj, rfl⟩ := hrel
            by_cases hlt2 : j < k
            · by_cases h61 : (N[j].toNat : Int) = 61
              · have hF : Hid (Pl.isStart s.data.toList = false) := by
                  rw [hst2.out, decide_eq_false_iff_not]
                  intro h
                  have hm : N[j] ∈ N.data.toList := List.mem_of_getElem? (list_get N j (by omega))
                  rw [hNd.out, h] at hm
                  have : N[j] = 61 := UInt8.toNat_inj.1 (by show _ = 61; omega)
                  rw [this] at hm; revert hm; decide
                have hN2 : Hid (bs (U.take k) = N) := hname.out.symm
                have hnd : Hid (decide (U.take k = Pl.dtstart) = false) := by rw [← hst2.out]; exact hF.out
                go_wp2
                go_ret2
                refine ⟨U.take k, ((j : Int) == 0), ret_sb hN2.out.symm rfl, by rw [hF.out, hnd.out, Bool.and_false], by simp; omega, hbel⟩
              · have b61 : ((N[j].toNat : Int) == 61) = false := by simp [h61]
                clear h61
                go_wp2
                go_round
                case rel => exact ⟨j + 1, by omega, by go_num⟩
                case measure => simp [intOf]; omega
            · have hN2 : Hid (bs (U.take k) = N) := hname.out.symm
              go_wp2
              go_ret2
              refine ⟨U.take k, decide (0 < k), ret_sb hN2.out.symm rfl, ?_, by simp; omega, hbel⟩
              rw [hst2.out]
              by_cases hz : U.take k = Pl.dtstart
              · have hk0 : 0 < k := by
                  rcases Nat.eq_zero_or_pos k with h | h
                  · subst h; simp [Pl.dtstart] at hz
                  · exact h
                simp [hz, hk0]
              · simp [hz]
        · have h58 : (T[k].toNat : Int) = 58 := by simpa [h59] using he
          clear he
          go_wp2
          have hNs : (T.extract 0 k).size ≤ k ∧ k ≤ (T.extract 0 k).size := by simp; omega
          generalize T.extract 0 k = N at *
          obtain ⟨n1, n2⟩ := hNs
          have hNd : Hid (N.data.toList = U.take k) := by rw [hname.out]; exact bs_list _
          go_loop [30] (fun i => ∃ j : Nat, j ≤ k ∧ i = .int .i64 j) (fun i => k - (intOf i).toNat)
          case atStart => exact ⟨0, Nat.zero_le _, rfl⟩
          case round =>
            obtain ⟨j, hj, rfl⟩ := hrel
            by_cases hlt2 : j < k
            · by_cases h61 : (N[j].toNat : Int) = 61
              · have hF : Hid (Pl.isStart s.data.toList = false) := by
                  rw [hst2.out, decide_eq_false_iff_not]
                  intro h
                  have hm : N[j] ∈ N.data.toList := List.mem_of_getElem? (list_get N j (by omega))
                  rw [hNd.out, h] at hm
                  have : N[j] = 61 := UInt8.toNat_inj.1 (by show _ = 61; omega)
                  rw [this] at hm; revert hm; decide
                have hN2 : Hid (bs (U.take k) = N) := hname.out.symm
                have hnd : Hid (decide (U.take k = Pl.dtstart) = false) := by rw [← hst2.out]; exact hF.out
                go_wp2
                go_ret2
                refine ⟨U.take k, ((j : Int) == 0), ret_sb hN2.out.symm rfl, by rw [hF.out, hnd.out, Bool.and_false], by simp; omega, hbel⟩
              · have b61 : ((N[j].toNat : Int) == 61) = false := by simp [h61]
                clear h61
                go_wp2
                go_round
                case rel => exact ⟨j + 1, by omega, by go_num⟩
                case measure => simp [intOf]; omega
            · have hN2 : Hid (bs (U.take k) = N) := hname.out.symm
              go_wp2
              go_ret2
              refine ⟨U.take k, decide (0 < k), ret_sb hN2.out.symm rfl, ?_, by simp; omega, hbel⟩
              rw [hst2.out]
              by_cases hz : U.take k = Pl.dtstart
              · have hk0 : 0 < k := by
                  rcases Nat.eq_zero_or_pos k with h | h
                  · subst h; simp [Pl.dtstart] at hz
                  · exact h
                simp [hz, hk0]
              · simp [hz]
      · have hne : (T[k].toNat : Int) ≠ 59 ∧ (T[k].toNat : Int) ≠ 58 := by rw [isEnd_iff] at he; simpa using he
        have HE := Lib.hid he; clear he
        have b1 : ((T[k].toNat : Int) == 59) = false := by simp [hne.1]
        have b2 : ((T[k].toNat : Int) == 58) = false := by simp [hne.2]
        clear hne
        go_wp2
        go_round
        case rel =>
          refine ⟨k + 1, by omega, by go_num, Lib.hid ?_⟩
          intro x hx
          rw [List.take_add_one, hget.out] at hx
          rcases List.mem_append.1 hx with h | h
          · exact hfree.out x h
          · simp at h; subst h; simp [HE.out]
        case measure => simp [intOf]; omega
    · obtain rfl : k = T.size := by omega
      have hst2 : Hid (Pl.isStart s.data.toList = false) := by
        rw [hst.out, Pl.takeWhile_all U (by have := hfree.out; rw [List.take_of_length_le (by rw [hTl.out]; exact Nat.le_refl _)] at this; exact this)]; simp [Hid]
      go_wp2
      go_ret2
      exact ⟨[], false, rfl, hst2.out, by simp, hbel⟩

end Go.Proofs.YthkgjhnckakliaaGreatDoorR
namespace Go.Proofs.YthkgjhnckakliaaGreatDoorR
open Go.RowKit
theorem Pl.digitsAt_drop (l : Bs) (p q n : Nat) (h : 1 ≤ n) : Pl.digitsAt (l.drop p) q n = Pl.digitsAt l (p + q) n := by
  unfold Pl.digitsAt
  rw [List.length_drop, List.drop_drop]
  by_cases hl : p + q + n ≤ l.length
  · rw [if_pos (by omega), if_pos hl]
  · rw [if_neg (by omega), if_neg hl]
/-- A number stands ahead in l, and r behind it. -/
structure DigOk (l : Bs) (n v : Nat) (r : Bs) : Prop where
  small : l.length ≤ 1000000
  is : Pl.digitsAt l 0 n = some v
  rest : r = l.drop n
/-- No number stands ahead in l. -/
structure DigNo (l : Bs) (n : Nat) : Prop where
  small : l.length ≤ 1000000
  is : Pl.digitsAt l 0 n = none
def digRes (l : Bs) (n : Nat) : Value := match Pl.digitsAt l 0 n with | some v => .tuple #[.int .i64 (v : Nat), .string (bs (l.drop n)), .bool true] | none => .tuple #[.int .i64 0, .string (bs l), .bool false]

set_option maxHeartbeats 2000000 in
set_option maxRecDepth 100000 in
theorem digits_any (l : Bs) (n : Nat) (w : World) (hs : l.length ≤ 1000000) (hn0 : 1 ≤ n) (hn : n ≤ 8) :
    Calls Tryz.prog 130 #[.string (bs l), .int .i64 n] w fun e w' => e = .returned (digRes l n) ∧ Below w.heap.size w w' := by
  have hbl : ∀ k (h : k < (bs l).size), l[k]? = some ((bs l)[k]'h) := fun k h => by have := list_get (bs l) k h; rwa [bs_list] at this
  have HBL := Lib.hid hbl; clear hbl
  have hsz : (bs l).size = l.length := bs_size l
  go_enter Tryz.func130, Tryz.ntmps130
  by_cases hln : l.length < n
  · have hF : Hid (digRes l n = .tuple #[.int .i64 0, .string (bs l), .bool false]) := by
      show digRes l n = _
      unfold digRes Pl.digitsAt; rw [if_neg (by omega)]
    go_wp2
    go_ret3
    exact ⟨by rw [hF.out]; rfl, Below.refl _ _⟩
  · have hF : ∀ x, Pl.digits (l.take n) 0 = x → digRes l n = match x with | some v => .tuple #[.int .i64 (v : Nat), .string (bs (l.drop n)), .bool true] | none => .tuple #[.int .i64 0, .string (bs l), .bool false] := fun x hx => by
      unfold digRes Pl.digitsAt; rw [if_pos (by omega), List.drop_zero, hx]
    have HF := Lib.hid hF; clear hF
    go_wp2
    go_loop [8, 7] (fun i x => ∃ (k acc : Nat), k ≤ n ∧ i = .int .i64 k ∧ x = .int .i64 acc ∧ acc < 10 ^ k ∧ Hid (Pl.digits (l.take k) 0 = some acc)) (fun i _ => n - (intOf i).toNat)
    case atStart => exact ⟨0, 0, Nat.zero_le _, rfl, rfl, by simp, by simp [Pl.digits, Hid]⟩
    case round =>
      obtain ⟨k, acc, hk, rfl, rfl, ha, hd⟩ := hrel
      by_cases hkn : k < n
      · have hten : acc < 100000000 := Nat.lt_of_lt_of_le ha (Nat.le_trans (Nat.pow_le_pow_right (by omega) (show k ≤ 8 by omega)) (by decide))
        have hlt : k < (bs l).size := by omega
        have hsn : l.take (k + 1) = l.take k ++ [(bs l)[k]] := by rw [List.take_add_one, HBL.out k hlt]; rfl
        have HSN := Lib.hid hsn; clear hsn
        have hfail : ¬ (48 ≤ (bs l)[k].toNat ∧ (bs l)[k].toNat ≤ 57) → digRes l n = .tuple #[.int .i64 0, .string (bs l), .bool false] := by
          intro hc
          obtain ⟨r, hr⟩ : ∃ r, l.take n = l.take (k + 1) ++ r := ⟨(l.take n).drop (k + 1), by
            rw [show l.take (k + 1) = (l.take n).take (k + 1) by rw [List.take_take]; congr 1; omega, List.take_append_drop]⟩
          refine HF.out none ?_
          rw [hr]; apply Pl.digits_none
          rw [HSN.out, Pl.digits_snoc, hd.out]; simp [hc]
        by_cases hlo : 48 ≤ (bs l)[k].toNat
        · by_cases hhi : (bs l)[k].toNat ≤ 57
          · clear hfail
            have hsub : IntKind.u8.wrap (((bs l)[k].toNat : Int) - 48) = ((bs l)[k].toNat : Int) - 48 := by simp [IntKind.wrap, IntKind.bits, IntKind.signed]; omega
            go_wp2
            go_round
            case rel =>
              refine ⟨k + 1, acc * 10 + ((bs l)[k].toNat - 48), by omega, by go_num, ?_, ?_, Lib.hid ?_⟩
              · go_num
              · rw [Nat.pow_succ]; omega
              · rw [HSN.out, Pl.digits_snoc, hd.out]; simp [hlo, hhi] <;> rfl
            case measure => simp [intOf]; omega
          · have hF := Lib.hid (hfail (by omega)); clear hfail
            go_wp2
            go_ret3
            exact ⟨by rw [hF.out]; rfl, Below.refl _ _⟩
        · have hF := Lib.hid (hfail (by omega)); clear hfail
          go_wp2
          go_ret3
          exact ⟨by rw [hF.out]; rfl, Below.refl _ _⟩
      · obtain rfl : k = n := by omega
        have hF : Hid (digRes l k = _) := HF.out (some acc) hd.out
        have hx : (bs l).extract k l.length = bs (l.drop k) := by rw [bs_extract, bs_list, List.take_length]
        have HX := Lib.hid hx; clear hx
        go_wp2_with fail
        go_quiet (fail)
        go_wp2
        go_ret3
        exact ⟨by rw [hF.out, ← HX.out]; rfl, below_drewN (Below.refl _ _) _⟩

theorem dig_ok {l : Bs} {n v : Nat} {r : Bs} (h : DigOk l n v r) (N : Int) (hN : N = n) (w : World) (hn0 : 1 ≤ n) (hn : n ≤ 8) :
    Calls Tryz.prog 130 #[.string (bs l), .int .i64 N] w fun e w' => e = .returned (.tuple #[.int .i64 v, .string (bs r), .bool true]) ∧ Below w.heap.size w w' := by
  have := digits_any l n w h.small hn0 hn
  unfold digRes at this; rw [h.is, ← h.rest] at this; rw [hN]; exact this
theorem dig_no {l : Bs} {n : Nat} (h : DigNo l n) (N : Int) (hN : N = n) (w : World) (hn0 : 1 ≤ n) (hn : n ≤ 8) :
    Calls Tryz.prog 130 #[.string (bs l), .int .i64 N] w fun e w' => e = .returned (.tuple #[.int .i64 0, .string (bs l), .bool false]) ∧ Below w.heap.size w w' := by
  have := digits_any l n w h.small hn0 hn
  unfold digRes at this; rw [h.is] at this; rw [hN]; exact this
theorem dig_lt {l : Bs} {n v : Nat} {r : Bs} (h : DigOk l n v r) : v < 10 ^ n := by
  have := h.is
  unfold Pl.digitsAt at this; split at this
  · have := Pl.digits_bd _ _ _ this
    simp only [Nat.zero_add, Nat.one_mul, List.length_take] at this
    exact Nat.lt_of_lt_of_le this (Nat.pow_le_pow_right (by omega) (by omega))
  · cases this
end Go.Proofs.YthkgjhnckakliaaGreatDoorR
namespace Go.Proofs.YthkgjhnckakliaaGreatDoorR
open Go.RowKit

/-- Where b stands first in l, or -1. -/
def IdxIs (b : UInt8) (l : Bs) (n : Int) : Prop := (∃ k : Nat, n = k ∧ l[k]? = some b ∧ b ∉ l.take k) ∨ (n = -1 ∧ b ∉ l)
/-- What a search hands back. -/
def IdxRes (b : UInt8) (l : Bs) (w : World) (e : Ending) (w' : World) : Prop := ∃ n : Int, e = .returned (.int .i64 n) ∧ IdxIs b l n ∧ w = w'

theorem extract_one (s : ByteArray) (k : Nat) (h : k < s.size) : (s.extract k (k + 1)).toList = [s[k]] := by
  rw [ByteArray.toList_eq, Lib.extract_data, show k + 1 - k = 1 by omega, List.take_one, List.head?_drop, list_get s k h]; rfl

set_option maxHeartbeats 2000000 in
set_option maxRecDepth 100000 in
theorem zzIndex_any (s sep : ByteArray) (b : UInt8) (w : World) (hs : s.size ≤ 1000000) (hsep : sep = bs [b]) :
    Calls Tryz.prog 102 #[.string s, .string sep] w (IdxRes b s.data.toList w) := by
  have hsz : sep.size = 1 := by rw [hsep, bs_size]; rfl
  have hst : sep.toList = [b] := by rw [hsep, ByteArray.toList_eq, bs_list]
  clear hsep
  have HST := Lib.hid hst; clear hst
  go_enter Tryz.func102, Tryz.ntmps102
  go_wp2
  go_loop [5] (fun i => ∃ k : Nat, k ≤ s.size ∧ i = .int .i64 k ∧ Hid (b ∉ s.data.toList.take k)) (fun i => s.size - (intOf i).toNat)
  case atStart => exact ⟨0, Nat.zero_le _, rfl, by simp [Hid]⟩
  case round =>
    obtain ⟨k, hk, rfl, hn⟩ := hrel
    by_cases hlt : k < s.size
    · have hx := extract_one s k hlt
      have HX := Lib.hid hx; clear hx
      by_cases hc : s[k] = b
      · have ht : ((s.extract k (k + 1)).toList == sep.toList) = true := by rw [HX.out, HST.out, hc]; simp
        have hg : Hid (s.data.toList[k]? = some b) := by rw [← hc]; exact list_get s k hlt
        clear hc
        go_wp2
        go_ret
        exact ⟨k, rfl, Or.inl ⟨k, rfl, hg.out, hn.out⟩, rfl⟩
      · have ht : ((s.extract k (k + 1)).toList == sep.toList) = false := by rw [HX.out, HST.out, beq_eq_false_iff_ne]; intro h; injection h with h; exact hc h
        have hg : Hid (b ∉ s.data.toList.take (k + 1)) := by
          show b ∉ _
          rw [take_snoc s k hlt]; intro h; rcases List.mem_append.1 h with h | h
          · exact hn.out h
          · simp at h; exact hc h.symm
        clear hc
        go_wp2
        go_round
        case rel => exact ⟨k + 1, by omega, by go_num, hg⟩
        case measure => simp [intOf]; omega
    · obtain rfl : k = s.size := by omega
      have hg : Hid (b ∉ s.data.toList) := by have := hn.out; rw [List.take_of_length_le (by simp)] at this; exact this
      go_wp2
      go_ret
      exact ⟨-1, rfl, Or.inr ⟨rfl, hg.out⟩, rfl⟩

end Go.Proofs.YthkgjhnckakliaaGreatDoorR
namespace Go.Proofs.YthkgjhnckakliaaGreatDoorR
open Go.RowKit
theorem Pl.split_here {b : UInt8} {l : Bs} {k : Nat} (h : l[k]? = some b) (hn : b ∉ l.take k) : Pl.split b l = l.take k :: Pl.split b (l.drop (k + 1)) := by
  have := drop_split l 0 k b (Nat.zero_le _) h
  rw [List.drop_zero, List.drop_zero] at this
  conv => lhs; rw [this]
  exact Pl.split_at _ _ _ hn

set_option maxHeartbeats 2000000 in
set_option maxRecDepth 100000 in
theorem zzSplit_any (s sep : ByteArray) (b : UInt8) (w : World) (hs : s.size ≤ 1000000) (hsep : sep = bs [b]) :
    Calls Tryz.prog 66 #[.string s, .string sep] w fun e w' => ∃ v, e = .returned v ∧ Row w' v (strs (Pl.split b s.data.toList)) ∧ Below w.heap.size w w' := by
  obtain ⟨i0, hi, hz0, hz1, hz2⟩ := info_parts Tryz.info9
  have hsz : sep.size = 1 := by rw [hsep, bs_size]; rfl
  have HSEP := Lib.hid hsep; clear hsep
  go_enter Tryz.func66, Tryz.ntmps66
  go_wp2
  go_loopw [5, 0] (fun v t wr => ∃ (l : Bs) (out : List Bs), t = .string (bs l) ∧ out.length + l.length ≤ s.size ∧ Hid (Pl.split b s.data.toList = out ++ Pl.split b l) ∧ wr.ownsRow w.heap.size 9 1 v out.length (strs out) ∧ Below w.heap.size w wr) (fun _ t _ => strLen t)
  case atStart => exact ⟨s.data.toList, [], by rw [bs_eta], by simp, rfl, World.ownsRow_nil _ _ _ _, Below.refl _ _⟩
  case round =>
    obtain ⟨l, out, rfl, hlen, hS, hown, hbel⟩ := hrel
    have hbase := hbel.size
    have hls : (bs l).size = l.length := bs_size l
    have hll : l.length ≤ 1000000 := by omega
    have hz := zzIndex_any (bs l) sep b wr (by omega) HSEP.out
    rw [bs_list] at hz
    go_wp2_with fail
    refine hz.mono ?_
    rintro e w' ⟨n, rfl, hix, rfl⟩
    rcases hix with ⟨k, rfl, hk, hno⟩ | ⟨rfl, hno⟩
    · have hkl : k < l.length := by
        rcases Nat.lt_or_ge k l.length with h' | h'
        · exact h'
        · rw [List.getElem?_eq_none h'] at hk; cases hk
      have HK : Hid (Pl.split b s.data.toList = (out ++ [l.take k]) ++ Pl.split b (l.drop (k + 1))) := by
        show _ = _
        rw [hS.out, Pl.split_here hk hno, List.append_assoc]; rfl
      clear hk hno hz hS
      go_wp2_with (at_builtin; refine wpList_append_own _ rfl _ _ 41 rfl w.heap.size 9 i0 (.string ⟨#[]⟩) 1 16 Tryz.underlying41 hi hz0 hz1 hz2 rfl (by decide) _ _ _ rfl (hown.alloc _) ⟨wr.heap.size, 0, none⟩ 1 1 [.string ((bs l).extract 0 k)] rfl rfl ?c1 ?c2 ?c3 ?c4 ?c5 ?_)
      case c1 => exact cell_one_new _ _ _
      case c2 => simp [Value.oneCell']
      case c3 => unfold maxLen; omega
      case c4 => omega
      case c5 => simp; omega
      intro v1 w1 hown1 hg1 _
      have hb1 : Below w.heap.size w w1 := ((hbel.alloc hbase _).grown hg1 (by simp; omega) (fun j hj => (hown.lt j hj).1))
      go_wp2
      go_roundw
      case rel =>
        refine ⟨l.drop (k + 1), out ++ [l.take k], ?_, by simp; omega, HK, ?_, hb1⟩
        · rw [bs_extract, bs_list, List.take_of_length_le (by omega)]
        · rw [strs_snoc]
          have he : (bs l).extract 0 k = bs (l.take k) := by rw [bs_extract, bs_list, List.drop_zero]
          rw [he] at hown1; simpa using hown1
      case measure => simp [strLen]; omega
    · have HK : Hid (Pl.split b s.data.toList = out ++ [l]) := by
        show _ = _
        rw [hS.out, Pl.split_free _ _ hno]
      clear hno hz hS
      go_wp2_with (at_builtin; refine wpList_append_own _ rfl _ _ 41 rfl w.heap.size 9 i0 (.string ⟨#[]⟩) 1 16 Tryz.underlying41 hi hz0 hz1 hz2 rfl (by decide) _ _ _ rfl (hown.alloc _) ⟨wr.heap.size, 0, none⟩ 1 1 [.string (bs l)] rfl rfl ?d1 ?d2 ?d3 ?d4 ?d5 ?_)
      case d1 => exact cell_one_new _ _ _
      case d2 => simp [Value.oneCell']
      case d3 => unfold maxLen; omega
      case d4 => omega
      case d5 => simp; omega
      intro v1 w1 hown1 hg1 _
      have hb1 : Below w.heap.size w w1 := ((hbel.alloc hbase _).grown hg1 (by simp; omega) (fun j hj => (hown.lt j hj).1))
      go_wp2
      go_ret
      refine ⟨v1, rfl, Row.of_owns (n := out.length + 1) (e := 9) (base := w.heap.size) ?_, hb1⟩
      rw [HK.out, strs_snoc]; simpa using hown1
end Go.Proofs.YthkgjhnckakliaaGreatDoorR
namespace Go.Proofs.YthkgjhnckakliaaGreatDoorR
open Go.RowKit
namespace Pl
def indexAny (s t : Bs) : Int := if s.all (fun c => !t.contains c) then -1 else (s.takeWhile (fun c => !t.contains c)).length
theorem indexAny_at {s t : Bs} {pos : Nat} {c : UInt8} (h : ∀ x ∈ s.take pos, x ∉ t) (hc : s[pos]? = some c) (hm : c ∈ t) : indexAny s t = pos := by
  have hl : pos < s.length := by
    rcases Nat.lt_or_ge pos s.length with h' | h'
    · exact h'
    · rw [List.getElem?_eq_none h'] at hc; cases hc
  have e : s = s.take pos ++ c :: s.drop (pos + 1) := by
    conv => lhs; rw [← List.take_append_drop pos s]
    congr 1
    rw [List.drop_eq_getElem_cons hl]
    rw [List.getElem?_eq_getElem hl] at hc; injection hc with hc; rw [hc]
  have ht : (s.takeWhile (fun c => !t.contains c)).length = pos := by
    rw [e, List.takeWhile_append_of_pos (by intro a ha; simpa using h a ha), List.takeWhile_cons_of_neg (by simpa using hm)]
    simp; omega
  unfold indexAny
  rw [if_neg, ht]
  intro ha
  rw [List.all_eq_true] at ha
  have := ha c (List.mem_of_getElem? hc)
  simp [hm] at this
theorem indexAny_none {s t : Bs} (h : ∀ x ∈ s, x ∉ t) : indexAny s t = -1 := by
  unfold indexAny; rw [if_pos]; rw [List.all_eq_true]; intro x hx; simpa using h x hx
end Pl
theorem iterStep_size (w : World) (b : Nat) (s : ByteArray) (p : Nat) : (iterStep w b s p).heap.size = w.heap.size := by simp [iterStep]
theorem IterAt.other {w : World} {b : Nat} {s : ByteArray} {pos : Nat} (h : IterAt w b s pos) {b' : Nat} (hne : b ≠ b') (s' : ByteArray) (p' : Nat) : IterAt (iterStep w b' s' p') b s pos := by
  unfold IterAt iterStep at *; simp only [Array.getElem?_setIfInBounds, if_neg (Ne.symm hne)]; exact h
theorem IterAt.alloc {w : World} {b : Nat} {s : ByteArray} {pos : Nat} (h : IterAt w b s pos) (o : Obj) : IterAt (w.alloc o) b s pos := by
  have hl : b < w.heap.size := by
    rcases Nat.lt_or_ge b w.heap.size with h' | h'
    · exact h'
    · unfold IterAt at h; rw [Array.getElem?_eq_none h'] at h; cases h
  unfold IterAt World.alloc at *; simp only [Array.getElem?_push, if_neg (Nat.ne_of_lt hl)]; exact h
theorem IterAt.pos {w : World} {b : Nat} {s : ByteArray} {pos : Nat} (h : IterAt w b s pos) : w.iterPos b = pos := by
  unfold IterAt at h; simp [World.iterPos, h]
theorem Below.iterStep {B : Nat} {w w1 : World} (h : Below B w w1) {b : Nat} (hb : B ≤ b) (s : ByteArray) (p : Nat) : Below B w (iterStep w1 b s p) :=
  ⟨h.os, h.tape, h.output, by rw [iterStep_size]; exact h.size, fun k hk => by
    show (w1.heap.setIfInBounds b _)[k]? = _
    rw [Array.getElem?_setIfInBounds, if_neg (by omega)]; exact h.block k hk⟩
theorem ascii_at {s : ByteArray} (ha : ∀ c ∈ s.data.toList, c.toNat < 128) : ∀ i (h : i < s.size), (s[i]'h).toNat < 128 := fun i h => ha _ (by
    have : s[i]'h = s.data.toList[i]'(by simpa using h) := by simp [ByteArray.getElem_eq_getElem_data]
    rw [this]; exact List.getElem_mem _)

set_option maxHeartbeats 4000000 in
set_option maxRecDepth 100000 in
theorem zzIndexAny_any (s t : ByteArray) (w : World) (ha : ∀ c ∈ s.data.toList, c.toNat < 128) (hta : ∀ c ∈ t.data.toList, c.toNat < 128) :
    Calls Tryz.prog 104 #[.string s, .string t] w fun e w' => e = .returned (.int .i64 (Pl.indexAny s.data.toList t.data.toList)) ∧ Below w.heap.size w w' := by
  have hA := Lib.hid (ascii_at ha); clear ha
  have hT := Lib.hid (ascii_at hta); clear hta
  go_enter Tryz.func104, Tryz.ntmps104
  go_wp2
  go_loopw [] (fun wr => ∃ pos : Nat, pos ≤ s.size ∧ IterAt wr w.heap.size s pos ∧ Hid (∀ x ∈ s.data.toList.take pos, x ∉ t.data.toList) ∧ w.heap.size < wr.heap.size ∧ Below w.heap.size w wr) (fun wr => s.size - wr.iterPos w.heap.size)
  case atStart => exact ⟨0, Nat.zero_le _, IterAt.new w s, by simp [Hid], by show w.heap.size < (w.heap.push _).size; simp, (Below.refl _ _).alloc (Nat.le_refl _) _⟩
  case round =>
    obtain ⟨pos, hpos, hit, hno, hsz, hbl⟩ := hrel
    by_cases hlt : pos < s.size
    · have hnx : ∀ ty, (Instr.next (.pointer (some ⟨w.heap.size, 0, none⟩)) true ty).run Tryz.prog wr = _ := fun ty => next_ascii wr w.heap.size s pos ty hit hlt (hA.out pos hlt)
      have hit2 := hit.step (pos + 1)
      have hsz2 : w.heap.size < (iterStep wr w.heap.size s (pos + 1)).heap.size := by rw [iterStep_size]; exact hsz
      have hbl2 := Below.iterStep hbl (Nat.le_refl _) s (pos + 1)
      go_wp2
      have hmo := hit.pos
      clear hnx hit hsz hbl
      generalize iterStep wr w.heap.size s (pos + 1) = w1 at *
      have hgs := list_get s pos hlt
      have HGS := Lib.hid hgs; clear hgs
      generalize hcc : s[pos] = c at *
      have HCC := Lib.hid hcc; clear hcc
      go_loopw [] (fun wi => ∃ k : Nat, k ≤ t.size ∧ IterAt wi w1.heap.size t k ∧ IterAt wi w.heap.size s (pos + 1) ∧ Hid (c ∉ t.data.toList.take k) ∧ w.heap.size < wi.heap.size ∧ Below w.heap.size w wi) (fun wi => t.size - wi.iterPos w1.heap.size)
      case atStart => exact ⟨0, Nat.zero_le _, IterAt.new w1 t, hit2.alloc _, by simp [Hid], by show _ < (w1.heap.push _).size; simp; omega, hbl2.alloc (Nat.le_of_lt hsz2) _⟩
      case round =>
        obtain ⟨k, hk, hitt, hits, hnot, hszi, hbli⟩ := hrel
        by_cases hltk : k < t.size
        · have hnx : ∀ ty, (Instr.next (.pointer (some ⟨w1.heap.size, 0, none⟩)) true ty).run Tryz.prog wr = _ := fun ty => next_ascii wr w1.heap.size t k ty hitt hltk (hT.out k hltk)
          have hitt2 := hitt.step (k + 1)
          have hits2 := hits.other (Nat.ne_of_lt hsz2) t (k + 1)
          have hszi2 : w.heap.size < (iterStep wr w1.heap.size t (k + 1)).heap.size := by rw [iterStep_size]; exact hszi
          have hbli2 := Below.iterStep hbli (Nat.le_of_lt hsz2) t (k + 1)
          have hgt := list_get t k hltk
          have HGT := Lib.hid hgt; clear hgt
          have htk := take_snoc t k hltk
          have HTK := Lib.hid htk; clear htk
          by_cases hd : c = t[k]
          · have hdi : ((c.toNat : Int) == (t[k].toNat : Int)) = true := by rw [hd]; simp
            have hF : Hid (Pl.indexAny s.data.toList t.data.toList = pos) := Pl.indexAny_at hno.out HGS.out (by rw [hd]; exact List.mem_of_getElem? HGT.out)
            clear hd
            go_wp2
            go_ret
            exact ⟨ret_int hF.out.symm, hbli2⟩
          · have hdi : ((c.toNat : Int) == (t[k].toNat : Int)) = false := by rw [beq_eq_false_iff_ne]; intro h; exact hd (UInt8.toNat_inj.1 (by omega))
            have hF : Hid (c ∉ t.data.toList.take (k + 1)) := by
              show c ∉ _
              rw [HTK.out]; intro h; rcases List.mem_append.1 h with h | h
              · exact hnot.out h
              · simp at h; exact hd h
            clear hd
            go_wp2
            go_roundw
            case rel => exact ⟨k + 1, by omega, hitt2, hits2, hF, hszi2, hbli2⟩
            case measure => rw [hitt.pos, hitt2.pos]; omega
        · have hnx : ∀ ty, (Instr.next (.pointer (some ⟨w1.heap.size, 0, none⟩)) true ty).run Tryz.prog wr = _ := fun ty => next_end wr w1.heap.size t k ty hitt hltk
          obtain rfl : k = t.size := by omega
          have hF : Hid (∀ x ∈ s.data.toList.take (pos + 1), x ∉ t.data.toList) := by
            intro x hx
            rw [take_snoc s pos hlt] at hx
            rcases List.mem_append.1 hx with h | h
            · exact hno.out x h
            · simp at h; subst h; rw [HCC.out]; have := hnot.out; rw [List.take_of_length_le (by simp)] at this; exact this
          go_wp2
          go_roundw
          case rel => exact ⟨pos + 1, by omega, hits, hF, hszi, hbli⟩
          case measure => rw [hits.pos, hmo]; omega
    · have hnx : ∀ ty, (Instr.next (.pointer (some ⟨w.heap.size, 0, none⟩)) true ty).run Tryz.prog wr = _ := fun ty => next_end wr w.heap.size s pos ty hit hlt
      obtain rfl : pos = s.size := by omega
      have hF : Hid (Pl.indexAny s.data.toList t.data.toList = -1) := Pl.indexAny_none (by have := hno.out; rw [List.take_of_length_le (by simp)] at this; exact this)
      go_wp2
      go_ret
      exact ⟨ret_int hF.out.symm, hbl⟩
end Go.Proofs.YthkgjhnckakliaaGreatDoorR
namespace Go.Proofs.YthkgjhnckakliaaGreatDoorR
open Go.RowKit

/-- The frequency of a name. -/
def Pl.freqOf (s : Bs) : Option Nat :=
  if s = [89, 69, 65, 82, 76, 89] then some 0 else if s = [77, 79, 78, 84, 72, 76, 89] then some 1 else if s = [87, 69, 69, 75, 76, 89] then some 2 else if s = [68, 65, 73, 76, 89] then some 3
  else if s = [72, 79, 85, 82, 76, 89] then some 4 else if s = [77, 73, 78, 85, 84, 69, 76, 89] then some 5 else if s = [83, 69, 67, 79, 78, 68, 76, 89] then some 6 else none

def vFreqs : Array Value := #[.string ⟨#[89, 69, 65, 82, 76, 89]⟩, .string ⟨#[77, 79, 78, 84, 72, 76, 89]⟩, .string ⟨#[87, 69, 69, 75, 76, 89]⟩, .string ⟨#[68, 65, 73, 76, 89]⟩, .string ⟨#[72, 79, 85, 82, 76, 89]⟩, .string ⟨#[77, 73, 78, 85, 84, 69, 76, 89]⟩, .string ⟨#[83, 69, 67, 79, 78, 68, 76, 89]⟩]
theorem Tryz.ixF0 (w : World) : (Instr.index 106 (.agg vFreqs) (.int .i64 0)).run Tryz.prog w = .ok (.string ⟨#[89, 69, 65, 82, 76, 89]⟩) w := by kernel_rfl
theorem Tryz.ixF1 (w : World) : (Instr.index 106 (.agg vFreqs) (.int .i64 1)).run Tryz.prog w = .ok (.string ⟨#[77, 79, 78, 84, 72, 76, 89]⟩) w := by kernel_rfl
theorem Tryz.ixF2 (w : World) : (Instr.index 106 (.agg vFreqs) (.int .i64 2)).run Tryz.prog w = .ok (.string ⟨#[87, 69, 69, 75, 76, 89]⟩) w := by kernel_rfl
theorem Tryz.ixF3 (w : World) : (Instr.index 106 (.agg vFreqs) (.int .i64 3)).run Tryz.prog w = .ok (.string ⟨#[68, 65, 73, 76, 89]⟩) w := by kernel_rfl
theorem Tryz.ixF4 (w : World) : (Instr.index 106 (.agg vFreqs) (.int .i64 4)).run Tryz.prog w = .ok (.string ⟨#[72, 79, 85, 82, 76, 89]⟩) w := by kernel_rfl
theorem Tryz.ixF5 (w : World) : (Instr.index 106 (.agg vFreqs) (.int .i64 5)).run Tryz.prog w = .ok (.string ⟨#[77, 73, 78, 85, 84, 69, 76, 89]⟩) w := by kernel_rfl
theorem Tryz.ixF6 (w : World) : (Instr.index 106 (.agg vFreqs) (.int .i64 6)).run Tryz.prog w = .ok (.string ⟨#[83, 69, 67, 79, 78, 68, 76, 89]⟩) w := by kernel_rfl

set_option maxHeartbeats 2000000 in
set_option maxRecDepth 100000 in
theorem FreqOf_any (s : ByteArray) (w : World) (he : Env w) :
    Calls Tryz.prog 35 #[.string s] w fun e w' =>
      e = .returned (.tuple #[.int .u8 ((Pl.freqOf s.data.toList).getD 0 : Nat), .bool (Pl.freqOf s.data.toList).isSome]) ∧ w = w' := by
  obtain ⟨tF, frF, hF⟩ := he.freqs
  change w.heap[0]? = some (.cells vFreqs tF frF) at hF
  clear he
  have i0 := Tryz.ixF0; have i1 := Tryz.ixF1; have i2 := Tryz.ixF2; have i3 := Tryz.ixF3; have i4 := Tryz.ixF4; have i5 := Tryz.ixF5; have i6 := Tryz.ixF6
  go_enter Tryz.func35, Tryz.ntmps35
  go_wp2_with (refine wpList_load_row rfl 106 _ rfl 0 rfl tF vFreqs frF _ hF Tryz.underlying106 rfl (by kernel_rfl) ?_)
  refine wp_loop_rounds 8 ?_
  rw [rounds_succ]
  go_wp2
  · go_ret2
    exact ⟨by simp_all [Pl.freqOf, ByteArray.toList_eq], rfl⟩
  rw [rounds_succ]
  go_wp2
  · go_ret2
    exact ⟨by simp_all [Pl.freqOf, ByteArray.toList_eq], rfl⟩
  rw [rounds_succ]
  go_wp2
  · go_ret2
    exact ⟨by simp_all [Pl.freqOf, ByteArray.toList_eq], rfl⟩
  rw [rounds_succ]
  go_wp2
  · go_ret2
    exact ⟨by simp_all [Pl.freqOf, ByteArray.toList_eq], rfl⟩
  rw [rounds_succ]
  go_wp2
  · go_ret2
    exact ⟨by simp_all [Pl.freqOf, ByteArray.toList_eq], rfl⟩
  rw [rounds_succ]
  go_wp2
  · go_ret2
    exact ⟨by simp_all [Pl.freqOf, ByteArray.toList_eq], rfl⟩
  rw [rounds_succ]
  go_wp2
  · go_ret2
    exact ⟨by simp_all [Pl.freqOf, ByteArray.toList_eq], rfl⟩
  rw [rounds_succ]
  go_wp2
  go_ret2
  exact ⟨by simp_all [Pl.freqOf, ByteArray.toList_eq], rfl⟩

namespace Pl
/-- A number in digits, up to a greatest one. -/
def mag (most : Nat) : Bs → Nat → Option Nat
  | [], n => some n
  | c :: r, n => if 48 ≤ c.toNat ∧ c.toNat ≤ 57 then (if n > (most - (c.toNat - 48)) / 10 then none else mag most r (n * 10 + (c.toNat - 48))) else none
theorem mag_snoc (most : Nat) : ∀ (l : Bs) (c : UInt8) (n : Nat), mag most (l ++ [c]) n = (mag most l n).bind fun m => if 48 ≤ c.toNat ∧ c.toNat ≤ 57 then (if m > (most - (c.toNat - 48)) / 10 then none else some (m * 10 + (c.toNat - 48))) else none
  | [], c, n => by simp [mag]
  | d :: l, c, n => by
    simp only [List.cons_append, mag]
    split
    · split
      · rfl
      · exact mag_snoc most l c _
    · rfl
theorem mag_none (most : Nat) : ∀ (l r : Bs) (n : Nat), mag most l n = none → mag most (l ++ r) n = none
  | [], _, _, h => by simp [mag] at h
  | c :: l, r, n, h => by
    simp only [List.cons_append, mag] at h ⊢
    split
    · rename_i hc; rw [if_pos hc] at h
      split
      · rfl
      · rename_i h2; rw [if_neg h2] at h; exact mag_none most l r _ h
    · rfl
theorem mag_le (most : Nat) (hm : 9 ≤ most) : ∀ (l : Bs) (n m : Nat), n ≤ most → mag most l n = some m → m ≤ most
  | [], n, m, hn, h => by simp [mag] at h; omega
  | c :: l, n, m, hn, h => by
    simp only [mag] at h
    split at h
    · split at h
      · cases h
      · exact mag_le most hm l _ m (by omega) h
    · cases h
/-- What stands behind a sign. -/
def unsign (s : Bs) : Bool × Bs := match s with
  | c :: r => if c.toNat = 45 then (true, r) else if c.toNat = 43 then (false, r) else (false, s)
  | [] => (false, [])
/-- A number of 64 bits with or without a sign. -/
def intOf (s : Bs) : Option Int :=
  let (neg, r) := unsign s
  if r = [] then none else
  match mag (if neg then 9223372036854775808 else 9223372036854775807) r 0 with
  | some n => some (if neg then -(n : Int) else n)
  | none => none
theorem parse_le : ∀ (l : Bs) (a u : Nat), Lib.parseUint10 a l = .ok u → a ≤ u
  | [], a, u, h => by simp only [Lib.parseUint10] at h; injection h with h; omega
  | c :: r, a, u, h => by
    simp only [Lib.parseUint10] at h
    split at h
    · split at h
      · cases h
      · split at h
        · cases h
        · have := parse_le r _ u h; omega
    · cases h
theorem mag_eq (most : Nat) (h9 : 9 ≤ most) (hm : most < 18446744073709551616) : ∀ (l : Bs) (n : Nat), n ≤ most →
    mag most l n = match Lib.parseUint10 n l with | .ok u => if u ≤ most then some u else none | _ => none
  | [], n, hn => by simp [mag, Lib.parseUint10, hn]
  | c :: l, n, hn => by
    simp only [mag, Lib.parseUint10]
    split
    · rename_i hc
      by_cases h1 : 1844674407370955162 ≤ n
      · rw [if_pos h1, if_pos (by omega)]
      · rw [if_neg h1]
        by_cases h2 : 18446744073709551616 ≤ n * 10 + (c.toNat - 48)
        · rw [if_pos h2, if_pos (by omega)]
        · rw [if_neg h2]
          by_cases h3 : n > (most - (c.toNat - 48)) / 10
          · rw [if_pos h3]
            cases hp : Lib.parseUint10 (n * 10 + (c.toNat - 48)) l with
            | ok u => have := parse_le l _ u hp; simp only; rw [if_neg (by omega)]
            | _ => rfl
          · rw [if_neg h3]; exact mag_eq most h9 hm l _ (by omega)
    · rfl
theorem intOf_atoi (s : Bs) : intOf s = match Lib.atoiAll s with | .ok v => some v | _ => none := by
  cases s with
  | nil => rfl
  | cons c r =>
    unfold intOf unsign Lib.atoiAll Lib.parseMag
    by_cases h45 : c.toNat = 45
    · simp only [h45, if_true, or_true, not_true, false_and, true_and, if_false]
      by_cases hr : r = []
      · simp [hr]
      · rw [if_neg hr, if_neg hr, mag_eq _ (by omega) (by omega) _ _ (by omega)]
        cases hp : Lib.parseUint10 0 r with
        | ok u =>
          simp only
          by_cases hu : u ≤ 9223372036854775808
          · rw [if_pos hu, if_neg (by omega)]
          · rw [if_neg hu, if_pos (by omega)]
        | _ => rfl
    · simp only [h45, if_false, or_false, not_false_eq_true, true_and, false_and]
      by_cases h43 : c.toNat = 43
      · simp only [h43, if_true]
        by_cases hr : r = []
        · simp [hr]
        · rw [if_neg hr, if_neg hr, mag_eq _ (by simp) (by simp) _ _ (by simp)]
          cases hp : Lib.parseUint10 0 r with
          | ok u =>
            simp only
            by_cases hu : u ≤ 9223372036854775807
            · simp [hu, show ¬ (9223372036854775808 ≤ u) by omega]
            · simp [hu, show (9223372036854775808 ≤ u) by omega]
          | _ => rfl
      · simp only [h43, if_false]
        rw [if_neg (by simp), if_neg (by simp), mag_eq _ (by simp) (by simp) _ _ (by simp)]
        cases hp : Lib.parseUint10 0 (c :: r) with
        | ok u =>
          simp only
          by_cases hu : u ≤ 9223372036854775807
          · simp [hu, show ¬ (9223372036854775808 ≤ u) by omega]
          · simp [hu, show (9223372036854775808 ≤ u) by omega]
        | _ => rfl
end Pl

end Go.Proofs.YthkgjhnckakliaaGreatDoorR
namespace Go.Proofs.YthkgjhnckakliaaGreatDoorR
open Go.RowKit

theorem Pl.intOf_nil {s : Bs} {neg : Bool} (hu : Pl.unsign s = (neg, [])) : Pl.intOf s = none := by simp [Pl.intOf, hu]
theorem Pl.intOf_neg {s r : Bs} (hu : Pl.unsign s = (true, r)) (hr : r ≠ []) : (Pl.mag 9223372036854775808 r 0 = none → Pl.intOf s = none) ∧ (∀ n, Pl.mag 9223372036854775808 r 0 = some n → Pl.intOf s = some (-(n : Int))) :=
  ⟨fun h => by simp [Pl.intOf, hu, hr, h], fun n h => by simp [Pl.intOf, hu, hr, h]⟩
theorem Pl.intOf_pos {s r : Bs} (hu : Pl.unsign s = (false, r)) (hr : r ≠ []) : (Pl.mag 9223372036854775807 r 0 = none → Pl.intOf s = none) ∧ (∀ n, Pl.mag 9223372036854775807 r 0 = some n → Pl.intOf s = some (n : Int)) :=
  ⟨fun h => by simp [Pl.intOf, hu, hr, h], fun n h => by simp [Pl.intOf, hu, hr, h]⟩
theorem empty_isEmpty {t : ByteArray} (h : t.size = 0) : t.toList.isEmpty = true := by rw [empty_of_size h, ByteArray.toList_eq]; rfl
theorem list_ne {t : ByteArray} (h : 0 < t.size) : t.data.toList ≠ [] := by rw [get_zero h]; simp
theorem list_nil {t : ByteArray} (h : t.size = 0) : t.data.toList = [] := by rw [empty_of_size h]; rfl

theorem neg_conv (n : Nat) (h : n ≤ 9223372036854775808) : wrap64 (IntKind.u64.wrap (-(n : Int))) = -(n : Int) := by
  have e : IntKind.u64.wrap (-(n : Int)) = (-(n : Int)) % 18446744073709551616 := by simp [IntKind.wrap, IntKind.bits, IntKind.signed]
  rw [e]; unfold wrap64; omega

theorem u8_pos {s : ByteArray} (h0 : 0 < s.size) (c : Int) (hc : (s[0].toNat : Int) = c) : ((s[0].toNat : Int) == c) = true := by simp [hc]
theorem u8_neg {s : ByteArray} (h0 : 0 < s.size) (c : Int) (hc : ¬ (s[0].toNat : Int) = c) : ((s[0].toNat : Int) == c) = false := by simp [hc]

set_option maxHeartbeats 2000000 in
set_option maxRecDepth 100000 in
theorem textInt_any (s : ByteArray) (w : World) (hs : s.size ≤ 1000000) :
    Calls Tryz.prog 36 #[.string s] w fun e w' =>
      e = .returned (.tuple #[.int .i64 ((Pl.intOf s.data.toList).getD 0), .bool (Pl.intOf s.data.toList).isSome]) ∧ w = w' := by
  rcases Nat.eq_zero_or_pos s.size with h0 | h0
  · have := empty_of_size h0; subst this
    go_enter Tryz.func36, Tryz.ntmps36
    go_wp2
    go_ret2
    exact ⟨rfl, rfl⟩
  · have hE := isEmpty_of_size h0
    by_cases h45 : (s[0].toNat : Int) = 45
    · have b45 := u8_pos h0 45 h45
      have hu : Pl.unsign s.data.toList = (true, (s.extract 1 s.size).data.toList) := by
        rw [Lib.extract_to_end]
        conv => lhs; rw [get_zero h0]
        simp only [Pl.unsign]
        rw [if_pos (by omega)]
      have H45 := Lib.hid h45; clear h45
      rcases Nat.eq_zero_or_pos (s.extract 1 s.size).size with h1 | h1
      · rw [list_nil h1] at hu
        have HFIN := Lib.hid (Pl.intOf_nil hu); clear hu
        have hE1 := empty_isEmpty h1
        clear h1
        go_enter Tryz.func36, Tryz.ntmps36
        go_wp2
        go_ret2
        exact ⟨by rw [HFIN.out]; rfl, rfl⟩
      · have hE1 := isEmpty_of_size h1
        have HFIN := Lib.hid (Pl.intOf_neg hu (list_ne h1)); clear hu
        have hs1 : (s.extract 1 s.size).size + 1 ≤ s.size := by simp; omega
        have hs2 : s.size ≤ (s.extract 1 s.size).size + 1 := by simp; omega
        go_enter Tryz.func36, Tryz.ntmps36
        go_wp2
        generalize s.extract 1 s.size = t at *
        go_loop [33, 6] (fun i x => ∃ (k n : Nat), k ≤ (t).size ∧ i = .int .i64 k ∧ x = .int .u64 n ∧ n ≤ 9223372036854775808 ∧ Hid (Pl.mag 9223372036854775808 ((t).data.toList.take k) 0 = some n)) (fun i _ => (t).size - (intOf i).toNat)
        case atStart => exact ⟨0, 0, Nat.zero_le _, rfl, rfl, by omega, by simp [Pl.mag, Hid]⟩
        case round =>
          obtain ⟨k, n, hk, rfl, rfl, hn, hm⟩ := hrel
          by_cases hlt : k < (t).size
          · have hsn := take_snoc (t) k hlt
            have HSN := Lib.hid hsn; clear hsn
            have hfail : Pl.mag 9223372036854775808 ((t).data.toList.take (k + 1)) 0 = none → Pl.intOf s.data.toList = none := by
              intro hq
              refine HFIN.out.1 ?_
              rw [← List.take_append_drop (k + 1) (t).data.toList]
              exact Pl.mag_none _ _ _ _ hq
            obtain ⟨c, hcd⟩ : ∃ c : UInt8, c = (t)[k] := ⟨_, rfl⟩
            have hlast : Pl.mag 9223372036854775808 ((t).data.toList.take (k + 1)) 0 = if 48 ≤ c.toNat ∧ c.toNat ≤ 57 then (if n > (9223372036854775808 - (c.toNat - 48)) / 10 then none else some (n * 10 + (c.toNat - 48))) else none := by
              rw [HSN.out, Pl.mag_snoc, hm.out, hcd]; rfl
            have HL := Lib.hid hlast; clear hlast
            have hlt256 := c.toNat_lt
            have hi0 : (t).data.toList[k]? = some c := by rw [list_get _ k hlt, hcd]
            by_cases hlo : 48 ≤ c.toNat
            · by_cases hhi : c.toNat ≤ 57
              · by_cases hov : n > (9223372036854775808 - (c.toNat - 48)) / 10
                · have hF := Lib.hid (hfail (by rw [HL.out, if_pos ⟨hlo, hhi⟩, if_pos hov])); clear hfail
                  have hsub : IntKind.u8.wrap ((c.toNat : Int) - 48) = (c.toNat : Int) - 48 := by simp [IntKind.wrap, IntKind.bits, IntKind.signed]; omega
                  rw [hcd] at hlo hhi hov hsub hlt256
                  have HH := Lib.hid hcd; clear hcd
                  go_wp2
                  go_ret2
                  exact ⟨by rw [hF.out]; rfl, rfl⟩
                · have hsub : IntKind.u8.wrap ((c.toNat : Int) - 48) = (c.toNat : Int) - 48 := by simp [IntKind.wrap, IntKind.bits, IntKind.signed]; omega
                  have hm2 : Hid (Pl.mag 9223372036854775808 ((t).data.toList.take (k + 1)) 0 = some (n * 10 + (c.toNat - 48))) := by rw [HL.out, if_pos ⟨hlo, hhi⟩, if_neg hov]; simp [Hid]
                  clear hfail
                  rw [hcd] at hlo hhi hov hsub hlt256 hm2
                  have HH := Lib.hid hcd; clear hcd
                  go_wp2
                  go_round
                  case rel => exact ⟨k + 1, n * 10 + ((t)[k].toNat - 48), by omega, by go_num, by congr 1; omega, by omega, hm2⟩
                  case measure => simp [intOf]; omega
              · have hF := Lib.hid (hfail (by rw [HL.out, if_neg (by omega)])); clear hfail
                rw [hcd] at hlo hhi hlt256
                have HH := Lib.hid hcd; clear hcd
                go_wp2
                go_ret2
                exact ⟨by rw [hF.out]; rfl, rfl⟩
            · have hF := Lib.hid (hfail (by rw [HL.out, if_neg (by omega)])); clear hfail
              rw [hcd] at hlo hlt256
              have HH := Lib.hid hcd; clear hcd
              go_wp2
              go_ret2
              exact ⟨by rw [hF.out]; rfl, rfl⟩
          · have hlast : Pl.mag 9223372036854775808 (t).data.toList 0 = some n := by rw [← hm.out, List.take_of_length_le (by simp; omega)]
            have HF := Lib.hid (HFIN.out.2 n hlast)
            go_wp2
            go_ret2
            exact ⟨by rw [HF.out]; simp [neg_conv n hn], rfl⟩

    · have b45 := u8_neg h0 45 h45
      by_cases h43 : (s[0].toNat : Int) = 43
      · have b43 := u8_pos h0 43 h43
        have hu : Pl.unsign s.data.toList = (false, (s.extract 1 s.size).data.toList) := by
          rw [Lib.extract_to_end]
          conv => lhs; rw [get_zero h0]
          simp only [Pl.unsign]
          rw [if_neg (by omega), if_pos (by omega)]
        have H45 := Lib.hid h45; have H43 := Lib.hid h43; clear h45 h43
        rcases Nat.eq_zero_or_pos (s.extract 1 s.size).size with h1 | h1
        · rw [list_nil h1] at hu
          have HFIN := Lib.hid (Pl.intOf_nil hu); clear hu
          have hE1 := empty_isEmpty h1
          clear h1
          go_enter Tryz.func36, Tryz.ntmps36
          go_wp2
          go_ret2
          exact ⟨by rw [HFIN.out]; rfl, rfl⟩
        · have hE1 := isEmpty_of_size h1
          have HFIN := Lib.hid (Pl.intOf_pos hu (list_ne h1)); clear hu
          have hs1 : (s.extract 1 s.size).size + 1 ≤ s.size := by simp; omega
          have hs2 : s.size ≤ (s.extract 1 s.size).size + 1 := by simp; omega
          go_enter Tryz.func36, Tryz.ntmps36
          go_wp2
          generalize s.extract 1 s.size = t at *
          go_loop [33, 6] (fun i x => ∃ (k n : Nat), k ≤ (t).size ∧ i = .int .i64 k ∧ x = .int .u64 n ∧ n ≤ 9223372036854775807 ∧ Hid (Pl.mag 9223372036854775807 ((t).data.toList.take k) 0 = some n)) (fun i _ => (t).size - (intOf i).toNat)
          case atStart => exact ⟨0, 0, Nat.zero_le _, rfl, rfl, by omega, by simp [Pl.mag, Hid]⟩
          case round =>
            obtain ⟨k, n, hk, rfl, rfl, hn, hm⟩ := hrel
            by_cases hlt : k < (t).size
            · have hsn := take_snoc (t) k hlt
              have HSN := Lib.hid hsn; clear hsn
              have hfail : Pl.mag 9223372036854775807 ((t).data.toList.take (k + 1)) 0 = none → Pl.intOf s.data.toList = none := by
                intro hq
                refine HFIN.out.1 ?_
                rw [← List.take_append_drop (k + 1) (t).data.toList]
                exact Pl.mag_none _ _ _ _ hq
              obtain ⟨c, hcd⟩ : ∃ c : UInt8, c = (t)[k] := ⟨_, rfl⟩
              have hlast : Pl.mag 9223372036854775807 ((t).data.toList.take (k + 1)) 0 = if 48 ≤ c.toNat ∧ c.toNat ≤ 57 then (if n > (9223372036854775807 - (c.toNat - 48)) / 10 then none else some (n * 10 + (c.toNat - 48))) else none := by
                rw [HSN.out, Pl.mag_snoc, hm.out, hcd]; rfl
              have HL := Lib.hid hlast; clear hlast
              have hlt256 := c.toNat_lt
              have hi0 : (t).data.toList[k]? = some c := by rw [list_get _ k hlt, hcd]
              by_cases hlo : 48 ≤ c.toNat
              · by_cases hhi : c.toNat ≤ 57
                · by_cases hov : n > (9223372036854775807 - (c.toNat - 48)) / 10
                  · have hF := Lib.hid (hfail (by rw [HL.out, if_pos ⟨hlo, hhi⟩, if_pos hov])); clear hfail
                    have hsub : IntKind.u8.wrap ((c.toNat : Int) - 48) = (c.toNat : Int) - 48 := by simp [IntKind.wrap, IntKind.bits, IntKind.signed]; omega
                    rw [hcd] at hlo hhi hov hsub hlt256
                    have HH := Lib.hid hcd; clear hcd
                    go_wp2
                    go_ret2
                    exact ⟨by rw [hF.out]; rfl, rfl⟩
                  · have hsub : IntKind.u8.wrap ((c.toNat : Int) - 48) = (c.toNat : Int) - 48 := by simp [IntKind.wrap, IntKind.bits, IntKind.signed]; omega
                    have hm2 : Hid (Pl.mag 9223372036854775807 ((t).data.toList.take (k + 1)) 0 = some (n * 10 + (c.toNat - 48))) := by rw [HL.out, if_pos ⟨hlo, hhi⟩, if_neg hov]; simp [Hid]
                    clear hfail
                    rw [hcd] at hlo hhi hov hsub hlt256 hm2
                    have HH := Lib.hid hcd; clear hcd
                    go_wp2
                    go_round
                    case rel => exact ⟨k + 1, n * 10 + ((t)[k].toNat - 48), by omega, by go_num, by congr 1; omega, by omega, hm2⟩
                    case measure => simp [intOf]; omega
                · have hF := Lib.hid (hfail (by rw [HL.out, if_neg (by omega)])); clear hfail
                  rw [hcd] at hlo hhi hlt256
                  have HH := Lib.hid hcd; clear hcd
                  go_wp2
                  go_ret2
                  exact ⟨by rw [hF.out]; rfl, rfl⟩
              · have hF := Lib.hid (hfail (by rw [HL.out, if_neg (by omega)])); clear hfail
                rw [hcd] at hlo hlt256
                have HH := Lib.hid hcd; clear hcd
                go_wp2
                go_ret2
                exact ⟨by rw [hF.out]; rfl, rfl⟩
            · have hlast : Pl.mag 9223372036854775807 (t).data.toList 0 = some n := by rw [← hm.out, List.take_of_length_le (by simp; omega)]
              have HF := Lib.hid (HFIN.out.2 n hlast)
              go_wp2
              go_ret2
              exact ⟨by rw [HF.out]; simp, rfl⟩

      · have b43 := u8_neg h0 43 h43
        have hu : Pl.unsign s.data.toList = (false, s.data.toList) := by
          rw [get_zero h0]; simp only [Pl.unsign]
          rw [if_neg (by omega), if_neg (by omega)]
        have H45 := Lib.hid h45; have H43 := Lib.hid h43; clear h45 h43
        have HFIN := Lib.hid (Pl.intOf_pos hu (list_ne h0)); clear hu
        go_enter Tryz.func36, Tryz.ntmps36
        go_wp2
        go_loop [33, 6] (fun i x => ∃ (k n : Nat), k ≤ (s).size ∧ i = .int .i64 k ∧ x = .int .u64 n ∧ n ≤ 9223372036854775807 ∧ Hid (Pl.mag 9223372036854775807 ((s).data.toList.take k) 0 = some n)) (fun i _ => (s).size - (intOf i).toNat)
        case atStart => exact ⟨0, 0, Nat.zero_le _, rfl, rfl, by omega, by simp [Pl.mag, Hid]⟩
        case round =>
          obtain ⟨k, n, hk, rfl, rfl, hn, hm⟩ := hrel
          by_cases hlt : k < (s).size
          · have hsn := take_snoc (s) k hlt
            have HSN := Lib.hid hsn; clear hsn
            have hfail : Pl.mag 9223372036854775807 ((s).data.toList.take (k + 1)) 0 = none → Pl.intOf s.data.toList = none := by
              intro hq
              refine HFIN.out.1 ?_
              rw [← List.take_append_drop (k + 1) (s).data.toList]
              exact Pl.mag_none _ _ _ _ hq
            obtain ⟨c, hcd⟩ : ∃ c : UInt8, c = (s)[k] := ⟨_, rfl⟩
            have hlast : Pl.mag 9223372036854775807 ((s).data.toList.take (k + 1)) 0 = if 48 ≤ c.toNat ∧ c.toNat ≤ 57 then (if n > (9223372036854775807 - (c.toNat - 48)) / 10 then none else some (n * 10 + (c.toNat - 48))) else none := by
              rw [HSN.out, Pl.mag_snoc, hm.out, hcd]; rfl
            have HL := Lib.hid hlast; clear hlast
            have hlt256 := c.toNat_lt
            have hi0 : (s).data.toList[k]? = some c := by rw [list_get _ k hlt, hcd]
            by_cases hlo : 48 ≤ c.toNat
            · by_cases hhi : c.toNat ≤ 57
              · by_cases hov : n > (9223372036854775807 - (c.toNat - 48)) / 10
                · have hF := Lib.hid (hfail (by rw [HL.out, if_pos ⟨hlo, hhi⟩, if_pos hov])); clear hfail
                  have hsub : IntKind.u8.wrap ((c.toNat : Int) - 48) = (c.toNat : Int) - 48 := by simp [IntKind.wrap, IntKind.bits, IntKind.signed]; omega
                  rw [hcd] at hlo hhi hov hsub hlt256
                  have HH := Lib.hid hcd; clear hcd
                  go_wp2
                  go_ret2
                  exact ⟨by rw [hF.out]; rfl, rfl⟩
                · have hsub : IntKind.u8.wrap ((c.toNat : Int) - 48) = (c.toNat : Int) - 48 := by simp [IntKind.wrap, IntKind.bits, IntKind.signed]; omega
                  have hm2 : Hid (Pl.mag 9223372036854775807 ((s).data.toList.take (k + 1)) 0 = some (n * 10 + (c.toNat - 48))) := by rw [HL.out, if_pos ⟨hlo, hhi⟩, if_neg hov]; simp [Hid]
                  clear hfail
                  rw [hcd] at hlo hhi hov hsub hlt256 hm2
                  have HH := Lib.hid hcd; clear hcd
                  go_wp2
                  go_round
                  case rel => exact ⟨k + 1, n * 10 + ((s)[k].toNat - 48), by omega, by go_num, by congr 1; omega, by omega, hm2⟩
                  case measure => simp [intOf]; omega
              · have hF := Lib.hid (hfail (by rw [HL.out, if_neg (by omega)])); clear hfail
                rw [hcd] at hlo hhi hlt256
                have HH := Lib.hid hcd; clear hcd
                go_wp2
                go_ret2
                exact ⟨by rw [hF.out]; rfl, rfl⟩
            · have hF := Lib.hid (hfail (by rw [HL.out, if_neg (by omega)])); clear hfail
              rw [hcd] at hlo hlt256
              have HH := Lib.hid hcd; clear hcd
              go_wp2
              go_ret2
              exact ⟨by rw [hF.out]; rfl, rfl⟩
          · have hlast : Pl.mag 9223372036854775807 (s).data.toList 0 = some n := by rw [← hm.out, List.take_of_length_le (by simp; omega)]
            have HF := Lib.hid (HFIN.out.2 n hlast)
            go_wp2
            go_ret2
            exact ⟨by rw [HF.out]; simp, rfl⟩

end Go.Proofs.YthkgjhnckakliaaGreatDoorR
namespace Go.Proofs.YthkgjhnckakliaaGreatDoorR
open Go.RowKit

/-- All of some texts read as numbers. -/
def Pl.allInts : List Bs → Option (List Int)
  | [] => some []
  | x :: r => match Pl.intOf x with
    | none => none
    | some n => match Pl.allInts r with
      | none => none
      | some l => some (n :: l)
def Pl.intsOf (s : Bs) : Option (List Int) := Pl.allInts (Pl.split 44 s)
theorem Pl.allInts_take (l : List Bs) (k : Nat) (ns : List Int) (x : Bs) (h : Pl.allInts (l.take k) = some ns) (hx : l[k]? = some x) :
    Pl.allInts (l.take (k + 1)) = match Pl.intOf x with | none => none | some n => some (ns ++ [n]) := by
  induction l generalizing k ns with
  | nil => simp at hx
  | cons a l ih =>
    cases k with
    | zero =>
      simp at hx h; subst hx
      simp [Pl.allInts] at h; subst h
      simp only [List.take_succ_cons, List.take_zero, Pl.allInts]
      cases Pl.intOf a <;> rfl
    | succ k =>
      simp only [List.take_succ_cons, Pl.allInts] at h ⊢
      cases ha : Pl.intOf a with
      | none => rw [ha] at h; cases h
      | some n =>
        rw [ha] at h; simp only at h ⊢
        cases hr : Pl.allInts (l.take k) with
        | none => rw [hr] at h; cases h
        | some m =>
          rw [hr] at h; simp only [Option.some.injEq] at h; subst h
          rw [ih k m hr (by simpa using hx)]
          cases Pl.intOf x <;> rfl
theorem Pl.allInts_none (l r : List Bs) (h : Pl.allInts l = none) : Pl.allInts (l ++ r) = none := by
  induction l with
  | nil => cases h
  | cons a l ih =>
    simp only [List.cons_append, Pl.allInts] at h ⊢
    cases ha : Pl.intOf a with
    | none => rfl
    | some n =>
      rw [ha] at h; simp only at h ⊢
      cases hl : Pl.allInts l with
      | none => rw [ih hl]
      | some m => rw [hl] at h; cases h
theorem Pl.allInts_length (l : List Bs) (ns : List Int) (h : Pl.allInts l = some ns) : ns.length = l.length := by
  induction l generalizing ns with
  | nil => simp [Pl.allInts] at h; simp [← h]
  | cons a l ih =>
    simp only [Pl.allInts] at h
    cases ha : Pl.intOf a with
    | none => rw [ha] at h; cases h
    | some n =>
      rw [ha] at h; simp only at h
      cases hr : Pl.allInts l with
      | none => rw [hr] at h; cases h
      | some m => rw [hr] at h; simp only [Option.some.injEq] at h; subst h; simp [ih m hr]
theorem ints_snoc (ls : List Int) (n : Int) : ints (ls ++ [n]) = ints ls ++ [.int .i64 n] := by simp [ints]

theorem Tryz.info3 : (Tryz.prog.info? 3).map (fun i => (i.zero, i.size, i.bytes)) = some (some (.int .i64 0), 1, 8) := by kernel_rfl

/-- A row that is not empty, opened. -/
theorem Row.open {w : World} {v : Value} {vs : List Value} (h : Row w v vs) (hne : vs ≠ []) : ∃ b o cap, v = .slice (some ⟨b, o, none⟩) vs.length cap ∧ b < w.heap.size ∧ vs.length ≤ cap ∧ ∀ i x, vs[i]? = some x → w.cell? ⟨b, o + i, none⟩ = some x := by
  obtain ⟨a, cap, h1, h2, h3⟩ := h
  obtain ⟨b, o, ha, hb, hc⟩ := h3 hne
  exact ⟨b, o, cap, by rw [h1, ha], hb, h2, hc⟩
theorem strs_get {ls : List Bs} {i : Nat} {l : Bs} (h : ls[i]? = some l) : (strs ls)[i]? = some (.string (bs l)) := by simp [strs, h]
theorem strs_ne {ls : List Bs} (h : ls ≠ []) : strs ls ≠ [] := by simpa [strs] using h

/-- What a reader of numbers hands back. -/
def IntsRes (w : World) (s : Bs) (e : Ending) (w' : World) : Prop := ∃ a n c, e = .returned (.tuple #[.slice a n c, .bool (Pl.intsOf s).isSome]) ∧ (∀ l, Pl.intsOf s = some l → Row w' (.slice a n c) (ints l) ∧ ∀ k, (Value.slice a n c).ownBlock = some k → w.heap.size ≤ k) ∧ Below w.heap.size w w'

set_option maxHeartbeats 2000000 in
set_option maxRecDepth 100000 in
theorem textIntList_any (s : ByteArray) (w : World) (hs : s.size ≤ 1000000) :
    Calls Tryz.prog 38 #[.string s] w (IntsRes w s.data.toList) := by
  obtain ⟨i0, hi, hz0, hz1, hz2⟩ := info_parts Tryz.info3
  have hlen := Pl.split_length 44 s.data.toList
  have hlen2 : (Pl.split 44 s.data.toList).length ≤ 1000001 := by simp at hlen; omega
  clear hlen
  have hpos : 0 < (Pl.split 44 s.data.toList).length := List.length_pos_iff.2 (Pl.split_ne _ _)
  have HMEM := Lib.hid (Pl.split_mem_length 44 s.data.toList)
  go_enter Tryz.func38, Tryz.ntmps38
  go_wp2_with fail
  refine (textSplit_any s 44 w hs).mono ?_
  rintro e w1 ⟨v, rfl, hrow, hb1⟩
  obtain ⟨b, o, cap, rfl, hbl, hcap, hc⟩ := hrow.open (strs_ne (Pl.split_ne _ _))
  rw [strs_length] at hcap ⊢
  have HC := Lib.hid hc; clear hc hrow
  go_wp2
  generalize hL : Pl.split 44 s.data.toList = L at *
  have HL := Lib.hid hL; clear hL
  go_loopw [4, 12] (fun v i wr => ∃ (k : Nat) (ns : List Int), k ≤ L.length ∧ i = .int .i64 k ∧ ns.length = k ∧ Hid (Pl.allInts (L.take k) = some ns) ∧ wr.ownsRow w1.heap.size 3 1 v ns.length (ints ns) ∧ Below w1.heap.size w1 wr) (fun _ i _ => L.length - (intOf i).toNat)
  case atStart => exact ⟨0, [], Nat.zero_le _, rfl, rfl, Lib.hid rfl, World.ownsRow_nil _ _ _ _, Below.refl _ _⟩
  case round =>
    obtain ⟨k, ns, hk, rfl, hnk, hA, hown, hbel⟩ := hrel
    have hbase := hbel.size
    by_cases hlt : k < L.length
    · obtain ⟨x, hx⟩ : ∃ x, L[k]? = some x := ⟨_, List.getElem?_eq_getElem hlt⟩
      have hcell : wr.cell? ⟨b, o + k, none⟩ = some (.string (bs x)) := by rw [hbel.cell (p := ⟨b, o + k, none⟩) hbl]; exact HC.out _ _ (strs_get hx)
      have hxl : (bs x).size ≤ 1000000 := by
        have := HMEM.out x (List.mem_of_getElem? hx)
        rw [bs_size]; simp at this; omega
      have hT := Pl.allInts_take L k ns x hA.out hx
      have HT := Lib.hid hT; have HX := Lib.hid hx; clear hT hx
      cases hn : Pl.intOf x with
      | none =>
        have hcon : Calls Tryz.prog 36 #[.string (bs x)] wr fun e w' => e = .returned (.tuple #[.int .i64 0, .bool false]) ∧ wr = w' := by
          have := textInt_any (bs x) wr hxl; rw [bs_list, hn] at this; exact this
        have HF : Hid (Pl.intsOf s.data.toList = none) := by
          have h := HT.out; rw [hn] at h
          unfold Pl.intsOf; rw [HL.out, ← List.take_append_drop (k + 1) L]; exact Pl.allInts_none _ _ h
        clear hn
        go_wp2_with (go_at_call 36; refine hcon.mono ?_; rintro e w' ⟨rfl, rfl⟩)
        go_ret2
        exact ⟨none, 0, 0, by rw [HF.out]; rfl, (by rw [HF.out]; exact (fun l h => by cases h)), hb1.trans (hbel.mono hb1.size)⟩
      | some n =>
        have hcon : Calls Tryz.prog 36 #[.string (bs x)] wr fun e w' => e = .returned (.tuple #[.int .i64 n, .bool true]) ∧ wr = w' := by
          have := textInt_any (bs x) wr hxl; rw [bs_list, hn] at this; exact this
        have HT2 : Hid (Pl.allInts (L.take (k + 1)) = some (ns ++ [n])) := by have h := HT.out; rw [hn] at h; exact h
        clear hn
        go_wp2_with (first
          | (go_at_call 36; refine hcon.mono ?_; rintro e w' ⟨rfl, rfl⟩)
          | (at_builtin; refine wpList_append_own _ rfl _ _ 23 rfl w1.heap.size 3 i0 (.int .i64 0) 1 8 Tryz.underlying23 hi hz0 hz1 hz2 rfl (by decide) _ _ _ rfl (hown.alloc _) ⟨wr.heap.size, 0, none⟩ 1 1 [.int .i64 n] rfl rfl ?c1 ?c2 ?c3 ?c4 ?c5 ?_))
        case c1 => exact cell_one_new _ _ _
        case c2 => simp [Value.oneCell']
        case c3 => unfold maxLen; omega
        case c4 => omega
        case c5 => simp; omega
        intro v1 w2 hown1 hg1 _
        have hb2 : Below w1.heap.size w1 w2 := ((hbel.alloc hbase _).grown hg1 (by simp; omega) (fun j hj => (hown.lt j hj).1))
        go_wp2
        go_roundw
        case rel => exact ⟨k + 1, ns ++ [n], by omega, by go_num, by simp; omega, HT2, by rw [ints_snoc]; simpa [hnk] using hown1, hb2⟩
        case measure => simp [intOf]; omega
    · obtain rfl : k = L.length := by omega
      have HF : Hid (Pl.intsOf s.data.toList = some ns) := by
        have h := hA.out; rw [List.take_length] at h
        unfold Pl.intsOf; rw [HL.out]; exact h
      obtain ⟨a, cp, rfl, _⟩ := Row.of_owns hown
      go_wp2
      go_ret2
      exact ⟨a, _, cp, by rw [HF.out]; rfl, (by rw [HF.out]; intro l h; injection h with h; subst h; exact ⟨Row.of_owns hown, fun j hj => Nat.le_trans hb1.size (hown.lt j hj).1⟩), hb1.trans (hbel.mono hb1.size)⟩

end Go.Proofs.YthkgjhnckakliaaGreatDoorR
namespace Go.Proofs.YthkgjhnckakliaaGreatDoorR
open Go.RowKit

/-- A rule as plain data. -/
structure PR where
  freq : Nat := 0
  hasStart : Bool := false
  start : Int := 0
  interval : Int := 0
  wkst : Int := 0
  count : Int := 0
  hasUntil : Bool := false
  until_ : Int := 0
  setPos : List Int := []
  month : List Int := []
  monthDay : List Int := []
  yearDay : List Int := []
  weekNo : List Int := []
  day : List (Int × Int) := []
  hour : List Int := []
  minute : List Int := []
  second : List Int := []
  easter : List Int := []

/-- The world behind may differ from the one ahead in one old block alone. -/
structure ButBelow (rb : Nat) (w w' : World) : Prop where
  os : w'.os = w.os
  tape : w'.tape = w.tape
  output : w'.output = w.output
  size : w.heap.size ≤ w'.heap.size
  block : ∀ k, k < w.heap.size → k ≠ rb → w'.heap[k]? = w.heap[k]?
theorem ButBelow.refl (rb : Nat) (w : World) : ButBelow rb w w := ⟨rfl, rfl, rfl, Nat.le_refl _, fun _ _ _ => rfl⟩
theorem ButBelow.of_below {rb : Nat} {w w' : World} (h : Below w.heap.size w w') : ButBelow rb w w' := ⟨h.os, h.tape, h.output, h.size, fun k hk _ => h.block k hk⟩
theorem ButBelow.trans {rb : Nat} {a b c : World} (h : ButBelow rb a b) (k : ButBelow rb b c) : ButBelow rb a c :=
  ⟨k.os.trans h.os, k.tape.trans h.tape, k.output.trans h.output, Nat.le_trans h.size k.size, fun i hi hne => (k.block i (Nat.lt_of_lt_of_le hi h.size) hne).trans (h.block i hi hne)⟩
theorem ButBelow.setCell {rb : Nat} {a w : World} (h : ButBelow rb a w) (o : Nat) (u : Value) : ButBelow rb a (w.setCell ⟨rb, o, none⟩ u) :=
  h.trans ⟨rfl, rfl, rfl, by simp [World.setCell], fun k _ hne => Below.heap_setCell _ _ _ _ hne⟩
theorem ButBelow.alloc {rb : Nat} {a w : World} (h : ButBelow rb a w) (o : Obj) : ButBelow rb a (w.alloc o) :=
  h.trans ⟨rfl, rfl, rfl, by simp, fun k hk _ => Below.heap_alloc _ _ _ hk⟩
theorem ButBelow.drew {rb : Nat} {a w : World} (h : ButBelow rb a w) : ButBelow rb a w.drew := ⟨h.os, h.tape, h.output, h.size, h.block⟩
theorem ButBelow.below {rb : Nat} {a w w' : World} (h : ButBelow rb a w) (hb : Below w.heap.size w w') : ButBelow rb a w' := h.trans (ButBelow.of_below hb)
/-- A call's own block written: below it nothing has turned. -/
theorem ButBelow.own {rb B : Nat} {w w' : World} (h : ButBelow rb w w') (hB : B ≤ rb) (hs : B ≤ w.heap.size) : Below B w w' :=
  ⟨h.os, h.tape, h.output, h.size, fun k hk => h.block k (by omega) (by omega)⟩

theorem Row.but {rb : Nat} {w w' : World} {v : Value} {vs : List Value} (h : Row w v vs) (hv : v.ownBlock ≠ some rb) (hb : ButBelow rb w w') : Row w' v vs := by
  obtain ⟨a, cap, rfl, h2, h3⟩ := h
  refine ⟨a, cap, rfl, h2, fun hne => ?_⟩
  obtain ⟨b, o, rfl, hbl, hc⟩ := h3 hne
  have hne' : b ≠ rb := fun e => hv (by simp [Value.ownBlock, e])
  exact ⟨b, o, rfl, Nat.lt_of_lt_of_le hbl hb.size, fun i x hx => by rw [World.cell?_of_block (w := w) (hb.block b hbl hne')]; exact hc i x hx⟩
theorem RowP.but {rb : Nat} {w w' : World} {v : Value} {vs : List (Int × Int)} (h : RowP w v vs) (hv : v.ownBlock ≠ some rb) (hb : ButBelow rb w w') : RowP w' v vs := by
  obtain ⟨a, cap, rfl, h2, h3⟩ := h
  refine ⟨a, cap, rfl, h2, fun hne => ?_⟩
  obtain ⟨b, o, rfl, hbl, hc⟩ := h3 hne
  have hne' : b ≠ rb := fun e => hv (by simp [Value.ownBlock, e])
  exact ⟨b, o, rfl, Nat.lt_of_lt_of_le hbl hb.size, fun i p hp => by
    rw [World.cell?_of_block (w := w) (a := ⟨b, o + 2 * i, none⟩) (hb.block b hbl hne'), World.cell?_of_block (w := w) (a := ⟨b, o + 2 * i + 1, none⟩) (hb.block b hbl hne')]; exact hc i p hp⟩

/-- A slice of numbers that lies apart from a block. -/
def SlI (rb : Nat) (w : World) (v : Value) (l : List Int) : Prop := Row w v (ints l) ∧ ∀ k, v.ownBlock = some k → rb < k
def SlP (rb : Nat) (w : World) (v : Value) (l : List (Int × Int)) : Prop := RowP w v l ∧ ∀ k, v.ownBlock = some k → rb < k
theorem SlI.but {rb : Nat} {w w' : World} {v : Value} {l : List Int} (h : SlI rb w v l) (hb : ButBelow rb w w') : SlI rb w' v l := ⟨h.1.but (fun e => Nat.lt_irrefl _ (h.2 _ e)) hb, h.2⟩
theorem SlP.but {rb : Nat} {w w' : World} {v : Value} {l : List (Int × Int)} (h : SlP rb w v l) (hb : ButBelow rb w w') : SlP rb w' v l := ⟨h.1.but (fun e => Nat.lt_irrefl _ (h.2 _ e)) hb, h.2⟩
theorem SlI.nil (rb : Nat) (w : World) : SlI rb w (.slice none 0 0) [] := ⟨Row.nil w, fun _ h => by simp [Value.ownBlock] at h⟩
theorem SlP.nil (rb : Nat) (w : World) : SlP rb w (.slice none 0 0) [] := ⟨RowP.nil w, fun _ h => by simp [Value.ownBlock] at h⟩

/-- The slices of a rule. -/
structure PV where
  setPos : Value
  month : Value
  monthDay : Value
  yearDay : Value
  weekNo : Value
  day : Value
  hour : Value
  minute : Value
  second : Value
  easter : Value
/-- A rule's cells. -/
def PR.cells (r : PR) (v : PV) : Array Value := #[.int .u8 (r.freq : Nat), .bool r.hasStart, .int .i64 r.start, .int .i64 r.interval, .int .i64 r.wkst, .int .i64 r.count, .bool r.hasUntil, .int .i64 r.until_,
  v.setPos, v.month, v.monthDay, v.yearDay, v.weekNo, v.day, v.hour, v.minute, v.second, v.easter]
/-- The slices read as the rule's lists. -/
structure PRows (rb : Nat) (w : World) (r : PR) (v : PV) : Prop where
  setPos : SlI rb w v.setPos r.setPos
  month : SlI rb w v.month r.month
  monthDay : SlI rb w v.monthDay r.monthDay
  yearDay : SlI rb w v.yearDay r.yearDay
  weekNo : SlI rb w v.weekNo r.weekNo
  day : SlP rb w v.day r.day
  hour : SlI rb w v.hour r.hour
  minute : SlI rb w v.minute r.minute
  second : SlI rb w v.second r.second
  easter : SlI rb w v.easter r.easter
theorem PRows.but {rb : Nat} {w w' : World} {r : PR} {v : PV} (h : PRows rb w r v) (hb : ButBelow rb w w') : PRows rb w' r v :=
  ⟨h.setPos.but hb, h.month.but hb, h.monthDay.but hb, h.yearDay.but hb, h.weekNo.but hb, h.day.but hb, h.hour.but hb, h.minute.but hb, h.second.but hb, h.easter.but hb⟩

theorem SlI.butO {rb b : Nat} {w w' : World} {v : Value} {l : List Int} (h : SlI rb w v l) (hb : ButBelow b w w') (hlt : b ≤ rb) : SlI rb w' v l := ⟨h.1.but (fun e => by have := h.2 _ e; omega) hb, h.2⟩
theorem SlP.butO {rb b : Nat} {w w' : World} {v : Value} {l : List (Int × Int)} (h : SlP rb w v l) (hb : ButBelow b w w') (hlt : b ≤ rb) : SlP rb w' v l := ⟨h.1.but (fun e => by have := h.2 _ e; omega) hb, h.2⟩
theorem PRows.butO {rb b : Nat} {w w' : World} {r : PR} {v : PV} (h : PRows rb w r v) (hb : ButBelow b w w') (hlt : b ≤ rb) : PRows rb w' r v :=
  ⟨h.setPos.butO hb hlt, h.month.butO hb hlt, h.monthDay.butO hb hlt, h.yearDay.butO hb hlt, h.weekNo.butO hb hlt, h.day.butO hb hlt, h.hour.butO hb hlt, h.minute.butO hb hlt, h.second.butO hb hlt, h.easter.butO hb hlt⟩

/-- A block holds these cells, none of them frozen. -/
def Block (w : World) (b : Nat) (cs : Array Value) : Prop := ∃ t, w.heap[b]? = some (.cells cs t (0, 0))
theorem Block.lt {w : World} {b : Nat} {cs : Array Value} (h : Block w b cs) : b < w.heap.size := by
  obtain ⟨t, h⟩ := h
  rcases Nat.lt_or_ge b w.heap.size with h' | h'
  · exact h'
  · rw [Array.getElem?_eq_none h'] at h; cases h
theorem Block.cell {w : World} {b : Nat} {cs : Array Value} (h : Block w b cs) (i : Nat) : w.cell? ⟨b, i, none⟩ = cs[i]? := by
  obtain ⟨t, h⟩ := h; simp [World.cell?, h]
theorem Block.free {w : World} {b : Nat} {cs : Array Value} (h : Block w b cs) (i : Nat) : w.frozen? ⟨b, i, none⟩ = false := by
  obtain ⟨t, h⟩ := h; simp [World.frozen?, h]
theorem Block.below {w w' : World} {b : Nat} {cs : Array Value} (h : Block w b cs) (hb : Below w.heap.size w w') : Block w' b cs := by
  have hl := h.lt; obtain ⟨t, h⟩ := h; exact ⟨t, by rw [hb.block b hl]; exact h⟩
theorem Block.set {w : World} {b : Nat} {cs : Array Value} (h : Block w b cs) (i : Nat) (u : Value) : Block (w.setCell ⟨b, i, none⟩ u) b (cs.setIfInBounds i u) := by
  obtain ⟨t, h⟩ := h
  exact ⟨t, by simp only [World.setCell, Array.getElem?_modify, if_true, h]; rfl⟩
theorem Block.alloc {w : World} {b : Nat} {cs : Array Value} (h : Block w b cs) (o : Obj) : Block (w.alloc o) b cs := by
  have hl := h.lt; obtain ⟨t, h⟩ := h; exact ⟨t, by rw [Below.heap_alloc _ _ _ hl]; exact h⟩
theorem Block.drew {w : World} {b : Nat} {cs : Array Value} (h : Block w b cs) : Block w.drew b cs := h
theorem Block.other {w : World} {b : Nat} {cs : Array Value} (h : Block w b cs) (a : Addr) (hne : b ≠ a.block) (u : Value) : Block (w.setCell a u) b cs := by
  obtain ⟨t, h⟩ := h; exact ⟨t, by rw [Below.heap_setCell _ _ _ _ hne]; exact h⟩

/-- A rule lies in a block. -/
def RuleAt (w : World) (rb : Nat) (r : PR) : Prop := ∃ v, Block w rb (r.cells v) ∧ PRows rb w r v
theorem RuleAt.below {w w' : World} {rb : Nat} {r : PR} (h : RuleAt w rb r) (hb : Below w.heap.size w w') : RuleAt w' rb r := by
  obtain ⟨v, h1, h2⟩ := h
  exact ⟨v, h1.below hb, h2.but (ButBelow.of_below hb)⟩
end Go.Proofs.YthkgjhnckakliaaGreatDoorR
namespace Go.Proofs.YthkgjhnckakliaaGreatDoorR
open Go.RowKit Go.MapKept
/-- Block b is a map whose entries stand for l, in their order. -/
def MapAt (w : World) (b : Nat) (l : List (Bs × Value)) : Prop := ∃ es clock, w.heap[b]? = some (.map es clock) ∧ es.toList.map (fun e => (e.key, e.val)) = l.map (fun p => (Value.string (bs p.1), p.2))
def mget (s : Bs) : List (Bs × Value) → Option Value
  | [] => none
  | p :: r => if p.1 = s then some p.2 else mget s r
theorem bs_inj {a b : Bs} (h : bs a = bs b) : a = b := by have := congrArg (fun x : ByteArray => x.data.toList) h; simpa [bs_list] using this
theorem same_bs (a b : Bs) : Instr.sameNow .string (.string (bs a)) (.string (bs b)) = some (decide (a = b)) := by
  obtain ⟨r, hr, hi⟩ := sameNow_of_keys (d := .string) (a := .string (bs a)) (b := .string (bs b)) trivial trivial
  rw [hr]; congr 1
  rw [Bool.eq_iff_iff, hi, decide_eq_true_eq]
  exact ⟨fun h => bs_inj (by injection h), fun h => by rw [h]⟩
theorem findNow_map (s : Bs) : ∀ (es : List MapEntry) (l : List (Bs × Value)) (i : Nat), es.map (fun e => (e.key, e.val)) = l.map (fun p => (Value.string (bs p.1), p.2)) →
    ∃ r, Instr.findNow .string (.string (bs s)) es i = some r ∧ r.map (·.2) = mget s l
  | [], [], i, _ => ⟨none, rfl, rfl⟩
  | [], _ :: _, i, h => by cases h
  | _ :: _, [], i, h => by cases h
  | e :: es, p :: l, i, h => by
    simp only [List.map_cons, List.cons.injEq, Prod.mk.injEq] at h
    obtain ⟨⟨hk, hv⟩, h⟩ := h
    unfold Instr.findNow mget
    rw [hk]
    rw [same_bs]
    by_cases hp : p.1 = s
    · rw [decide_eq_true hp.symm, if_pos hp]
      exact ⟨_, rfl, by simp [hv]⟩
    · rw [decide_eq_false (fun h => hp h.symm), if_neg hp]
      exact findNow_map s es l (i + 1) h
theorem mget_none {s : Bs} : ∀ {l : List (Bs × Value)}, s ∉ l.map (·.1) → mget s l = none
  | [], _ => rfl
  | p :: l, h => by
    simp only [List.map_cons, List.mem_cons, not_or] at h
    unfold mget; rw [if_neg (fun e => h.1 e.symm)]; exact mget_none h.2
section
variable {P : Program}
theorem wpList_insert_new {ops : Array Oper} {rest : List Oper} {op : Oper} {a : Act} {w : World} {Q : Exit → Act → World → Prop} (hgd : op.guard = none) (t : TypeId) (m x v : Operand) (ho : op.op = .insert t m x v)
    (k e : TypeId) (ht : P.underlying t = some (.map k e)) (hk : P.underlying k = some .string) (b : Nat) (l : List (Bs × Value)) (s : Bs) (val : Value) (hm : a.eval m = .map (some b)) (hx : a.eval x = .string (bs s)) (hv : a.eval v = val)
    (hM : MapAt w b l) (hn : s ∉ l.map (·.1)) (h : ∀ w', MapAt w' b (l ++ [(s, val)]) → ButBelow b w w' → wpList P ops Q rest (a.put op.dst undef) w') : wpList P ops Q (op :: rest) a w := by
  obtain ⟨es, clock, hb, he⟩ := hM
  obtain ⟨r, hr, hr2⟩ := findNow_map s es.toList l 0 he
  rw [mget_none hn] at hr2
  have hr3 : r = none := by cases r with | none => rfl | some _ => cases hr2
  subst hr3
  have hrun : (Instr.mapUpdate t (.map (some b)) (.string (bs s)) val).run P w = .ok () { w with heap := w.heap.setIfInBounds b (.map (es.push { key := .string (bs s), val := val, born := clock }) (clock + 1)) } := by
    simp [Instr.mapUpdate, run_underlying ht, MapKept.run_getObj_map hb, run_checkKey hk (show IsKey .string (.string (bs s)) from trivial), run_findKey hk hr, run_setObj_map _ hb, Result.andThen]
  refine wpList_plain hgd fun K' hK' => ?_
  unfold Oper.wp
  simp [execOp, ho, hm, hx, hv, hrun, Result.andThen]
  refine hK' _ _ (h _ ⟨_, _, (heap_set hb).1, ?_⟩ ?_)
  · simp [he]
  · exact ⟨rfl, rfl, rfl, by simp, fun k _ hne => (heap_set hb).2 k hne⟩
theorem wpList_lookup_has {ops : Array Oper} {rest : List Oper} {op : Oper} {a : Act} {w : World} {Q : Exit → Act → World → Prop} (hgd : op.guard = none) (t : TypeId) (m x : Operand) (ho : op.op = .lookup t m x true)
    (k e : TypeId) (ht : P.underlying t = some (.map k e)) (hk : P.underlying k = some .string) (b : Nat) (l : List (Bs × Value)) (s : Bs) (z : Value) (hz : (zeroValue e).run P w = .ok z w) (hm : a.eval m = .map (some b)) (hx : a.eval x = .string (bs s))
    (hM : MapAt w b l) (h : wpList P ops Q rest (a.put op.dst (.tuple #[(mget s l).getD z, .bool (mget s l).isSome])) w) : wpList P ops Q (op :: rest) a w := by
  obtain ⟨es, clock, hb, he⟩ := hM
  obtain ⟨r, hr, hr2⟩ := findNow_map s es.toList l 0 he
  have hrun : (Instr.lookup t (.map (some b)) (.string (bs s)) true).run P w = .ok (.tuple #[(mget s l).getD z, .bool (mget s l).isSome]) w := by
    rw [← hr2]
    cases r with
    | none => simp [Instr.lookup, run_underlying ht, MapKept.run_getObj_map hb, run_checkKey hk (show IsKey .string (.string (bs s)) from trivial), run_findKey hk hr, hz, Result.andThen]
    | some p => simp [Instr.lookup, run_underlying ht, MapKept.run_getObj_map hb, run_checkKey hk (show IsKey .string (.string (bs s)) from trivial), run_findKey hk hr, Result.andThen]
  refine wpList_plain hgd fun K' hK' => ?_
  unfold Oper.wp
  simp [execOp, ho, hm, hx, hrun, Result.andThen]
  exact hK' _ _ h
end
end Go.Proofs.YthkgjhnckakliaaGreatDoorR
namespace Go.Proofs.YthkgjhnckakliaaGreatDoorR
open Go.RowKit

theorem Holds.but {rb : Nat} {w w' : World} {g : Nat} {cs : Array Value} (h : Holds w g cs) (hne : g ≠ rb) (hb : ButBelow rb w w') : Holds w' g cs := by
  have hl := h.lt
  obtain ⟨t, fr, h⟩ := h
  exact ⟨t, fr, by rw [hb.block g hl hne]; exact h⟩
theorem var_but {rb g : Nat} {w w' : World} {n : String} {cs : Array Value} (hb : ButBelow rb w w') (hg : Tryz.prog.globalNamed n = some g) (hne : g ≠ rb) (h : w.var? Tryz.prog n = some cs) : w'.var? Tryz.prog n = some cs := by
  unfold World.var? at h ⊢
  simp only [hg, Option.bind_some] at h ⊢
  have hlt : g < w.heap.size := by
    rcases Nat.lt_or_ge g w.heap.size with h' | h'
    · exact h'
    · rw [Array.getElem?_eq_none h'] at h; cases h
  rw [hb.block g hlt hne]; exact h
theorem Tryz.gSpace : Tryz.prog.globalNamed "strings.asciiSpace" = some 3 := by kernel_rfl
theorem Tryz.gPow : Tryz.prog.globalNamed "internal/strconv.uint64pow10" = some 13 := by kernel_rfl
theorem Tryz.gSyn : Tryz.prog.globalNamed "strconv.ErrSyntax" = some 11 := by kernel_rfl
theorem Tryz.gRng : Tryz.prog.globalNamed "strconv.ErrRange" = some 12 := by kernel_rfl
theorem Env.but {rb : Nat} {w w' : World} (h : Env w) (hrb : 20 ≤ rb) (hb : ButBelow rb w w') : Env w' :=
  ⟨h.freqs.but (by omega) hb, h.days.but (by omega) hb, h.mo.but (by omega) hb, h.tu.but (by omega) hb, h.we.but (by omega) hb, h.th.but (by omega) hb, h.fr.but (by omega) hb, h.sa.but (by omega) hb, h.su.but (by omega) hb,
    var_but hb Tryz.gSpace (by omega) h.space, var_but hb Tryz.gPow (by omega) h.pow10, let ⟨t, p, q⟩ := h.syn; ⟨t, p, var_but hb Tryz.gSyn (by omega) q⟩, let ⟨t, p, q⟩ := h.rng; ⟨t, p, var_but hb Tryz.gRng (by omega) q⟩⟩

end Go.Proofs.YthkgjhnckakliaaGreatDoorR

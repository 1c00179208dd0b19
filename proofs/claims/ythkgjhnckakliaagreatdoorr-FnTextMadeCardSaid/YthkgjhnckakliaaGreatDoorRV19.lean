/- The contract of the reference's reader of a rule's part: all keys. -/
import Derived.Test.YthkgjhnckakliaaGreatDoorRV18
import Derived.Test.YthkgjhnckakliaaGreatDoorRV12
namespace Go.Proofs.YthkgjhnckakliaaGreatDoorR
open Go.RowKit

theorem key_ne {k : ByteArray} {l : Bs} (h : k.data.toList ≠ l) : (k.toList == l) = false := by
  rw [ByteArray.toList_eq, beq_eq_false_iff_ne]; exact h

set_option maxHeartbeats 4000000 in
set_option maxRecDepth 100000 in
theorem part_none (rb : Nat) (r : PR) (key s : ByteArray) (w : World) (h1 : key.data.toList ≠ Pl.kFREQ) (h2 : key.data.toList ≠ Pl.kDTSTART) (h3 : key.data.toList ≠ Pl.kUNTIL) (h4 : key.data.toList ≠ Pl.kINTERVAL) (h5 : key.data.toList ≠ Pl.kCOUNT) (h6 : key.data.toList ≠ Pl.kWKST) (h7 : key.data.toList ≠ Pl.kBYDAY)
    (h8 : key.data.toList ≠ Pl.kBYSETPOS) (h9 : key.data.toList ≠ Pl.kBYMONTH) (h10 : key.data.toList ≠ Pl.kBYMONTHDAY) (h11 : key.data.toList ≠ Pl.kBYYEARDAY) (h12 : key.data.toList ≠ Pl.kBYWEEKNO) (h13 : key.data.toList ≠ Pl.kBYHOUR) (h14 : key.data.toList ≠ Pl.kBYMINUTE) (h15 : key.data.toList ≠ Pl.kBYSECOND) (h16 : key.data.toList ≠ Pl.kBYEASTER) :
    Calls Tryz.prog 21 #[.pointer (some ⟨rb, 0, none⟩), .string key, .string s] w (PartRes rb w (Pl.partOf r key.data.toList s.data.toList)) := by
  have hmf : ∀ (fn : Fn) (first cap : Array Value) (w : World), (Instr.makeFunc fn first cap).run Tryz.prog w = .ok (.func fn first cap) w := fun _ _ _ _ => rfl
  have HQ : Hid (Pl.partOf r key.data.toList s.data.toList = (r, 1)) := by
    unfold Pl.partOf
    rw [if_neg h1, if_neg h2, if_neg h3, if_neg h4, if_neg h5, if_neg h6, if_neg h7, if_neg h8, if_neg h9, if_neg h10, if_neg h11, if_neg h12, if_neg h13, if_neg h14, if_neg h15, if_neg h16]; rfl
  have b1 := key_ne h1; have b2 := key_ne h2; have b3 := key_ne h3; have b4 := key_ne h4; have b5 := key_ne h5; have b6 := key_ne h6; have b7 := key_ne h7; have b8 := key_ne h8
  have b9 := key_ne h9; have b10 := key_ne h10; have b11 := key_ne h11; have b12 := key_ne h12; have b13 := key_ne h13; have b14 := key_ne h14; have b15 := key_ne h15; have b16 := key_ne h16
  simp only [Pl.kFREQ, Pl.kDTSTART, Pl.kUNTIL, Pl.kINTERVAL, Pl.kCOUNT, Pl.kWKST, Pl.kBYDAY, Pl.kBYSETPOS, Pl.kBYMONTH, Pl.kBYMONTHDAY, Pl.kBYYEARDAY, Pl.kBYWEEKNO, Pl.kBYHOUR, Pl.kBYMINUTE, Pl.kBYSECOND, Pl.kBYEASTER] at b1 b2 b3 b4 b5 b6 b7 b8 b9 b10 b11 b12 b13 b14 b15 b16
  clear h1 h2 h3 h4 h5 h6 h7 h8 h9 h10 h11 h12 h13 h14 h15 h16
  have n0 := Tryz.ixN0; have n1 := Tryz.ixN1; have n2 := Tryz.ixN2; have n3 := Tryz.ixN3; have n4 := Tryz.ixN4; have n5 := Tryz.ixN5; have n6 := Tryz.ixN6; have n7 := Tryz.ixN7; have n8 := Tryz.ixN8
  go_enter Tryz.func21, Tryz.ntmps21
  go_wp2
  refine wp_loop_rounds 10 ?_
  rw [rounds_succ]
  go_wp2
  rw [rounds_succ]
  go_wp2
  rw [rounds_succ]
  go_wp2
  rw [rounds_succ]
  go_wp2
  rw [rounds_succ]
  go_wp2
  rw [rounds_succ]
  go_wp2
  rw [rounds_succ]
  go_wp2
  rw [rounds_succ]
  go_wp2
  rw [rounds_succ]
  go_wp2
  rw [rounds_succ]
  go_wp2
  go_ret
  exact ⟨by rw [HQ.out]; rfl, (by rw [HQ.out]; exact (fun h => by cases h)), ButBelow.refl _ _⟩

/-- THE CONTRACT: whatever the key. -/
theorem part_any (rb : Nat) (hrb : 20 ≤ rb) (r : PR) (key s : ByteArray) (w : World) (he : Env w) (hs : s.size ≤ 1000000) (hr : RuleAt w rb r) :
    Calls Tryz.prog 21 #[.pointer (some ⟨rb, 0, none⟩), .string key, .string s] w (PartRes rb w (Pl.partOf r key.data.toList s.data.toList)) := by
  have hk : ∀ l : Bs, key.data.toList = l → key = ⟨l.toArray⟩ := fun l h => by rw [← bs_eta key, h]; rfl
  by_cases h1 : key.data.toList = Pl.kFREQ
  · rw [h1, hk _ h1]; exact part_FREQ rb r s w he hr
  by_cases h2 : key.data.toList = Pl.kDTSTART
  · rw [h2, hk _ h2]; exact part_DTSTART rb r s w hs hr
  by_cases h3 : key.data.toList = Pl.kUNTIL
  · rw [h3, hk _ h3]; exact part_UNTIL rb r s w hs hr
  by_cases h4 : key.data.toList = Pl.kINTERVAL
  · rw [h4, hk _ h4]; exact part_INTERVAL rb r s w hs hr
  by_cases h5 : key.data.toList = Pl.kCOUNT
  · rw [h5, hk _ h5]; exact part_COUNT rb r s w hs hr
  by_cases h6 : key.data.toList = Pl.kWKST
  · rw [h6, hk _ h6]; exact part_WKST rb r s w he hs hr
  by_cases h7 : key.data.toList = Pl.kBYDAY
  · rw [h7, hk _ h7]; exact part_BYDAY rb hrb r s w he hs hr
  by_cases h8 : key.data.toList = Pl.kBYSETPOS
  · rw [h8, hk _ h8]; exact part_BYSETPOS rb r s w hs hr
  by_cases h9 : key.data.toList = Pl.kBYMONTH
  · rw [h9, hk _ h9]; exact part_BYMONTH rb r s w hs hr
  by_cases h10 : key.data.toList = Pl.kBYMONTHDAY
  · rw [h10, hk _ h10]; exact part_BYMONTHDAY rb r s w hs hr
  by_cases h11 : key.data.toList = Pl.kBYYEARDAY
  · rw [h11, hk _ h11]; exact part_BYYEARDAY rb r s w hs hr
  by_cases h12 : key.data.toList = Pl.kBYWEEKNO
  · rw [h12, hk _ h12]; exact part_BYWEEKNO rb r s w hs hr
  by_cases h13 : key.data.toList = Pl.kBYHOUR
  · rw [h13, hk _ h13]; exact part_BYHOUR rb r s w hs hr
  by_cases h14 : key.data.toList = Pl.kBYMINUTE
  · rw [h14, hk _ h14]; exact part_BYMINUTE rb r s w hs hr
  by_cases h15 : key.data.toList = Pl.kBYSECOND
  · rw [h15, hk _ h15]; exact part_BYSECOND rb r s w hs hr
  by_cases h16 : key.data.toList = Pl.kBYEASTER
  · rw [h16, hk _ h16]; exact part_BYEASTER rb r s w hs hr
  exact part_none rb r key s w h1 h2 h3 h4 h5 h6 h7 h8 h9 h10 h11 h12 h13 h14 h15 h16

end Go.Proofs.YthkgjhnckakliaaGreatDoorR

/- The contract of the reference's RuleRight.
  The contracts of textEaster, and of SameRule where the two rules are the same.
  SameRule where the two rules are the same. -/
import Derived.Test.YthkgjhnckakliaaGreatDoorRV08
import Derived.Great.Ranges
namespace Go.Proofs.YthkgjhnckakliaaGreatDoorR
open Go.RowKit

namespace Pl
def dayRight (d : Int × Int) : Bool := !(decide (d.2 < -53) || decide (53 < d.2))
def ruleRight (r : PR) : Bool := r.day.all dayRight && (decide (0 ≤ r.interval) && (within r.second 0 59 false && (within r.minute 0 59 false && (within r.hour 0 23 false && (within r.month 1 12 false && (within r.monthDay 1 31 true && (within r.yearDay 1 366 true && (within r.weekNo 1 53 true && within r.setPos 1 366 true))))))))
end Pl
/-- A rule whose lists are no longer than a text. -/
structure PR.small (r : PR) : Prop where
  setPos : r.setPos.length ≤ 1000000
  month : r.month.length ≤ 1000000
  monthDay : r.monthDay.length ≤ 1000000
  yearDay : r.yearDay.length ≤ 1000000
  weekNo : r.weekNo.length ≤ 1000000
  day : r.day.length ≤ 1000000
  hour : r.hour.length ≤ 1000000
  minute : r.minute.length ≤ 1000000
  second : r.second.length ≤ 1000000
  easter : r.easter.length ≤ 1000000

set_option maxHeartbeats 4000000 in
set_option maxRecDepth 100000 in
theorem RuleRight_any (rb : Nat) (r : PR) (v : PV) (w : World) (hp : PRows rb w r v) (hs : r.small) :
    Calls Tryz.prog 8 #[.agg (r.cells v)] w fun e w' => e = .returned (.bool (Pl.ruleRight r)) ∧ Below w.heap.size w w' := by
  obtain ⟨⟨da, dcap, hdv, hd2, hd3⟩, _⟩ := hp.day
  have HD3 := Lib.hid hd3; clear hd3
  have hdl := hs.day
  have HB0 : Hid (Block (w.alloc (.cells (r.cells v) 26)) w.heap.size (r.cells v)) := ⟨26, heap_alloc_new w _⟩
  have hb0 : Below w.heap.size w (w.alloc (.cells (r.cells v) 26)) := (Below.refl _ _).alloc (Nat.le_refl _) _
  have HR : Hid (Pl.ruleRight r = (r.day.all Pl.dayRight && (decide (0 ≤ r.interval) && (Pl.within r.second 0 59 false && (Pl.within r.minute 0 59 false && (Pl.within r.hour 0 23 false && (Pl.within r.month 1 12 false && (Pl.within r.monthDay 1 31 true && (Pl.within r.yearDay 1 366 true && (Pl.within r.weekNo 1 53 true && Pl.within r.setPos 1 366 true)))))))))) := Lib.hid rfl
  have hw0 : w.heap.size < (w.alloc (.cells (r.cells v) 26)).heap.size := by simp
  have h13 : (r.cells v)[13]? = some (.slice da r.day.length dcap) := by rw [← hdv]; rfl
  go_enter Tryz.func8, Tryz.ntmps8
  go_wp2_with (refine Go.Great.wpList_boxTo rfl 26 (.tmp 0) rfl _ rfl w.heap.size rfl (r.cells v) rfl ?_)
  generalize w.alloc (.cells (r.cells v) 26) = w0 at *
  change Hid (Block w0 w.heap.size (r.cells v)) at HB0
  generalize hrb0 : w.heap.size = n0 at *
  clear h13
  go_loopw [8] (fun i wr => ∃ k : Nat, k ≤ r.day.length ∧ i = .int .i64 k ∧ Hid (r.day.all Pl.dayRight = (r.day.drop k).all Pl.dayRight) ∧ Below w0.heap.size w0 wr) (fun i _ => r.day.length - (intOf i).toNat)
  case atStart => exact ⟨0, Nat.zero_le _, rfl, Lib.hid (by rw [List.drop_zero]), Below.refl _ _⟩
  case round =>
    obtain ⟨k, hk, rfl, hA, hbl⟩ := hrel
    by_cases hlt : k < r.day.length
    · obtain ⟨d, hd⟩ : ∃ d, r.day[k]? = some d := ⟨_, List.getElem?_eq_getElem hlt⟩
      obtain ⟨b, o, rfl, hbk, hc⟩ := HD3.out (by intro h; rw [h] at hlt; simp at hlt)
      obtain ⟨c1, c2⟩ := hc k d hd
      have hbk0 : b < w0.heap.size := by omega
      have e1 : wr.cell? ⟨b, o + k * 2, none⟩ = some (.int .i64 d.1) := by rw [Nat.mul_comm k 2]; rw [hbl.cell (p := ⟨b, o + 2 * k, none⟩) hbk0, hb0.cell (p := ⟨b, o + 2 * k, none⟩) (by omega)]; exact c1
      have e2 : wr.cell? ⟨b, o + k * 2 + 1, none⟩ = some (.int .i64 d.2) := by rw [Nat.mul_comm k 2]; rw [hbl.cell (p := ⟨b, o + 2 * k + 1, none⟩) hbk0, hb0.cell (p := ⟨b, o + 2 * k + 1, none⟩) (by omega)]; exact c2
      clear c1 c2 hc
      have hstep : (r.day.drop k).all Pl.dayRight = (Pl.dayRight d && (r.day.drop (k + 1)).all Pl.dayRight) := by
        obtain ⟨h, rfl⟩ := List.getElem?_eq_some_iff.1 hd
        rw [List.drop_eq_getElem_cons h]; rfl
      have HS := Lib.hid hstep; clear hstep hd
      have hgo : Hid (Pl.dayRight d = true → r.day.all Pl.dayRight = (r.day.drop (k + 1)).all Pl.dayRight) := Lib.hid fun h => by rw [hA.out, HS.out, h]; rfl
      have hno : Hid (Pl.dayRight d = false → Pl.ruleRight r = false) := Lib.hid fun h => by rw [HR.out, hA.out, HS.out, h]; rfl
      clear hA HS
      unfold Pl.dayRight at hgo hno
      cases h1 : decide (d.2 < -53) <;> cases h2' : decide (53 < d.2) <;> simp only [h1, h2'] at hgo hno
      all_goals go_wp2
      all_goals first | (refine ⟨⟨k + 1, by omega, by go_num, hgo.out rfl, Below.alloc hbl hbl.size _⟩, by simp [intOf]; omega⟩; done) | (go_ret; refine ⟨by rw [hno.out rfl]; rfl, ?_⟩; rw [hrb0]; exact (hb0.trans (hbl.mono (Nat.le_of_lt hw0))).alloc (Nat.le_trans (Nat.le_of_lt hw0) hbl.size) _)
    · obtain rfl : k = r.day.length := by omega
      have HR2 : Hid (Pl.ruleRight r = (decide (0 ≤ r.interval) && (Pl.within r.second 0 59 false && (Pl.within r.minute 0 59 false && (Pl.within r.hour 0 23 false && (Pl.within r.month 1 12 false && (Pl.within r.monthDay 1 31 true && (Pl.within r.yearDay 1 366 true && (Pl.within r.weekNo 1 53 true && Pl.within r.setPos 1 366 true))))))))) := by
        show _ = _
        rw [HR.out, hA.out, List.drop_length, List.all_nil, Bool.true_and]
      have hBr := HB0.out.below hbl
      have hbw : Below n0 w wr := hb0.trans (hbl.mono (Nat.le_of_lt hw0))
      have hpw : PRows rb wr r v := hp.but (ButBelow.of_below (by rw [hrb0]; exact hbw))
      have k3 : wr.cell? ⟨n0, 3, none⟩ = some (.int .i64 r.interval) := hBr.cell 3
      have k16 : wr.cell? ⟨n0, 16, none⟩ = some v.second := hBr.cell 16
      have c16 : Calls Tryz.prog 24 #[v.second, .int .i64 0, .int .i64 59, .bool false] wr fun e w' => e = .returned (.bool (Pl.within r.second 0 59 false)) ∧ wr = w' := within_any r.second v.second 0 59 false wr hs.second (by omega) (by omega) hpw.second.1
      have k15 : wr.cell? ⟨n0, 15, none⟩ = some v.minute := hBr.cell 15
      have c15 : Calls Tryz.prog 24 #[v.minute, .int .i64 0, .int .i64 59, .bool false] wr fun e w' => e = .returned (.bool (Pl.within r.minute 0 59 false)) ∧ wr = w' := within_any r.minute v.minute 0 59 false wr hs.minute (by omega) (by omega) hpw.minute.1
      have k14 : wr.cell? ⟨n0, 14, none⟩ = some v.hour := hBr.cell 14
      have c14 : Calls Tryz.prog 24 #[v.hour, .int .i64 0, .int .i64 23, .bool false] wr fun e w' => e = .returned (.bool (Pl.within r.hour 0 23 false)) ∧ wr = w' := within_any r.hour v.hour 0 23 false wr hs.hour (by omega) (by omega) hpw.hour.1
      have k9 : wr.cell? ⟨n0, 9, none⟩ = some v.month := hBr.cell 9
      have c9 : Calls Tryz.prog 24 #[v.month, .int .i64 1, .int .i64 12, .bool false] wr fun e w' => e = .returned (.bool (Pl.within r.month 1 12 false)) ∧ wr = w' := within_any r.month v.month 1 12 false wr hs.month (by omega) (by omega) hpw.month.1
      have k10 : wr.cell? ⟨n0, 10, none⟩ = some v.monthDay := hBr.cell 10
      have c10 : Calls Tryz.prog 24 #[v.monthDay, .int .i64 1, .int .i64 31, .bool true] wr fun e w' => e = .returned (.bool (Pl.within r.monthDay 1 31 true)) ∧ wr = w' := within_any r.monthDay v.monthDay 1 31 true wr hs.monthDay (by omega) (by omega) hpw.monthDay.1
      have k11 : wr.cell? ⟨n0, 11, none⟩ = some v.yearDay := hBr.cell 11
      have c11 : Calls Tryz.prog 24 #[v.yearDay, .int .i64 1, .int .i64 366, .bool true] wr fun e w' => e = .returned (.bool (Pl.within r.yearDay 1 366 true)) ∧ wr = w' := within_any r.yearDay v.yearDay 1 366 true wr hs.yearDay (by omega) (by omega) hpw.yearDay.1
      have k12 : wr.cell? ⟨n0, 12, none⟩ = some v.weekNo := hBr.cell 12
      have c12 : Calls Tryz.prog 24 #[v.weekNo, .int .i64 1, .int .i64 53, .bool true] wr fun e w' => e = .returned (.bool (Pl.within r.weekNo 1 53 true)) ∧ wr = w' := within_any r.weekNo v.weekNo 1 53 true wr hs.weekNo (by omega) (by omega) hpw.weekNo.1
      have k8 : wr.cell? ⟨n0, 8, none⟩ = some v.setPos := hBr.cell 8
      have c8 : Calls Tryz.prog 24 #[v.setPos, .int .i64 1, .int .i64 366, .bool true] wr fun e w' => e = .returned (.bool (Pl.within r.setPos 1 366 true)) ∧ wr = w' := within_any r.setPos v.setPos 1 366 true wr hs.setPos (by omega) (by omega) hpw.setPos.1
      generalize Pl.within r.second 0 59 false = b16 at *
      generalize Pl.within r.minute 0 59 false = b15 at *
      generalize Pl.within r.hour 0 23 false = b14 at *
      generalize Pl.within r.month 1 12 false = b9 at *
      generalize Pl.within r.monthDay 1 31 true = b10 at *
      generalize Pl.within r.yearDay 1 366 true = b11 at *
      generalize Pl.within r.weekNo 1 53 true = b12 at *
      generalize Pl.within r.setPos 1 366 true = b8 at *
      generalize v.second = v16 at *
      generalize v.minute = v15 at *
      generalize v.hour = v14 at *
      generalize v.month = v9 at *
      generalize v.monthDay = v10 at *
      generalize v.yearDay = v11 at *
      generalize v.weekNo = v12 at *
      generalize v.setPos = v8 at *
      clear hpw hBr HB0 hA HR HD3 hp
      cases h3 : decide (0 ≤ r.interval)
      · rw [h3] at HR2
        go_wp2_with ((first | with_reducible refine c16.mono ?_ | with_reducible refine c15.mono ?_ | with_reducible refine c14.mono ?_ | with_reducible refine c9.mono ?_ | with_reducible refine c10.mono ?_ | with_reducible refine c11.mono ?_ | with_reducible refine c12.mono ?_ | with_reducible refine c8.mono ?_); rintro e w' ⟨rfl, rfl⟩)
        go_ret
        exact ⟨by rw [HR2.out]; rfl, by rw [hrb0]; exact hbw⟩
      · cases b16
        · rw [h3] at HR2
          go_wp2_with ((first | with_reducible refine c16.mono ?_ | with_reducible refine c15.mono ?_ | with_reducible refine c14.mono ?_ | with_reducible refine c9.mono ?_ | with_reducible refine c10.mono ?_ | with_reducible refine c11.mono ?_ | with_reducible refine c12.mono ?_ | with_reducible refine c8.mono ?_); rintro e w' ⟨rfl, rfl⟩)
          go_ret
          exact ⟨by rw [HR2.out]; rfl, by rw [hrb0]; exact hbw⟩
        · cases b15
          · rw [h3] at HR2
            go_wp2_with ((first | with_reducible refine c16.mono ?_ | with_reducible refine c15.mono ?_ | with_reducible refine c14.mono ?_ | with_reducible refine c9.mono ?_ | with_reducible refine c10.mono ?_ | with_reducible refine c11.mono ?_ | with_reducible refine c12.mono ?_ | with_reducible refine c8.mono ?_); rintro e w' ⟨rfl, rfl⟩)
            go_ret
            exact ⟨by rw [HR2.out]; rfl, by rw [hrb0]; exact hbw⟩
          · cases b14
            · rw [h3] at HR2
              go_wp2_with ((first | with_reducible refine c16.mono ?_ | with_reducible refine c15.mono ?_ | with_reducible refine c14.mono ?_ | with_reducible refine c9.mono ?_ | with_reducible refine c10.mono ?_ | with_reducible refine c11.mono ?_ | with_reducible refine c12.mono ?_ | with_reducible refine c8.mono ?_); rintro e w' ⟨rfl, rfl⟩)
              go_ret
              exact ⟨by rw [HR2.out]; rfl, by rw [hrb0]; exact hbw⟩
            · cases b9
              · rw [h3] at HR2
                go_wp2_with ((first | with_reducible refine c16.mono ?_ | with_reducible refine c15.mono ?_ | with_reducible refine c14.mono ?_ | with_reducible refine c9.mono ?_ | with_reducible refine c10.mono ?_ | with_reducible refine c11.mono ?_ | with_reducible refine c12.mono ?_ | with_reducible refine c8.mono ?_); rintro e w' ⟨rfl, rfl⟩)
                go_ret
                exact ⟨by rw [HR2.out]; rfl, by rw [hrb0]; exact hbw⟩
              · cases b10
                · rw [h3] at HR2
                  go_wp2_with ((first | with_reducible refine c16.mono ?_ | with_reducible refine c15.mono ?_ | with_reducible refine c14.mono ?_ | with_reducible refine c9.mono ?_ | with_reducible refine c10.mono ?_ | with_reducible refine c11.mono ?_ | with_reducible refine c12.mono ?_ | with_reducible refine c8.mono ?_); rintro e w' ⟨rfl, rfl⟩)
                  go_ret
                  exact ⟨by rw [HR2.out]; rfl, by rw [hrb0]; exact hbw⟩
                · cases b11
                  · rw [h3] at HR2
                    go_wp2_with ((first | with_reducible refine c16.mono ?_ | with_reducible refine c15.mono ?_ | with_reducible refine c14.mono ?_ | with_reducible refine c9.mono ?_ | with_reducible refine c10.mono ?_ | with_reducible refine c11.mono ?_ | with_reducible refine c12.mono ?_ | with_reducible refine c8.mono ?_); rintro e w' ⟨rfl, rfl⟩)
                    go_ret
                    exact ⟨by rw [HR2.out]; rfl, by rw [hrb0]; exact hbw⟩
                  · cases b12
                    · rw [h3] at HR2
                      go_wp2_with ((first | with_reducible refine c16.mono ?_ | with_reducible refine c15.mono ?_ | with_reducible refine c14.mono ?_ | with_reducible refine c9.mono ?_ | with_reducible refine c10.mono ?_ | with_reducible refine c11.mono ?_ | with_reducible refine c12.mono ?_ | with_reducible refine c8.mono ?_); rintro e w' ⟨rfl, rfl⟩)
                      go_ret
                      exact ⟨by rw [HR2.out]; rfl, by rw [hrb0]; exact hbw⟩
                    · rw [h3] at HR2
                      go_wp2_with ((first | with_reducible refine c16.mono ?_ | with_reducible refine c15.mono ?_ | with_reducible refine c14.mono ?_ | with_reducible refine c9.mono ?_ | with_reducible refine c10.mono ?_ | with_reducible refine c11.mono ?_ | with_reducible refine c12.mono ?_ | with_reducible refine c8.mono ?_); rintro e w' ⟨rfl, rfl⟩)
                      go_ret
                      exact ⟨by rw [HR2.out]; rfl, by rw [hrb0]; exact hbw⟩

end Go.Proofs.YthkgjhnckakliaaGreatDoorR
namespace Go.Proofs.YthkgjhnckakliaaGreatDoorR
open Go.RowKit

namespace Pl
def easterIn (n : Int) : Bool := !(decide (n < -366) || decide (366 < n))
def easter (r : PR) : Bool := r.easter.all easterIn
end Pl

set_option maxHeartbeats 4000000 in
set_option maxRecDepth 100000 in
theorem textEaster_any (rb : Nat) (r : PR) (v : PV) (w : World) (hp : PRows rb w r v) (hs : r.small) :
    Calls Tryz.prog 6 #[.agg (r.cells v)] w fun e w' => e = .returned (.bool (Pl.easter r)) ∧ Below w.heap.size w w' := by
  obtain ⟨⟨da, dcap, hdv, hd2, hd3⟩, _⟩ := hp.easter
  rw [ints_length] at hdv hd2
  have HD3 := Lib.hid hd3; clear hd3
  have hdl := hs.easter
  have hb0 : Below w.heap.size w (w.alloc (.cells (r.cells v) 26)) := (Below.refl _ _).alloc (Nat.le_refl _) _
  have hw0 : w.heap.size < (w.alloc (.cells (r.cells v) 26)).heap.size := by simp
  have h17 : (r.cells v)[17]? = some (.slice da r.easter.length dcap) := by rw [← hdv]; rfl
  have HR : Hid (Pl.easter r = (r.easter.drop 0).all Pl.easterIn) := Lib.hid rfl
  go_enter Tryz.func6, Tryz.ntmps6
  go_wp2_with (refine Go.Great.wpList_boxTo rfl 26 (.tmp 0) rfl _ rfl w.heap.size rfl (r.cells v) rfl ?_)
  generalize w.alloc (.cells (r.cells v) 26) = w0 at *
  clear h17
  go_loopw [8] (fun i wr => ∃ k : Nat, k ≤ r.easter.length ∧ i = .int .i64 k ∧ Hid (Pl.easter r = (r.easter.drop k).all Pl.easterIn) ∧ wr = w0) (fun i _ => r.easter.length - (intOf i).toNat)
  case atStart => exact ⟨0, Nat.zero_le _, rfl, HR, rfl⟩
  case round =>
    obtain ⟨k, hk, rfl, hA, rfl⟩ := hrel
    by_cases hlt : k < r.easter.length
    · obtain ⟨d, hd⟩ : ∃ d, r.easter[k]? = some d := ⟨_, List.getElem?_eq_getElem hlt⟩
      obtain ⟨b, o, rfl, hbk, hc⟩ := HD3.out (by intro h; have h := congrArg List.length h; rw [ints_length] at h; rw [h] at hlt; simp at hlt)
      have c1 := hc k (.int .i64 d) (by simp [ints, hd])
      have e1 : wr.cell? ⟨b, o + k, none⟩ = some (.int .i64 d) := by rw [hb0.cell (p := ⟨b, o + k, none⟩) hbk]; exact c1
      clear c1 hc
      have hstep : (r.easter.drop k).all Pl.easterIn = (Pl.easterIn d && (r.easter.drop (k + 1)).all Pl.easterIn) := by
        obtain ⟨h, rfl⟩ := List.getElem?_eq_some_iff.1 hd
        rw [List.drop_eq_getElem_cons h]; rfl
      have HS := Lib.hid hstep; clear hstep hd
      have hgo : Hid (Pl.easterIn d = true → Pl.easter r = (r.easter.drop (k + 1)).all Pl.easterIn) := Lib.hid fun h => by rw [hA.out, HS.out, h]; rfl
      have hno : Hid (Pl.easterIn d = false → Pl.easter r = false) := Lib.hid fun h => by rw [hA.out, HS.out, h]; rfl
      clear hA HS
      unfold Pl.easterIn at hgo hno
      cases h1 : decide (d < -366) <;> cases h2' : decide (366 < d) <;> simp only [h1, h2'] at hgo hno
      all_goals go_wp2
      refine ⟨⟨k + 1, by omega, by go_num, hgo.out rfl, (by first | rfl | trivial)⟩, by simp [intOf]; omega⟩
      all_goals first | (go_ret; exact ⟨by rw [hno.out rfl]; rfl, hb0⟩)
    · obtain rfl : k = r.easter.length := by omega
      have hT : Hid (Pl.easter r = true) := by show _ = _; rw [hA.out, List.drop_length]; rfl
      go_wp2
      go_ret
      exact ⟨by rw [hT.out]; rfl, hb0⟩

set_option maxHeartbeats 2000000 in
theorem same_ints (l : List Int) (u v : Value) (w : World) (hl : l.length ≤ 1000000) (hu : Row w u (ints l)) (hv : Row w v (ints l)) :
    Calls Tryz.prog 25 #[u, v] w fun e w' => e = .returned (.bool true) ∧ Below w.heap.size w w' := by
  obtain ⟨p, cap, rfl, h2, h3⟩ := hu
  obtain ⟨p', cap', rfl, h2', h3'⟩ := hv
  rw [ints_length] at h2 h2' ⊢
  have H3 := Lib.hid h3; clear h3
  have H3' := Lib.hid h3'; clear h3'
  go_enter Tryz.func25, Tryz.ntmps25
  go_wp2
  go_loopw [13] (fun i wr => ∃ k : Nat, k ≤ l.length ∧ i = .int .i64 k ∧ Below w.heap.size w wr) (fun i _ => l.length - (intOf i).toNat)
  case atStart => exact ⟨0, Nat.zero_le _, rfl, Below.refl _ _⟩
  case round =>
    obtain ⟨k, hk, rfl, hbl⟩ := hrel
    by_cases hlt : k < l.length
    · obtain ⟨d, hd⟩ : ∃ d, l[k]? = some d := ⟨_, List.getElem?_eq_getElem hlt⟩
      have hne : ints l ≠ [] := by intro h; have h := congrArg List.length h; rw [ints_length] at h; rw [h] at hlt; simp at hlt
      obtain ⟨b, o, rfl, hbk, hc⟩ := H3.out hne
      obtain ⟨b', o', rfl, hbk', hc'⟩ := H3'.out hne
      have e1 : wr.cell? ⟨b, o + k, none⟩ = some (.int .i64 d) := by rw [hbl.cell (p := ⟨b, o + k, none⟩) hbk]; exact hc k _ (by simp [ints, hd])
      have e2 : wr.cell? ⟨b', o' + k, none⟩ = some (.int .i64 d) := by rw [hbl.cell (p := ⟨b', o' + k, none⟩) hbk']; exact hc' k _ (by simp [ints, hd])
      clear hc hc' hd
      go_wp2
      go_quiet (fail)
      go_wp2
      exact ⟨⟨k + 1, by omega, by go_num, hbl.trans ((below_drewN _ _).mono hbl.size)⟩, by simp [intOf]; omega⟩
    · obtain rfl : k = l.length := by omega
      go_wp2
      go_ret
      exact ⟨rfl, hbl⟩

end Go.Proofs.YthkgjhnckakliaaGreatDoorR
namespace Go.Proofs.YthkgjhnckakliaaGreatDoorR
open Go.RowKit

set_option maxHeartbeats 4000000 in
set_option maxRecDepth 100000 in
theorem SameRule_same (rb rb' : Nat) (r : PR) (u v : PV) (w : World) (hu : PRows rb w r u) (hv : PRows rb' w r v) (hs : r.small) :
    Calls Tryz.prog 9 #[.agg (r.cells u), .agg (r.cells v)] w fun e w' => e = .returned (.bool true) ∧ Below w.heap.size w w' := by
  obtain ⟨⟨da, dcap, hdu, hd2, hd3⟩, _⟩ := hu.day
  have HD3 := Lib.hid hd3; clear hd3
  obtain ⟨⟨da', dcap', hdv, hd2', hd3'⟩, _⟩ := hv.day
  have HD3' := Lib.hid hd3'; clear hd3'
  have hdl := hs.day
  generalize hw1 : w.alloc (.cells (r.cells u) 26) = w1
  have hB1 : Block w1 w.heap.size (r.cells u) := by rw [← hw1]; exact ⟨26, heap_alloc_new w _⟩
  have hb1 : Below w.heap.size w w1 := by rw [← hw1]; exact (Below.refl _ _).alloc (Nat.le_refl _) _
  have hs1 : w1.heap.size = w.heap.size + 1 := by rw [← hw1]; simp
  generalize hw0 : w1.alloc (.cells (r.cells v) 26) = w0
  have hB0 : Block w0 w1.heap.size (r.cells v) := by rw [← hw0]; exact ⟨26, heap_alloc_new w1 _⟩
  have hb01 : Below w1.heap.size w1 w0 := by rw [← hw0]; exact (Below.refl _ _).alloc (Nat.le_refl _) _
  have hs0 : w0.heap.size = w1.heap.size + 1 := by rw [← hw0]; simp
  have hb0 : Below w.heap.size w w0 := hb1.trans (hb01.mono (by omega))
  have hB1' := hB1.below hb01
  have h13 : (r.cells u)[13]? = some (.slice da r.day.length dcap) := by rw [← hdu]; rfl
  have h13' : (r.cells v)[13]? = some (.slice da' r.day.length dcap') := by rw [← hdv]; rfl
  rw [hs1] at hB0
  have hP : Hid (∀ w', Below w0.heap.size w0 w' → w'.cell? ⟨w.heap.size, 0, none⟩ = some (.int .u8 (r.freq : Nat)) ∧ w'.cell? ⟨w.heap.size + 1, 0, none⟩ = some (.int .u8 (r.freq : Nat)) ∧ w'.cell? ⟨w.heap.size, 1, none⟩ = some (.bool r.hasStart) ∧ w'.cell? ⟨w.heap.size + 1, 1, none⟩ = some (.bool r.hasStart) ∧ w'.cell? ⟨w.heap.size, 2, none⟩ = some (.int .i64 r.start) ∧ w'.cell? ⟨w.heap.size + 1, 2, none⟩ = some (.int .i64 r.start) ∧ w'.cell? ⟨w.heap.size, 3, none⟩ = some (.int .i64 r.interval) ∧ w'.cell? ⟨w.heap.size + 1, 3, none⟩ = some (.int .i64 r.interval) ∧ w'.cell? ⟨w.heap.size, 4, none⟩ = some (.int .i64 r.wkst) ∧ w'.cell? ⟨w.heap.size + 1, 4, none⟩ = some (.int .i64 r.wkst) ∧ w'.cell? ⟨w.heap.size, 5, none⟩ = some (.int .i64 r.count) ∧ w'.cell? ⟨w.heap.size + 1, 5, none⟩ = some (.int .i64 r.count) ∧ w'.cell? ⟨w.heap.size, 6, none⟩ = some (.bool r.hasUntil) ∧ w'.cell? ⟨w.heap.size + 1, 6, none⟩ = some (.bool r.hasUntil) ∧ w'.cell? ⟨w.heap.size, 7, none⟩ = some (.int .i64 r.until_) ∧ w'.cell? ⟨w.heap.size + 1, 7, none⟩ = some (.int .i64 r.until_) ∧ w'.cell? ⟨w.heap.size, 13, none⟩ = some (.slice da r.day.length dcap) ∧ w'.cell? ⟨w.heap.size + 1, 13, none⟩ = some (.slice da' r.day.length dcap') ∧ w'.cell? ⟨w.heap.size, 8, none⟩ = some u.setPos ∧ w'.cell? ⟨w.heap.size + 1, 8, none⟩ = some v.setPos ∧ w'.cell? ⟨w.heap.size, 9, none⟩ = some u.month ∧ w'.cell? ⟨w.heap.size + 1, 9, none⟩ = some v.month ∧ w'.cell? ⟨w.heap.size, 10, none⟩ = some u.monthDay ∧ w'.cell? ⟨w.heap.size + 1, 10, none⟩ = some v.monthDay ∧ w'.cell? ⟨w.heap.size, 11, none⟩ = some u.yearDay ∧ w'.cell? ⟨w.heap.size + 1, 11, none⟩ = some v.yearDay ∧ w'.cell? ⟨w.heap.size, 12, none⟩ = some u.weekNo ∧ w'.cell? ⟨w.heap.size + 1, 12, none⟩ = some v.weekNo ∧ w'.cell? ⟨w.heap.size, 14, none⟩ = some u.hour ∧ w'.cell? ⟨w.heap.size + 1, 14, none⟩ = some v.hour ∧ w'.cell? ⟨w.heap.size, 15, none⟩ = some u.minute ∧ w'.cell? ⟨w.heap.size + 1, 15, none⟩ = some v.minute ∧ w'.cell? ⟨w.heap.size, 16, none⟩ = some u.second ∧ w'.cell? ⟨w.heap.size + 1, 16, none⟩ = some v.second ∧ w'.cell? ⟨w.heap.size, 17, none⟩ = some u.easter ∧ w'.cell? ⟨w.heap.size + 1, 17, none⟩ = some v.easter ∧ PRows rb w' r u ∧ PRows rb' w' r v) := fun w' hb => by
    have hx := hB1'.below hb; have hy := hB0.below hb
    have hz : Below w.heap.size w w' := hb0.trans (hb.mono (by omega))
    exact ⟨hx.cell 0, hy.cell 0, hx.cell 1, hy.cell 1, hx.cell 2, hy.cell 2, hx.cell 3, hy.cell 3, hx.cell 4, hy.cell 4, hx.cell 5, hy.cell 5, hx.cell 6, hy.cell 6, hx.cell 7, hy.cell 7, (hx.cell 13).trans (by rw [← hdu]; rfl), (hy.cell 13).trans (by rw [← hdv]; rfl), hx.cell 8, hy.cell 8, hx.cell 9, hy.cell 9, hx.cell 10, hy.cell 10, hx.cell 11, hy.cell 11, hx.cell 12, hy.cell 12, hx.cell 14, hy.cell 14, hx.cell 15, hy.cell 15, hx.cell 16, hy.cell 16, hx.cell 17, hy.cell 17, hu.but (ButBelow.of_below hz), hv.but (ButBelow.of_below hz)⟩
  have HW : Hid (w.heap.size < w0.heap.size) := Lib.hid (by omega)
  clear hB1 hB0 hB1'
  have f13 := (hP.out _ (Below.refl _ _)).2.2.2.2.2.2.2.2.2.2.2.2.2.2.2.2.1
  have f13' := (hP.out _ (Below.refl _ _)).2.2.2.2.2.2.2.2.2.2.2.2.2.2.2.2.2.1
  go_enter Tryz.func9, Tryz.ntmps9
  go_wp2
  clear h13 h13' f13 f13'
  go_loopw [18] (fun i wr => ∃ k : Nat, k ≤ r.day.length ∧ i = .int .i64 k ∧ Below w0.heap.size w0 wr) (fun i _ => r.day.length - (intOf i).toNat)
  case atStart => exact ⟨0, Nat.zero_le _, rfl, Below.refl _ _⟩
  case round =>
    obtain ⟨k, hk, rfl, hball⟩ := hrel
    obtain ⟨a0, b0, a1, b1, a2, b2, a3, b3, a4, b4, a5, b5, a6, b6, a7, b7, a13, b13, a8, b8, a9, b9, a10, b10, a11, b11, a12, b12, a14, b14, a15, b15, a16, b16, a17, b17, pu, pv⟩ := hP.out _ hball
    by_cases hlt : k < r.day.length
    · obtain ⟨d, hd⟩ : ∃ d, r.day[k]? = some d := ⟨_, List.getElem?_eq_getElem hlt⟩
      have hne : r.day ≠ [] := by intro h; rw [h] at hlt; simp at hlt
      obtain ⟨b, o, rfl, hbk, hc⟩ := HD3.out hne
      obtain ⟨b', o', rfl, hbk', hc'⟩ := HD3'.out hne
      obtain ⟨c1, c2⟩ := hc k d hd
      obtain ⟨c1', c2'⟩ := hc' k d hd
      have hz : Below w.heap.size w wr := hb0.trans (hball.mono (by omega))
      have e1 : wr.cell? ⟨b, o + k * 2, none⟩ = some (.int .i64 d.1) := by rw [Nat.mul_comm k 2, hz.cell (p := ⟨b, o + 2 * k, none⟩) hbk]; exact c1
      have e2 : wr.cell? ⟨b, o + k * 2 + 1, none⟩ = some (.int .i64 d.2) := by rw [Nat.mul_comm k 2, hz.cell (p := ⟨b, o + 2 * k + 1, none⟩) hbk]; exact c2
      have e1' : wr.cell? ⟨b', o' + k * 2, none⟩ = some (.int .i64 d.1) := by rw [Nat.mul_comm k 2, hz.cell (p := ⟨b', o' + 2 * k, none⟩) hbk']; exact c1'
      have e2' : wr.cell? ⟨b', o' + k * 2 + 1, none⟩ = some (.int .i64 d.2) := by rw [Nat.mul_comm k 2, hz.cell (p := ⟨b', o' + 2 * k + 1, none⟩) hbk']; exact c2'
      clear c1 c2 hc c1' c2' hc' hd
      have hszr := hball.size
      have q1 : b ≠ wr.heap.size := by omega
      have q2 : b' ≠ wr.heap.size := by omega
      have q3 : w.heap.size + 1 ≠ wr.heap.size := by omega
      have hnw : ∀ a : Addr, a.block = wr.heap.size → True := fun _ _ => trivial
      clear hnw
      go_wp2
      have hbz : Below wr.heap.size wr (wr.alloc (.cells #[.int .i64 d.1, .int .i64 d.2] 69)) := (Below.refl _ _).alloc (Nat.le_refl _) _
      have z1 : (wr.alloc (.cells #[.int .i64 d.1, .int .i64 d.2] 69)).cell? ⟨wr.heap.size, 0, none⟩ = some (.int .i64 d.1) := by simp
      have z2 : (wr.alloc (.cells #[.int .i64 d.1, .int .i64 d.2] 69)).cell? ⟨wr.heap.size, 0 + 1, none⟩ = some (.int .i64 d.2) := by simp
      have z3 := (hbz.cell (p := ⟨w.heap.size + 1, 13, none⟩) (by show w.heap.size + 1 < _; omega)).trans b13
      have z4 := (hbz.cell (p := ⟨b', o' + k * 2, none⟩) (by show b' < _; omega)).trans e1'
      have z5 := (hbz.cell (p := ⟨b', o' + k * 2 + 1, none⟩) (by show b' < _; omega)).trans e2'
      have hball2 := hball.trans (hbz.mono hszr)
      clear e1 e2 e1' e2' a13 b13 hball
      generalize hwz : wr.alloc (.cells #[.int .i64 d.1, .int .i64 d.2] 69) = wz at *
      clear hwz
      go_quiet (fail)
      go_wp2
      exact ⟨⟨k + 1, by omega, by go_num, hball2.trans ((below_drewN _ _).mono hball2.size)⟩, by simp [intOf]; omega⟩
    · obtain rfl : k = r.day.length := by omega
      clear a13 b13 HD3 HD3' hlt hk
      go_wp2_with (first | (go_at_call 25; have hr1 := pu.setPos.1; have hr2 := pv.setPos.1; with_reducible refine (same_ints r.setPos u.setPos v.setPos _ hs.setPos hr1 hr2).mono ?_; rintro e w2 ⟨rfl, hbx⟩; have hball := hball.trans (hbx.mono hball.size); obtain ⟨a0, b0, a1, b1, a2, b2, a3, b3, a4, b4, a5, b5, a6, b6, a7, b7, a13, b13, a8, b8, a9, b9, a10, b10, a11, b11, a12, b12, a14, b14, a15, b15, a16, b16, a17, b17, pu, pv⟩ := hP.out _ hball) | (go_at_call 25; have hr1 := pu.month.1; have hr2 := pv.month.1; with_reducible refine (same_ints r.month u.month v.month _ hs.month hr1 hr2).mono ?_; rintro e w2 ⟨rfl, hbx⟩; have hball := hball.trans (hbx.mono hball.size); obtain ⟨a0, b0, a1, b1, a2, b2, a3, b3, a4, b4, a5, b5, a6, b6, a7, b7, a13, b13, a8, b8, a9, b9, a10, b10, a11, b11, a12, b12, a14, b14, a15, b15, a16, b16, a17, b17, pu, pv⟩ := hP.out _ hball) | (go_at_call 25; have hr1 := pu.monthDay.1; have hr2 := pv.monthDay.1; with_reducible refine (same_ints r.monthDay u.monthDay v.monthDay _ hs.monthDay hr1 hr2).mono ?_; rintro e w2 ⟨rfl, hbx⟩; have hball := hball.trans (hbx.mono hball.size); obtain ⟨a0, b0, a1, b1, a2, b2, a3, b3, a4, b4, a5, b5, a6, b6, a7, b7, a13, b13, a8, b8, a9, b9, a10, b10, a11, b11, a12, b12, a14, b14, a15, b15, a16, b16, a17, b17, pu, pv⟩ := hP.out _ hball) | (go_at_call 25; have hr1 := pu.yearDay.1; have hr2 := pv.yearDay.1; with_reducible refine (same_ints r.yearDay u.yearDay v.yearDay _ hs.yearDay hr1 hr2).mono ?_; rintro e w2 ⟨rfl, hbx⟩; have hball := hball.trans (hbx.mono hball.size); obtain ⟨a0, b0, a1, b1, a2, b2, a3, b3, a4, b4, a5, b5, a6, b6, a7, b7, a13, b13, a8, b8, a9, b9, a10, b10, a11, b11, a12, b12, a14, b14, a15, b15, a16, b16, a17, b17, pu, pv⟩ := hP.out _ hball) | (go_at_call 25; have hr1 := pu.weekNo.1; have hr2 := pv.weekNo.1; with_reducible refine (same_ints r.weekNo u.weekNo v.weekNo _ hs.weekNo hr1 hr2).mono ?_; rintro e w2 ⟨rfl, hbx⟩; have hball := hball.trans (hbx.mono hball.size); obtain ⟨a0, b0, a1, b1, a2, b2, a3, b3, a4, b4, a5, b5, a6, b6, a7, b7, a13, b13, a8, b8, a9, b9, a10, b10, a11, b11, a12, b12, a14, b14, a15, b15, a16, b16, a17, b17, pu, pv⟩ := hP.out _ hball) | (go_at_call 25; have hr1 := pu.hour.1; have hr2 := pv.hour.1; with_reducible refine (same_ints r.hour u.hour v.hour _ hs.hour hr1 hr2).mono ?_; rintro e w2 ⟨rfl, hbx⟩; have hball := hball.trans (hbx.mono hball.size); obtain ⟨a0, b0, a1, b1, a2, b2, a3, b3, a4, b4, a5, b5, a6, b6, a7, b7, a13, b13, a8, b8, a9, b9, a10, b10, a11, b11, a12, b12, a14, b14, a15, b15, a16, b16, a17, b17, pu, pv⟩ := hP.out _ hball) | (go_at_call 25; have hr1 := pu.minute.1; have hr2 := pv.minute.1; with_reducible refine (same_ints r.minute u.minute v.minute _ hs.minute hr1 hr2).mono ?_; rintro e w2 ⟨rfl, hbx⟩; have hball := hball.trans (hbx.mono hball.size); obtain ⟨a0, b0, a1, b1, a2, b2, a3, b3, a4, b4, a5, b5, a6, b6, a7, b7, a13, b13, a8, b8, a9, b9, a10, b10, a11, b11, a12, b12, a14, b14, a15, b15, a16, b16, a17, b17, pu, pv⟩ := hP.out _ hball) | (go_at_call 25; have hr1 := pu.second.1; have hr2 := pv.second.1; with_reducible refine (same_ints r.second u.second v.second _ hs.second hr1 hr2).mono ?_; rintro e w2 ⟨rfl, hbx⟩; have hball := hball.trans (hbx.mono hball.size); obtain ⟨a0, b0, a1, b1, a2, b2, a3, b3, a4, b4, a5, b5, a6, b6, a7, b7, a13, b13, a8, b8, a9, b9, a10, b10, a11, b11, a12, b12, a14, b14, a15, b15, a16, b16, a17, b17, pu, pv⟩ := hP.out _ hball) | (go_at_call 25; have hr1 := pu.easter.1; have hr2 := pv.easter.1; with_reducible refine (same_ints r.easter u.easter v.easter _ hs.easter hr1 hr2).mono ?_; rintro e w2 ⟨rfl, hbx⟩; have hball := hball.trans (hbx.mono hball.size); obtain ⟨a0, b0, a1, b1, a2, b2, a3, b3, a4, b4, a5, b5, a6, b6, a7, b7, a13, b13, a8, b8, a9, b9, a10, b10, a11, b11, a12, b12, a14, b14, a15, b15, a16, b16, a17, b17, pu, pv⟩ := hP.out _ hball))
      go_ret
      exact ⟨rfl, hb0.trans (hball.mono (by omega))⟩

end Go.Proofs.YthkgjhnckakliaaGreatDoorR

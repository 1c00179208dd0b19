/- laws.ofRule: the same rule again.
  What prints a rule, in the one case that textAwake asks for: numbers, moments, empty lists.
  ROption.RRuleString and String of the one option that textAwake asks for.
  laws.toRule of the one rule that textAwake asks for.
  The two texts that textAwake reads, by the plain reading.
  The drawing region at the end of laws.textAwake, by an invariant (printed by gen_awake.py).
  impl.option and impl.OptionText of the one rule that textAwake asks for (printed by gen_printc.py). -/
import Derived.Test.YthkgjhnckakliaaGreatDoorRV12
import Derived.Test.YthkgjhnckakliaaGreatDoorRV22
import Derived.Test.YthkgjhnckakliaaGreatDoorRV20
import Derived.Test.YthkgjhnckakliaaGreatDoorRV15
import Derived.Great.Walk
import Derived.Deep.CutRange
import Derived.Test.YthkgjhnckakliaaGreatDoorRV04
import Derived.Test.YthkgjhnckakliaaGreatDoorRV17
import Derived.Lib.ItoaLen
import Derived.Deep.RegionHeld3
import Derived.Test.YthkgjhnckakliaaGreatDoorRV23
import Derived.Deep.AppendLies
import Derived.Test.YthkgjhnckakliaaGreatDoorRV21
import Derived.Test.YthkgjhnckakliaaGreatDoorRV08
namespace Go.Proofs.YthkgjhnckakliaaGreatDoorR
open Go.RowKit
/-- The facts of eighteen cells of a rule, in whatever world they lie. -/
theorem Block.rule {w : World} {b : Nat} {r : PR} {v : PV} (h : Block w b (r.cells v)) :
    w.cell? ⟨b, 0, none⟩ = some (.int .u8 (r.freq : Nat)) ∧ w.cell? ⟨b, 1, none⟩ = some (.bool r.hasStart) ∧ w.cell? ⟨b, 2, none⟩ = some (.int .i64 r.start) ∧ w.cell? ⟨b, 3, none⟩ = some (.int .i64 r.interval) ∧
    w.cell? ⟨b, 4, none⟩ = some (.int .i64 r.wkst) ∧ w.cell? ⟨b, 5, none⟩ = some (.int .i64 r.count) ∧ w.cell? ⟨b, 6, none⟩ = some (.bool r.hasUntil) ∧ w.cell? ⟨b, 7, none⟩ = some (.int .i64 r.until_) ∧
    w.cell? ⟨b, 8, none⟩ = some v.setPos ∧ w.cell? ⟨b, 9, none⟩ = some v.month ∧ w.cell? ⟨b, 10, none⟩ = some v.monthDay ∧ w.cell? ⟨b, 11, none⟩ = some v.yearDay ∧ w.cell? ⟨b, 12, none⟩ = some v.weekNo ∧ w.cell? ⟨b, 13, none⟩ = some v.day ∧
    w.cell? ⟨b, 14, none⟩ = some v.hour ∧ w.cell? ⟨b, 15, none⟩ = some v.minute ∧ w.cell? ⟨b, 16, none⟩ = some v.second ∧ w.cell? ⟨b, 17, none⟩ = some v.easter :=
  ⟨h.cell 0, h.cell 1, h.cell 2, h.cell 3, h.cell 4, h.cell 5, h.cell 6, h.cell 7, h.cell 8, h.cell 9, h.cell 10, h.cell 11, h.cell 12, h.cell 13, h.cell 14, h.cell 15, h.cell 16, h.cell 17⟩

set_option maxHeartbeats 4000000 in
set_option maxRecDepth 100000 in
theorem ofRule_any (rb : Nat) (r : PR) (v : PV) (w : World) (hrb : rb < w.heap.size) (hp : PRows rb w r v) (hs : r.small) :
    Calls Tryz.prog 10 #[.agg (r.cells v)] w fun e w' => ∃ u : PV, e = .returned (.agg (r.cells u)) ∧ PRows rb w' r u ∧ Below w.heap.size w w' := by
  obtain ⟨i0, hi, hz0, hz1, hz2⟩ := info_parts Tryz.info69
  obtain ⟨⟨da, dcap, hdv, hd2, hd3⟩, _⟩ := hp.day
  have HD3 := Lib.hid hd3; clear hd3
  have hdl := hs.day
  obtain ⟨a1, n1, c1, e1⟩ := hp.setPos.form
  obtain ⟨a2, n2, c2, e2⟩ := hp.month.form
  obtain ⟨a3, n3, c3, e3⟩ := hp.monthDay.form
  obtain ⟨a4, n4, c4, e4⟩ := hp.yearDay.form
  obtain ⟨a5, n5, c5, e5⟩ := hp.weekNo.form
  obtain ⟨a7, n7, c7, e7⟩ := hp.hour.form
  obtain ⟨a8, n8, c8, e8⟩ := hp.minute.form
  obtain ⟨a9, n9, c9, e9⟩ := hp.second.form
  obtain ⟨a10, n10, c10, e10⟩ := hp.easter.form
  have hq : v = ⟨.slice a1 n1 c1, .slice a2 n2 c2, .slice a3 n3 c3, .slice a4 n4 c4, .slice a5 n5 c5, .slice da r.day.length dcap, .slice a7 n7 c7, .slice a8 n8 c8, .slice a9 n9 c9, .slice a10 n10 c10⟩ := by
    rw [← e1, ← e2, ← e3, ← e4, ← e5, ← hdv, ← e7, ← e8, ← e9, ← e10]
  clear e1 e2 e3 e4 e5 hdv e7 e8 e9 e10
  subst hq
  have HP := Lib.hid hp; clear hp
  generalize hv : (⟨.slice a1 n1 c1, .slice a2 n2 c2, .slice a3 n3 c3, .slice a4 n4 c4, .slice a5 n5 c5, .slice da r.day.length dcap, .slice a7 n7 c7, .slice a8 n8 c8, .slice a9 n9 c9, .slice a10 n10 c10⟩ : PV) = v at *
  have HV := Lib.hid hv; clear hv
  have HB0 : Hid (Block ((w.alloc (.cells (r.cells v) 32)).alloc (.cells zeroRule 26)) w.heap.size (r.cells v)) := (Block.alloc ⟨32, heap_alloc_new w _⟩ _ : Block _ _ _)
  have hb0 : Below w.heap.size w ((w.alloc (.cells (r.cells v) 32)).alloc (.cells zeroRule 26)) := ((Below.refl _ _).alloc (Nat.le_refl _) _).alloc (by simp) _
  have HB1 : Hid (Block ((w.alloc (.cells (r.cells v) 32)).alloc (.cells zeroRule 26)) (w.heap.size + 1) zeroRule) := ⟨26, by simpa using heap_alloc_new (w.alloc (.cells (r.cells v) 32)) (.cells zeroRule 26)⟩
  have hsz : ((w.alloc (.cells (r.cells v) 32)).alloc (.cells zeroRule 26)).heap.size = w.heap.size + 2 := by simp
  unfold zeroRule at HB0 HB1 hb0 hsz
  go_enter Tryz.func10, Tryz.ntmps10
  go_upto_region 1 with (refine Go.Great.wpList_boxTo rfl 32 (.tmp 0) rfl _ rfl w.heap.size rfl (r.cells v) rfl ?_)
  generalize (w.alloc (.cells (r.cells v) 32)).alloc (.cells _ 26) = w0 at *
  change Hid (Block w0 (w.heap.size + 1) zeroRule) at HB1
  have HSZ := Lib.hid hsz; clear hsz
  have hB2 : Block (w0.alloc (.cells zeroRule 26)) w0.heap.size zeroRule := ⟨26, heap_alloc_new w0 _⟩
  have HB2 := Lib.hid hB2; clear hB2
  obtain ⟨k0, k1, k2, k3, k4, k5, k6, k7, k8, k9, k10, k11, k12, k13, k14, k15, k16, k17⟩ := HB0.out.rule
  rw [← HV.out] at k8 k9 k10 k11 k12 k13 k14 k15 k16 k17
  dsimp only at k8 k9 k10 k11 k12 k13 k14 k15 k16 k17
  have hone : (r.cells { v with day := .slice none 0 0 }).all (·.oneCell') = true := by rw [← HV.out]; simp [PR.cells, Value.oneCell']
  go_upto_region 2 with ((with_reducible refine atl ?_); refine wpList_store_block rfl 26 _ _ rfl w0.heap.size zeroRule (r.cells { v with day := .slice none 0 0 }) rfl (by rw [← HV.out]; rfl) HB2.out rfl (by kernel_rfl) hone ?_; intro w3 hB3 hbb3; go_simp)
  have hsz := HSZ.out
  have hbw : Below w.heap.size w w3 := (hb0.alloc hb0.size _).trans (hbb3.own hb0.size (by simp; have := hb0.size; omega))
  have hA3 : Block w3 w.heap.size (r.cells v) := (HB0.out.alloc (.cells zeroRule 26)).but (by omega) hbb3
  have hR3 : Block w3 (w.heap.size + 1) zeroRule := (HB1.out.alloc (.cells zeroRule 26)).but (by omega) hbb3
  have j13 : w3.cell? ⟨w.heap.size, 13, none⟩ = some (.slice da r.day.length dcap) := (hA3.cell 13).trans (by rw [← HV.out]; rfl)
  have hs3 : w0.heap.size < w3.heap.size := hB3.lt
  clear k0 k1 k2 k3 k4 k5 k6 k7 k8 k9 k10 k11 k12 k13 k14 k15 k16 k17 HB0 HB1 HB2 hbb3 hb0 hone
  have HB3 := Lib.hid hB3; have HR3 := Lib.hid hR3; clear hB3 hA3 hR3
  generalize hb2 : w0.heap.size = b2 at *
  have HSZ := Lib.hid hsz; clear hsz hb2
  go_wp2
  go_loopw [44] (fun i wr => ∃ (k : Nat) (a : Option Addr) (n c : Nat), k ≤ r.day.length ∧ i = .int .i64 k ∧ n = k ∧
      wr.ownsRow w3.heap.size 69 2 (.slice a n c) n (pairs (r.day.take k)) ∧ Hid (Block wr b2 (r.cells { v with day := .slice a n c })) ∧ ButBelow b2 w3 wr) (fun i _ => r.day.length - (intOf i).toNat)
  case atStart => exact ⟨0, none, 0, 0, Nat.zero_le _, rfl, rfl, World.ownsRow_nil _ _ _ _, HB3, ButBelow.refl _ _⟩
  case round =>
    obtain ⟨k, a, n, c, hk, rfl, rfl, hown, hBr, hbel⟩ := hrel
    have hbase := hbel.size
    by_cases hlt : n < r.day.length
    · obtain ⟨d, hd⟩ : ∃ d, r.day[n]? = some d := ⟨_, List.getElem?_eq_getElem hlt⟩
      obtain ⟨b, o, rfl, hbk, hc⟩ := HD3.out (by intro h; rw [h] at hlt; simp at hlt)
      obtain ⟨c1, c2⟩ := hc n d hd
      have hz : Below w.heap.size w wr := hbw.trans (hbel.own (by have := HSZ.out; omega) hbw.size)
      have x1 : wr.cell? ⟨b, o + n * 2, none⟩ = some (.int .i64 d.1) := by rw [Nat.mul_comm n 2, hz.cell (p := ⟨b, o + 2 * n, none⟩) hbk]; exact c1
      have x2 : wr.cell? ⟨b, o + n * 2 + 1, none⟩ = some (.int .i64 d.2) := by rw [Nat.mul_comm n 2, hz.cell (p := ⟨b, o + 2 * n + 1, none⟩) hbk]; exact c2
      have htake : r.day.take (n + 1) = r.day.take n ++ [d] := by rw [List.take_add_one, hd]; rfl
      clear c1 c2 hc hd
      have hsr := hBr.out.lt
      have HBQ : Hid (Block (wr.alloc (.cells #[.int .i64 d.1, .int .i64 d.2] 72)) b2 (r.cells { v with day := .slice a n c })) := hBr.out.alloc _
      have k13 : (wr.alloc (.cells #[.int .i64 d.1, .int .i64 d.2] 72)).cell? ⟨b2, 13, none⟩ = some (.slice a n c) := HBQ.out.cell 13
      have y0 : (wr.alloc (.cells #[.int .i64 d.1, .int .i64 d.2] 72)).cell? ⟨wr.heap.size, 0, none⟩ = some (.int .i64 d.1) := by simp
      have y1 : (wr.alloc (.cells #[.int .i64 d.1, .int .i64 d.2] 72)).cell? ⟨wr.heap.size, 1, none⟩ = some (.int .i64 d.2) := by simp
      have HO : Hid ((wr.alloc (.cells #[.int .i64 d.1, .int .i64 d.2] 72)).ownsRow w3.heap.size 69 2 (.slice a n c) n (pairs (r.day.take n))) := hown.alloc _
      have HLOW := Lib.hid hown.lt
      have HBE : Hid (ButBelow b2 w3 (wr.alloc (.cells #[.int .i64 d.1, .int .i64 d.2] 72))) := hbel.alloc _
      have HTK := Lib.hid htake
      go_upto_region 5 with fail
      generalize wr.alloc (.cells #[.int .i64 d.1, .int .i64 d.2] 72) = wq at *
      have HNEWS : Hid (∀ j u, [Value.int .i64 d.1, .int .i64 d.2][j]? = some u → (wq.alloc (.cells #[.int .i64 d.1, .int .i64 d.2] 69)).cell? ((⟨wq.heap.size, 0, none⟩ : Addr).add j) = some u) := by
        intro j u hj
        match j, hj with
        | 0, hj => simp at hj; subst hj; simp [Addr.add]
        | 1, hj => simp at hj; subst hj; simp [Addr.add]
      have HONE : Hid (∀ u ∈ [Value.int .i64 d.1, .int .i64 d.2], u.oneCell' = true) := by
        intro u hu; simp at hu; rcases hu with rfl | rfl <;> rfl
      have HSZ2 : Hid (w3.heap.size ≤ wq.heap.size) := HBE.out.size
      clear hown hBr hbel htake x1 x2 hz hbase
      go_wp2_with ((with_reducible refine atl ?_); refine wpList_append_lies _ rfl _ _ 24 rfl w3.heap.size 69 i0 (.agg #[.int .i64 0, .int .i64 0]) 2 16 Tryz.underlying24 hi hz0 hz1 hz2 rfl (by decide) (.slice a n c) n (pairs (r.day.take n)) rfl (HO.out.alloc _) ⟨wq.heap.size, 0, none⟩ 1 1 [.int .i64 d.1, .int .i64 d.2] rfl rfl HNEWS.out HONE.out (by decide) (by unfold maxLen; omega) (by omega) (by simp; have := HSZ2.out; omega) _ rfl ?_; intro g cp w4 hown4 hgrow hat hg4; have HB4 := Lib.hid ((HBQ.out.alloc _).grown hgrow (fun h => by have := HLOW.out b2 h.symm; omega)); have e13 := HB4.out.cell 13; have z13 := HB4.out.free 13; go_simp)
      refine ⟨⟨n + 1, some ⟨g, 0, none⟩, n + 1, cp, by omega, by go_num, rfl, ?_, HB4.out.set 13 _, (ButBelow.grown (HBE.out.alloc _) hgrow (fun j hj => (HLOW.out j hj).1)).setCell _ _⟩, by simp [intOf]; omega⟩
      rw [HTK.out, pairs_snoc]; exact ownsRow_setCell_below hown4 hs3 _
    · obtain rfl : n = r.day.length := by omega
      rw [List.take_length] at hown
      have HRr : Hid (Block wr (w.heap.size + 1) zeroRule) := HR3.out.but (by have := HSZ.out; omega) hbel
      have hz : Below w.heap.size w wr := hbw.trans (hbel.own (by have := HSZ.out; omega) hbw.size)
      have hd1 : SlP (w.heap.size + 1) wr (.slice a r.day.length c) r.day := ⟨RowP.of_owns hown rfl, fun k e => by have := (hown.lt k e).1; have := HSZ.out; omega⟩
      have hone : (r.cells { v with day := .slice a r.day.length c }).all (·.oneCell') = true := by rw [← HV.out]; simp [PR.cells, Value.oneCell']
      go_wp2_with (first | ((with_reducible refine atl ?_); refine wpList_load_block rfl 26 (.tmp 3) rfl b2 (r.cells { v with day := .slice a r.day.length c }) rfl _ hBr.out Tryz.underlying26 rfl (by kernel_rfl) ?_; go_simp) | ((with_reducible refine atl ?_); refine wpList_store_block rfl 26 _ _ rfl (w.heap.size + 1) zeroRule (r.cells { v with day := .slice a r.day.length c }) rfl rfl HRr.out rfl (by kernel_rfl) hone ?_; intro wz hBz hbbz))
      refine bodyPost_ret (v := .agg (r.cells { v with day := .slice a r.day.length c })) (results_block Tryz.results10 _ _ (w.heap.size + 1) _ _ rfl hBz Tryz.underlying26 rfl (by kernel_rfl)) rfl ?_
      have hbz : Below w.heap.size w wz := hz.trans (hbbz.own (by omega) hz.size)
      have hp := HP.out.but (ButBelow.of_below hbz)
      have hd2 := hd1.but hbbz
      exact ⟨_, rfl, ⟨hp.setPos, hp.month, hp.monthDay, hp.yearDay, hp.weekNo, ⟨hd2.1, fun k e => by have := hd2.2 k e; omega⟩, hp.hour, hp.minute, hp.second, hp.easter⟩, hbz⟩
end Go.Proofs.YthkgjhnckakliaaGreatDoorR
namespace Go.Proofs.YthkgjhnckakliaaGreatDoorR
open Go.RowKit
theorem below_grow (w : World) (q : Nat) (os : Array Obj) : Below w.heap.size w (Sort.grow (w.drewN q) os) :=
  ⟨rfl, rfl, rfl, by simp [Sort.grow], fun i hi => by
    show ((w.drewN q).heap ++ os)[i]? = _
    rw [Array.getElem?_append_left (by show i < w.heap.size; omega)]; rfl⟩
theorem Itoa_any (n : Int) (w : World) (he : Env w) (h0 : -1000000 ≤ n) (h1 : n ≤ 1000000) :
    Calls Tryz.prog 57 #[.int .i64 n] w fun e w' => e = .returned (.string (bs (Lib.itoa n))) ∧ Below w.heap.size w w' := by
  refine (Tryz.strconv_Itoa n (by omega) (by omega) w he.pow10).mono ?_
  rintro e w' ⟨rfl, k, os, rfl⟩
  exact ⟨rfl, below_grow _ _ _⟩
theorem bs_cat (a b : Bs) : bs a ++ bs b = bs (a ++ b) := by
  have : ∀ x y : ByteArray, x.data.toList = y.data.toList → x = y := fun x y h => by rw [← bs_eta x, ← bs_eta y, h]
  apply this; simp [bs]
/-- A number in a width. -/
def Pl.pad (n k : Nat) : Bs := List.replicate (k - (Lib.itoa n).length) 48 ++ Lib.itoa n
set_option maxHeartbeats 4000000 in
set_option maxRecDepth 100000 in
theorem pad_any (n k : Nat) (w : World) (he : Env w) (hn : n ≤ 9999) (hk : k ≤ 4) :
    Calls Tryz.prog 98 #[.int .i64 n, .int .i64 k] w fun e w' => e = .returned (.string (bs (Pl.pad n k))) ∧ Below w.heap.size w w' := by
  have hl : (Lib.itoa n).length ≤ 30 := by have := Lib.itoa_length_le (n : Int) (by omega) (by omega); omega
  have HL := Lib.hid hl; clear hl
  generalize hL : Lib.itoa n = L at *
  have HQ : Hid (Pl.pad n k = List.replicate (k - L.length) 48 ++ L) := by unfold Pl.pad; rw [hL]; exact Lib.hid rfl
  have hI := Itoa_any n w he (by omega) (by omega)
  rw [hL] at hI
  go_enter Tryz.func98, Tryz.ntmps98
  go_wp2_with fail
  refine hI.mono ?_
  rintro e w1 ⟨rfl, hb⟩
  go_wp2_with fail
  go_loopw [6] (fun s wr => ∃ j : Nat, s = .string (bs (List.replicate j 48 ++ L)) ∧ (j = 0 ∨ j + L.length ≤ k) ∧ wr = w1) (fun s _ => k - strLen s)
  case atStart => exact ⟨0, by simp, Or.inl rfl, rfl⟩
  case round =>
    obtain ⟨j, rfl, hj, rfl⟩ := hrel
    have hsz : (bs (List.replicate j 48 ++ L)).size = j + L.length := by simp [bs_size]
    have hl := HL.out
    by_cases hlt : j + L.length < k
    · go_wp2
      refine ⟨⟨j + 1, ?_, Or.inr (by omega), trivial⟩, ?_⟩
      · rw [show (⟨#[48]⟩ : ByteArray) = bs [48] from rfl, bs_cat]; rfl
      · rw [show (⟨#[48]⟩ : ByteArray) = bs [48] from rfl, bs_cat]; simp [strLen, bs_size]; omega
    · go_wp2
      have hj2 : j = k - L.length := by omega
      go_ret
      exact ⟨ret_str (by rw [show (⟨#[]⟩ : ByteArray) = bs [] from rfl, bs_cat, HQ.out, hj2]; rfl), hb⟩
def sAwake : Int := 62999856000
theorem pad_1997 : Pl.pad 1997 4 = [49, 57, 57, 55] := by simp [Pl.pad, Lib.itoa, Lib.decDigits]
theorem pad_5 : Pl.pad 5 2 = [48, 53] := by simp [Pl.pad, Lib.itoa, Lib.decDigits]
theorem pad_22 : Pl.pad 22 2 = [50, 50] := by simp [Pl.pad, Lib.itoa, Lib.decDigits]
theorem pad_0 : Pl.pad 0 2 = [48, 48] := by simp [Pl.pad, Lib.itoa, Lib.decDigits]
theorem civ_awake : Pl.Civ (62999856000 / 86400) (Pl.yearOf (62999856000 / 86400)) 5 22 := ⟨by decide, by decide, by decide, by decide, by decide⟩
theorem year_awake : Pl.yearOf (62999856000 / 86400) = 1997 := by decide
set_option maxHeartbeats 4000000 in
set_option maxRecDepth 100000 in
theorem Format_awake (w : World) (he : Env w) :
    Calls Tryz.prog 64 #[vTime 62999856000 0, .string ⟨#[50, 48, 48, 54, 48, 49, 48, 50, 84, 49, 53, 48, 52, 48, 53, 90]⟩] w fun e w' => e = .returned (.string ⟨#[49, 57, 57, 55, 48, 53, 50, 50, 84, 48, 48, 48, 48, 48, 48, 90]⟩) ∧ Below w.heap.size w w' := by
  have hD := fun w => DateOf_any 62999856000 0 5 22 w (by omega) (by omega) civ_awake
  rw [year_awake] at hD
  have hC := fun w => Clock_any 62999856000 0 w (by omega) (by omega)
  have HBX : Hid (∀ wl, Below (w.heap.size + 1) (w.alloc (.cells #[.int .i64 62999856000, .int .i64 0] 59)) wl → wl.cell? ⟨w.heap.size, 0, none⟩ = some (.int .i64 62999856000) ∧ wl.cell? ⟨w.heap.size, 1, none⟩ = some (.int .i64 0)) := fun wl h => ⟨(h.cell (p := ⟨w.heap.size, 0, none⟩) (Nat.lt_succ_self _)).trans (by simp), (h.cell (p := ⟨w.heap.size, 1, none⟩) (Nat.lt_succ_self _)).trans (by simp)⟩
  have hbw : Below w.heap.size w (w.alloc (.cells #[.int .i64 62999856000, .int .i64 0] 59)) := (Below.refl _ _).alloc (Nat.le_refl _) _
  have hs0 : (w.alloc (.cells #[.int .i64 62999856000, .int .i64 0] 59)).heap.size = w.heap.size + 1 := by simp
  go_enter Tryz.func64, Tryz.ntmps64
  go_upto_region 1 with fail
  generalize w.alloc (.cells #[.int .i64 62999856000, .int .i64 0] 59) = w0 at *
  have HBW := Lib.hid hbw
  clear hbw
  have hall := Below.refl w0.heap.size w0
  rw [← hs0] at HBX
  have HS0 := Lib.hid hs0; clear hs0
  have he := he.below HBW.out
  have k := HBX.out w0 hall
  obtain ⟨k0, k1⟩ := k
  have p1 : ∀ w, Env w → Calls Tryz.prog 98 #[.int .i64 1997, .int .i64 4] w fun e w' => e = .returned (.string ⟨#[49, 57, 57, 55]⟩) ∧ Below w.heap.size w w' := fun w he => by have := pad_any 1997 4 w he (by omega) (by omega); rw [pad_1997] at this; exact this
  have p2 : ∀ w, Env w → Calls Tryz.prog 98 #[.int .i64 5, .int .i64 2] w fun e w' => e = .returned (.string ⟨#[48, 53]⟩) ∧ Below w.heap.size w w' := fun w he => by have := pad_any 5 2 w he (by omega) (by omega); rw [pad_5] at this; exact this
  have p3 : ∀ w, Env w → Calls Tryz.prog 98 #[.int .i64 22, .int .i64 2] w fun e w' => e = .returned (.string ⟨#[50, 50]⟩) ∧ Below w.heap.size w w' := fun w he => by have := pad_any 22 2 w he (by omega) (by omega); rw [pad_22] at this; exact this
  have p4 : ∀ w, Env w → Calls Tryz.prog 98 #[.int .i64 0, .int .i64 2] w fun e w' => e = .returned (.string ⟨#[48, 48]⟩) ∧ Below w.heap.size w w' := fun w he => by have := pad_any 0 2 w he (by omega) (by omega); rw [pad_0] at this; exact this
  go_wp2_with (first | (go_at_call 96; (with_reducible refine (hD _).mono ?_); rintro e wN ⟨rfl, hbx⟩; have hall := (by first | exact hall.trans (hbx.mono hall.size) | exact (hall.alloc hall.size _).trans (Below.mono hbx (hall.alloc hall.size _).size)); clear hbx; obtain ⟨k0, k1⟩ := HBX.out _ hall) | (go_at_call 97; (with_reducible refine (hC _).mono ?_); rintro e wN ⟨rfl, hbx⟩; have hall := (by first | exact hall.trans (hbx.mono hall.size) | exact (hall.alloc hall.size _).trans (Below.mono hbx (hall.alloc hall.size _).size)); clear hbx; obtain ⟨k0, k1⟩ := HBX.out _ hall))
  go_region_held3 (fun _ => True) (trivial) (first | (go_at_call 98; (first | with_reducible refine (p1 _ (he.below (by first | exact hall | exact hall.drew))).mono ?_ | with_reducible refine (p2 _ (he.below (by first | exact hall | exact hall.drew))).mono ?_ | with_reducible refine (p3 _ (he.below (by first | exact hall | exact hall.drew))).mono ?_ | with_reducible refine (p4 _ (he.below (by first | exact hall | exact hall.drew))).mono ?_); rintro e wN ⟨rfl, hbx⟩; have hall := (by first | exact hall.trans (hbx.mono hall.size) | exact hall.drew.trans (Below.mono hbx hall.size)); clear hbx))
  go_wp2
  go_ret
  exact ⟨ret_str (by rfl), HBW.out.trans (hall.mono HBW.out.size)⟩
theorem LocString_a (w : World) : Calls Tryz.prog 63 #[.agg #[]] w fun e w' => e = .returned (.string ⟨#[85, 84, 67]⟩) ∧ Below w.heap.size w w' := LocString_any w
set_option maxHeartbeats 4000000 in
set_option maxRecDepth 100000 in
theorem RFC_awake (w : World) (he : Env w) :
    Calls Tryz.prog 48 #[vTime 62999856000 0] w fun e w' => e = .returned (.string ⟨#[58, 49, 57, 57, 55, 48, 53, 50, 50, 84, 48, 48, 48, 48, 48, 48, 90]⟩) ∧ Below w.heap.size w w' := by
  have hF := fun w he => Format_awake w he
  have hL := fun w => Location_any 62999856000 0 w
  have HBX : Hid (∀ wl, Below (w.heap.size + 1) (w.alloc (.cells #[.int .i64 62999856000, .int .i64 0] 59)) wl → wl.cell? ⟨w.heap.size, 0, none⟩ = some (.int .i64 62999856000) ∧ wl.cell? ⟨w.heap.size, 1, none⟩ = some (.int .i64 0)) := fun wl h => ⟨(h.cell (p := ⟨w.heap.size, 0, none⟩) (Nat.lt_succ_self _)).trans (by simp), (h.cell (p := ⟨w.heap.size, 1, none⟩) (Nat.lt_succ_self _)).trans (by simp)⟩
  have hbw : Below w.heap.size w (w.alloc (.cells #[.int .i64 62999856000, .int .i64 0] 59)) := (Below.refl _ _).alloc (Nat.le_refl _) _
  have hs0 : (w.alloc (.cells #[.int .i64 62999856000, .int .i64 0] 59)).heap.size = w.heap.size + 1 := by simp
  go_enter Tryz.func48, Tryz.ntmps48
  go_upto_region 1 with fail
  generalize w.alloc (.cells #[.int .i64 62999856000, .int .i64 0] 59) = w0 at *
  have HBW := Lib.hid hbw
  clear hbw
  have hall := Below.refl w0.heap.size w0
  rw [← hs0] at HBX
  have HS0 := Lib.hid hs0; clear hs0
  have he := he.below HBW.out
  have k := HBX.out w0 hall
  obtain ⟨k0, k1⟩ := k
  go_wp2_with (first
    | (go_at_call 62; (with_reducible refine (hL _).mono ?_); rintro e wN ⟨rfl, hbx⟩; have hall := hall.trans (hbx.mono hall.size); clear hbx; obtain ⟨k0, k1⟩ := HBX.out _ hall)
    | (go_at_call 63; (with_reducible refine (LocString_a _).mono ?_); rintro e wN ⟨rfl, hbx⟩; have hall := hall.trans (hbx.mono hall.size); clear hbx; obtain ⟨k0, k1⟩ := HBX.out _ hall)
    | (go_at_call 64; (with_reducible refine (hF _ (he.below hall)).mono ?_); rintro e wN ⟨rfl, hbx⟩; have hall := hall.trans (hbx.mono hall.size); clear hbx; obtain ⟨k0, k1⟩ := HBX.out _ hall))
  go_ret
  exact ⟨ret_str (by rfl), HBW.out.trans (hall.mono HBW.out.size)⟩
set_option maxHeartbeats 4000000 in
theorem appendInts_none (v : Value) (k : ByteArray) (n : Nat) (q : Option Addr) (m : Nat) (w : World) (hv : v = .slice q n m) :
    Calls Tryz.prog 60 #[v, .string k, .slice none 0 0] w fun e w' => e = .returned v ∧ w = w' := by
  subst hv
  go_enter Tryz.func60, Tryz.ntmps60
  go_wp2
  go_ret
  exact ⟨rfl, rfl⟩
set_option maxHeartbeats 4000000 in
set_option maxRecDepth 100000 in
theorem FreqString_awake (w : World) :
    Calls Tryz.prog 56 #[.int .i64 3] w fun e w' => e = .returned (.string ⟨#[68, 65, 73, 76, 89]⟩) ∧ w = w' := by
  have hx : Sem.run Tryz.prog (Instr.index 106 (.agg #[.string ⟨#[89, 69, 65, 82, 76, 89]⟩, .string ⟨#[77, 79, 78, 84, 72, 76, 89]⟩, .string ⟨#[87, 69, 69, 75, 76, 89]⟩, .string ⟨#[68, 65, 73, 76, 89]⟩, .string ⟨#[72, 79, 85, 82, 76, 89]⟩, .string ⟨#[77, 73, 78, 85, 84, 69, 76, 89]⟩, .string ⟨#[83, 69, 67, 79, 78, 68, 76, 89]⟩]) (.int .i64 3)) w = .ok (.string ⟨#[68, 65, 73, 76, 89]⟩) w := by
    first | (rfl; done) | (simp [Instr.index, go_sem, Tryz.underlying106]; done) | (unfold Instr.index; rw [Tryz.underlying106]; rfl)
  go_enter Tryz.func56, Tryz.ntmps56
  go_wp2
  go_ret
  exact ⟨rfl, rfl⟩
end Go.Proofs.YthkgjhnckakliaaGreatDoorR
namespace Go.Proofs.YthkgjhnckakliaaGreatDoorR
open Go.RowKit
/-- The rule that textAwake writes. -/
def rA : PR := { freq := 3, hasStart := true, start := 62999856000, count := 3 }
def sRule : Bs := [70, 82, 69, 81, 61, 68, 65, 73, 76, 89, 59, 67, 79, 85, 78, 84, 61, 51]
theorem itoa_3 : Lib.itoa 3 = [51] := by simp [Lib.itoa, Lib.decDigits]
theorem owns_new (w : World) (x : Value) (t : TypeId) : (w.alloc (.cells #[x] t)).ownsRow w.heap.size t 1 (.slice (some ⟨w.heap.size, 0, none⟩) 1 1) 1 [x] :=
  ⟨rfl, .inr ⟨w.heap.size, 1, #[x], rfl, Nat.le_refl _, heap_alloc_new w _, Nat.le_refl _, by unfold maxLen; omega, rfl, rfl⟩⟩
theorem owns_cells {w : World} {base e g n c : Nat} {xs : List Value} (h : w.ownsRow base e 1 (.slice (some ⟨g, 0, none⟩) n c) n xs) : g < w.heap.size ∧ n ≤ c ∧ ∀ (j : Nat) (x : Value), xs[j]? = some x → w.cell? ⟨g, j, none⟩ = some x := by
  obtain ⟨hl, h⟩ := h
  rcases h with ⟨h, _⟩ | ⟨g', cap, cur, hv, _, hh, hnc, _, _, ht⟩
  · cases h
  · cases hv
    refine ⟨?_, hnc, fun j x hx => ?_⟩
    · rcases Nat.lt_or_ge g w.heap.size with h | h
      · exact h
      · rw [Array.getElem?_eq_none h] at hh; cases hh
    · have hj : j < xs.length := (List.getElem?_eq_some_iff.1 hx).1
      rw [← ht, List.getElem?_take, if_pos (by omega)] at hx
      simp only [World.cell?, hh]
      simpa using hx
set_option maxHeartbeats 4000000 in
set_option maxRecDepth 100000 in
theorem RRuleString_awake (b : Nat) (w : World) (he : Env w) (hB : Block w b (rA.icells PV.nil)) :
    Calls Tryz.prog 47 #[.pointer (some ⟨b, 0, none⟩)] w fun e w' => e = .returned (.string (bs sRule)) ∧ Below w.heap.size w w' := by
  obtain ⟨i0, hi, hz0, hz1, hz2⟩ := info_parts Tryz.info9
  have HF : Hid (∀ wl, Below w.heap.size w wl → wl.cell? ⟨b, 0, none⟩ = some (.int .i64 3) ∧ wl.cell? ⟨b, 1, none⟩ = some (.int .i64 62999856000) ∧ wl.cell? ⟨b, 2, none⟩ = some (.int .i64 0) ∧ wl.cell? ⟨b, 3, none⟩ = some (.int .i64 0) ∧ wl.cell? ⟨b, 4, none⟩ = some (.int .i64 0) ∧ wl.cell? ⟨b, 5, none⟩ = some (.int .i64 0) ∧
      wl.cell? ⟨b, 6, none⟩ = some (.int .i64 3) ∧ wl.cell? ⟨b, 7, none⟩ = some (.int .i64 0) ∧ wl.cell? ⟨b, 8, none⟩ = some (.int .i64 0) ∧ wl.cell? ⟨b, 9, none⟩ = some (.slice none 0 0) ∧ wl.cell? ⟨b, 10, none⟩ = some (.slice none 0 0) ∧ wl.cell? ⟨b, 11, none⟩ = some (.slice none 0 0) ∧ wl.cell? ⟨b, 12, none⟩ = some (.slice none 0 0) ∧
      wl.cell? ⟨b, 13, none⟩ = some (.slice none 0 0) ∧ wl.cell? ⟨b, 14, none⟩ = some (.slice none 0 0) ∧ wl.cell? ⟨b, 15, none⟩ = some (.slice none 0 0) ∧ wl.cell? ⟨b, 16, none⟩ = some (.slice none 0 0) ∧ wl.cell? ⟨b, 17, none⟩ = some (.slice none 0 0) ∧ wl.cell? ⟨b, 18, none⟩ = some (.slice none 0 0) ∧
      wl.cell? ⟨2, 0, none⟩ = some (.int .i64 0) ∧ wl.cell? ⟨2, 1, none⟩ = some (.int .i64 0)) := fun wl hb =>
    have h := hB.below hb
    have hm := (he.below hb).mo
    ⟨h.cell 0, h.cell 1, h.cell 2, h.cell 3, h.cell 4, h.cell 5, h.cell 6, h.cell 7, h.cell 8, h.cell 9, h.cell 10, h.cell 11, h.cell 12, h.cell 13, h.cell 14, h.cell 15, h.cell 16, h.cell 17, h.cell 18, hm.cell rfl, hm.cell rfl⟩
  have hall := Below.refl w.heap.size w
  obtain ⟨k0, k1, k2, k3, k4, k5, k6, k7, k8, k9, k10, k11, k12, k13, k14, k15, k16, k17, k18, m0, m1⟩ := HF.out w hall
  go_enter Tryz.func47, Tryz.ntmps47
  go_upto_region 2 with (go_at_call 56; refine (FreqString_awake _).mono ?_; rintro e wN ⟨rfl, rfl⟩)
  have hs1 : (⟨#[70, 82, 69, 81, 61]⟩ ++ ⟨#[68, 65, 73, 76, 89]⟩ : ByteArray) = bs [70, 82, 69, 81, 61, 68, 65, 73, 76, 89] := rfl
  rw [hs1]
  have HO := Lib.hid (owns_new w (.string (bs [70, 82, 69, 81, 61, 68, 65, 73, 76, 89])) 9)
  have hall := hall.alloc (Nat.le_refl _) (.cells #[.string (bs [70, 82, 69, 81, 61, 68, 65, 73, 76, 89])] 9)
  have HW := Lib.hid he
  generalize w.alloc (.cells #[.string (bs [70, 82, 69, 81, 61, 68, 65, 73, 76, 89])] 9) = w1 at *
  clear k0 k1 k2 k3 k4 k5 k6 k7 k8 k9 k10 k11 k12 k13 k14 k15 k16 k17 k18 m0 m1 hs1
  obtain ⟨k0, k1, k2, k3, k4, k5, k6, k7, k8, k9, k10, k11, k12, k13, k14, k15, k16, k17, k18, m0, m1⟩ := HF.out w1 hall
  go_wp2
  go_region_held3 (fun wl => wl.cell? ⟨b, 4, none⟩ = some (.int .i64 0) ∧ wl.cell? ⟨b, 5, none⟩ = some (.int .i64 0) ∧ wl.cell? ⟨2, 0, none⟩ = some (.int .i64 0) ∧ wl.cell? ⟨2, 1, none⟩ = some (.int .i64 0)) (exact ⟨k4, k5, m0, m1⟩) (first | fail)
  have hI := fun w he => Itoa_any 3 w he (by omega) (by omega)
  rw [itoa_3] at hI
  have HO := Lib.hid HO.out.drew
  have hall := hall.drew
  generalize w1.drew = w2 at *
  clear k0 k1 k2 k3 k4 k5 k6 k7 k8 k9 k10 k11 k12 k13 k14 k15 k16 k17 k18 m0 m1
  obtain ⟨k0, k1, k2, k3, k4, k5, k6, k7, k8, k9, k10, k11, k12, k13, k14, k15, k16, k17, k18, m0, m1⟩ := HF.out w2 hall
  have HNEWS : Hid (∀ wl : World, ∀ (j : Nat) (u : Value), [Value.string (⟨#[67, 79, 85, 78, 84, 61]⟩ ++ bs [51])][j]? = some u → (wl.alloc (.cells #[.string (⟨#[67, 79, 85, 78, 84, 61]⟩ ++ bs [51])] 9)).cell? ((⟨wl.heap.size, 0, none⟩ : Addr).add j) = some u) := by
    intro wl j u hj
    match j, hj with
    | 0, hj => simp at hj; subst hj; simp [Addr.add]
  have HONE : Hid (∀ u ∈ [Value.string (⟨#[67, 79, 85, 78, 84, 61]⟩ ++ bs [51])], u.oneCell' = true) := by
    intro u hu; simp at hu; rcases hu with rfl; rfl
  go_wp2_with (first
    | (go_at_call 57; (with_reducible refine (hI _ (HW.out.below hall)).mono ?_); rintro e wN ⟨rfl, hbx⟩; have HO := Lib.hid (HO.out.kept (row := none) ⟨hbx.os, hbx.tape, hbx.output, hbx.size, fun j hj _ => hbx.block j hj⟩ (Or.inr (by simp [Value.ownBlock]))); have hall := hall.trans (hbx.mono hall.size); clear hbx; obtain ⟨k0, k1, k2, k3, k4, k5, k6, k7, k8, k9, k10, k11, k12, k13, k14, k15, k16, k17, k18, m0, m1⟩ := HF.out wN hall)
    | (at_builtin; refine wpList_append_lies _ rfl _ _ 41 rfl w.heap.size 9 i0 (.string ⟨#[]⟩) 1 16 Tryz.underlying41 hi hz0 hz1 hz2 rfl (by decide) (.slice (some ⟨w.heap.size, 0, none⟩) 1 1) 1 [.string (bs [70, 82, 69, 81, 61, 68, 65, 73, 76, 89])] rfl (HO.out.alloc _) ⟨wN.heap.size, 0, none⟩ 1 1 [.string (⟨#[67, 79, 85, 78, 84, 61]⟩ ++ bs [51])] rfl rfl (HNEWS.out wN) HONE.out (by decide) (by unfold maxLen; omega) (by omega) (by simp; have := hall.size; omega) _ rfl ?_; intro g cp w4 hown4 hgrow hat hg4; have hall2 := (hall.alloc hall.size (.cells #[.string (⟨#[67, 79, 85, 78, 84, 61]⟩ ++ bs [51])] 9)); have hall := hall2.grown hgrow hall2.size (fun k hk => by simp [Value.ownBlock] at hk; omega); clear hall2; have HJ0 := Lib.hid (owns_cells hown4); have HJ := Lib.hid (fun (wl : World) (h : Below w4.heap.size w4 wl) => h); obtain ⟨k0, k1, k2, k3, k4, k5, k6, k7, k8, k9, k10, k11, k12, k13, k14, k15, k16, k17, k18, m0, m1⟩ := HF.out w4 hall; go_simp)
    | (go_at_call 40; refine (IsZero_any 0 _).mono ?_; rintro e wM ⟨rfl, hbx⟩; have HJ := Lib.hid (fun (wl : World) (h : Below wM.heap.size wM wl) => HJ.out wl (hbx.trans (h.mono hbx.size))); have hall := hall.trans (hbx.mono hall.size); clear hbx; obtain ⟨k0, k1, k2, k3, k4, k5, k6, k7, k8, k9, k10, k11, k12, k13, k14, k15, k16, k17, k18, m0, m1⟩ := HF.out wM hall)
    | (go_at_call 60; refine (appendInts_none _ _ _ _ _ _ rfl).mono ?_; rintro e wQ ⟨rfl, rfl⟩))
  have hbm := HJ.out wM (Below.refl _ _)
  have hlt := HJ0.out.1
  refine (Tryz.strings_Join g 0 cp [bs [70, 82, 69, 81, 61, 68, 65, 73, 76, 89], ⟨#[67, 79, 85, 78, 84, 61]⟩ ++ bs [51]] ⟨#[59]⟩ wM (fun j x hx => ?_) (Nat.lt_of_lt_of_le hlt hbm.size) (by decide) HJ0.out.2.1 (by decide)).mono ?_
  · rw [Nat.zero_add, hbm.cell (p := ⟨g, j, none⟩) hlt]
    refine HJ0.out.2.2 j _ ?_
    have : ([Value.string (bs [70, 82, 69, 81, 61, 68, 65, 73, 76, 89])] ++ [Value.string (⟨#[67, 79, 85, 78, 84, 61]⟩ ++ bs [51])]) = [bs [70, 82, 69, 81, 61, 68, 65, 73, 76, 89], ⟨#[67, 79, 85, 78, 84, 61]⟩ ++ bs [51]].map Value.string := rfl
    rw [this, List.getElem?_map, hx]; rfl
  rintro e wJ ⟨rfl, hbj⟩
  go_wp2
  go_ret
  exact ⟨ret_str (by rfl), hall.trans (hbj.mono hall.size)⟩
set_option maxHeartbeats 4000000 in
set_option maxRecDepth 100000 in
theorem OString_awake (b : Nat) (w : World) (he : Env w) (hB : Block w b (rA.icells PV.nil)) :
    Calls Tryz.prog 29 #[.pointer (some ⟨b, 0, none⟩)] w fun e w' => e = .returned (.string ⟨#[68, 84, 83, 84, 65, 82, 84, 58, 49, 57, 57, 55, 48, 53, 50, 50, 84, 48, 48, 48, 48, 48, 48, 90, 10, 82, 82, 85, 76, 69, 58, 70, 82, 69, 81, 61, 68, 65, 73, 76, 89, 59, 67, 79, 85, 78, 84, 61, 51]⟩) ∧ Below w.heap.size w w' := by
  have HF : Hid (∀ wl, Below w.heap.size w wl → wl.cell? ⟨b, 1, none⟩ = some (.int .i64 62999856000) ∧ wl.cell? ⟨b, 2, none⟩ = some (.int .i64 0)) := fun wl hb =>
    have h := hB.below hb
    ⟨h.cell 1, h.cell 2⟩
  have hR := RRuleString_awake b w he hB
  have hall := Below.refl w.heap.size w
  go_enter Tryz.func29, Tryz.ntmps29
  go_wp2_with (first
    | (go_at_call 47; (with_reducible refine hR.mono ?_); rintro e wN ⟨rfl, hbx⟩; have hall := hbx; obtain ⟨k1, k2⟩ := HF.out wN hall)
    | (go_at_call 40; refine (IsZero_any 62999856000 _).mono ?_; rintro e wM ⟨rfl, hbx⟩; have hall := hall.trans (hbx.mono hall.size); clear hbx; obtain ⟨k1, k2⟩ := HF.out wM hall)
    | (go_at_call 48; (with_reducible refine (RFC_awake _ (he.below hall)).mono ?_); rintro e wQ ⟨rfl, hbx⟩; have hall := hall.trans (hbx.mono hall.size); clear hbx))
  go_ret
  exact ⟨ret_str (by rfl), hall⟩
end Go.Proofs.YthkgjhnckakliaaGreatDoorR
namespace Go.Proofs.YthkgjhnckakliaaGreatDoorR
open Go.RowKit
theorem rA_one : (rA.cells PV.nil).all (·.oneCell') = true := by simp [PR.cells, PV.nil, vnil, Value.oneCell']
set_option maxHeartbeats 4000000 in
set_option maxRecDepth 100000 in
theorem toRule_awake (w : World) :
    Calls Tryz.prog 13 #[.agg (rA.cells PV.nil)] w fun e w' => e = .returned (.agg (rA.cells PV.nil)) ∧ Below w.heap.size w w' := by
  have HB0 : Hid (Block ((w.alloc (.cells (rA.cells PV.nil) 26)).alloc (.cells zeroRule 32)) w.heap.size (rA.cells PV.nil)) := (Block.alloc ⟨26, heap_alloc_new w _⟩ _ : Block _ _ _)
  have hb0 : Below w.heap.size w ((w.alloc (.cells (rA.cells PV.nil) 26)).alloc (.cells zeroRule 32)) := ((Below.refl _ _).alloc (Nat.le_refl _) _).alloc (by simp) _
  have HB1 : Hid (Block ((w.alloc (.cells (rA.cells PV.nil) 26)).alloc (.cells zeroRule 32)) (w.heap.size + 1) zeroRule) := ⟨32, by simpa using heap_alloc_new (w.alloc (.cells (rA.cells PV.nil) 26)) (.cells zeroRule 32)⟩
  have hsz : ((w.alloc (.cells (rA.cells PV.nil) 26)).alloc (.cells zeroRule 32)).heap.size = w.heap.size + 2 := by simp
  unfold zeroRule at HB0 HB1 hb0 hsz
  go_enter Tryz.func13, Tryz.ntmps13
  go_upto_region 1 with (refine Go.Great.wpList_boxTo rfl 26 (.tmp 0) rfl _ rfl w.heap.size rfl (rA.cells PV.nil) rfl ?_)
  generalize (w.alloc (.cells (rA.cells PV.nil) 26)).alloc (.cells _ 32) = w0 at *
  change Hid (Block w0 (w.heap.size + 1) zeroRule) at HB1
  have HSZ := Lib.hid hsz; clear hsz
  have HB2 : Hid (Block (w0.alloc (.cells zeroRule 32)) w0.heap.size zeroRule) := ⟨32, heap_alloc_new w0 _⟩
  have hk : w0.cell? ⟨w.heap.size, 0, none⟩ = some (.int .u8 3) ∧ w0.cell? ⟨w.heap.size, 1, none⟩ = some (.bool true) ∧ w0.cell? ⟨w.heap.size, 2, none⟩ = some (.int .i64 62999856000) ∧ w0.cell? ⟨w.heap.size, 3, none⟩ = some (.int .i64 0) ∧ w0.cell? ⟨w.heap.size, 4, none⟩ = some (.int .i64 0) ∧ w0.cell? ⟨w.heap.size, 5, none⟩ = some (.int .i64 3) ∧ w0.cell? ⟨w.heap.size, 6, none⟩ = some (.bool false) ∧ w0.cell? ⟨w.heap.size, 7, none⟩ = some (.int .i64 0) ∧ w0.cell? ⟨w.heap.size, 8, none⟩ = some (.slice none 0 0) ∧ w0.cell? ⟨w.heap.size, 9, none⟩ = some (.slice none 0 0) ∧ w0.cell? ⟨w.heap.size, 10, none⟩ = some (.slice none 0 0) ∧ w0.cell? ⟨w.heap.size, 11, none⟩ = some (.slice none 0 0) ∧ w0.cell? ⟨w.heap.size, 12, none⟩ = some (.slice none 0 0) ∧ w0.cell? ⟨w.heap.size, 13, none⟩ = some (.slice none 0 0) ∧ w0.cell? ⟨w.heap.size, 14, none⟩ = some (.slice none 0 0) ∧ w0.cell? ⟨w.heap.size, 15, none⟩ = some (.slice none 0 0) ∧ w0.cell? ⟨w.heap.size, 16, none⟩ = some (.slice none 0 0) ∧ w0.cell? ⟨w.heap.size, 17, none⟩ = some (.slice none 0 0) := have hb := HB0.out; ⟨hb.cell 0, hb.cell 1, hb.cell 2, hb.cell 3, hb.cell 4, hb.cell 5, hb.cell 6, hb.cell 7, hb.cell 8, hb.cell 9, hb.cell 10, hb.cell 11, hb.cell 12, hb.cell 13, hb.cell 14, hb.cell 15, hb.cell 16, hb.cell 17⟩
  obtain ⟨k0, k1, k2, k3, k4, k5, k6, k7, k8, k9, k10, k11, k12, k13, k14, k15, k16, k17⟩ := hk
  go_upto_region 2 with ((with_reducible refine atl ?_); refine wpList_store_block rfl 32 _ _ rfl w0.heap.size zeroRule (rA.cells PV.nil) rfl rfl HB2.out rfl (by kernel_rfl) rA_one ?_; intro w3 hB3 hbb3; go_simp)
  have hbw : Below w.heap.size w w3 := (hb0.alloc hb0.size _).trans (hbb3.own hb0.size (by simp; have := hb0.size; omega))
  have hA3 : Block w3 w.heap.size (rA.cells PV.nil) := (HB0.out.alloc (.cells zeroRule 32)).but (by have := HSZ.out; omega) hbb3
  have hR3 : Block w3 (w.heap.size + 1) zeroRule := (HB1.out.alloc (.cells zeroRule 32)).but (by have := HSZ.out; omega) hbb3
  have j13 : w3.cell? ⟨w.heap.size, 13, none⟩ = some (.slice none 0 0) := hA3.cell 13
  clear k0 k1 k2 k3 k4 k5 k6 k7 k8 k9 k10 k11 k12 k13 k14 k15 k16 k17 HB0 HB1 HB2 hbb3 hb0
  have HB3 := Lib.hid hB3; have HR3 := Lib.hid hR3; clear hB3 hA3 hR3
  generalize hb2 : w0.heap.size = b2 at *
  go_wp2
  go_loopw [44] (fun i wr => i = .int .i64 0 ∧ wr = w3) (fun _ _ => 0)
  case atStart => exact ⟨rfl, rfl⟩
  case round =>
    obtain ⟨rfl, rfl⟩ := hrel
    go_wp2_with (first | ((with_reducible refine atl ?_); refine wpList_load_block rfl 32 (.tmp 3) rfl b2 (rA.cells PV.nil) rfl _ HB3.out Tryz.underlying32 rfl (by kernel_rfl) ?_; go_simp) | ((with_reducible refine atl ?_); refine wpList_store_block rfl 32 _ _ rfl (w.heap.size + 1) zeroRule (rA.cells PV.nil) rfl rfl HR3.out rfl (by kernel_rfl) rA_one ?_; intro wz hBz hbbz))
    refine bodyPost_ret (v := .agg (rA.cells PV.nil)) (results_block Tryz.results13 _ _ (w.heap.size + 1) _ _ rfl hBz Tryz.underlying32 rfl (by kernel_rfl)) rfl ?_
    exact ⟨rfl, hbw.trans (hbbz.own (by omega) hbw.size)⟩
end Go.Proofs.YthkgjhnckakliaaGreatDoorR
namespace Go.Proofs.YthkgjhnckakliaaGreatDoorR
open Go.RowKit
def tOne : Bs := [68, 84, 83, 84, 65, 82, 84, 58, 49, 57, 57, 55, 48, 53, 50, 50, 84, 48, 48, 48, 48, 48, 48, 90, 10, 82, 82, 85, 76, 69, 58, 70, 82, 69, 81, 61, 68, 65, 73, 76, 89, 59, 67, 79, 85, 78, 84, 61, 51]
def tTwo : Bs := [70, 82, 69, 81, 61, 68, 65, 73, 76, 89, 59, 67, 79, 85, 78, 84, 61, 120]
set_option maxRecDepth 100000 in
theorem opt_one : Pl.option tOne = (rA, 0) := by kernel_rfl
set_option maxRecDepth 100000 in
theorem opt_two : (Pl.option tTwo).2 = 1 := by kernel_rfl
set_option maxRecDepth 100000 in
theorem days_one : Pl.daysOf 1997 5 22 = 729165 := by decide
end Go.Proofs.YthkgjhnckakliaaGreatDoorR
namespace Go.Proofs.YthkgjhnckakliaaGreatDoorR
open Go.RowKit
theorem PRows.nilA (rb : Nat) (w : World) : PRows rb w rA PV.nil := ⟨SlI.nil _ _, SlI.nil _ _, SlI.nil _ _, SlI.nil _ _, SlI.nil _ _, SlP.nil _ _, SlI.nil _ _, SlI.nil _ _, SlI.nil _ _, SlI.nil _ _⟩
theorem rA_small : rA.small := ⟨by decide, by decide, by decide, by decide, by decide, by decide, by decide, by decide, by decide, by decide⟩
noncomputable def oA5 : Array Oper := findOps 5 (Tryz.f4.body.getD .skip)
structure LA5 where
  (b1 b3 pb : Nat)
  (u : PV)
structure FA5 (L : LA5) (wl : World) : Prop where
  f1 : Block wl L.b1 (rA.cells PV.nil)
  f3 : Block wl L.b3 (rA.cells L.u)
  pr : PRows L.pb wl rA L.u
structure HA5 (w0 : World) (T : Array Value) (L : LA5) : Prop where
  hTs : T.size = 37
  hT1 : T.getD 1 undef = .pointer (some ⟨L.b1, 0, none⟩)
  hT2 : T.getD 2 undef = .string ⟨#[68, 84, 83, 84, 65, 82, 84, 58, 49, 57, 57, 55, 48, 53, 50, 50, 84, 48, 48, 48, 48, 48, 48, 90, 10, 82, 82, 85, 76, 69, 58, 70, 82, 69, 81, 61, 68, 65, 73, 76, 89, 59, 67, 79, 85, 78, 84, 61, 51]⟩
  hT3 : T.getD 3 undef = .pointer (some ⟨L.b3, 0, none⟩)
  hT4 : T.getD 4 undef = .bool true
  hT6 : T.getD 6 undef = .bool false
  HF : Hid (∀ wl, Below w0.heap.size w0 wl → FA5 L wl)
  hpb : L.pb < w0.heap.size
def valA5 (L : LA5) (gx : PV) (d : Nat) : Value := if d = 33 then .agg (rA.cells gx) else (#[.bool true, undef, undef, undef, undef, undef, undef, undef, undef, undef, undef, undef, undef, undef, undef, undef, undef, undef, undef, undef, undef, undef, .string ⟨#[68, 84, 83, 84, 65, 82, 84, 58, 49, 57, 57, 55, 48, 53, 50, 50, 84, 48, 48, 48, 48, 48, 48, 90, 10, 82, 82, 85, 76, 69, 58, 70, 82, 69, 81, 61, 68, 65, 73, 76, 89, 59, 67, 79, 85, 78, 84, 61, 51]⟩, .bool true, .bool true, .bool true, .bool true, .bool true, .bool false, .bool true, .bool true, .bool true, .agg (rA.cells L.u), undef, .agg (rA.cells PV.nil), .bool true, .bool true] : Array Value).getD d undef
/-- What holds while the operations come up. -/
def InvA5 (w0 : World) (T : Array Value) (L : LA5) (listed : Array Bool) (a : Act) (wl : World) : Prop :=
  ∃ gx : PV, listed.size = 16 ∧ VI oA5 (valA5 L gx) listed a.tmps ∧ KI oA5 T a.tmps ∧ a.defers = [] ∧ Below w0.heap.size w0 wl ∧ (listed.getD 11 false = true → PRows L.pb wl rA gx)
set_option maxHeartbeats 1000000 in
set_option maxRecDepth 100000 in
theorem opA5_0 {Q : Exit → Act → World → Prop} {w0 : World} {T : Array Value} {L : LA5} (H : HA5 w0 T L) : StepAt Tryz.prog Q oA5 (InvA5 w0 T L) 0 := by
  intro listed a wl o ho h0 hall ⟨gx, hls, V, K, hd, hb, hw⟩
  have hsz : a.tmps.size = 37 := K.1.trans H.hTs
  conv at ho => lhs; whnf
  injection ho with ho
  conv at ho => lhs; whnf
  subst ho
  refine want_any rfl ?_
  have g2 : a.tmps.getD 2 undef = .string ⟨#[68, 84, 83, 84, 65, 82, 84, 58, 49, 57, 57, 55, 48, 53, 50, 50, 84, 48, 48, 48, 48, 48, 48, 90, 10, 82, 82, 85, 76, 69, 58, 70, 82, 69, 81, 61, 68, 65, 73, 76, 89, 59, 67, 79, 85, 78, 84, 61, 51]⟩ := (K.get 2 (by kernel_rfl)).trans H.hT2
  go_simp
  exact ⟨gx, by simpa using hls, V.lay (k := 0) (d := 22) (by kernel_rfl) (by kernel_rfl) (by rw [hsz]; decide), K.lay (k := 0) (by kernel_rfl) _, (by first | rfl | exact hd), hb, by rw [getD_ne _ (by decide)]; exact hw⟩
set_option maxHeartbeats 1000000 in
set_option maxRecDepth 100000 in
theorem opA5_1 {Q : Exit → Act → World → Prop} {w0 : World} {T : Array Value} {L : LA5} (H : HA5 w0 T L) : StepAt Tryz.prog Q oA5 (InvA5 w0 T L) 1 := by
  intro listed a wl o ho h0 hall ⟨gx, hls, V, K, hd, hb, hw⟩
  have hsz : a.tmps.size = 37 := K.1.trans H.hTs
  conv at ho => lhs; whnf
  injection ho with ho
  conv at ho => lhs; whnf
  subst ho
  refine want_any rfl ?_
  have g22 : a.tmps.getD 22 undef = .string ⟨#[68, 84, 83, 84, 65, 82, 84, 58, 49, 57, 57, 55, 48, 53, 50, 50, 84, 48, 48, 48, 48, 48, 48, 90, 10, 82, 82, 85, 76, 69, 58, 70, 82, 69, 81, 61, 68, 65, 73, 76, 89, 59, 67, 79, 85, 78, 84, 61, 51]⟩ := V.at (k := 0) (by kernel_rfl) (by kernel_rfl) (up hall (by kernel_rfl))
  go_simp
  exact ⟨gx, by simpa using hls, V.lay (k := 1) (d := 23) (by kernel_rfl) (by kernel_rfl) (by rw [hsz]; decide), K.lay (k := 1) (by kernel_rfl) _, (by first | rfl | exact hd), hb, by rw [getD_ne _ (by decide)]; exact hw⟩
set_option maxHeartbeats 1000000 in
set_option maxRecDepth 100000 in
theorem opA5_2 {Q : Exit → Act → World → Prop} {w0 : World} {T : Array Value} {L : LA5} (H : HA5 w0 T L) : StepAt Tryz.prog Q oA5 (InvA5 w0 T L) 2 := by
  intro listed a wl o ho h0 hall ⟨gx, hls, V, K, hd, hb, hw⟩
  have hsz : a.tmps.size = 37 := K.1.trans H.hTs
  conv at ho => lhs; whnf
  injection ho with ho
  conv at ho => lhs; whnf
  subst ho
  refine want_any rfl ?_
  have g23 : a.tmps.getD 23 undef = .bool true := V.at (k := 1) (by kernel_rfl) (by kernel_rfl) (up hall (by kernel_rfl))
  go_simp
  exact ⟨gx, by simpa using hls, V.lay (k := 2) (d := 24) (by kernel_rfl) (by kernel_rfl) (by rw [hsz]; decide), K.lay (k := 2) (by kernel_rfl) _, (by first | rfl | exact hd), hb, by rw [getD_ne _ (by decide)]; exact hw⟩
set_option maxHeartbeats 1000000 in
set_option maxRecDepth 100000 in
theorem opA5_3 {Q : Exit → Act → World → Prop} {w0 : World} {T : Array Value} {L : LA5} (H : HA5 w0 T L) : StepAt Tryz.prog Q oA5 (InvA5 w0 T L) 3 := by
  intro listed a wl o ho h0 hall ⟨gx, hls, V, K, hd, hb, hw⟩
  have hsz : a.tmps.size = 37 := K.1.trans H.hTs
  conv at ho => lhs; whnf
  injection ho with ho
  conv at ho => lhs; whnf
  subst ho
  have g24 : a.tmps.getD 24 undef = .bool true := V.at (k := 2) (by kernel_rfl) (by kernel_rfl) (up hall (by kernel_rfl))
  refine want_on (g := 2) rfl (yld_at (k := 2) (by kernel_rfl) g24) ?_
  have g4 : a.tmps.getD 4 undef = .bool true := (K.get 4 (by kernel_rfl)).trans H.hT4
  go_simp
  exact ⟨gx, by simpa using hls, V.lay (k := 3) (d := 25) (by kernel_rfl) (by kernel_rfl) (by rw [hsz]; decide), K.lay (k := 3) (by kernel_rfl) _, (by first | rfl | exact hd), hb, by rw [getD_ne _ (by decide)]; exact hw⟩
set_option maxHeartbeats 1000000 in
set_option maxRecDepth 100000 in
theorem opA5_4 {Q : Exit → Act → World → Prop} {w0 : World} {T : Array Value} {L : LA5} (H : HA5 w0 T L) : StepAt Tryz.prog Q oA5 (InvA5 w0 T L) 4 := by
  intro listed a wl o ho h0 hall ⟨gx, hls, V, K, hd, hb, hw⟩
  have hsz : a.tmps.size = 37 := K.1.trans H.hTs
  conv at ho => lhs; whnf
  injection ho with ho
  conv at ho => lhs; whnf
  subst ho
  refine want_any rfl ?_
  have g24 : a.tmps.getD 24 undef = .bool true := V.at (k := 2) (by kernel_rfl) (by kernel_rfl) (up hall (by kernel_rfl))
  have g25 : a.tmps.getD 25 undef = .bool true := V.at (k := 3) (by kernel_rfl) (by kernel_rfl) (up hall (by kernel_rfl))
  go_simp
  exact ⟨gx, by simpa using hls, V.lay (k := 4) (d := 26) (by kernel_rfl) (by kernel_rfl) (by rw [hsz]; decide), K.lay (k := 4) (by kernel_rfl) _, (by first | rfl | exact hd), hb, by rw [getD_ne _ (by decide)]; exact hw⟩
set_option maxHeartbeats 1000000 in
set_option maxRecDepth 100000 in
theorem opA5_5 {Q : Exit → Act → World → Prop} {w0 : World} {T : Array Value} {L : LA5} (H : HA5 w0 T L) : StepAt Tryz.prog Q oA5 (InvA5 w0 T L) 5 := by
  intro listed a wl o ho h0 hall ⟨gx, hls, V, K, hd, hb, hw⟩
  have hsz : a.tmps.size = 37 := K.1.trans H.hTs
  conv at ho => lhs; whnf
  injection ho with ho
  conv at ho => lhs; whnf
  subst ho
  refine want_any rfl ?_
  have g26 : a.tmps.getD 26 undef = .bool true := V.at (k := 4) (by kernel_rfl) (by kernel_rfl) (up hall (by kernel_rfl))
  go_simp
  exact ⟨gx, by simpa using hls, V.lay (k := 5) (d := 27) (by kernel_rfl) (by kernel_rfl) (by rw [hsz]; decide), K.lay (k := 5) (by kernel_rfl) _, (by first | rfl | exact hd), hb, by rw [getD_ne _ (by decide)]; exact hw⟩
set_option maxHeartbeats 1000000 in
set_option maxRecDepth 100000 in
theorem opA5_6 {Q : Exit → Act → World → Prop} {w0 : World} {T : Array Value} {L : LA5} (H : HA5 w0 T L) : StepAt Tryz.prog Q oA5 (InvA5 w0 T L) 6 := by
  intro listed a wl o ho h0 hall ⟨gx, hls, V, K, hd, hb, hw⟩
  have hsz : a.tmps.size = 37 := K.1.trans H.hTs
  conv at ho => lhs; whnf
  injection ho with ho
  conv at ho => lhs; whnf
  subst ho
  have g27 : a.tmps.getD 27 undef = .bool true := V.at (k := 5) (by kernel_rfl) (by kernel_rfl) (up hall (by kernel_rfl))
  refine want_on (g := 5) rfl (yld_at (k := 5) (by kernel_rfl) g27) ?_
  have g6 : a.tmps.getD 6 undef = .bool false := (K.get 6 (by kernel_rfl)).trans H.hT6
  go_simp
  exact ⟨gx, by simpa using hls, V.lay (k := 6) (d := 28) (by kernel_rfl) (by kernel_rfl) (by rw [hsz]; decide), K.lay (k := 6) (by kernel_rfl) _, (by first | rfl | exact hd), hb, by rw [getD_ne _ (by decide)]; exact hw⟩
set_option maxHeartbeats 1000000 in
set_option maxRecDepth 100000 in
theorem opA5_7 {Q : Exit → Act → World → Prop} {w0 : World} {T : Array Value} {L : LA5} (H : HA5 w0 T L) : StepAt Tryz.prog Q oA5 (InvA5 w0 T L) 7 := by
  intro listed a wl o ho h0 hall ⟨gx, hls, V, K, hd, hb, hw⟩
  have hsz : a.tmps.size = 37 := K.1.trans H.hTs
  conv at ho => lhs; whnf
  injection ho with ho
  conv at ho => lhs; whnf
  subst ho
  have g27 : a.tmps.getD 27 undef = .bool true := V.at (k := 5) (by kernel_rfl) (by kernel_rfl) (up hall (by kernel_rfl))
  refine want_on (g := 5) rfl (yld_at (k := 5) (by kernel_rfl) g27) ?_
  have g28 : a.tmps.getD 28 undef = .bool false := V.at (k := 6) (by kernel_rfl) (by kernel_rfl) (up hall (by kernel_rfl))
  go_simp
  exact ⟨gx, by simpa using hls, V.lay (k := 7) (d := 29) (by kernel_rfl) (by kernel_rfl) (by rw [hsz]; decide), K.lay (k := 7) (by kernel_rfl) _, (by first | rfl | exact hd), hb, by rw [getD_ne _ (by decide)]; exact hw⟩
set_option maxHeartbeats 1000000 in
set_option maxRecDepth 100000 in
theorem opA5_8 {Q : Exit → Act → World → Prop} {w0 : World} {T : Array Value} {L : LA5} (H : HA5 w0 T L) : StepAt Tryz.prog Q oA5 (InvA5 w0 T L) 8 := by
  intro listed a wl o ho h0 hall ⟨gx, hls, V, K, hd, hb, hw⟩
  have hsz : a.tmps.size = 37 := K.1.trans H.hTs
  conv at ho => lhs; whnf
  injection ho with ho
  conv at ho => lhs; whnf
  subst ho
  refine want_any rfl ?_
  have g27 : a.tmps.getD 27 undef = .bool true := V.at (k := 5) (by kernel_rfl) (by kernel_rfl) (up hall (by kernel_rfl))
  have g29 : a.tmps.getD 29 undef = .bool true := V.at (k := 7) (by kernel_rfl) (by kernel_rfl) (up hall (by kernel_rfl))
  go_simp
  exact ⟨gx, by simpa using hls, V.lay (k := 8) (d := 30) (by kernel_rfl) (by kernel_rfl) (by rw [hsz]; decide), K.lay (k := 8) (by kernel_rfl) _, (by first | rfl | exact hd), hb, by rw [getD_ne _ (by decide)]; exact hw⟩
set_option maxHeartbeats 1000000 in
set_option maxRecDepth 100000 in
theorem opA5_9 {Q : Exit → Act → World → Prop} {w0 : World} {T : Array Value} {L : LA5} (H : HA5 w0 T L) : StepAt Tryz.prog Q oA5 (InvA5 w0 T L) 9 := by
  intro listed a wl o ho h0 hall ⟨gx, hls, V, K, hd, hb, hw⟩
  have hsz : a.tmps.size = 37 := K.1.trans H.hTs
  conv at ho => lhs; whnf
  injection ho with ho
  conv at ho => lhs; whnf
  subst ho
  refine want_any rfl ?_
  have g30 : a.tmps.getD 30 undef = .bool true := V.at (k := 8) (by kernel_rfl) (by kernel_rfl) (up hall (by kernel_rfl))
  go_simp
  exact ⟨gx, by simpa using hls, V.lay (k := 9) (d := 31) (by kernel_rfl) (by kernel_rfl) (by rw [hsz]; decide), K.lay (k := 9) (by kernel_rfl) _, (by first | rfl | exact hd), hb, by rw [getD_ne _ (by decide)]; exact hw⟩
set_option maxHeartbeats 1000000 in
set_option maxRecDepth 100000 in
theorem opA5_10 {Q : Exit → Act → World → Prop} {w0 : World} {T : Array Value} {L : LA5} (H : HA5 w0 T L) : StepAt Tryz.prog Q oA5 (InvA5 w0 T L) 10 := by
  intro listed a wl o ho h0 hall ⟨gx, hls, V, K, hd, hb, hw⟩
  have hsz : a.tmps.size = 37 := K.1.trans H.hTs
  conv at ho => lhs; whnf
  injection ho with ho
  conv at ho => lhs; whnf
  subst ho
  have g31 : a.tmps.getD 31 undef = .bool true := V.at (k := 9) (by kernel_rfl) (by kernel_rfl) (up hall (by kernel_rfl))
  refine want_on (g := 9) rfl (yld_at (k := 9) (by kernel_rfl) g31) ?_
  have g3 : a.tmps.getD 3 undef = .pointer (some ⟨L.b3, 0, none⟩) := (K.get 3 (by kernel_rfl)).trans H.hT3
  refine wp_load_block 32 (.tmp 3) rfl _ _ g3 _ (H.HF.out _ hb).f3 Tryz.underlying32 rfl (by kernel_rfl) ?_
  exact ⟨gx, by simpa using hls, V.lay (k := 10) (d := 32) (by kernel_rfl) (by kernel_rfl) (by rw [hsz]; decide), K.lay (k := 10) (by kernel_rfl) _, (by first | rfl | exact hd), hb, by rw [getD_ne _ (by decide)]; exact hw⟩
set_option maxHeartbeats 1000000 in
set_option maxRecDepth 100000 in
theorem opA5_11 {Q : Exit → Act → World → Prop} {w0 : World} {T : Array Value} {L : LA5} (H : HA5 w0 T L) : StepAt Tryz.prog Q oA5 (InvA5 w0 T L) 11 := by
  intro listed a wl o ho h0 hall ⟨gx, hls, V, K, hd, hb, hw⟩
  have hsz : a.tmps.size = 37 := K.1.trans H.hTs
  conv at ho => lhs; whnf
  injection ho with ho
  conv at ho => lhs; whnf
  subst ho
  have g31 : a.tmps.getD 31 undef = .bool true := V.at (k := 9) (by kernel_rfl) (by kernel_rfl) (up hall (by kernel_rfl))
  refine want_on (g := 9) rfl (yld_at (k := 9) (by kernel_rfl) g31) ?_
  have g32 : a.tmps.getD 32 undef = .agg (rA.cells L.u) := V.at (k := 10) (by kernel_rfl) (by kernel_rfl) (up hall (by kernel_rfl))
  go_simp
  go_at_call 10
  refine (ofRule_any L.pb rA L.u _ (Nat.lt_of_lt_of_le H.hpb hb.size) (H.HF.out _ hb).pr rA_small).mono ?_
  rintro e wN ⟨u2, rfl, hp2, hbx⟩
  have V2 : VI oA5 (valA5 L u2) listed a.tmps := V.re fun k o d ho hd hl => by
    by_cases e : d = 33
    · subst e
      have := dst_only (ops := oA5) (k := 11) (by kernel_rfl) ho hd
      subst this; rw [unlisted h0] at hl; cases hl
    · unfold valA5; rw [if_neg e, if_neg e]
  exact ⟨u2, by simpa using hls, V2.lay (k := 11) (d := 33) (by kernel_rfl) (by kernel_rfl) (by rw [hsz]; decide), K.lay (k := 11) (by kernel_rfl) _, (by first | rfl | exact hd), hb.trans (hbx.mono hb.size), fun _ => hp2⟩
set_option maxHeartbeats 1000000 in
set_option maxRecDepth 100000 in
theorem opA5_12 {Q : Exit → Act → World → Prop} {w0 : World} {T : Array Value} {L : LA5} (H : HA5 w0 T L) : StepAt Tryz.prog Q oA5 (InvA5 w0 T L) 12 := by
  intro listed a wl o ho h0 hall ⟨gx, hls, V, K, hd, hb, hw⟩
  have hsz : a.tmps.size = 37 := K.1.trans H.hTs
  conv at ho => lhs; whnf
  injection ho with ho
  conv at ho => lhs; whnf
  subst ho
  have g31 : a.tmps.getD 31 undef = .bool true := V.at (k := 9) (by kernel_rfl) (by kernel_rfl) (up hall (by kernel_rfl))
  refine want_on (g := 9) rfl (yld_at (k := 9) (by kernel_rfl) g31) ?_
  have g1 : a.tmps.getD 1 undef = .pointer (some ⟨L.b1, 0, none⟩) := (K.get 1 (by kernel_rfl)).trans H.hT1
  refine wp_load_block 26 (.tmp 1) rfl _ _ g1 _ (H.HF.out _ hb).f1 Tryz.underlying26 rfl (by kernel_rfl) ?_
  exact ⟨gx, by simpa using hls, V.lay (k := 12) (d := 34) (by kernel_rfl) (by kernel_rfl) (by rw [hsz]; decide), K.lay (k := 12) (by kernel_rfl) _, (by first | rfl | exact hd), hb, by rw [getD_ne _ (by decide)]; exact hw⟩
set_option maxHeartbeats 1000000 in
set_option maxRecDepth 100000 in
theorem opA5_13 {Q : Exit → Act → World → Prop} {w0 : World} {T : Array Value} {L : LA5} (H : HA5 w0 T L) : StepAt Tryz.prog Q oA5 (InvA5 w0 T L) 13 := by
  intro listed a wl o ho h0 hall ⟨gx, hls, V, K, hd, hb, hw⟩
  have hsz : a.tmps.size = 37 := K.1.trans H.hTs
  conv at ho => lhs; whnf
  injection ho with ho
  conv at ho => lhs; whnf
  subst ho
  have g31 : a.tmps.getD 31 undef = .bool true := V.at (k := 9) (by kernel_rfl) (by kernel_rfl) (up hall (by kernel_rfl))
  refine want_on (g := 9) rfl (yld_at (k := 9) (by kernel_rfl) g31) ?_
  have g34 : a.tmps.getD 34 undef = .agg (rA.cells PV.nil) := V.at (k := 12) (by kernel_rfl) (by kernel_rfl) (up hall (by kernel_rfl))
  have l11 : listed.getD 11 false = true := hall ⟨11, .data⟩ (by simp) rfl
  have g33 : a.tmps.getD 33 undef = .agg (rA.cells gx) := V.at (k := 11) (by kernel_rfl) (by kernel_rfl) l11
  have hpx := hw l11
  go_simp
  go_at_call 9
  refine (SameRule_same L.pb L.pb rA gx PV.nil _ hpx (PRows.nilA _ _) rA_small).mono ?_
  rintro e wN ⟨rfl, hbx⟩
  exact ⟨gx, by simpa using hls, V.lay (k := 13) (d := 35) (by kernel_rfl) (by kernel_rfl) (by rw [hsz]; decide), K.lay (k := 13) (by kernel_rfl) _, (by first | rfl | exact hd), hb.trans (hbx.mono hb.size), by rw [getD_ne _ (by decide)]; exact fun h => (fun hg => hg.but (ButBelow.of_below hbx)) (hw h)⟩
set_option maxHeartbeats 1000000 in
set_option maxRecDepth 100000 in
theorem opA5_14 {Q : Exit → Act → World → Prop} {w0 : World} {T : Array Value} {L : LA5} (H : HA5 w0 T L) : StepAt Tryz.prog Q oA5 (InvA5 w0 T L) 14 := by
  intro listed a wl o ho h0 hall ⟨gx, hls, V, K, hd, hb, hw⟩
  have hsz : a.tmps.size = 37 := K.1.trans H.hTs
  conv at ho => lhs; whnf
  injection ho with ho
  conv at ho => lhs; whnf
  subst ho
  refine want_any rfl ?_
  have g31 : a.tmps.getD 31 undef = .bool true := V.at (k := 9) (by kernel_rfl) (by kernel_rfl) (up hall (by kernel_rfl))
  have g35 : a.tmps.getD 35 undef = .bool true := V.at (k := 13) (by kernel_rfl) (by kernel_rfl) (up hall (by kernel_rfl))
  go_simp
  exact ⟨gx, by simpa using hls, V.lay (k := 14) (d := 36) (by kernel_rfl) (by kernel_rfl) (by rw [hsz]; decide), K.lay (k := 14) (by kernel_rfl) _, (by first | rfl | exact hd), hb, by rw [getD_ne _ (by decide)]; exact hw⟩
set_option maxHeartbeats 1000000 in
set_option maxRecDepth 100000 in
theorem opA5_15 {Q : Exit → Act → World → Prop} {w0 : World} {T : Array Value} {L : LA5} (H : HA5 w0 T L) : StepAt Tryz.prog Q oA5 (InvA5 w0 T L) 15 := by
  intro listed a wl o ho h0 hall ⟨gx, hls, V, K, hd, hb, hw⟩
  have hsz : a.tmps.size = 37 := K.1.trans H.hTs
  conv at ho => lhs; whnf
  injection ho with ho
  conv at ho => lhs; whnf
  subst ho
  refine want_any rfl ?_
  have g36 : a.tmps.getD 36 undef = .bool true := V.at (k := 14) (by kernel_rfl) (by kernel_rfl) (up hall (by kernel_rfl))
  go_simp
  exact ⟨gx, by simpa using hls, V.lay (k := 15) (d := 0) (by kernel_rfl) (by kernel_rfl) (by rw [hsz]; decide), K.lay (k := 15) (by kernel_rfl) _, (by first | rfl | exact hd), hb, by rw [getD_ne _ (by decide)]; exact hw⟩
set_option maxHeartbeats 4000000 in
set_option maxRecDepth 100000 in
theorem regionA5 {Q : Exit → Act → World → Prop} (id : Nat) (w0 : World) (T : Array Value) (L : LA5) (H : HA5 w0 T L)
    (hQ : ∀ (t : Array Value) (wl : World) (gx : PV), t.size = 37 → t.getD 0 undef = .bool true → Below w0.heap.size w0 wl → PRows L.pb wl rA gx → Q .normal ⟨t, []⟩ wl) :
    (Code.region id oA5 true).wp Tryz.prog Q ⟨T, []⟩ w0 := by
  have hz : oA5.size = 16 := by kernel_rfl
  refine region_steps (by kernel_rfl) (InvA5 w0 T L) ⟨PV.nil, by simp; rfl, VI.start _ _ _, KI.start _, rfl, (Below.refl _ _).drew, fun h => (unrep h).elim⟩ ?_ 16 hz ?_
  · intro listed a wl hr ⟨gx, hls, V, K, hd, hb, hw⟩
    have ha := all_listed (ops := oA5) (by kernel_rfl) (hls.trans hz.symm) hr
    obtain ⟨t, df⟩ := a
    change df = [] at hd
    subst hd
    exact hQ t wl gx (K.1.trans H.hTs) (V.end ha (k := 15) (by kernel_rfl) (by kernel_rfl)) hb (hw (ha 11 (by rw [hz]; decide)))
  · intro k hk
    match k, hk with
    | 0, _ => exact opA5_0 H
    | 1, _ => exact opA5_1 H
    | 2, _ => exact opA5_2 H
    | 3, _ => exact opA5_3 H
    | 4, _ => exact opA5_4 H
    | 5, _ => exact opA5_5 H
    | 6, _ => exact opA5_6 H
    | 7, _ => exact opA5_7 H
    | 8, _ => exact opA5_8 H
    | 9, _ => exact opA5_9 H
    | 10, _ => exact opA5_10 H
    | 11, _ => exact opA5_11 H
    | 12, _ => exact opA5_12 H
    | 13, _ => exact opA5_13 H
    | 14, _ => exact opA5_14 H
    | 15, _ => exact opA5_15 H
    | k + 16, hk => exact absurd hk (by omega)
end Go.Proofs.YthkgjhnckakliaaGreatDoorR
namespace Go.Proofs.YthkgjhnckakliaaGreatDoorR
open Go.RowKit
set_option maxHeartbeats 4000000 in
set_option maxRecDepth 100000 in
theorem ZZWeekday_any (a d : Int) (w : World) :
    Calls Tryz.prog 45 #[.int .i64 a, .int .i64 d] w fun e w' => e = .returned (.agg #[.int .i64 a, .int .i64 d]) ∧ Below w.heap.size w w' := by
  go_enter Tryz.func45, Tryz.ntmps45
  go_wp2
  refine bodyPost_ret (v := .agg #[.int .i64 a, .int .i64 d]) (by simp [results, Tryz.results45, go_sem]) rfl ⟨rfl, ?_⟩
  (repeat (first | exact Below.refl _ _ | refine Below.setCell ?_ (by simp) _ | refine Below.alloc ?_ (by simp) _ | refine Below.drew ?_ | refine below_drewN ?_ _))
noncomputable def oR1 : Array Oper := findOps 1 (Tryz.f28.body.getD .skip)
structure LR1 where
  (wb : Nat)
structure FR1 (L : LR1) (wl : World) : Prop where
  c0 : wl.cell? ⟨L.wb, 0, none⟩ = some (.int .u8 3)
  c1 : wl.cell? ⟨L.wb, 1, none⟩ = some (.bool true)
  c2 : wl.cell? ⟨L.wb, 2, none⟩ = some (.int .i64 62999856000)
  c3 : wl.cell? ⟨L.wb, 3, none⟩ = some (.int .i64 0)
  c4 : wl.cell? ⟨L.wb, 4, none⟩ = some (.int .i64 0)
  c5 : wl.cell? ⟨L.wb, 5, none⟩ = some (.int .i64 3)
  c6 : wl.cell? ⟨L.wb, 6, none⟩ = some (.bool false)
  c7 : wl.cell? ⟨L.wb, 7, none⟩ = some (.int .i64 0)
  c8 : wl.cell? ⟨L.wb, 8, none⟩ = some (.slice none 0 0)
  c9 : wl.cell? ⟨L.wb, 9, none⟩ = some (.slice none 0 0)
  c10 : wl.cell? ⟨L.wb, 10, none⟩ = some (.slice none 0 0)
  c11 : wl.cell? ⟨L.wb, 11, none⟩ = some (.slice none 0 0)
  c12 : wl.cell? ⟨L.wb, 12, none⟩ = some (.slice none 0 0)
  c13 : wl.cell? ⟨L.wb, 13, none⟩ = some (.slice none 0 0)
  c14 : wl.cell? ⟨L.wb, 14, none⟩ = some (.slice none 0 0)
  c15 : wl.cell? ⟨L.wb, 15, none⟩ = some (.slice none 0 0)
  c16 : wl.cell? ⟨L.wb, 16, none⟩ = some (.slice none 0 0)
  c17 : wl.cell? ⟨L.wb, 17, none⟩ = some (.slice none 0 0)
structure HR1 (w0 : World) (T : Array Value) (L : LR1) : Prop where
  hTs : T.size = 66
  hT0 : T.getD 0 undef = .agg (rA.cells PV.nil)
  hT1 : T.getD 1 undef = .pointer (some ⟨L.wb, 0, none⟩)
  hT2 : T.getD 2 undef = .pointer (some ⟨L.wb + 1, 0, none⟩)
  HF : Hid (∀ wl, Below w0.heap.size w0 wl → FR1 L wl)
def valR1 (L : LR1) (b3 : Nat) (d : Nat) : Value := if d = 3 then .pointer (some ⟨b3, 0, none⟩) else (#[undef, undef, undef, undef, undef, undef, .pointer (some ⟨L.wb, 0, none⟩), .int .u8 3, .int .i64 3, .pointer (some ⟨L.wb, 3, none⟩), .int .i64 0, .pointer (some ⟨L.wb, 4, none⟩), .int .i64 0, .agg #[.int .i64 0, .int .i64 0], .pointer (some ⟨L.wb, 5, none⟩), .int .i64 3, .pointer (some ⟨L.wb, 8, none⟩), .slice none 0 0, .pointer (some ⟨L.wb, 9, none⟩), .slice none 0 0, .pointer (some ⟨L.wb, 10, none⟩), .slice none 0 0, .pointer (some ⟨L.wb, 11, none⟩), .slice none 0 0, .pointer (some ⟨L.wb, 12, none⟩), .slice none 0 0, .pointer (some ⟨L.wb, 14, none⟩), .slice none 0 0, .pointer (some ⟨L.wb, 15, none⟩), .slice none 0 0, .pointer (some ⟨L.wb, 16, none⟩), .slice none 0 0, .pointer (some ⟨L.wb, 17, none⟩), .slice none 0 0, .agg #[.int .i64 3, .int .i64 0, .int .i64 0, .int .i64 0, .int .i64 0, .int .i64 0, .int .i64 3, .int .i64 0, .int .i64 0, .slice none 0 0, .slice none 0 0, .slice none 0 0, .slice none 0 0, .slice none 0 0, .slice none 0 0, .slice none 0 0, .slice none 0 0, .slice none 0 0, .slice none 0 0], undef, undef, undef, undef, undef, undef, undef, undef, undef, undef, undef, undef, undef, undef, undef, undef, undef, undef, undef, undef, undef, undef, undef, undef, undef, undef, undef, undef, undef, undef, undef] : Array Value).getD d undef
/-- What holds while the operations come up. -/
def InvR1 (w0 : World) (T : Array Value) (L : LR1) (listed : Array Bool) (a : Act) (wl : World) : Prop :=
  ∃ b3 : Nat, listed.size = 31 ∧ VI oR1 (valR1 L b3) listed a.tmps ∧ KI oR1 T a.tmps ∧ a.defers = [] ∧ Below w0.heap.size w0 wl ∧ (listed.getD 30 false = true → listed.getD 29 false = true) ∧
    (listed.getD 29 false = true → w0.heap.size ≤ b3 ∧ (listed.getD 30 false = false → Block wl b3 zOpt) ∧ (listed.getD 30 false = true → Block wl b3 #[.int .i64 3, .int .i64 0, .int .i64 0, .int .i64 0, .int .i64 0, .int .i64 0, .int .i64 3, .int .i64 0, .int .i64 0, .slice none 0 0, .slice none 0 0, .slice none 0 0, .slice none 0 0, .slice none 0 0, .slice none 0 0, .slice none 0 0, .slice none 0 0, .slice none 0 0, .slice none 0 0]))
set_option maxHeartbeats 1000000 in
set_option maxRecDepth 100000 in
theorem opR1_0 {Q : Exit → Act → World → Prop} {w0 : World} {T : Array Value} {L : LR1} (H : HR1 w0 T L) : StepAt Tryz.prog Q oR1 (InvR1 w0 T L) 0 := by
  intro listed a wl o ho h0 hall ⟨b3, hls, V, K, hd, hb, hw⟩
  have hsz : a.tmps.size = 66 := K.1.trans H.hTs
  conv at ho => lhs; whnf
  injection ho with ho
  conv at ho => lhs; whnf
  subst ho
  refine want_any rfl ?_
  have g1 : a.tmps.getD 1 undef = .pointer (some ⟨L.wb, 0, none⟩) := (K.get 1 (by kernel_rfl)).trans H.hT1
  go_simp
  exact ⟨b3, by simpa using hls, V.lay (k := 0) (d := 6) (by kernel_rfl) (by kernel_rfl) (by rw [hsz]; decide), K.lay (k := 0) (by kernel_rfl) _, (by first | rfl | exact hd), hb, by rw [getD_ne _ (by decide), getD_ne _ (by decide)]; exact hw⟩
set_option maxHeartbeats 1000000 in
set_option maxRecDepth 100000 in
theorem opR1_1 {Q : Exit → Act → World → Prop} {w0 : World} {T : Array Value} {L : LR1} (H : HR1 w0 T L) : StepAt Tryz.prog Q oR1 (InvR1 w0 T L) 1 := by
  intro listed a wl o ho h0 hall ⟨b3, hls, V, K, hd, hb, hw⟩
  have hsz : a.tmps.size = 66 := K.1.trans H.hTs
  conv at ho => lhs; whnf
  injection ho with ho
  conv at ho => lhs; whnf
  subst ho
  refine want_any rfl ?_
  have g6 : a.tmps.getD 6 undef = .pointer (some ⟨L.wb, 0, none⟩) := V.at (k := 0) (by kernel_rfl) (by kernel_rfl) (up hall (by kernel_rfl))
  have c0 : wl.cell? ⟨L.wb, 0, none⟩ = some (.int .u8 3) := (H.HF.out _ hb).c0
  go_simp
  exact ⟨b3, by simpa using hls, V.lay (k := 1) (d := 7) (by kernel_rfl) (by kernel_rfl) (by rw [hsz]; decide), K.lay (k := 1) (by kernel_rfl) _, (by first | rfl | exact hd), hb, by rw [getD_ne _ (by decide), getD_ne _ (by decide)]; exact hw⟩
set_option maxHeartbeats 1000000 in
set_option maxRecDepth 100000 in
theorem opR1_2 {Q : Exit → Act → World → Prop} {w0 : World} {T : Array Value} {L : LR1} (H : HR1 w0 T L) : StepAt Tryz.prog Q oR1 (InvR1 w0 T L) 2 := by
  intro listed a wl o ho h0 hall ⟨b3, hls, V, K, hd, hb, hw⟩
  have hsz : a.tmps.size = 66 := K.1.trans H.hTs
  conv at ho => lhs; whnf
  injection ho with ho
  conv at ho => lhs; whnf
  subst ho
  refine want_any rfl ?_
  have g7 : a.tmps.getD 7 undef = .int .u8 3 := V.at (k := 1) (by kernel_rfl) (by kernel_rfl) (up hall (by kernel_rfl))
  have hwr : IntKind.i64.wrap 3 = 3 := by decide
  go_simp
  exact ⟨b3, by simpa using hls, V.lay (k := 2) (d := 8) (by kernel_rfl) (by kernel_rfl) (by rw [hsz]; decide), K.lay (k := 2) (by kernel_rfl) _, (by first | rfl | exact hd), hb, by rw [getD_ne _ (by decide), getD_ne _ (by decide)]; exact hw⟩
set_option maxHeartbeats 1000000 in
set_option maxRecDepth 100000 in
theorem opR1_3 {Q : Exit → Act → World → Prop} {w0 : World} {T : Array Value} {L : LR1} (H : HR1 w0 T L) : StepAt Tryz.prog Q oR1 (InvR1 w0 T L) 3 := by
  intro listed a wl o ho h0 hall ⟨b3, hls, V, K, hd, hb, hw⟩
  have hsz : a.tmps.size = 66 := K.1.trans H.hTs
  conv at ho => lhs; whnf
  injection ho with ho
  conv at ho => lhs; whnf
  subst ho
  refine want_any rfl ?_
  have g1 : a.tmps.getD 1 undef = .pointer (some ⟨L.wb, 0, none⟩) := (K.get 1 (by kernel_rfl)).trans H.hT1
  go_simp
  exact ⟨b3, by simpa using hls, V.lay (k := 3) (d := 9) (by kernel_rfl) (by kernel_rfl) (by rw [hsz]; decide), K.lay (k := 3) (by kernel_rfl) _, (by first | rfl | exact hd), hb, by rw [getD_ne _ (by decide), getD_ne _ (by decide)]; exact hw⟩
set_option maxHeartbeats 1000000 in
set_option maxRecDepth 100000 in
theorem opR1_4 {Q : Exit → Act → World → Prop} {w0 : World} {T : Array Value} {L : LR1} (H : HR1 w0 T L) : StepAt Tryz.prog Q oR1 (InvR1 w0 T L) 4 := by
  intro listed a wl o ho h0 hall ⟨b3, hls, V, K, hd, hb, hw⟩
  have hsz : a.tmps.size = 66 := K.1.trans H.hTs
  conv at ho => lhs; whnf
  injection ho with ho
  conv at ho => lhs; whnf
  subst ho
  refine want_any rfl ?_
  have g9 : a.tmps.getD 9 undef = .pointer (some ⟨L.wb, 3, none⟩) := V.at (k := 3) (by kernel_rfl) (by kernel_rfl) (up hall (by kernel_rfl))
  have c0 : wl.cell? ⟨L.wb, 3, none⟩ = some (.int .i64 0) := (H.HF.out _ hb).c3
  go_simp
  exact ⟨b3, by simpa using hls, V.lay (k := 4) (d := 10) (by kernel_rfl) (by kernel_rfl) (by rw [hsz]; decide), K.lay (k := 4) (by kernel_rfl) _, (by first | rfl | exact hd), hb, by rw [getD_ne _ (by decide), getD_ne _ (by decide)]; exact hw⟩
set_option maxHeartbeats 1000000 in
set_option maxRecDepth 100000 in
theorem opR1_5 {Q : Exit → Act → World → Prop} {w0 : World} {T : Array Value} {L : LR1} (H : HR1 w0 T L) : StepAt Tryz.prog Q oR1 (InvR1 w0 T L) 5 := by
  intro listed a wl o ho h0 hall ⟨b3, hls, V, K, hd, hb, hw⟩
  have hsz : a.tmps.size = 66 := K.1.trans H.hTs
  conv at ho => lhs; whnf
  injection ho with ho
  conv at ho => lhs; whnf
  subst ho
  refine want_any rfl ?_
  have g1 : a.tmps.getD 1 undef = .pointer (some ⟨L.wb, 0, none⟩) := (K.get 1 (by kernel_rfl)).trans H.hT1
  go_simp
  exact ⟨b3, by simpa using hls, V.lay (k := 5) (d := 11) (by kernel_rfl) (by kernel_rfl) (by rw [hsz]; decide), K.lay (k := 5) (by kernel_rfl) _, (by first | rfl | exact hd), hb, by rw [getD_ne _ (by decide), getD_ne _ (by decide)]; exact hw⟩
set_option maxHeartbeats 1000000 in
set_option maxRecDepth 100000 in
theorem opR1_6 {Q : Exit → Act → World → Prop} {w0 : World} {T : Array Value} {L : LR1} (H : HR1 w0 T L) : StepAt Tryz.prog Q oR1 (InvR1 w0 T L) 6 := by
  intro listed a wl o ho h0 hall ⟨b3, hls, V, K, hd, hb, hw⟩
  have hsz : a.tmps.size = 66 := K.1.trans H.hTs
  conv at ho => lhs; whnf
  injection ho with ho
  conv at ho => lhs; whnf
  subst ho
  refine want_any rfl ?_
  have g11 : a.tmps.getD 11 undef = .pointer (some ⟨L.wb, 4, none⟩) := V.at (k := 5) (by kernel_rfl) (by kernel_rfl) (up hall (by kernel_rfl))
  have c0 : wl.cell? ⟨L.wb, 4, none⟩ = some (.int .i64 0) := (H.HF.out _ hb).c4
  go_simp
  exact ⟨b3, by simpa using hls, V.lay (k := 6) (d := 12) (by kernel_rfl) (by kernel_rfl) (by rw [hsz]; decide), K.lay (k := 6) (by kernel_rfl) _, (by first | rfl | exact hd), hb, by rw [getD_ne _ (by decide), getD_ne _ (by decide)]; exact hw⟩
set_option maxHeartbeats 1000000 in
set_option maxRecDepth 100000 in
theorem opR1_7 {Q : Exit → Act → World → Prop} {w0 : World} {T : Array Value} {L : LR1} (H : HR1 w0 T L) : StepAt Tryz.prog Q oR1 (InvR1 w0 T L) 7 := by
  intro listed a wl o ho h0 hall ⟨b3, hls, V, K, hd, hb, hw⟩
  have hsz : a.tmps.size = 66 := K.1.trans H.hTs
  conv at ho => lhs; whnf
  injection ho with ho
  conv at ho => lhs; whnf
  subst ho
  refine want_any rfl ?_
  have g12 : a.tmps.getD 12 undef = .int .i64 0 := V.at (k := 6) (by kernel_rfl) (by kernel_rfl) (up hall (by kernel_rfl))
  go_simp
  go_at_call 45
  refine (ZZWeekday_any 0 0 _).mono ?_
  rintro e wN ⟨rfl, hbx⟩
  exact ⟨b3, by simpa using hls, V.lay (k := 7) (d := 13) (by kernel_rfl) (by kernel_rfl) (by rw [hsz]; decide), K.lay (k := 7) (by kernel_rfl) _, (by first | rfl | exact hd), hb.trans (hbx.mono hb.size), by rw [getD_ne _ (by decide), getD_ne _ (by decide)]; exact ⟨hw.1, fun h => ⟨(hw.2 h).1, fun h2 => ((hw.2 h).2.1 h2).below hbx, fun h2 => ((hw.2 h).2.2 h2).below hbx⟩⟩⟩
set_option maxHeartbeats 1000000 in
set_option maxRecDepth 100000 in
theorem opR1_8 {Q : Exit → Act → World → Prop} {w0 : World} {T : Array Value} {L : LR1} (H : HR1 w0 T L) : StepAt Tryz.prog Q oR1 (InvR1 w0 T L) 8 := by
  intro listed a wl o ho h0 hall ⟨b3, hls, V, K, hd, hb, hw⟩
  have hsz : a.tmps.size = 66 := K.1.trans H.hTs
  conv at ho => lhs; whnf
  injection ho with ho
  conv at ho => lhs; whnf
  subst ho
  refine want_any rfl ?_
  have g1 : a.tmps.getD 1 undef = .pointer (some ⟨L.wb, 0, none⟩) := (K.get 1 (by kernel_rfl)).trans H.hT1
  go_simp
  exact ⟨b3, by simpa using hls, V.lay (k := 8) (d := 14) (by kernel_rfl) (by kernel_rfl) (by rw [hsz]; decide), K.lay (k := 8) (by kernel_rfl) _, (by first | rfl | exact hd), hb, by rw [getD_ne _ (by decide), getD_ne _ (by decide)]; exact hw⟩
set_option maxHeartbeats 1000000 in
set_option maxRecDepth 100000 in
theorem opR1_9 {Q : Exit → Act → World → Prop} {w0 : World} {T : Array Value} {L : LR1} (H : HR1 w0 T L) : StepAt Tryz.prog Q oR1 (InvR1 w0 T L) 9 := by
  intro listed a wl o ho h0 hall ⟨b3, hls, V, K, hd, hb, hw⟩
  have hsz : a.tmps.size = 66 := K.1.trans H.hTs
  conv at ho => lhs; whnf
  injection ho with ho
  conv at ho => lhs; whnf
  subst ho
  refine want_any rfl ?_
  have g14 : a.tmps.getD 14 undef = .pointer (some ⟨L.wb, 5, none⟩) := V.at (k := 8) (by kernel_rfl) (by kernel_rfl) (up hall (by kernel_rfl))
  have c0 : wl.cell? ⟨L.wb, 5, none⟩ = some (.int .i64 3) := (H.HF.out _ hb).c5
  go_simp
  exact ⟨b3, by simpa using hls, V.lay (k := 9) (d := 15) (by kernel_rfl) (by kernel_rfl) (by rw [hsz]; decide), K.lay (k := 9) (by kernel_rfl) _, (by first | rfl | exact hd), hb, by rw [getD_ne _ (by decide), getD_ne _ (by decide)]; exact hw⟩
set_option maxHeartbeats 1000000 in
set_option maxRecDepth 100000 in
theorem opR1_10 {Q : Exit → Act → World → Prop} {w0 : World} {T : Array Value} {L : LR1} (H : HR1 w0 T L) : StepAt Tryz.prog Q oR1 (InvR1 w0 T L) 10 := by
  intro listed a wl o ho h0 hall ⟨b3, hls, V, K, hd, hb, hw⟩
  have hsz : a.tmps.size = 66 := K.1.trans H.hTs
  conv at ho => lhs; whnf
  injection ho with ho
  conv at ho => lhs; whnf
  subst ho
  refine want_any rfl ?_
  have g1 : a.tmps.getD 1 undef = .pointer (some ⟨L.wb, 0, none⟩) := (K.get 1 (by kernel_rfl)).trans H.hT1
  go_simp
  exact ⟨b3, by simpa using hls, V.lay (k := 10) (d := 16) (by kernel_rfl) (by kernel_rfl) (by rw [hsz]; decide), K.lay (k := 10) (by kernel_rfl) _, (by first | rfl | exact hd), hb, by rw [getD_ne _ (by decide), getD_ne _ (by decide)]; exact hw⟩
set_option maxHeartbeats 1000000 in
set_option maxRecDepth 100000 in
theorem opR1_11 {Q : Exit → Act → World → Prop} {w0 : World} {T : Array Value} {L : LR1} (H : HR1 w0 T L) : StepAt Tryz.prog Q oR1 (InvR1 w0 T L) 11 := by
  intro listed a wl o ho h0 hall ⟨b3, hls, V, K, hd, hb, hw⟩
  have hsz : a.tmps.size = 66 := K.1.trans H.hTs
  conv at ho => lhs; whnf
  injection ho with ho
  conv at ho => lhs; whnf
  subst ho
  refine want_any rfl ?_
  have g16 : a.tmps.getD 16 undef = .pointer (some ⟨L.wb, 8, none⟩) := V.at (k := 10) (by kernel_rfl) (by kernel_rfl) (up hall (by kernel_rfl))
  have c0 : wl.cell? ⟨L.wb, 8, none⟩ = some (.slice none 0 0) := (H.HF.out _ hb).c8
  go_simp
  exact ⟨b3, by simpa using hls, V.lay (k := 11) (d := 17) (by kernel_rfl) (by kernel_rfl) (by rw [hsz]; decide), K.lay (k := 11) (by kernel_rfl) _, (by first | rfl | exact hd), hb, by rw [getD_ne _ (by decide), getD_ne _ (by decide)]; exact hw⟩
set_option maxHeartbeats 1000000 in
set_option maxRecDepth 100000 in
theorem opR1_12 {Q : Exit → Act → World → Prop} {w0 : World} {T : Array Value} {L : LR1} (H : HR1 w0 T L) : StepAt Tryz.prog Q oR1 (InvR1 w0 T L) 12 := by
  intro listed a wl o ho h0 hall ⟨b3, hls, V, K, hd, hb, hw⟩
  have hsz : a.tmps.size = 66 := K.1.trans H.hTs
  conv at ho => lhs; whnf
  injection ho with ho
  conv at ho => lhs; whnf
  subst ho
  refine want_any rfl ?_
  have g1 : a.tmps.getD 1 undef = .pointer (some ⟨L.wb, 0, none⟩) := (K.get 1 (by kernel_rfl)).trans H.hT1
  go_simp
  exact ⟨b3, by simpa using hls, V.lay (k := 12) (d := 18) (by kernel_rfl) (by kernel_rfl) (by rw [hsz]; decide), K.lay (k := 12) (by kernel_rfl) _, (by first | rfl | exact hd), hb, by rw [getD_ne _ (by decide), getD_ne _ (by decide)]; exact hw⟩
set_option maxHeartbeats 1000000 in
set_option maxRecDepth 100000 in
theorem opR1_13 {Q : Exit → Act → World → Prop} {w0 : World} {T : Array Value} {L : LR1} (H : HR1 w0 T L) : StepAt Tryz.prog Q oR1 (InvR1 w0 T L) 13 := by
  intro listed a wl o ho h0 hall ⟨b3, hls, V, K, hd, hb, hw⟩
  have hsz : a.tmps.size = 66 := K.1.trans H.hTs
  conv at ho => lhs; whnf
  injection ho with ho
  conv at ho => lhs; whnf
  subst ho
  refine want_any rfl ?_
  have g18 : a.tmps.getD 18 undef = .pointer (some ⟨L.wb, 9, none⟩) := V.at (k := 12) (by kernel_rfl) (by kernel_rfl) (up hall (by kernel_rfl))
  have c0 : wl.cell? ⟨L.wb, 9, none⟩ = some (.slice none 0 0) := (H.HF.out _ hb).c9
  go_simp
  exact ⟨b3, by simpa using hls, V.lay (k := 13) (d := 19) (by kernel_rfl) (by kernel_rfl) (by rw [hsz]; decide), K.lay (k := 13) (by kernel_rfl) _, (by first | rfl | exact hd), hb, by rw [getD_ne _ (by decide), getD_ne _ (by decide)]; exact hw⟩
set_option maxHeartbeats 1000000 in
set_option maxRecDepth 100000 in
theorem opR1_14 {Q : Exit → Act → World → Prop} {w0 : World} {T : Array Value} {L : LR1} (H : HR1 w0 T L) : StepAt Tryz.prog Q oR1 (InvR1 w0 T L) 14 := by
  intro listed a wl o ho h0 hall ⟨b3, hls, V, K, hd, hb, hw⟩
  have hsz : a.tmps.size = 66 := K.1.trans H.hTs
  conv at ho => lhs; whnf
  injection ho with ho
  conv at ho => lhs; whnf
  subst ho
  refine want_any rfl ?_
  have g1 : a.tmps.getD 1 undef = .pointer (some ⟨L.wb, 0, none⟩) := (K.get 1 (by kernel_rfl)).trans H.hT1
  go_simp
  exact ⟨b3, by simpa using hls, V.lay (k := 14) (d := 20) (by kernel_rfl) (by kernel_rfl) (by rw [hsz]; decide), K.lay (k := 14) (by kernel_rfl) _, (by first | rfl | exact hd), hb, by rw [getD_ne _ (by decide), getD_ne _ (by decide)]; exact hw⟩
set_option maxHeartbeats 1000000 in
set_option maxRecDepth 100000 in
theorem opR1_15 {Q : Exit → Act → World → Prop} {w0 : World} {T : Array Value} {L : LR1} (H : HR1 w0 T L) : StepAt Tryz.prog Q oR1 (InvR1 w0 T L) 15 := by
  intro listed a wl o ho h0 hall ⟨b3, hls, V, K, hd, hb, hw⟩
  have hsz : a.tmps.size = 66 := K.1.trans H.hTs
  conv at ho => lhs; whnf
  injection ho with ho
  conv at ho => lhs; whnf
  subst ho
  refine want_any rfl ?_
  have g20 : a.tmps.getD 20 undef = .pointer (some ⟨L.wb, 10, none⟩) := V.at (k := 14) (by kernel_rfl) (by kernel_rfl) (up hall (by kernel_rfl))
  have c0 : wl.cell? ⟨L.wb, 10, none⟩ = some (.slice none 0 0) := (H.HF.out _ hb).c10
  go_simp
  exact ⟨b3, by simpa using hls, V.lay (k := 15) (d := 21) (by kernel_rfl) (by kernel_rfl) (by rw [hsz]; decide), K.lay (k := 15) (by kernel_rfl) _, (by first | rfl | exact hd), hb, by rw [getD_ne _ (by decide), getD_ne _ (by decide)]; exact hw⟩
set_option maxHeartbeats 1000000 in
set_option maxRecDepth 100000 in
theorem opR1_16 {Q : Exit → Act → World → Prop} {w0 : World} {T : Array Value} {L : LR1} (H : HR1 w0 T L) : StepAt Tryz.prog Q oR1 (InvR1 w0 T L) 16 := by
  intro listed a wl o ho h0 hall ⟨b3, hls, V, K, hd, hb, hw⟩
  have hsz : a.tmps.size = 66 := K.1.trans H.hTs
  conv at ho => lhs; whnf
  injection ho with ho
  conv at ho => lhs; whnf
  subst ho
  refine want_any rfl ?_
  have g1 : a.tmps.getD 1 undef = .pointer (some ⟨L.wb, 0, none⟩) := (K.get 1 (by kernel_rfl)).trans H.hT1
  go_simp
  exact ⟨b3, by simpa using hls, V.lay (k := 16) (d := 22) (by kernel_rfl) (by kernel_rfl) (by rw [hsz]; decide), K.lay (k := 16) (by kernel_rfl) _, (by first | rfl | exact hd), hb, by rw [getD_ne _ (by decide), getD_ne _ (by decide)]; exact hw⟩
set_option maxHeartbeats 1000000 in
set_option maxRecDepth 100000 in
theorem opR1_17 {Q : Exit → Act → World → Prop} {w0 : World} {T : Array Value} {L : LR1} (H : HR1 w0 T L) : StepAt Tryz.prog Q oR1 (InvR1 w0 T L) 17 := by
  intro listed a wl o ho h0 hall ⟨b3, hls, V, K, hd, hb, hw⟩
  have hsz : a.tmps.size = 66 := K.1.trans H.hTs
  conv at ho => lhs; whnf
  injection ho with ho
  conv at ho => lhs; whnf
  subst ho
  refine want_any rfl ?_
  have g22 : a.tmps.getD 22 undef = .pointer (some ⟨L.wb, 11, none⟩) := V.at (k := 16) (by kernel_rfl) (by kernel_rfl) (up hall (by kernel_rfl))
  have c0 : wl.cell? ⟨L.wb, 11, none⟩ = some (.slice none 0 0) := (H.HF.out _ hb).c11
  go_simp
  exact ⟨b3, by simpa using hls, V.lay (k := 17) (d := 23) (by kernel_rfl) (by kernel_rfl) (by rw [hsz]; decide), K.lay (k := 17) (by kernel_rfl) _, (by first | rfl | exact hd), hb, by rw [getD_ne _ (by decide), getD_ne _ (by decide)]; exact hw⟩
set_option maxHeartbeats 1000000 in
set_option maxRecDepth 100000 in
theorem opR1_18 {Q : Exit → Act → World → Prop} {w0 : World} {T : Array Value} {L : LR1} (H : HR1 w0 T L) : StepAt Tryz.prog Q oR1 (InvR1 w0 T L) 18 := by
  intro listed a wl o ho h0 hall ⟨b3, hls, V, K, hd, hb, hw⟩
  have hsz : a.tmps.size = 66 := K.1.trans H.hTs
  conv at ho => lhs; whnf
  injection ho with ho
  conv at ho => lhs; whnf
  subst ho
  refine want_any rfl ?_
  have g1 : a.tmps.getD 1 undef = .pointer (some ⟨L.wb, 0, none⟩) := (K.get 1 (by kernel_rfl)).trans H.hT1
  go_simp
  exact ⟨b3, by simpa using hls, V.lay (k := 18) (d := 24) (by kernel_rfl) (by kernel_rfl) (by rw [hsz]; decide), K.lay (k := 18) (by kernel_rfl) _, (by first | rfl | exact hd), hb, by rw [getD_ne _ (by decide), getD_ne _ (by decide)]; exact hw⟩
set_option maxHeartbeats 1000000 in
set_option maxRecDepth 100000 in
theorem opR1_19 {Q : Exit → Act → World → Prop} {w0 : World} {T : Array Value} {L : LR1} (H : HR1 w0 T L) : StepAt Tryz.prog Q oR1 (InvR1 w0 T L) 19 := by
  intro listed a wl o ho h0 hall ⟨b3, hls, V, K, hd, hb, hw⟩
  have hsz : a.tmps.size = 66 := K.1.trans H.hTs
  conv at ho => lhs; whnf
  injection ho with ho
  conv at ho => lhs; whnf
  subst ho
  refine want_any rfl ?_
  have g24 : a.tmps.getD 24 undef = .pointer (some ⟨L.wb, 12, none⟩) := V.at (k := 18) (by kernel_rfl) (by kernel_rfl) (up hall (by kernel_rfl))
  have c0 : wl.cell? ⟨L.wb, 12, none⟩ = some (.slice none 0 0) := (H.HF.out _ hb).c12
  go_simp
  exact ⟨b3, by simpa using hls, V.lay (k := 19) (d := 25) (by kernel_rfl) (by kernel_rfl) (by rw [hsz]; decide), K.lay (k := 19) (by kernel_rfl) _, (by first | rfl | exact hd), hb, by rw [getD_ne _ (by decide), getD_ne _ (by decide)]; exact hw⟩
set_option maxHeartbeats 1000000 in
set_option maxRecDepth 100000 in
theorem opR1_20 {Q : Exit → Act → World → Prop} {w0 : World} {T : Array Value} {L : LR1} (H : HR1 w0 T L) : StepAt Tryz.prog Q oR1 (InvR1 w0 T L) 20 := by
  intro listed a wl o ho h0 hall ⟨b3, hls, V, K, hd, hb, hw⟩
  have hsz : a.tmps.size = 66 := K.1.trans H.hTs
  conv at ho => lhs; whnf
  injection ho with ho
  conv at ho => lhs; whnf
  subst ho
  refine want_any rfl ?_
  have g1 : a.tmps.getD 1 undef = .pointer (some ⟨L.wb, 0, none⟩) := (K.get 1 (by kernel_rfl)).trans H.hT1
  go_simp
  exact ⟨b3, by simpa using hls, V.lay (k := 20) (d := 26) (by kernel_rfl) (by kernel_rfl) (by rw [hsz]; decide), K.lay (k := 20) (by kernel_rfl) _, (by first | rfl | exact hd), hb, by rw [getD_ne _ (by decide), getD_ne _ (by decide)]; exact hw⟩
set_option maxHeartbeats 1000000 in
set_option maxRecDepth 100000 in
theorem opR1_21 {Q : Exit → Act → World → Prop} {w0 : World} {T : Array Value} {L : LR1} (H : HR1 w0 T L) : StepAt Tryz.prog Q oR1 (InvR1 w0 T L) 21 := by
  intro listed a wl o ho h0 hall ⟨b3, hls, V, K, hd, hb, hw⟩
  have hsz : a.tmps.size = 66 := K.1.trans H.hTs
  conv at ho => lhs; whnf
  injection ho with ho
  conv at ho => lhs; whnf
  subst ho
  refine want_any rfl ?_
  have g26 : a.tmps.getD 26 undef = .pointer (some ⟨L.wb, 14, none⟩) := V.at (k := 20) (by kernel_rfl) (by kernel_rfl) (up hall (by kernel_rfl))
  have c0 : wl.cell? ⟨L.wb, 14, none⟩ = some (.slice none 0 0) := (H.HF.out _ hb).c14
  go_simp
  exact ⟨b3, by simpa using hls, V.lay (k := 21) (d := 27) (by kernel_rfl) (by kernel_rfl) (by rw [hsz]; decide), K.lay (k := 21) (by kernel_rfl) _, (by first | rfl | exact hd), hb, by rw [getD_ne _ (by decide), getD_ne _ (by decide)]; exact hw⟩
set_option maxHeartbeats 1000000 in
set_option maxRecDepth 100000 in
theorem opR1_22 {Q : Exit → Act → World → Prop} {w0 : World} {T : Array Value} {L : LR1} (H : HR1 w0 T L) : StepAt Tryz.prog Q oR1 (InvR1 w0 T L) 22 := by
  intro listed a wl o ho h0 hall ⟨b3, hls, V, K, hd, hb, hw⟩
  have hsz : a.tmps.size = 66 := K.1.trans H.hTs
  conv at ho => lhs; whnf
  injection ho with ho
  conv at ho => lhs; whnf
  subst ho
  refine want_any rfl ?_
  have g1 : a.tmps.getD 1 undef = .pointer (some ⟨L.wb, 0, none⟩) := (K.get 1 (by kernel_rfl)).trans H.hT1
  go_simp
  exact ⟨b3, by simpa using hls, V.lay (k := 22) (d := 28) (by kernel_rfl) (by kernel_rfl) (by rw [hsz]; decide), K.lay (k := 22) (by kernel_rfl) _, (by first | rfl | exact hd), hb, by rw [getD_ne _ (by decide), getD_ne _ (by decide)]; exact hw⟩
set_option maxHeartbeats 1000000 in
set_option maxRecDepth 100000 in
theorem opR1_23 {Q : Exit → Act → World → Prop} {w0 : World} {T : Array Value} {L : LR1} (H : HR1 w0 T L) : StepAt Tryz.prog Q oR1 (InvR1 w0 T L) 23 := by
  intro listed a wl o ho h0 hall ⟨b3, hls, V, K, hd, hb, hw⟩
  have hsz : a.tmps.size = 66 := K.1.trans H.hTs
  conv at ho => lhs; whnf
  injection ho with ho
  conv at ho => lhs; whnf
  subst ho
  refine want_any rfl ?_
  have g28 : a.tmps.getD 28 undef = .pointer (some ⟨L.wb, 15, none⟩) := V.at (k := 22) (by kernel_rfl) (by kernel_rfl) (up hall (by kernel_rfl))
  have c0 : wl.cell? ⟨L.wb, 15, none⟩ = some (.slice none 0 0) := (H.HF.out _ hb).c15
  go_simp
  exact ⟨b3, by simpa using hls, V.lay (k := 23) (d := 29) (by kernel_rfl) (by kernel_rfl) (by rw [hsz]; decide), K.lay (k := 23) (by kernel_rfl) _, (by first | rfl | exact hd), hb, by rw [getD_ne _ (by decide), getD_ne _ (by decide)]; exact hw⟩
set_option maxHeartbeats 1000000 in
set_option maxRecDepth 100000 in
theorem opR1_24 {Q : Exit → Act → World → Prop} {w0 : World} {T : Array Value} {L : LR1} (H : HR1 w0 T L) : StepAt Tryz.prog Q oR1 (InvR1 w0 T L) 24 := by
  intro listed a wl o ho h0 hall ⟨b3, hls, V, K, hd, hb, hw⟩
  have hsz : a.tmps.size = 66 := K.1.trans H.hTs
  conv at ho => lhs; whnf
  injection ho with ho
  conv at ho => lhs; whnf
  subst ho
  refine want_any rfl ?_
  have g1 : a.tmps.getD 1 undef = .pointer (some ⟨L.wb, 0, none⟩) := (K.get 1 (by kernel_rfl)).trans H.hT1
  go_simp
  exact ⟨b3, by simpa using hls, V.lay (k := 24) (d := 30) (by kernel_rfl) (by kernel_rfl) (by rw [hsz]; decide), K.lay (k := 24) (by kernel_rfl) _, (by first | rfl | exact hd), hb, by rw [getD_ne _ (by decide), getD_ne _ (by decide)]; exact hw⟩
set_option maxHeartbeats 1000000 in
set_option maxRecDepth 100000 in
theorem opR1_25 {Q : Exit → Act → World → Prop} {w0 : World} {T : Array Value} {L : LR1} (H : HR1 w0 T L) : StepAt Tryz.prog Q oR1 (InvR1 w0 T L) 25 := by
  intro listed a wl o ho h0 hall ⟨b3, hls, V, K, hd, hb, hw⟩
  have hsz : a.tmps.size = 66 := K.1.trans H.hTs
  conv at ho => lhs; whnf
  injection ho with ho
  conv at ho => lhs; whnf
  subst ho
  refine want_any rfl ?_
  have g30 : a.tmps.getD 30 undef = .pointer (some ⟨L.wb, 16, none⟩) := V.at (k := 24) (by kernel_rfl) (by kernel_rfl) (up hall (by kernel_rfl))
  have c0 : wl.cell? ⟨L.wb, 16, none⟩ = some (.slice none 0 0) := (H.HF.out _ hb).c16
  go_simp
  exact ⟨b3, by simpa using hls, V.lay (k := 25) (d := 31) (by kernel_rfl) (by kernel_rfl) (by rw [hsz]; decide), K.lay (k := 25) (by kernel_rfl) _, (by first | rfl | exact hd), hb, by rw [getD_ne _ (by decide), getD_ne _ (by decide)]; exact hw⟩
set_option maxHeartbeats 1000000 in
set_option maxRecDepth 100000 in
theorem opR1_26 {Q : Exit → Act → World → Prop} {w0 : World} {T : Array Value} {L : LR1} (H : HR1 w0 T L) : StepAt Tryz.prog Q oR1 (InvR1 w0 T L) 26 := by
  intro listed a wl o ho h0 hall ⟨b3, hls, V, K, hd, hb, hw⟩
  have hsz : a.tmps.size = 66 := K.1.trans H.hTs
  conv at ho => lhs; whnf
  injection ho with ho
  conv at ho => lhs; whnf
  subst ho
  refine want_any rfl ?_
  have g1 : a.tmps.getD 1 undef = .pointer (some ⟨L.wb, 0, none⟩) := (K.get 1 (by kernel_rfl)).trans H.hT1
  go_simp
  exact ⟨b3, by simpa using hls, V.lay (k := 26) (d := 32) (by kernel_rfl) (by kernel_rfl) (by rw [hsz]; decide), K.lay (k := 26) (by kernel_rfl) _, (by first | rfl | exact hd), hb, by rw [getD_ne _ (by decide), getD_ne _ (by decide)]; exact hw⟩
set_option maxHeartbeats 1000000 in
set_option maxRecDepth 100000 in
theorem opR1_27 {Q : Exit → Act → World → Prop} {w0 : World} {T : Array Value} {L : LR1} (H : HR1 w0 T L) : StepAt Tryz.prog Q oR1 (InvR1 w0 T L) 27 := by
  intro listed a wl o ho h0 hall ⟨b3, hls, V, K, hd, hb, hw⟩
  have hsz : a.tmps.size = 66 := K.1.trans H.hTs
  conv at ho => lhs; whnf
  injection ho with ho
  conv at ho => lhs; whnf
  subst ho
  refine want_any rfl ?_
  have g32 : a.tmps.getD 32 undef = .pointer (some ⟨L.wb, 17, none⟩) := V.at (k := 26) (by kernel_rfl) (by kernel_rfl) (up hall (by kernel_rfl))
  have c0 : wl.cell? ⟨L.wb, 17, none⟩ = some (.slice none 0 0) := (H.HF.out _ hb).c17
  go_simp
  exact ⟨b3, by simpa using hls, V.lay (k := 27) (d := 33) (by kernel_rfl) (by kernel_rfl) (by rw [hsz]; decide), K.lay (k := 27) (by kernel_rfl) _, (by first | rfl | exact hd), hb, by rw [getD_ne _ (by decide), getD_ne _ (by decide)]; exact hw⟩
set_option maxHeartbeats 1000000 in
set_option maxRecDepth 100000 in
theorem opR1_28 {Q : Exit → Act → World → Prop} {w0 : World} {T : Array Value} {L : LR1} (H : HR1 w0 T L) : StepAt Tryz.prog Q oR1 (InvR1 w0 T L) 28 := by
  intro listed a wl o ho h0 hall ⟨b3, hls, V, K, hd, hb, hw⟩
  have hsz : a.tmps.size = 66 := K.1.trans H.hTs
  conv at ho => lhs; whnf
  injection ho with ho
  conv at ho => lhs; whnf
  subst ho
  refine want_any rfl ?_
  have g8 : a.tmps.getD 8 undef = .int .i64 3 := V.at (k := 2) (by kernel_rfl) (by kernel_rfl) (up hall (by kernel_rfl))
  have g10 : a.tmps.getD 10 undef = .int .i64 0 := V.at (k := 4) (by kernel_rfl) (by kernel_rfl) (up hall (by kernel_rfl))
  have g13 : a.tmps.getD 13 undef = .agg #[.int .i64 0, .int .i64 0] := V.at (k := 7) (by kernel_rfl) (by kernel_rfl) (up hall (by kernel_rfl))
  have g15 : a.tmps.getD 15 undef = .int .i64 3 := V.at (k := 9) (by kernel_rfl) (by kernel_rfl) (up hall (by kernel_rfl))
  have g17 : a.tmps.getD 17 undef = .slice none 0 0 := V.at (k := 11) (by kernel_rfl) (by kernel_rfl) (up hall (by kernel_rfl))
  have g19 : a.tmps.getD 19 undef = .slice none 0 0 := V.at (k := 13) (by kernel_rfl) (by kernel_rfl) (up hall (by kernel_rfl))
  have g21 : a.tmps.getD 21 undef = .slice none 0 0 := V.at (k := 15) (by kernel_rfl) (by kernel_rfl) (up hall (by kernel_rfl))
  have g23 : a.tmps.getD 23 undef = .slice none 0 0 := V.at (k := 17) (by kernel_rfl) (by kernel_rfl) (up hall (by kernel_rfl))
  have g25 : a.tmps.getD 25 undef = .slice none 0 0 := V.at (k := 19) (by kernel_rfl) (by kernel_rfl) (up hall (by kernel_rfl))
  have g27 : a.tmps.getD 27 undef = .slice none 0 0 := V.at (k := 21) (by kernel_rfl) (by kernel_rfl) (up hall (by kernel_rfl))
  have g29 : a.tmps.getD 29 undef = .slice none 0 0 := V.at (k := 23) (by kernel_rfl) (by kernel_rfl) (up hall (by kernel_rfl))
  have g31 : a.tmps.getD 31 undef = .slice none 0 0 := V.at (k := 25) (by kernel_rfl) (by kernel_rfl) (up hall (by kernel_rfl))
  have g33 : a.tmps.getD 33 undef = .slice none 0 0 := V.at (k := 27) (by kernel_rfl) (by kernel_rfl) (up hall (by kernel_rfl))
  refine wp_build 64 _ #[(0, .int .i64 3), (2, .int .i64 0), (3, .agg #[.int .i64 0, .int .i64 0]), (4, .int .i64 3), (6, .slice none 0 0), (7, .slice none 0 0), (8, .slice none 0 0), (9, .slice none 0 0), (10, .slice none 0 0), (12, .slice none 0 0), (13, .slice none 0 0), (14, .slice none 0 0), (15, .slice none 0 0)] rfl #[.int .i64 3, .int .i64 0, .int .i64 0, .int .i64 0, .int .i64 0, .int .i64 0, .int .i64 3, .int .i64 0, .int .i64 0, .slice none 0 0, .slice none 0 0, .slice none 0 0, .slice none 0 0, .slice none 0 0, .slice none 0 0, .slice none 0 0, .slice none 0 0, .slice none 0 0, .slice none 0 0] (by simp only [List.map_toArray, List.map_cons, List.map_nil, Act.eval, g8, g10, g13, g15, g17, g19, g21, g23, g25, g27, g29, g31, g33]) (by kernel_rfl) ?_
  exact ⟨b3, by simpa using hls, V.lay (k := 28) (d := 34) (by kernel_rfl) (by kernel_rfl) (by rw [hsz]; decide), K.lay (k := 28) (by kernel_rfl) _, (by first | rfl | exact hd), hb, by rw [getD_ne _ (by decide), getD_ne _ (by decide)]; exact hw⟩
set_option maxHeartbeats 1000000 in
set_option maxRecDepth 100000 in
theorem opR1_29 {Q : Exit → Act → World → Prop} {w0 : World} {T : Array Value} {L : LR1} (H : HR1 w0 T L) : StepAt Tryz.prog Q oR1 (InvR1 w0 T L) 29 := by
  intro listed a wl o ho h0 hall ⟨b3, hls, V, K, hd, hb, hw⟩
  have hsz : a.tmps.size = 66 := K.1.trans H.hTs
  conv at ho => lhs; whnf
  injection ho with ho
  conv at ho => lhs; whnf
  subst ho
  refine want_any rfl ?_
  have h30 : listed.getD 30 false = false := by
    cases h : listed.getD 30 false with
    | false => rfl
    | true => have := hw.1 h; rw [unlisted h0] at this; cases this
  go_simp
  have V2 : VI oR1 (valR1 L wl.heap.size) listed a.tmps := V.re fun k o d ho hd hl => by
    by_cases e : d = 3
    · subst e
      have := dst_only (ops := oR1) (k := 29) (by kernel_rfl) ho hd
      subst this; rw [unlisted h0] at hl; cases hl
    · unfold valR1; rw [if_neg e, if_neg e]
  exact ⟨wl.heap.size, by simpa using hls, V2.lay (k := 29) (d := 3) (by kernel_rfl) (by kernel_rfl) (by rw [hsz]; decide), K.lay (k := 29) (by kernel_rfl) _, (by first | rfl | exact hd), hb.alloc hb.size _, by rw [getD_ne _ (by decide), h30]; exact ⟨fun h => (by cases h), fun _ => ⟨hb.size, fun _ => ⟨64, heap_alloc_new _ _⟩, fun h => (by cases h)⟩⟩⟩
set_option maxHeartbeats 1000000 in
set_option maxRecDepth 100000 in
theorem opR1_30 {Q : Exit → Act → World → Prop} {w0 : World} {T : Array Value} {L : LR1} (H : HR1 w0 T L) : StepAt Tryz.prog Q oR1 (InvR1 w0 T L) 30 := by
  intro listed a wl o ho h0 hall ⟨b3, hls, V, K, hd, hb, hw⟩
  have hsz : a.tmps.size = 66 := K.1.trans H.hTs
  conv at ho => lhs; whnf
  injection ho with ho
  conv at ho => lhs; whnf
  subst ho
  refine want_any rfl ?_
  have l29 : listed.getD 29 false = true := up hall (by kernel_rfl)
  have hBz := (hw.2 l29).2.1 (unlisted h0)
  have g3 : a.tmps.getD 3 undef = .pointer (some ⟨b3, 0, none⟩) := V.at (k := 29) (by kernel_rfl) (by kernel_rfl) l29
  have g34 : a.tmps.getD 34 undef = .agg #[.int .i64 3, .int .i64 0, .int .i64 0, .int .i64 0, .int .i64 0, .int .i64 0, .int .i64 3, .int .i64 0, .int .i64 0, .slice none 0 0, .slice none 0 0, .slice none 0 0, .slice none 0 0, .slice none 0 0, .slice none 0 0, .slice none 0 0, .slice none 0 0, .slice none 0 0, .slice none 0 0] := V.at (k := 28) (by kernel_rfl) (by kernel_rfl) (up hall (by kernel_rfl))
  have hst := hBz.stored (cells := #[.int .i64 3, .int .i64 0, .int .i64 0, .int .i64 0, .int .i64 0, .int .i64 0, .int .i64 3, .int .i64 0, .int .i64 0, .slice none 0 0, .slice none 0 0, .slice none 0 0, .slice none 0 0, .slice none 0 0, .slice none 0 0, .slice none 0 0, .slice none 0 0, .slice none 0 0, .slice none 0 0]) rfl
  refine wp_store_mid 64 (.tmp 3) (.tmp 34) rfl b3 0 #[.int .i64 3, .int .i64 0, .int .i64 0, .int .i64 0, .int .i64 0, .int .i64 0, .int .i64 3, .int .i64 0, .int .i64 0, .slice none 0 0, .slice none 0 0, .slice none 0 0, .slice none 0 0, .slice none 0 0, .slice none 0 0, .slice none 0 0, .slice none 0 0, .slice none 0 0, .slice none 0 0] g3 g34 (hBz.there _ rfl) (by kernel_rfl) (by simp [Value.oneCell']) ?_
  exact ⟨b3, by simpa using hls, V.pass (k := 30) (by kernel_rfl), K, hd, hb.trans (hst.2.own (hw.2 l29).1 hb.size),
    ⟨fun _ => (getD_ne listed (k := 30) (j := 29) (by decide) false).trans l29, fun _ => ⟨(hw.2 l29).1, fun h => (by have h2 := getD_self listed 30 h0; rw [h2] at h; cases h), fun _ => hst.1⟩⟩⟩
set_option maxHeartbeats 4000000 in
set_option maxRecDepth 100000 in
theorem regionR1 {Q : Exit → Act → World → Prop} (id : Nat) (w0 : World) (T : Array Value) (L : LR1) (H : HR1 w0 T L)
    (hQ : ∀ (t : Array Value) (wl : World) (b3 : Nat), t.size = 66 → t.getD 0 undef = .agg (rA.cells PV.nil) → t.getD 1 undef = .pointer (some ⟨L.wb, 0, none⟩) → t.getD 2 undef = .pointer (some ⟨L.wb + 1, 0, none⟩) → t.getD 3 undef = .pointer (some ⟨b3, 0, none⟩) → Below w0.heap.size w0 wl → w0.heap.size ≤ b3 → Block wl b3 #[.int .i64 3, .int .i64 0, .int .i64 0, .int .i64 0, .int .i64 0, .int .i64 0, .int .i64 3, .int .i64 0, .int .i64 0, .slice none 0 0, .slice none 0 0, .slice none 0 0, .slice none 0 0, .slice none 0 0, .slice none 0 0, .slice none 0 0, .slice none 0 0, .slice none 0 0, .slice none 0 0] → Q .normal ⟨t, []⟩ wl) :
    (Code.region id oR1 true).wp Tryz.prog Q ⟨T, []⟩ w0 := by
  have hz : oR1.size = 31 := by kernel_rfl
  refine region_steps (by kernel_rfl) (InvR1 w0 T L) ⟨w0.heap.size, by simp; rfl, VI.start _ _ _, KI.start _, rfl, (Below.refl _ _).drew, fun h => (unrep h).elim, fun h => (unrep h).elim⟩ ?_ 31 hz ?_
  · intro listed a wl hr ⟨b3, hls, V, K, hd, hb, hw⟩
    have ha := all_listed (ops := oR1) (by kernel_rfl) (hls.trans hz.symm) hr
    obtain ⟨t, df⟩ := a
    change df = [] at hd
    subst hd
    exact hQ t wl b3 (K.1.trans H.hTs) ((K.get 0 (by kernel_rfl)).trans H.hT0) ((K.get 1 (by kernel_rfl)).trans H.hT1) ((K.get 2 (by kernel_rfl)).trans H.hT2) (V.end ha (k := 29) (by kernel_rfl) (by kernel_rfl)) hb (hw.2 (ha 29 (by rw [hz]; decide))).1 ((hw.2 (ha 29 (by rw [hz]; decide))).2.2 (ha 30 (by rw [hz]; decide)))
  · intro k hk
    match k, hk with
    | 0, _ => exact opR1_0 H
    | 1, _ => exact opR1_1 H
    | 2, _ => exact opR1_2 H
    | 3, _ => exact opR1_3 H
    | 4, _ => exact opR1_4 H
    | 5, _ => exact opR1_5 H
    | 6, _ => exact opR1_6 H
    | 7, _ => exact opR1_7 H
    | 8, _ => exact opR1_8 H
    | 9, _ => exact opR1_9 H
    | 10, _ => exact opR1_10 H
    | 11, _ => exact opR1_11 H
    | 12, _ => exact opR1_12 H
    | 13, _ => exact opR1_13 H
    | 14, _ => exact opR1_14 H
    | 15, _ => exact opR1_15 H
    | 16, _ => exact opR1_16 H
    | 17, _ => exact opR1_17 H
    | 18, _ => exact opR1_18 H
    | 19, _ => exact opR1_19 H
    | 20, _ => exact opR1_20 H
    | 21, _ => exact opR1_21 H
    | 22, _ => exact opR1_22 H
    | 23, _ => exact opR1_23 H
    | 24, _ => exact opR1_24 H
    | 25, _ => exact opR1_25 H
    | 26, _ => exact opR1_26 H
    | 27, _ => exact opR1_27 H
    | 28, _ => exact opR1_28 H
    | 29, _ => exact opR1_29 H
    | 30, _ => exact opR1_30 H
    | k + 31, hk => exact absurd hk (by omega)
theorem lay66 (t : Array Value) (h : t.size = 66) {p0 p1 p2 p3 : Value} (h0 : t.getD 0 undef = p0) (h1 : t.getD 1 undef = p1) (h2 : t.getD 2 undef = p2) (h3 : t.getD 3 undef = p3) : ∃ u4 u5 u6 u7 u8 u9 u10 u11 u12 u13 u14 u15 u16 u17 u18 u19 u20 u21 u22 u23 u24 u25 u26 u27 u28 u29 u30 u31 u32 u33 u34 u35 u36 u37 u38 u39 u40 u41 u42 u43 u44 u45 u46 u47 u48 u49 u50 u51 u52 u53 u54 u55 u56 u57 u58 u59 u60 u61 u62 u63 u64 u65 : Value, t = (p0 :: p1 :: p2 :: p3 :: u4 :: u5 :: u6 :: u7 :: u8 :: u9 :: u10 :: u11 :: u12 :: u13 :: u14 :: u15 :: u16 :: u17 :: u18 :: u19 :: u20 :: u21 :: u22 :: u23 :: u24 :: u25 :: u26 :: u27 :: u28 :: u29 :: u30 :: u31 :: u32 :: u33 :: u34 :: u35 :: u36 :: u37 :: u38 :: u39 :: u40 :: u41 :: u42 :: u43 :: u44 :: u45 :: u46 :: u47 :: u48 :: u49 :: u50 :: u51 :: u52 :: u53 :: u54 :: u55 :: u56 :: u57 :: u58 :: u59 :: u60 :: u61 :: u62 :: u63 :: u64 :: u65 :: []).toArray := by
  subst h0 h1 h2 h3; exact ⟨_, _, _, _, _, _, _, _, _, _, _, _, _, _, _, _, _, _, _, _, _, _, _, _, _, _, _, _, _, _, _, _, _, _, _, _, _, _, _, _, _, _, _, _, _, _, _, _, _, _, _, _, _, _, _, _, _, _, _, _, _, _, laid t 66 h⟩
theorem zOpt_one2 : zOpt.size = 19 := rfl
set_option maxHeartbeats 4000000 in
set_option maxRecDepth 100000 in
theorem option_awake (w : World) :
    Calls Tryz.prog 28 #[.agg (rA.cells PV.nil)] w fun e w' => e = .returned (.agg (rA.icells PV.nil)) ∧ Below w.heap.size w w' := by
  have HB0 : Hid (Block ((w.alloc (.cells (rA.cells PV.nil) 32)).alloc (.cells zOpt 64)) w.heap.size (rA.cells PV.nil)) := (Block.alloc ⟨32, heap_alloc_new w _⟩ _ : Block _ _ _)
  have hb0 : Below w.heap.size w ((w.alloc (.cells (rA.cells PV.nil) 32)).alloc (.cells zOpt 64)) := ((Below.refl _ _).alloc (Nat.le_refl _) _).alloc (by simp) _
  have HB1 : Hid (Block ((w.alloc (.cells (rA.cells PV.nil) 32)).alloc (.cells zOpt 64)) (w.heap.size + 1) zOpt) := ⟨64, by simpa using heap_alloc_new (w.alloc (.cells (rA.cells PV.nil) 32)) (.cells zOpt 64)⟩
  have hsz : ((w.alloc (.cells (rA.cells PV.nil) 32)).alloc (.cells zOpt 64)).heap.size = w.heap.size + 2 := by simp
  unfold zOpt at HB0 HB1 hb0 hsz
  go_enter Tryz.func28, Tryz.ntmps28
  go_upto_region 1 with (refine Go.Great.wpList_boxTo rfl 32 (.tmp 0) rfl _ rfl w.heap.size rfl (rA.cells PV.nil) rfl ?_)
  generalize (w.alloc (.cells (rA.cells PV.nil) 32)).alloc (.cells _ 64) = w0 at *
  change Hid (Block w0 (w.heap.size + 1) zOpt) at HB1
  have HSZ := Lib.hid hsz; clear hsz
  have HF : Hid (∀ wl, Below w0.heap.size w0 wl → FR1 ⟨w.heap.size⟩ wl) := fun wl hb => by
    have h := HB0.out.below hb
    exact ⟨h.cell 0, h.cell 1, h.cell 2, h.cell 3, h.cell 4, h.cell 5, h.cell 6, h.cell 7, h.cell 8, h.cell 9, h.cell 10, h.cell 11, h.cell 12, h.cell 13, h.cell 14, h.cell 15, h.cell 16, h.cell 17⟩
  refine regionR1 _ w0 _ ⟨w.heap.size⟩ ⟨rfl, rfl, rfl, rfl, HF⟩ ?_
  intro t w1 b3 hts g0 g1 g2 g3 hb1 h3 hB3
  obtain ⟨u4, u5, u6, u7, u8, u9, u10, u11, u12, u13, u14, u15, u16, u17, u18, u19, u20, u21, u22, u23, u24, u25, u26, u27, u28, u29, u30, u31, u32, u33, u34, u35, u36, u37, u38, u39, u40, u41, u42, u43, u44, u45, u46, u47, u48, u49, u50, u51, u52, u53, u54, u55, u56, u57, u58, u59, u60, u61, u62, u63, u64, u65, rfl⟩ := lay66 t hts g0 g1 g2 g3
  clear g0 g1 g2 g3 hts
  have hF := HF.out w1 hb1
  have k1 := hF.c1; have k2 := hF.c2
  have HA1 := Lib.hid (HB0.out.below hb1); have HR1 := Lib.hid (HB1.out.below hb1)
  have hall : Below w.heap.size w w1 := hb0.trans (hb1.mono hb0.size)
  have h3w : w.heap.size + 1 < b3 := by have := HSZ.out; omega
  have HB3 := Lib.hid hB3
  clear HF hF HB0 HB1 hB3 hb0 hb1 h3
  have hN : ∀ wN, Below w1.heap.size w1 wN → wN.cell? ⟨b3, 1, none⟩ = some (.int .i64 0) ∧ wN.cell? ⟨b3, 2, none⟩ = some (.int .i64 0) ∧ wN.frozen? ⟨b3, 1, none⟩ = false ∧ wN.frozen? ⟨b3, 2, none⟩ = false := fun wN hb =>
    have h := HB3.out.below hb
    ⟨h.cell 1, h.cell 2, h.free 1, h.free 2⟩
  go_step
  go_upto_region 4 with (go_at_call 46; refine (Of_any 62999856000 _).mono ?_; rintro e wN ⟨rfl, hbx⟩; obtain ⟨z1, z2, z3, z4⟩ := hN _ hbx)
  have hbut : ButBelow b3 wN ((wN.setCell ⟨b3, 1, none⟩ (.int .i64 62999856000)).setCell ⟨b3, 2, none⟩ (.int .i64 0)) := ((ButBelow.refl b3 wN).setCell 1 _).setCell 2 _
  have hB4 : Block ((wN.setCell ⟨b3, 1, none⟩ (.int .i64 62999856000)).setCell ⟨b3, 2, none⟩ (.int .i64 0)) b3 (rA.icells PV.nil) := ((HB3.out.below hbx).set 1 (.int .i64 62999856000)).set 2 (.int .i64 0)
  generalize (wN.setCell ⟨b3, 1, none⟩ (.int .i64 62999856000)).setCell ⟨b3, 2, none⟩ (.int .i64 0) = w4 at *
  have HB4 := Lib.hid hB4
  have hA4 : Block w4 w.heap.size (rA.cells PV.nil) := (HA1.out.below hbx).but (by omega) hbut
  have HR4 := Lib.hid (show Block w4 (w.heap.size + 1) zOpt from (HR1.out.below hbx).but (by omega) hbut)
  have hall1 := hall.trans (hbx.mono hall.size)
  have hall4 : Below w.heap.size w w4 := hall1.trans (hbut.own (by omega) hall1.size)
  have k6 : w4.cell? ⟨w.heap.size, 6, none⟩ = some (.bool false) := hA4.cell 6
  have k13 : w4.cell? ⟨w.heap.size, 13, none⟩ = some (.slice none 0 0) := hA4.cell 13
  clear hB4 hA4 hbut hbx hall1 hall HB3 HA1 HR1 hN k1 k2
  go_wp2
  go_loopw [50] (fun i wr => i = .int .i64 0 ∧ wr = w4) (fun _ _ => 0)
  case atStart => exact ⟨rfl, rfl⟩
  case round =>
    obtain ⟨rfl, rfl⟩ := hrel
    go_wp2_with (first | ((with_reducible refine atl ?_); refine wpList_load_block rfl 64 (.tmp 3) rfl b3 (rA.icells PV.nil) rfl _ HB4.out Tryz.underlying64 rfl (by kernel_rfl) ?_; go_simp) | ((with_reducible refine atl ?_); refine wpList_store_block rfl 64 _ _ rfl (w.heap.size + 1) zOpt (rA.icells PV.nil) rfl rfl HR4.out rfl (by kernel_rfl) (by simp [PR.icells, PV.nil, vnil, Value.oneCell']) ?_; intro wz hBz hbbz))
    refine bodyPost_ret (v := .agg (rA.icells PV.nil)) (results_block Tryz.results28 _ _ (w.heap.size + 1) _ _ rfl hBz Tryz.underlying64 rfl (by kernel_rfl)) rfl ?_
    exact ⟨rfl, hall4.trans (hbbz.own (by omega) hall4.size)⟩
set_option maxHeartbeats 4000000 in
set_option maxRecDepth 100000 in
theorem OptionText_awake (w : World) (he : Env w) : Calls Tryz.prog 12 #[.agg (rA.cells PV.nil)] w fun e w' => e = .returned (.string ⟨#[68, 84, 83, 84, 65, 82, 84, 58, 49, 57, 57, 55, 48, 53, 50, 50, 84, 48, 48, 48, 48, 48, 48, 90, 10, 82, 82, 85, 76, 69, 58, 70, 82, 69, 81, 61, 68, 65, 73, 76, 89, 59, 67, 79, 85, 78, 84, 61, 51]⟩) ∧ Below w.heap.size w w' := by
  have HB0 : Hid (Block (w.alloc (.cells (rA.cells PV.nil) 32)) w.heap.size (rA.cells PV.nil)) := ⟨32, heap_alloc_new w _⟩
  have hb0 : Below w.heap.size w (w.alloc (.cells (rA.cells PV.nil) 32)) := (Below.refl _ _).alloc (Nat.le_refl _) _
  go_enter Tryz.func12, Tryz.ntmps12
  go_upto_region 1 with (refine Go.Great.wpList_boxTo rfl 32 (.tmp 0) rfl _ rfl w.heap.size rfl (rA.cells PV.nil) rfl ?_)
  generalize w.alloc (.cells (rA.cells PV.nil) 32) = w0 at *
  go_upto_region 2 with (first
    | ((with_reducible refine atl ?_); refine wpList_load_block rfl 32 (.tmp 1) rfl w.heap.size (rA.cells PV.nil) rfl _ HB0.out Tryz.underlying32 rfl (by kernel_rfl) ?_; go_simp)
    | (go_at_call 28; refine (option_awake _).mono ?_; rintro e w1 ⟨rfl, hbx⟩; have hall := hb0.trans (hbx.mono hb0.size); have HN := Lib.hid (show Block (w1.alloc (.cells zOpt 64)) w1.heap.size zOpt from ⟨64, heap_alloc_new w1 _⟩))
    | ((with_reducible refine atl ?_); refine wpList_store_block rfl 64 _ _ rfl w1.heap.size zOpt (rA.icells PV.nil) rfl rfl HN.out rfl (by kernel_rfl) (by simp [PR.icells, PV.nil, vnil, Value.oneCell']) ?_; intro wz hBz hbbz; go_simp))
  have hall2 : Below w.heap.size w wz := (hall.alloc hall.size _).trans (hbbz.own hall.size (by simp; have := hall.size; omega))
  go_wp2_with (go_at_call 29; refine (OString_awake _ _ (he.below hall2) hBz).mono ?_; rintro e wq ⟨rfl, hbq⟩)
  go_ret
  exact ⟨ret_str (by rfl), hall2.trans (hbq.mono hall2.size)⟩
end Go.Proofs.YthkgjhnckakliaaGreatDoorR

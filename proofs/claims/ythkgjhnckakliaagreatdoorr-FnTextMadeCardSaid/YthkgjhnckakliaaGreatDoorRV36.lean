/- rrule.StrToRRule and impl.ParseRule, impl.ParseOption, of any text of 2000 bytes.
  laws.textAwake: true.
  The drawing region at the end of laws.FnTextMade, in its three cases, by an invariant (printed by gen_awake.py).
  laws.FnTextMade answers true at every text. -/
import Derived.Test.YthkgjhnckakliaaGreatDoorRV31
import Derived.Test.YthkgjhnckakliaaGreatDoorRV35
import Derived.Test.YthkgjhnckakliaaGreatDoorRV21
import Derived.Test.YthkgjhnckakliaaGreatDoorRV24
import Derived.Test.YthkgjhnckakliaaGreatDoorRV02
import Derived.Deep.RegionHeld3
import Derived.Test.YthkgjhnckakliaaGreatDoorRV15
namespace Go.Proofs.YthkgjhnckakliaaGreatDoorR
open Go.RowKit
def Right (s : Bs) : Prop := (Pl.option s).2 = 0 ∧ Pl.ruleRight (Pl.option s).1 = true
set_option maxHeartbeats 2000000 in
set_option maxRecDepth 100000 in
theorem StrToRRule_any (s : Bs) (w : World) (he : Env w) (hw : 20 ≤ w.heap.size) (hs : s.length ≤ 2000) (h2 : (Pl.option s).2 ≠ 2) :
    Calls Tryz.prog 22 #[.string (bs s)] w fun e w' =>
      (Right s → ∃ rb v b, e = .returned (.tuple #[.pointer (some ⟨rb, 0, none⟩), .nilIface]) ∧ IAt w' rb ((Pl.option s).1.icells v) ∧ PRows b w' (Pl.option s).1 v ∧ w.heap.size ≤ b) ∧
      (¬ Right s → ∃ t u, e = .returned (.tuple #[.pointer none, .iface t u])) ∧ Below w.heap.size w w' := by
  have hsm := Pl.option_small s (by omega)
  have ht := Pl.option_tight s hs
  unfold Right
  go_enter Tryz.func22, Tryz.ntmps22
  go_wp2_with fail
  refine (StrToROption_any s w he hw (by omega) h2).mono ?_
  intro e w1 h
  rcases h with ⟨rb, h0, rfl, hR, hrb, hb1⟩ | ⟨t, u, h1, rfl, hb1⟩
  · obtain ⟨v, hBv, hPv⟩ := hR
    have HBV := Lib.hid hBv; clear hBv
    generalize hq : Pl.option s = q at *
    obtain ⟨r, o⟩ := q
    change o = 0 at h0
    subst h0
    go_wp2_with ((with_reducible refine atl ?_); refine wpList_load_block rfl 64 (.tmp 15) rfl rb (r.icells v) rfl _ HBV.out Tryz.underlying64 rfl (by kernel_rfl) ?_; go_simp)
    refine (NewRRule_of rb r v w1 hPv hsm (fun hrr wx hbx => build_any rb r v wx (hPv.but (ButBelow.of_below hbx)) hsm ht.lo ht.hi hrr ⟨ht.hour, ht.minute, ht.second⟩)).mono ?_
    rintro e w2 ⟨hno, hyes, hb2⟩
    have hall := hb1.trans (hb2.mono hb1.size)
    cases hrr : Pl.ruleRight r with
    | false =>
      obtain ⟨t, u, rfl⟩ := hno hrr
      go_wp2
      go_ret2
      rw [hq]
      exact ⟨(fun h => by rw [hrr] at h; cases h.2), fun _ => ⟨t, u, rfl⟩, hall⟩
    | true =>
      obtain ⟨r2, rfl, _, hA⟩ := hyes hrr
      have hp2 := hPv.but (ButBelow.of_below (rb := rb) hb2)
      go_wp2
      go_ret2
      rw [hq]
      exact ⟨fun _ => ⟨r2, v, rb, rfl, hA, hp2, hrb⟩, (fun h => absurd ⟨rfl, hrr⟩ h), hall⟩
  · go_wp2
    go_ret2
    exact ⟨(fun h => by rw [h1] at h; exact absurd h.1 (by decide)), fun _ => ⟨t, u, rfl⟩, hb1⟩
theorem zeroRule_cells : zeroRule = (({} : PR).cells PV.nil) := rfl
set_option maxHeartbeats 4000000 in
set_option maxRecDepth 100000 in
theorem ParseRule_any (s : Bs) (w : World) (he : Env w) (hw : 20 ≤ w.heap.size) (hs : s.length ≤ 2000) (h2 : (Pl.option s).2 ≠ 2) :
    Calls Tryz.prog 7 #[.string (bs s)] w fun e w' =>
      (Right s → ∃ u, e = .returned (.tuple #[.agg ((Pl.option s).1.cells u), .bool true]) ∧ PRows w.heap.size w' (Pl.option s).1 u) ∧
      (¬ Right s → e = .returned (.tuple #[.agg zeroRule, .bool false])) ∧ Below w.heap.size w w' := by
  have hsm := Pl.option_small s (by omega)
  have hgd := Pl.option_good s
  have hB0 : Block (w.alloc (.cells zeroRule 32)) w.heap.size zeroRule := ⟨32, heap_alloc_new w _⟩
  have hb0 : Below w.heap.size w (w.alloc (.cells zeroRule 32)) := (Below.refl _ _).alloc (Nat.le_refl _) _
  have hs0 : w.heap.size < (w.alloc (.cells zeroRule 32)).heap.size := by simp
  have HE0 := Lib.hid (he.below hb0)
  have HB0 := Lib.hid hB0; clear hB0
  unfold zeroRule at HB0 hb0 HE0 hs0
  go_enter Tryz.func7, Tryz.ntmps7
  go_upto_region 1 with fail
  generalize w.alloc (.cells _ 32) = w0 at *
  change Hid (Block w0 w.heap.size zeroRule) at HB0
  go_wp2_with fail
  refine (StrToRRule_any s w0 HE0.out (by omega) hs h2).mono ?_
  rintro e w1 ⟨hyes, hno, hb1⟩
  have hall := hb0.trans (hb1.mono hb0.size)
  have HB1 := Lib.hid (HB0.out.below hb1)
  by_cases hR : Right s
  · obtain ⟨rb, v, b, rfl, hA, hp, hbb⟩ := hyes hR
    clear hyes hno
    go_wp2_with fail
    have hpl := hp.low (a := w.heap.size) (by omega)
    refine (rule_any w.heap.size rb (Pl.option s).1 v w1 hA hall.size hpl hgd hsm).mono ?_
    rintro e w2 ⟨u, rfl, hp2, hb2⟩
    have hall2 := hall.trans (hb2.mono hall.size)
    have HB2 := Lib.hid (HB1.out.below hb2)
    have hone := hp2.one
    go_wp2_with ((with_reducible refine atl ?_); refine wpList_store_block rfl 32 _ _ rfl w.heap.size zeroRule ((Pl.option s).1.cells u) rfl rfl HB2.out rfl (by kernel_rfl) hone ?_; intro wz hBz hbbz)
    refine bodyPost_ret (v := .tuple #[.agg ((Pl.option s).1.cells u), .bool true]) (results_block_tmp Tryz.results7 _ _ w.heap.size _ _ rfl hBz Tryz.underlying32 rfl (by kernel_rfl)) rfl ?_
    exact ⟨fun _ => ⟨u, rfl, hp2.but hbbz⟩, fun h => absurd hR h, hall2.trans (hbbz.own (Nat.le_refl _) hall2.size)⟩
  · obtain ⟨t, u, rfl⟩ := hno hR
    clear hyes hno
    go_wp2_with ((with_reducible refine atl ?_); refine wpList_store_block rfl 32 _ _ rfl w.heap.size zeroRule zeroRule rfl rfl HB1.out rfl (by kernel_rfl) zeroRule_one ?_; intro wz hBz hbbz)
    refine bodyPost_ret (v := .tuple #[.agg zeroRule, .bool false]) (results_block_tmp Tryz.results7 _ _ w.heap.size _ _ rfl hBz Tryz.underlying32 rfl (by kernel_rfl)) rfl ?_
    exact ⟨fun h => absurd h hR, fun _ => rfl, hall.trans (hbbz.own (Nat.le_refl _) hall.size)⟩
set_option maxHeartbeats 4000000 in
set_option maxRecDepth 100000 in
theorem IParseOption_any (s : Bs) (w : World) (he : Env w) (hw : 20 ≤ w.heap.size) (hs : s.length ≤ 2000) (h2 : (Pl.option s).2 ≠ 2) :
    Calls Tryz.prog 14 #[.string (bs s)] w fun e w' =>
      ((Pl.option s).2 = 0 → ∃ u, e = .returned (.tuple #[.agg ((Pl.option s).1.cells u), .bool true]) ∧ PRows w.heap.size w' (Pl.option s).1 u) ∧
      (¬ (Pl.option s).2 = 0 → e = .returned (.tuple #[.agg zeroRule, .bool false])) ∧ Below w.heap.size w w' := by
  have hsm := Pl.option_small s (by omega)
  have hgd := Pl.option_good s
  have hB0 : Block (w.alloc (.cells zeroRule 32)) w.heap.size zeroRule := ⟨32, heap_alloc_new w _⟩
  have hb0 : Below w.heap.size w (w.alloc (.cells zeroRule 32)) := (Below.refl _ _).alloc (Nat.le_refl _) _
  have hs0 : w.heap.size < (w.alloc (.cells zeroRule 32)).heap.size := by simp
  have HE0 := Lib.hid (he.below hb0)
  have HB0 := Lib.hid hB0; clear hB0
  unfold zeroRule at HB0 hb0 HE0 hs0
  go_enter Tryz.func14, Tryz.ntmps14
  go_upto_region 1 with fail
  generalize w.alloc (.cells _ 32) = w0 at *
  change Hid (Block w0 w.heap.size zeroRule) at HB0
  go_wp2_with fail
  refine (StrToROption_any s w0 HE0.out (by omega) (by omega) h2).mono ?_
  intro e w1 h
  rcases h with ⟨rb, h0, rfl, hR, hrb, hb1⟩ | ⟨t, u, h1, rfl, hb1⟩
  all_goals have hall := hb0.trans (hb1.mono hb0.size)
  all_goals have HB1 := Lib.hid (HB0.out.below hb1)
  · obtain ⟨v, hBv, hp⟩ := hR
    have hA : IAt w1 rb ((Pl.option s).1.icells v) := ⟨hBv.lt, fun i x hx => (hBv.cell i).trans hx⟩
    clear hBv
    go_wp2_with fail
    have hpl := hp.low (a := w.heap.size) (by omega)
    refine (rule_any w.heap.size rb (Pl.option s).1 v w1 hA hall.size hpl hgd hsm).mono ?_
    rintro e w2 ⟨u, rfl, hp2, hb2⟩
    have hall2 := hall.trans (hb2.mono hall.size)
    have HB2 := Lib.hid (HB1.out.below hb2)
    have hone := hp2.one
    go_wp2_with ((with_reducible refine atl ?_); refine wpList_store_block rfl 32 _ _ rfl w.heap.size zeroRule ((Pl.option s).1.cells u) rfl rfl HB2.out rfl (by kernel_rfl) hone ?_; intro wz hBz hbbz)
    refine bodyPost_ret (v := .tuple #[.agg ((Pl.option s).1.cells u), .bool true]) (results_block_tmp Tryz.results14 _ _ w.heap.size _ _ rfl hBz Tryz.underlying32 rfl (by kernel_rfl)) rfl ?_
    exact ⟨fun _ => ⟨u, rfl, hp2.but hbbz⟩, fun h => absurd h0 h, hall2.trans (hbbz.own (Nat.le_refl _) hall2.size)⟩
  · have h3 : ¬ (Pl.option s).2 = 0 := by rw [h1]; decide
    go_wp2_with ((with_reducible refine atl ?_); refine wpList_store_block rfl 32 _ _ rfl w.heap.size zeroRule zeroRule rfl rfl HB1.out rfl (by kernel_rfl) zeroRule_one ?_; intro wz hBz hbbz)
    refine bodyPost_ret (v := .tuple #[.agg zeroRule, .bool false]) (results_block_tmp Tryz.results14 _ _ w.heap.size _ _ rfl hBz Tryz.underlying32 rfl (by kernel_rfl)) rfl ?_
    exact ⟨fun h => absurd h h3, fun _ => rfl, hall.trans (hbbz.own (Nat.le_refl _) hall.size)⟩
end Go.Proofs.YthkgjhnckakliaaGreatDoorR
namespace Go.Proofs.YthkgjhnckakliaaGreatDoorR
open Go.RowKit
theorem Row.none_any {w w' : World} {v : Value} (h : Row w v []) : Row w' v [] := by
  obtain ⟨a, c, h1, h2, _⟩ := h; exact ⟨a, c, h1, h2, fun h => absurd rfl h⟩
theorem RowP.none_any {w w' : World} {v : Value} (h : RowP w v []) : RowP w' v [] := by
  obtain ⟨a, c, h1, h2, _⟩ := h; exact ⟨a, c, h1, h2, fun h => absurd rfl h⟩
theorem PRows.any {rb : Nat} {w w' : World} {u : PV} (h : PRows rb w rA u) : PRows rb w' rA u :=
  ⟨⟨Row.none_any h.setPos.1, h.setPos.2⟩, ⟨Row.none_any h.month.1, h.month.2⟩, ⟨Row.none_any h.monthDay.1, h.monthDay.2⟩, ⟨Row.none_any h.yearDay.1, h.yearDay.2⟩, ⟨Row.none_any h.weekNo.1, h.weekNo.2⟩, ⟨RowP.none_any h.day.1, h.day.2⟩, ⟨Row.none_any h.hour.1, h.hour.2⟩, ⟨Row.none_any h.minute.1, h.minute.2⟩, ⟨Row.none_any h.second.1, h.second.2⟩, ⟨Row.none_any h.easter.1, h.easter.2⟩⟩
set_option maxHeartbeats 4000000 in
set_option maxRecDepth 100000 in
theorem textAwake_any (w : World) (he : Env w) (hw : 20 ≤ w.heap.size) :
    Calls Tryz.prog 4 #[] w fun e w' => e = .returned (.bool true) ∧ Below w.heap.size w w' := by
  have hD := sDaysOf_any 1997 5 22 w (by omega) (by omega) (by omega) (by omega) (by omega) (by omega)
  rw [days_one] at hD
  have hwr : IntKind.i64.wrap (729165 * 86400) = 62999856000 := by decide
  have HB : Hid (Block (w.alloc (.cells zeroRule 26)) w.heap.size zeroRule) := ⟨26, heap_alloc_new w _⟩
  have hb0 : Below w.heap.size w (w.alloc (.cells zeroRule 26)) := (Below.refl _ _).alloc (Nat.le_refl _) _
  have hP1 : ∀ w, Env w → 20 ≤ w.heap.size → Calls Tryz.prog 14 #[.string (bs tOne)] w fun e w' => ∃ u, e = .returned (.tuple #[.agg (rA.cells u), .bool true]) ∧ PRows w.heap.size w' rA u ∧ Below w.heap.size w w' := fun w he hw => by
    refine (IParseOption_any tOne w he hw (by decide) (by rw [opt_one]; decide)).mono ?_
    rw [opt_one]; rintro e w' ⟨h, _, hb⟩; obtain ⟨u, h1, h2⟩ := h rfl; exact ⟨u, h1, h2, hb⟩
  have hP2 : ∀ w, Env w → 20 ≤ w.heap.size → Calls Tryz.prog 14 #[.string (bs tTwo)] w fun e w' => e = .returned (.tuple #[.agg zeroRule, .bool false]) ∧ Below w.heap.size w w' := fun w he hw => by
    refine (IParseOption_any tTwo w he hw (by decide) (by rw [opt_two]; decide)).mono ?_
    rw [opt_two]; rintro e w' ⟨_, h, hb⟩; exact ⟨h (by decide), hb⟩
  go_enter Tryz.func4, Tryz.ntmps4
  go_upto_region 2 with (first | (go_at_call 11; (with_reducible refine hD.mono ?_); rintro e wN ⟨rfl, rfl⟩) | ((with_reducible refine atl ?_); refine wpList_store_block rfl 26 _ _ rfl w.heap.size zeroRule (rA.cells PV.nil) rfl rfl HB.out rfl (by kernel_rfl) rA_one ?_; intro w1 hB1 hbb1; go_simp))
  have hall : Below w.heap.size w w1 := hb0.trans (hbb1.own (Nat.le_refl _) hb0.size)
  have HB1 := Lib.hid hB1
  clear hB1 hbb1 hb0 HB hD
  go_upto_region 3 with (first
    | ((with_reducible refine atl ?_); refine wpList_load_block rfl 26 (.tmp 1) rfl w.heap.size (rA.cells PV.nil) rfl _ HB1.out Tryz.underlying26 rfl (by kernel_rfl) ?_; go_simp)
    | (go_at_call 13; (with_reducible refine (toRule_awake _).mono ?_); rintro e wN ⟨rfl, hbx⟩; have HB1 := Lib.hid (HB1.out.below hbx); have hall := hall.trans (hbx.mono hall.size); clear hbx)
    | (go_at_call 12; (with_reducible refine (OptionText_awake _ (he.below hall)).mono ?_); rintro e wM ⟨rfl, hbx⟩; have HB1 := Lib.hid (HB1.out.below hbx); have hall := hall.trans (hbx.mono hall.size); clear hbx))
  have hw2 : 20 ≤ wM.heap.size := Nat.le_trans hw hall.size
  go_wp2_with fail
  refine (hP1 _ (he.below hall) hw2).mono ?_
  rintro e wP ⟨u, rfl, hpu, hbx⟩
  have hbM := hbx.size
  have HB1 := Lib.hid (HB1.out.below hbx)
  have hall := hall.trans (hbx.mono hall.size)
  clear hbx
  have hone := hpu.one
  have hsz1 := HB1.out.lt
  have HB2n : Hid (Block (wP.alloc (.cells zeroRule 32)) wP.heap.size zeroRule) := ⟨32, heap_alloc_new wP _⟩
  go_upto_region 4 with ((with_reducible refine atl ?_); refine wpList_store_block rfl 32 _ _ rfl wP.heap.size zeroRule (rA.cells u) rfl rfl HB2n.out rfl (by kernel_rfl) hone ?_; intro w2 hB2 hbb2; go_simp)
  have hall0 := hall
  have hall : Below w.heap.size w w2 := (hall0.alloc hall0.size _).trans (hbb2.own hall0.size (by simp; have := hall0.size; omega))
  have HB1n := Lib.hid ((HB1.out.alloc (.cells zeroRule 32)).but (by omega) hbb2)
  clear HB1 HB2n
  have HB1 := HB1n; have HB2 := Lib.hid hB2
  have hlow : wM.heap.size ≤ w2.heap.size := by have := hB2.lt; have h5 := hbb2.size; simp at h5; have := hbM; omega
  clear HB1n hB2 hbb2 hall0
  have hw3 : 20 ≤ w2.heap.size := Nat.le_trans hw hall.size
  go_wp2_with fail
  refine (hP2 _ (he.below hall) hw3).mono ?_
  rintro e wQ ⟨rfl, hbx⟩
  have HB1 := Lib.hid (HB1.out.below hbx)
  have HB2 := Lib.hid (HB2.out.below hbx)
  have hall := hall.trans (hbx.mono hall.size)
  have hsz2 := HB2.out.lt
  have hsz3 := HB1.out.lt
  have HB3n : Hid (Block (wQ.alloc (.cells zeroRule 32)) wQ.heap.size zeroRule) := ⟨32, heap_alloc_new wQ _⟩
  go_upto_region 5 with ((with_reducible refine atl ?_); refine wpList_store_block rfl 32 _ _ rfl wQ.heap.size zeroRule zeroRule rfl rfl HB3n.out rfl (by kernel_rfl) zeroRule_one ?_; intro w3 hB3 hbb3; go_simp)
  have hball0 : Below w.heap.size w w3 := (hall.alloc hall.size _).trans (hbb3.own hall.size (by simp; have := hall.size; omega))
  have hB13 := (HB1.out.alloc (.cells zeroRule 32)).but (by omega) hbb3
  have hB23 := (HB2.out.alloc (.cells zeroRule 32)).but (by omega) hbb3
  have hlt3 : wM.heap.size < w3.heap.size := by have h1 := hbb3.size; have h2 := hlow; simp at h1; have := hall.size; omega
  have HF : Hid (∀ wl, Below w3.heap.size w3 wl → FA5 ⟨w.heap.size, wP.heap.size, wM.heap.size, u⟩ wl) := fun wl hb => ⟨hB13.below hb, hB23.below hb, hpu.any⟩
  clear HB1 HB2 HB3n hbb3 hall hpu hone hP1 hP2 hB13 hB23
  refine regionA5 _ w3 _ ⟨w.heap.size, wP.heap.size, wM.heap.size, u⟩ ⟨rfl, rfl, rfl, rfl, rfl, rfl, HF, hlt3⟩ ?_
  intro t wl gx hts g0 hbl _
  obtain ⟨u0, rest, rfl⟩ : ∃ u0 rest, t = (u0 :: rest : List Value).toArray := ⟨_, _, (laid t 37 hts).trans (by rw [show List.range 37 = 0 :: (List.range 36).map (· + 1) from by decide]; rfl)⟩
  have e0 : u0 = .bool true := by simpa using g0
  subst e0
  go_step
  go_wp2
  go_ret
  exact ⟨rfl, hball0.trans (hbl.mono hball0.size)⟩
end Go.Proofs.YthkgjhnckakliaaGreatDoorR
namespace Go.Proofs.YthkgjhnckakliaaGreatDoorR
open Go.RowKit
noncomputable def oN1 : Array Oper := findOps 9 (Tryz.f3.body.getD .skip)
structure LN1 where
  (b3 b5 pb q : Nat)
  (r : PR)
  (u v : PV)
structure FN1 (L : LN1) (wl : World) : Prop where
  f3 : Block wl L.b3 (L.r.cells L.u)
  pu : PRows L.pb wl L.r L.u
structure HN1 (w0 : World) (T : Array Value) (L : LN1) : Prop where
  hTs : T.size = 53
  hT3 : T.getD 3 undef = .pointer (some ⟨L.b3, 0, none⟩)
  hT4 : T.getD 4 undef = .int .u8 (L.q : Nat)
  hT5 : T.getD 5 undef = .pointer (some ⟨L.b5, 0, none⟩)
  hT6 : T.getD 6 undef = .bool false
  HF : Hid (∀ wl, Below w0.heap.size w0 wl → FN1 L wl)
  he : Env w0
  hw21 : 20 ≤ w0.heap.size
  hsm : L.r.small
  hpb : L.pb < w0.heap.size
  hq : ((L.q : Int) == 0) = false
def valN1 (L : LN1) (d : Nat) : Value := (#[undef, undef, .bool true, undef, undef, undef, undef, undef, undef, undef, undef, undef, undef, undef, undef, undef, undef, undef, undef, undef, undef, undef, undef, undef, undef, undef, undef, undef, undef, undef, undef, undef, .bool true, .bool true, .bool false, .int .u8 (L.q : Nat), .bool false, .bool false, undef, undef, .bool false, .bool true, .bool true, .bool true, .bool false, .bool true, .bool true, undef, undef, undef, undef, .bool true, .bool true] : Array Value).getD d undef
/-- What holds while the operations come up. -/
def InvN1 (w0 : World) (T : Array Value) (L : LN1) (listed : Array Bool) (a : Act) (wl : World) : Prop :=
  listed.size = 22 ∧ VI oN1 (valN1 L) listed a.tmps ∧ KI oN1 T a.tmps ∧ a.defers = [] ∧ Below w0.heap.size w0 wl
set_option maxHeartbeats 1000000 in
set_option maxRecDepth 100000 in
theorem opN1_0 {Q : Exit → Act → World → Prop} {w0 : World} {T : Array Value} {L : LN1} (H : HN1 w0 T L) : StepAt Tryz.prog Q oN1 (InvN1 w0 T L) 0 := by
  intro listed a wl o ho h0 hall ⟨hls, V, K, hd, hb⟩
  have hsz : a.tmps.size = 53 := K.1.trans H.hTs
  conv at ho => lhs; whnf
  injection ho with ho
  conv at ho => lhs; whnf
  subst ho
  refine want_any rfl ?_
  go_simp
  go_at_call 4
  refine (textAwake_any _ (H.he.below hb) (Nat.le_trans H.hw21 hb.size)).mono ?_
  rintro e wN ⟨rfl, hbx⟩
  exact ⟨by simpa using hls, V.lay (k := 0) (d := 32) (by kernel_rfl) (by kernel_rfl) (by rw [hsz]; decide), K.lay (k := 0) (by kernel_rfl) _, (by first | rfl | exact hd), hb.trans (hbx.mono hb.size)⟩
set_option maxHeartbeats 1000000 in
set_option maxRecDepth 100000 in
theorem opN1_1 {Q : Exit → Act → World → Prop} {w0 : World} {T : Array Value} {L : LN1} (H : HN1 w0 T L) : StepAt Tryz.prog Q oN1 (InvN1 w0 T L) 1 := by
  intro listed a wl o ho h0 hall ⟨hls, V, K, hd, hb⟩
  have hsz : a.tmps.size = 53 := K.1.trans H.hTs
  conv at ho => lhs; whnf
  injection ho with ho
  conv at ho => lhs; whnf
  subst ho
  refine want_any rfl ?_
  have g32 : a.tmps.getD 32 undef = .bool true := V.at (k := 0) (by kernel_rfl) (by kernel_rfl) (up hall (by kernel_rfl))
  go_simp
  exact ⟨by simpa using hls, V.lay (k := 1) (d := 33) (by kernel_rfl) (by kernel_rfl) (by rw [hsz]; decide), K.lay (k := 1) (by kernel_rfl) _, (by first | rfl | exact hd), hb⟩
set_option maxHeartbeats 1000000 in
set_option maxRecDepth 100000 in
theorem opN1_2 {Q : Exit → Act → World → Prop} {w0 : World} {T : Array Value} {L : LN1} (H : HN1 w0 T L) : StepAt Tryz.prog Q oN1 (InvN1 w0 T L) 2 := by
  intro listed a wl o ho h0 hall ⟨hls, V, K, hd, hb⟩
  have hsz : a.tmps.size = 53 := K.1.trans H.hTs
  conv at ho => lhs; whnf
  injection ho with ho
  conv at ho => lhs; whnf
  subst ho
  have g33 : a.tmps.getD 33 undef = .bool true := V.at (k := 1) (by kernel_rfl) (by kernel_rfl) (up hall (by kernel_rfl))
  refine want_on (g := 1) rfl (yld_at (k := 1) (by kernel_rfl) g33) ?_
  have g6 : a.tmps.getD 6 undef = .bool false := (K.get 6 (by kernel_rfl)).trans H.hT6
  go_simp
  exact ⟨by simpa using hls, V.lay (k := 2) (d := 34) (by kernel_rfl) (by kernel_rfl) (by rw [hsz]; decide), K.lay (k := 2) (by kernel_rfl) _, (by first | rfl | exact hd), hb⟩
set_option maxHeartbeats 1000000 in
set_option maxRecDepth 100000 in
theorem opN1_3 {Q : Exit → Act → World → Prop} {w0 : World} {T : Array Value} {L : LN1} (H : HN1 w0 T L) : StepAt Tryz.prog Q oN1 (InvN1 w0 T L) 3 := by
  intro listed a wl o ho h0 hall ⟨hls, V, K, hd, hb⟩
  have hsz : a.tmps.size = 53 := K.1.trans H.hTs
  conv at ho => lhs; whnf
  injection ho with ho
  conv at ho => lhs; whnf
  subst ho
  have g33 : a.tmps.getD 33 undef = .bool true := V.at (k := 1) (by kernel_rfl) (by kernel_rfl) (up hall (by kernel_rfl))
  refine want_on (g := 1) rfl (yld_at (k := 1) (by kernel_rfl) g33) ?_
  have g4 : a.tmps.getD 4 undef = .int .u8 (L.q : Nat) := (K.get 4 (by kernel_rfl)).trans H.hT4
  go_simp
  exact ⟨by simpa using hls, V.lay (k := 3) (d := 35) (by kernel_rfl) (by kernel_rfl) (by rw [hsz]; decide), K.lay (k := 3) (by kernel_rfl) _, (by first | rfl | exact hd), hb⟩
set_option maxHeartbeats 1000000 in
set_option maxRecDepth 100000 in
theorem opN1_4 {Q : Exit → Act → World → Prop} {w0 : World} {T : Array Value} {L : LN1} (H : HN1 w0 T L) : StepAt Tryz.prog Q oN1 (InvN1 w0 T L) 4 := by
  intro listed a wl o ho h0 hall ⟨hls, V, K, hd, hb⟩
  have hsz : a.tmps.size = 53 := K.1.trans H.hTs
  conv at ho => lhs; whnf
  injection ho with ho
  conv at ho => lhs; whnf
  subst ho
  have g33 : a.tmps.getD 33 undef = .bool true := V.at (k := 1) (by kernel_rfl) (by kernel_rfl) (up hall (by kernel_rfl))
  refine want_on (g := 1) rfl (yld_at (k := 1) (by kernel_rfl) g33) ?_
  have g35 : a.tmps.getD 35 undef = .int .u8 (L.q : Nat) := V.at (k := 3) (by kernel_rfl) (by kernel_rfl) (up hall (by kernel_rfl))
  have hq1 : ((L.q : Int) == 0) = false := H.hq
  have hq2 : ¬ (L.q : Int) = 0 := by simpa using H.hq
  have hq3 : ¬ L.q = 0 := by omega
  go_simp
  exact ⟨by simpa using hls, V.lay (k := 4) (d := 36) (by kernel_rfl) (by kernel_rfl) (by rw [hsz]; decide), K.lay (k := 4) (by kernel_rfl) _, (by first | rfl | exact hd), hb⟩
set_option maxHeartbeats 1000000 in
set_option maxRecDepth 100000 in
theorem opN1_5 {Q : Exit → Act → World → Prop} {w0 : World} {T : Array Value} {L : LN1} (H : HN1 w0 T L) : StepAt Tryz.prog Q oN1 (InvN1 w0 T L) 5 := by
  intro listed a wl o ho h0 hall ⟨hls, V, K, hd, hb⟩
  have hsz : a.tmps.size = 53 := K.1.trans H.hTs
  conv at ho => lhs; whnf
  injection ho with ho
  conv at ho => lhs; whnf
  subst ho
  have g33 : a.tmps.getD 33 undef = .bool true := V.at (k := 1) (by kernel_rfl) (by kernel_rfl) (up hall (by kernel_rfl))
  refine want_on (g := 1) rfl (yld_at (k := 1) (by kernel_rfl) g33) ?_
  have g36 : a.tmps.getD 36 undef = .bool false := V.at (k := 4) (by kernel_rfl) (by kernel_rfl) (up hall (by kernel_rfl))
  go_simp
  exact ⟨by simpa using hls, V.lay (k := 5) (d := 37) (by kernel_rfl) (by kernel_rfl) (by rw [hsz]; decide), K.lay (k := 5) (by kernel_rfl) _, (by first | rfl | exact hd), hb⟩
set_option maxHeartbeats 1000000 in
set_option maxRecDepth 100000 in
theorem opN1_6 {Q : Exit → Act → World → Prop} {w0 : World} {T : Array Value} {L : LN1} (H : HN1 w0 T L) : StepAt Tryz.prog Q oN1 (InvN1 w0 T L) 6 := by
  intro listed a wl o ho h0 hall ⟨hls, V, K, hd, hb⟩
  have hsz : a.tmps.size = 53 := K.1.trans H.hTs
  conv at ho => lhs; whnf
  injection ho with ho
  conv at ho => lhs; whnf
  subst ho
  have g37 : a.tmps.getD 37 undef = .bool false := V.at (k := 5) (by kernel_rfl) (by kernel_rfl) (up hall (by kernel_rfl))
  refine want_off (g := 5) rfl (yld_at (k := 5) (by kernel_rfl) g37) (by decide) ?_
  exact ⟨by simpa using hls, V.lay (k := 6) (d := 38) (by kernel_rfl) (by kernel_rfl) (by rw [hsz]; decide), K.lay (k := 6) (by kernel_rfl) _, (by first | rfl | exact hd), hb⟩
set_option maxHeartbeats 1000000 in
set_option maxRecDepth 100000 in
theorem opN1_7 {Q : Exit → Act → World → Prop} {w0 : World} {T : Array Value} {L : LN1} (H : HN1 w0 T L) : StepAt Tryz.prog Q oN1 (InvN1 w0 T L) 7 := by
  intro listed a wl o ho h0 hall ⟨hls, V, K, hd, hb⟩
  have hsz : a.tmps.size = 53 := K.1.trans H.hTs
  conv at ho => lhs; whnf
  injection ho with ho
  conv at ho => lhs; whnf
  subst ho
  have g37 : a.tmps.getD 37 undef = .bool false := V.at (k := 5) (by kernel_rfl) (by kernel_rfl) (up hall (by kernel_rfl))
  refine want_off (g := 5) rfl (yld_at (k := 5) (by kernel_rfl) g37) (by decide) ?_
  exact ⟨by simpa using hls, V.lay (k := 7) (d := 39) (by kernel_rfl) (by kernel_rfl) (by rw [hsz]; decide), K.lay (k := 7) (by kernel_rfl) _, (by first | rfl | exact hd), hb⟩
set_option maxHeartbeats 1000000 in
set_option maxRecDepth 100000 in
theorem opN1_8 {Q : Exit → Act → World → Prop} {w0 : World} {T : Array Value} {L : LN1} (H : HN1 w0 T L) : StepAt Tryz.prog Q oN1 (InvN1 w0 T L) 8 := by
  intro listed a wl o ho h0 hall ⟨hls, V, K, hd, hb⟩
  have hsz : a.tmps.size = 53 := K.1.trans H.hTs
  conv at ho => lhs; whnf
  injection ho with ho
  conv at ho => lhs; whnf
  subst ho
  have g33 : a.tmps.getD 33 undef = .bool true := V.at (k := 1) (by kernel_rfl) (by kernel_rfl) (up hall (by kernel_rfl))
  refine want_on (g := 1) rfl (yld_at (k := 1) (by kernel_rfl) g33) ?_
  have g37 : a.tmps.getD 37 undef = .bool false := V.at (k := 5) (by kernel_rfl) (by kernel_rfl) (up hall (by kernel_rfl))
  have g39 : a.tmps.getD 39 undef = undef := V.at (k := 7) (by kernel_rfl) (by kernel_rfl) (up hall (by kernel_rfl))
  go_simp
  exact ⟨by simpa using hls, V.lay (k := 8) (d := 40) (by kernel_rfl) (by kernel_rfl) (by rw [hsz]; decide), K.lay (k := 8) (by kernel_rfl) _, (by first | rfl | exact hd), hb⟩
set_option maxHeartbeats 1000000 in
set_option maxRecDepth 100000 in
theorem opN1_9 {Q : Exit → Act → World → Prop} {w0 : World} {T : Array Value} {L : LN1} (H : HN1 w0 T L) : StepAt Tryz.prog Q oN1 (InvN1 w0 T L) 9 := by
  intro listed a wl o ho h0 hall ⟨hls, V, K, hd, hb⟩
  have hsz : a.tmps.size = 53 := K.1.trans H.hTs
  conv at ho => lhs; whnf
  injection ho with ho
  conv at ho => lhs; whnf
  subst ho
  have g33 : a.tmps.getD 33 undef = .bool true := V.at (k := 1) (by kernel_rfl) (by kernel_rfl) (up hall (by kernel_rfl))
  refine want_on (g := 1) rfl (yld_at (k := 1) (by kernel_rfl) g33) ?_
  have g34 : a.tmps.getD 34 undef = .bool false := V.at (k := 2) (by kernel_rfl) (by kernel_rfl) (up hall (by kernel_rfl))
  have g40 : a.tmps.getD 40 undef = .bool false := V.at (k := 8) (by kernel_rfl) (by kernel_rfl) (up hall (by kernel_rfl))
  go_simp
  exact ⟨by simpa using hls, V.lay (k := 9) (d := 41) (by kernel_rfl) (by kernel_rfl) (by rw [hsz]; decide), K.lay (k := 9) (by kernel_rfl) _, (by first | rfl | exact hd), hb⟩
set_option maxHeartbeats 1000000 in
set_option maxRecDepth 100000 in
theorem opN1_10 {Q : Exit → Act → World → Prop} {w0 : World} {T : Array Value} {L : LN1} (H : HN1 w0 T L) : StepAt Tryz.prog Q oN1 (InvN1 w0 T L) 10 := by
  intro listed a wl o ho h0 hall ⟨hls, V, K, hd, hb⟩
  have hsz : a.tmps.size = 53 := K.1.trans H.hTs
  conv at ho => lhs; whnf
  injection ho with ho
  conv at ho => lhs; whnf
  subst ho
  refine want_any rfl ?_
  have g33 : a.tmps.getD 33 undef = .bool true := V.at (k := 1) (by kernel_rfl) (by kernel_rfl) (up hall (by kernel_rfl))
  have g41 : a.tmps.getD 41 undef = .bool true := V.at (k := 9) (by kernel_rfl) (by kernel_rfl) (up hall (by kernel_rfl))
  go_simp
  exact ⟨by simpa using hls, V.lay (k := 10) (d := 42) (by kernel_rfl) (by kernel_rfl) (by rw [hsz]; decide), K.lay (k := 10) (by kernel_rfl) _, (by first | rfl | exact hd), hb⟩
set_option maxHeartbeats 1000000 in
set_option maxRecDepth 100000 in
theorem opN1_11 {Q : Exit → Act → World → Prop} {w0 : World} {T : Array Value} {L : LN1} (H : HN1 w0 T L) : StepAt Tryz.prog Q oN1 (InvN1 w0 T L) 11 := by
  intro listed a wl o ho h0 hall ⟨hls, V, K, hd, hb⟩
  have hsz : a.tmps.size = 53 := K.1.trans H.hTs
  conv at ho => lhs; whnf
  injection ho with ho
  conv at ho => lhs; whnf
  subst ho
  refine want_any rfl ?_
  have g42 : a.tmps.getD 42 undef = .bool true := V.at (k := 10) (by kernel_rfl) (by kernel_rfl) (up hall (by kernel_rfl))
  go_simp
  exact ⟨by simpa using hls, V.lay (k := 11) (d := 43) (by kernel_rfl) (by kernel_rfl) (by rw [hsz]; decide), K.lay (k := 11) (by kernel_rfl) _, (by first | rfl | exact hd), hb⟩
set_option maxHeartbeats 1000000 in
set_option maxRecDepth 100000 in
theorem opN1_12 {Q : Exit → Act → World → Prop} {w0 : World} {T : Array Value} {L : LN1} (H : HN1 w0 T L) : StepAt Tryz.prog Q oN1 (InvN1 w0 T L) 12 := by
  intro listed a wl o ho h0 hall ⟨hls, V, K, hd, hb⟩
  have hsz : a.tmps.size = 53 := K.1.trans H.hTs
  conv at ho => lhs; whnf
  injection ho with ho
  conv at ho => lhs; whnf
  subst ho
  have g43 : a.tmps.getD 43 undef = .bool true := V.at (k := 11) (by kernel_rfl) (by kernel_rfl) (up hall (by kernel_rfl))
  refine want_on (g := 11) rfl (yld_at (k := 11) (by kernel_rfl) g43) ?_
  have g6 : a.tmps.getD 6 undef = .bool false := (K.get 6 (by kernel_rfl)).trans H.hT6
  go_simp
  exact ⟨by simpa using hls, V.lay (k := 12) (d := 44) (by kernel_rfl) (by kernel_rfl) (by rw [hsz]; decide), K.lay (k := 12) (by kernel_rfl) _, (by first | rfl | exact hd), hb⟩
set_option maxHeartbeats 1000000 in
set_option maxRecDepth 100000 in
theorem opN1_13 {Q : Exit → Act → World → Prop} {w0 : World} {T : Array Value} {L : LN1} (H : HN1 w0 T L) : StepAt Tryz.prog Q oN1 (InvN1 w0 T L) 13 := by
  intro listed a wl o ho h0 hall ⟨hls, V, K, hd, hb⟩
  have hsz : a.tmps.size = 53 := K.1.trans H.hTs
  conv at ho => lhs; whnf
  injection ho with ho
  conv at ho => lhs; whnf
  subst ho
  have g43 : a.tmps.getD 43 undef = .bool true := V.at (k := 11) (by kernel_rfl) (by kernel_rfl) (up hall (by kernel_rfl))
  refine want_on (g := 11) rfl (yld_at (k := 11) (by kernel_rfl) g43) ?_
  have g44 : a.tmps.getD 44 undef = .bool false := V.at (k := 12) (by kernel_rfl) (by kernel_rfl) (up hall (by kernel_rfl))
  go_simp
  exact ⟨by simpa using hls, V.lay (k := 13) (d := 45) (by kernel_rfl) (by kernel_rfl) (by rw [hsz]; decide), K.lay (k := 13) (by kernel_rfl) _, (by first | rfl | exact hd), hb⟩
set_option maxHeartbeats 1000000 in
set_option maxRecDepth 100000 in
theorem opN1_14 {Q : Exit → Act → World → Prop} {w0 : World} {T : Array Value} {L : LN1} (H : HN1 w0 T L) : StepAt Tryz.prog Q oN1 (InvN1 w0 T L) 14 := by
  intro listed a wl o ho h0 hall ⟨hls, V, K, hd, hb⟩
  have hsz : a.tmps.size = 53 := K.1.trans H.hTs
  conv at ho => lhs; whnf
  injection ho with ho
  conv at ho => lhs; whnf
  subst ho
  have g43 : a.tmps.getD 43 undef = .bool true := V.at (k := 11) (by kernel_rfl) (by kernel_rfl) (up hall (by kernel_rfl))
  refine want_on (g := 11) rfl (yld_at (k := 11) (by kernel_rfl) g43) ?_
  have g45 : a.tmps.getD 45 undef = .bool true := V.at (k := 13) (by kernel_rfl) (by kernel_rfl) (up hall (by kernel_rfl))
  go_simp
  exact ⟨by simpa using hls, V.lay (k := 14) (d := 46) (by kernel_rfl) (by kernel_rfl) (by rw [hsz]; decide), K.lay (k := 14) (by kernel_rfl) _, (by first | rfl | exact hd), hb⟩
set_option maxHeartbeats 1000000 in
set_option maxRecDepth 100000 in
theorem opN1_15 {Q : Exit → Act → World → Prop} {w0 : World} {T : Array Value} {L : LN1} (H : HN1 w0 T L) : StepAt Tryz.prog Q oN1 (InvN1 w0 T L) 15 := by
  intro listed a wl o ho h0 hall ⟨hls, V, K, hd, hb⟩
  have hsz : a.tmps.size = 53 := K.1.trans H.hTs
  conv at ho => lhs; whnf
  injection ho with ho
  conv at ho => lhs; whnf
  subst ho
  have g46 : a.tmps.getD 46 undef = .bool true := V.at (k := 14) (by kernel_rfl) (by kernel_rfl) (up hall (by kernel_rfl))
  refine want_off (g := 14) rfl (yld_at (k := 14) (by kernel_rfl) g46) (by decide) ?_
  exact ⟨by simpa using hls, V.lay (k := 15) (d := 47) (by kernel_rfl) (by kernel_rfl) (by rw [hsz]; decide), K.lay (k := 15) (by kernel_rfl) _, (by first | rfl | exact hd), hb⟩
set_option maxHeartbeats 1000000 in
set_option maxRecDepth 100000 in
theorem opN1_16 {Q : Exit → Act → World → Prop} {w0 : World} {T : Array Value} {L : LN1} (H : HN1 w0 T L) : StepAt Tryz.prog Q oN1 (InvN1 w0 T L) 16 := by
  intro listed a wl o ho h0 hall ⟨hls, V, K, hd, hb⟩
  have hsz : a.tmps.size = 53 := K.1.trans H.hTs
  conv at ho => lhs; whnf
  injection ho with ho
  conv at ho => lhs; whnf
  subst ho
  have g46 : a.tmps.getD 46 undef = .bool true := V.at (k := 14) (by kernel_rfl) (by kernel_rfl) (up hall (by kernel_rfl))
  refine want_off (g := 14) rfl (yld_at (k := 14) (by kernel_rfl) g46) (by decide) ?_
  exact ⟨by simpa using hls, V.lay (k := 16) (d := 48) (by kernel_rfl) (by kernel_rfl) (by rw [hsz]; decide), K.lay (k := 16) (by kernel_rfl) _, (by first | rfl | exact hd), hb⟩
set_option maxHeartbeats 1000000 in
set_option maxRecDepth 100000 in
theorem opN1_17 {Q : Exit → Act → World → Prop} {w0 : World} {T : Array Value} {L : LN1} (H : HN1 w0 T L) : StepAt Tryz.prog Q oN1 (InvN1 w0 T L) 17 := by
  intro listed a wl o ho h0 hall ⟨hls, V, K, hd, hb⟩
  have hsz : a.tmps.size = 53 := K.1.trans H.hTs
  conv at ho => lhs; whnf
  injection ho with ho
  conv at ho => lhs; whnf
  subst ho
  have g46 : a.tmps.getD 46 undef = .bool true := V.at (k := 14) (by kernel_rfl) (by kernel_rfl) (up hall (by kernel_rfl))
  refine want_off (g := 14) rfl (yld_at (k := 14) (by kernel_rfl) g46) (by decide) ?_
  exact ⟨by simpa using hls, V.lay (k := 17) (d := 49) (by kernel_rfl) (by kernel_rfl) (by rw [hsz]; decide), K.lay (k := 17) (by kernel_rfl) _, (by first | rfl | exact hd), hb⟩
set_option maxHeartbeats 1000000 in
set_option maxRecDepth 100000 in
theorem opN1_18 {Q : Exit → Act → World → Prop} {w0 : World} {T : Array Value} {L : LN1} (H : HN1 w0 T L) : StepAt Tryz.prog Q oN1 (InvN1 w0 T L) 18 := by
  intro listed a wl o ho h0 hall ⟨hls, V, K, hd, hb⟩
  have hsz : a.tmps.size = 53 := K.1.trans H.hTs
  conv at ho => lhs; whnf
  injection ho with ho
  conv at ho => lhs; whnf
  subst ho
  have g46 : a.tmps.getD 46 undef = .bool true := V.at (k := 14) (by kernel_rfl) (by kernel_rfl) (up hall (by kernel_rfl))
  refine want_off (g := 14) rfl (yld_at (k := 14) (by kernel_rfl) g46) (by decide) ?_
  exact ⟨by simpa using hls, V.lay (k := 18) (d := 50) (by kernel_rfl) (by kernel_rfl) (by rw [hsz]; decide), K.lay (k := 18) (by kernel_rfl) _, (by first | rfl | exact hd), hb⟩
set_option maxHeartbeats 1000000 in
set_option maxRecDepth 100000 in
theorem opN1_19 {Q : Exit → Act → World → Prop} {w0 : World} {T : Array Value} {L : LN1} (H : HN1 w0 T L) : StepAt Tryz.prog Q oN1 (InvN1 w0 T L) 19 := by
  intro listed a wl o ho h0 hall ⟨hls, V, K, hd, hb⟩
  have hsz : a.tmps.size = 53 := K.1.trans H.hTs
  conv at ho => lhs; whnf
  injection ho with ho
  conv at ho => lhs; whnf
  subst ho
  have g43 : a.tmps.getD 43 undef = .bool true := V.at (k := 11) (by kernel_rfl) (by kernel_rfl) (up hall (by kernel_rfl))
  refine want_on (g := 11) rfl (yld_at (k := 11) (by kernel_rfl) g43) ?_
  have g46 : a.tmps.getD 46 undef = .bool true := V.at (k := 14) (by kernel_rfl) (by kernel_rfl) (up hall (by kernel_rfl))
  have g50 : a.tmps.getD 50 undef = undef := V.at (k := 18) (by kernel_rfl) (by kernel_rfl) (up hall (by kernel_rfl))
  go_simp
  exact ⟨by simpa using hls, V.lay (k := 19) (d := 51) (by kernel_rfl) (by kernel_rfl) (by rw [hsz]; decide), K.lay (k := 19) (by kernel_rfl) _, (by first | rfl | exact hd), hb⟩
set_option maxHeartbeats 1000000 in
set_option maxRecDepth 100000 in
theorem opN1_20 {Q : Exit → Act → World → Prop} {w0 : World} {T : Array Value} {L : LN1} (H : HN1 w0 T L) : StepAt Tryz.prog Q oN1 (InvN1 w0 T L) 20 := by
  intro listed a wl o ho h0 hall ⟨hls, V, K, hd, hb⟩
  have hsz : a.tmps.size = 53 := K.1.trans H.hTs
  conv at ho => lhs; whnf
  injection ho with ho
  conv at ho => lhs; whnf
  subst ho
  refine want_any rfl ?_
  have g43 : a.tmps.getD 43 undef = .bool true := V.at (k := 11) (by kernel_rfl) (by kernel_rfl) (up hall (by kernel_rfl))
  have g51 : a.tmps.getD 51 undef = .bool true := V.at (k := 19) (by kernel_rfl) (by kernel_rfl) (up hall (by kernel_rfl))
  go_simp
  exact ⟨by simpa using hls, V.lay (k := 20) (d := 52) (by kernel_rfl) (by kernel_rfl) (by rw [hsz]; decide), K.lay (k := 20) (by kernel_rfl) _, (by first | rfl | exact hd), hb⟩
set_option maxHeartbeats 1000000 in
set_option maxRecDepth 100000 in
theorem opN1_21 {Q : Exit → Act → World → Prop} {w0 : World} {T : Array Value} {L : LN1} (H : HN1 w0 T L) : StepAt Tryz.prog Q oN1 (InvN1 w0 T L) 21 := by
  intro listed a wl o ho h0 hall ⟨hls, V, K, hd, hb⟩
  have hsz : a.tmps.size = 53 := K.1.trans H.hTs
  conv at ho => lhs; whnf
  injection ho with ho
  conv at ho => lhs; whnf
  subst ho
  refine want_any rfl ?_
  have g52 : a.tmps.getD 52 undef = .bool true := V.at (k := 20) (by kernel_rfl) (by kernel_rfl) (up hall (by kernel_rfl))
  go_simp
  exact ⟨by simpa using hls, V.lay (k := 21) (d := 2) (by kernel_rfl) (by kernel_rfl) (by rw [hsz]; decide), K.lay (k := 21) (by kernel_rfl) _, (by first | rfl | exact hd), hb⟩
set_option maxHeartbeats 4000000 in
set_option maxRecDepth 100000 in
theorem regionN1 {Q : Exit → Act → World → Prop} (id : Nat) (w0 : World) (T : Array Value) (L : LN1) (H : HN1 w0 T L)
    (hQ : ∀ (t : Array Value) (wl : World), t.size = 53 → t.getD 2 undef = .bool true → Below w0.heap.size w0 wl → Q .normal ⟨t, []⟩ wl) :
    (Code.region id oN1 true).wp Tryz.prog Q ⟨T, []⟩ w0 := by
  have hz : oN1.size = 22 := by kernel_rfl
  refine region_steps (by kernel_rfl) (InvN1 w0 T L) ⟨by simp; rfl, VI.start _ _ _, KI.start _, rfl, (Below.refl _ _).drew⟩ ?_ 22 hz ?_
  · intro listed a wl hr ⟨hls, V, K, hd, hb⟩
    have ha := all_listed (ops := oN1) (by kernel_rfl) (hls.trans hz.symm) hr
    obtain ⟨t, df⟩ := a
    change df = [] at hd
    subst hd
    exact hQ t wl (K.1.trans H.hTs) (V.end ha (k := 21) (by kernel_rfl) (by kernel_rfl)) hb
  · intro k hk
    match k, hk with
    | 0, _ => exact opN1_0 H
    | 1, _ => exact opN1_1 H
    | 2, _ => exact opN1_2 H
    | 3, _ => exact opN1_3 H
    | 4, _ => exact opN1_4 H
    | 5, _ => exact opN1_5 H
    | 6, _ => exact opN1_6 H
    | 7, _ => exact opN1_7 H
    | 8, _ => exact opN1_8 H
    | 9, _ => exact opN1_9 H
    | 10, _ => exact opN1_10 H
    | 11, _ => exact opN1_11 H
    | 12, _ => exact opN1_12 H
    | 13, _ => exact opN1_13 H
    | 14, _ => exact opN1_14 H
    | 15, _ => exact opN1_15 H
    | 16, _ => exact opN1_16 H
    | 17, _ => exact opN1_17 H
    | 18, _ => exact opN1_18 H
    | 19, _ => exact opN1_19 H
    | 20, _ => exact opN1_20 H
    | 21, _ => exact opN1_21 H
    | k + 22, hk => exact absurd hk (by omega)
noncomputable def oN2 : Array Oper := findOps 9 (Tryz.f3.body.getD .skip)
structure LN2 where
  (b3 b5 pb : Nat)
  (r : PR)
  (u v : PV)
structure FN2 (L : LN2) (wl : World) : Prop where
  f3 : Block wl L.b3 (L.r.cells L.u)
  pu : PRows L.pb wl L.r L.u
structure HN2 (w0 : World) (T : Array Value) (L : LN2) : Prop where
  hTs : T.size = 53
  hT3 : T.getD 3 undef = .pointer (some ⟨L.b3, 0, none⟩)
  hT4 : T.getD 4 undef = .int .u8 0
  hT5 : T.getD 5 undef = .pointer (some ⟨L.b5, 0, none⟩)
  hT6 : T.getD 6 undef = .bool false
  HF : Hid (∀ wl, Below w0.heap.size w0 wl → FN2 L wl)
  he : Env w0
  hw21 : 20 ≤ w0.heap.size
  hsm : L.r.small
  hpb : L.pb < w0.heap.size
  hrr : Pl.ruleRight L.r = false
def valN2 (L : LN2) (d : Nat) : Value := (#[undef, undef, .bool true, undef, undef, undef, undef, undef, undef, undef, undef, undef, undef, undef, undef, undef, undef, undef, undef, undef, undef, undef, undef, undef, undef, undef, undef, undef, undef, undef, undef, undef, .bool true, .bool true, .bool false, .int .u8 0, .bool true, .bool true, .agg (L.r.cells L.u), .bool false, .bool false, .bool true, .bool true, .bool true, .bool false, .bool true, .bool true, undef, undef, undef, undef, .bool true, .bool true] : Array Value).getD d undef
/-- What holds while the operations come up. -/
def InvN2 (w0 : World) (T : Array Value) (L : LN2) (listed : Array Bool) (a : Act) (wl : World) : Prop :=
  listed.size = 22 ∧ VI oN2 (valN2 L) listed a.tmps ∧ KI oN2 T a.tmps ∧ a.defers = [] ∧ Below w0.heap.size w0 wl
set_option maxHeartbeats 1000000 in
set_option maxRecDepth 100000 in
theorem opN2_0 {Q : Exit → Act → World → Prop} {w0 : World} {T : Array Value} {L : LN2} (H : HN2 w0 T L) : StepAt Tryz.prog Q oN2 (InvN2 w0 T L) 0 := by
  intro listed a wl o ho h0 hall ⟨hls, V, K, hd, hb⟩
  have hsz : a.tmps.size = 53 := K.1.trans H.hTs
  conv at ho => lhs; whnf
  injection ho with ho
  conv at ho => lhs; whnf
  subst ho
  refine want_any rfl ?_
  go_simp
  go_at_call 4
  refine (textAwake_any _ (H.he.below hb) (Nat.le_trans H.hw21 hb.size)).mono ?_
  rintro e wN ⟨rfl, hbx⟩
  exact ⟨by simpa using hls, V.lay (k := 0) (d := 32) (by kernel_rfl) (by kernel_rfl) (by rw [hsz]; decide), K.lay (k := 0) (by kernel_rfl) _, (by first | rfl | exact hd), hb.trans (hbx.mono hb.size)⟩
set_option maxHeartbeats 1000000 in
set_option maxRecDepth 100000 in
theorem opN2_1 {Q : Exit → Act → World → Prop} {w0 : World} {T : Array Value} {L : LN2} (H : HN2 w0 T L) : StepAt Tryz.prog Q oN2 (InvN2 w0 T L) 1 := by
  intro listed a wl o ho h0 hall ⟨hls, V, K, hd, hb⟩
  have hsz : a.tmps.size = 53 := K.1.trans H.hTs
  conv at ho => lhs; whnf
  injection ho with ho
  conv at ho => lhs; whnf
  subst ho
  refine want_any rfl ?_
  have g32 : a.tmps.getD 32 undef = .bool true := V.at (k := 0) (by kernel_rfl) (by kernel_rfl) (up hall (by kernel_rfl))
  go_simp
  exact ⟨by simpa using hls, V.lay (k := 1) (d := 33) (by kernel_rfl) (by kernel_rfl) (by rw [hsz]; decide), K.lay (k := 1) (by kernel_rfl) _, (by first | rfl | exact hd), hb⟩
set_option maxHeartbeats 1000000 in
set_option maxRecDepth 100000 in
theorem opN2_2 {Q : Exit → Act → World → Prop} {w0 : World} {T : Array Value} {L : LN2} (H : HN2 w0 T L) : StepAt Tryz.prog Q oN2 (InvN2 w0 T L) 2 := by
  intro listed a wl o ho h0 hall ⟨hls, V, K, hd, hb⟩
  have hsz : a.tmps.size = 53 := K.1.trans H.hTs
  conv at ho => lhs; whnf
  injection ho with ho
  conv at ho => lhs; whnf
  subst ho
  have g33 : a.tmps.getD 33 undef = .bool true := V.at (k := 1) (by kernel_rfl) (by kernel_rfl) (up hall (by kernel_rfl))
  refine want_on (g := 1) rfl (yld_at (k := 1) (by kernel_rfl) g33) ?_
  have g6 : a.tmps.getD 6 undef = .bool false := (K.get 6 (by kernel_rfl)).trans H.hT6
  go_simp
  exact ⟨by simpa using hls, V.lay (k := 2) (d := 34) (by kernel_rfl) (by kernel_rfl) (by rw [hsz]; decide), K.lay (k := 2) (by kernel_rfl) _, (by first | rfl | exact hd), hb⟩
set_option maxHeartbeats 1000000 in
set_option maxRecDepth 100000 in
theorem opN2_3 {Q : Exit → Act → World → Prop} {w0 : World} {T : Array Value} {L : LN2} (H : HN2 w0 T L) : StepAt Tryz.prog Q oN2 (InvN2 w0 T L) 3 := by
  intro listed a wl o ho h0 hall ⟨hls, V, K, hd, hb⟩
  have hsz : a.tmps.size = 53 := K.1.trans H.hTs
  conv at ho => lhs; whnf
  injection ho with ho
  conv at ho => lhs; whnf
  subst ho
  have g33 : a.tmps.getD 33 undef = .bool true := V.at (k := 1) (by kernel_rfl) (by kernel_rfl) (up hall (by kernel_rfl))
  refine want_on (g := 1) rfl (yld_at (k := 1) (by kernel_rfl) g33) ?_
  have g4 : a.tmps.getD 4 undef = .int .u8 0 := (K.get 4 (by kernel_rfl)).trans H.hT4
  go_simp
  exact ⟨by simpa using hls, V.lay (k := 3) (d := 35) (by kernel_rfl) (by kernel_rfl) (by rw [hsz]; decide), K.lay (k := 3) (by kernel_rfl) _, (by first | rfl | exact hd), hb⟩
set_option maxHeartbeats 1000000 in
set_option maxRecDepth 100000 in
theorem opN2_4 {Q : Exit → Act → World → Prop} {w0 : World} {T : Array Value} {L : LN2} (H : HN2 w0 T L) : StepAt Tryz.prog Q oN2 (InvN2 w0 T L) 4 := by
  intro listed a wl o ho h0 hall ⟨hls, V, K, hd, hb⟩
  have hsz : a.tmps.size = 53 := K.1.trans H.hTs
  conv at ho => lhs; whnf
  injection ho with ho
  conv at ho => lhs; whnf
  subst ho
  have g33 : a.tmps.getD 33 undef = .bool true := V.at (k := 1) (by kernel_rfl) (by kernel_rfl) (up hall (by kernel_rfl))
  refine want_on (g := 1) rfl (yld_at (k := 1) (by kernel_rfl) g33) ?_
  have g35 : a.tmps.getD 35 undef = .int .u8 0 := V.at (k := 3) (by kernel_rfl) (by kernel_rfl) (up hall (by kernel_rfl))
  go_simp
  exact ⟨by simpa using hls, V.lay (k := 4) (d := 36) (by kernel_rfl) (by kernel_rfl) (by rw [hsz]; decide), K.lay (k := 4) (by kernel_rfl) _, (by first | rfl | exact hd), hb⟩
set_option maxHeartbeats 1000000 in
set_option maxRecDepth 100000 in
theorem opN2_5 {Q : Exit → Act → World → Prop} {w0 : World} {T : Array Value} {L : LN2} (H : HN2 w0 T L) : StepAt Tryz.prog Q oN2 (InvN2 w0 T L) 5 := by
  intro listed a wl o ho h0 hall ⟨hls, V, K, hd, hb⟩
  have hsz : a.tmps.size = 53 := K.1.trans H.hTs
  conv at ho => lhs; whnf
  injection ho with ho
  conv at ho => lhs; whnf
  subst ho
  have g33 : a.tmps.getD 33 undef = .bool true := V.at (k := 1) (by kernel_rfl) (by kernel_rfl) (up hall (by kernel_rfl))
  refine want_on (g := 1) rfl (yld_at (k := 1) (by kernel_rfl) g33) ?_
  have g36 : a.tmps.getD 36 undef = .bool true := V.at (k := 4) (by kernel_rfl) (by kernel_rfl) (up hall (by kernel_rfl))
  go_simp
  exact ⟨by simpa using hls, V.lay (k := 5) (d := 37) (by kernel_rfl) (by kernel_rfl) (by rw [hsz]; decide), K.lay (k := 5) (by kernel_rfl) _, (by first | rfl | exact hd), hb⟩
set_option maxHeartbeats 1000000 in
set_option maxRecDepth 100000 in
theorem opN2_6 {Q : Exit → Act → World → Prop} {w0 : World} {T : Array Value} {L : LN2} (H : HN2 w0 T L) : StepAt Tryz.prog Q oN2 (InvN2 w0 T L) 6 := by
  intro listed a wl o ho h0 hall ⟨hls, V, K, hd, hb⟩
  have hsz : a.tmps.size = 53 := K.1.trans H.hTs
  conv at ho => lhs; whnf
  injection ho with ho
  conv at ho => lhs; whnf
  subst ho
  have g37 : a.tmps.getD 37 undef = .bool true := V.at (k := 5) (by kernel_rfl) (by kernel_rfl) (up hall (by kernel_rfl))
  refine want_on (g := 5) rfl (yld_at (k := 5) (by kernel_rfl) g37) ?_
  have g3 : a.tmps.getD 3 undef = .pointer (some ⟨L.b3, 0, none⟩) := (K.get 3 (by kernel_rfl)).trans H.hT3
  refine wp_load_block 26 (.tmp 3) rfl _ _ g3 _ (H.HF.out _ hb).f3 Tryz.underlying26 rfl (by kernel_rfl) ?_
  exact ⟨by simpa using hls, V.lay (k := 6) (d := 38) (by kernel_rfl) (by kernel_rfl) (by rw [hsz]; decide), K.lay (k := 6) (by kernel_rfl) _, (by first | rfl | exact hd), hb⟩
set_option maxHeartbeats 1000000 in
set_option maxRecDepth 100000 in
theorem opN2_7 {Q : Exit → Act → World → Prop} {w0 : World} {T : Array Value} {L : LN2} (H : HN2 w0 T L) : StepAt Tryz.prog Q oN2 (InvN2 w0 T L) 7 := by
  intro listed a wl o ho h0 hall ⟨hls, V, K, hd, hb⟩
  have hsz : a.tmps.size = 53 := K.1.trans H.hTs
  conv at ho => lhs; whnf
  injection ho with ho
  conv at ho => lhs; whnf
  subst ho
  have g37 : a.tmps.getD 37 undef = .bool true := V.at (k := 5) (by kernel_rfl) (by kernel_rfl) (up hall (by kernel_rfl))
  refine want_on (g := 5) rfl (yld_at (k := 5) (by kernel_rfl) g37) ?_
  have g38 : a.tmps.getD 38 undef = .agg (L.r.cells L.u) := V.at (k := 6) (by kernel_rfl) (by kernel_rfl) (up hall (by kernel_rfl))
  have hRR := RuleRight_any L.pb L.r L.u wl (H.HF.out _ hb).pu H.hsm
  rw [H.hrr] at hRR
  go_simp
  go_at_call 8
  refine (hRR).mono ?_
  rintro e wN ⟨rfl, hbx⟩
  exact ⟨by simpa using hls, V.lay (k := 7) (d := 39) (by kernel_rfl) (by kernel_rfl) (by rw [hsz]; decide), K.lay (k := 7) (by kernel_rfl) _, (by first | rfl | exact hd), hb.trans (hbx.mono hb.size)⟩
set_option maxHeartbeats 1000000 in
set_option maxRecDepth 100000 in
theorem opN2_8 {Q : Exit → Act → World → Prop} {w0 : World} {T : Array Value} {L : LN2} (H : HN2 w0 T L) : StepAt Tryz.prog Q oN2 (InvN2 w0 T L) 8 := by
  intro listed a wl o ho h0 hall ⟨hls, V, K, hd, hb⟩
  have hsz : a.tmps.size = 53 := K.1.trans H.hTs
  conv at ho => lhs; whnf
  injection ho with ho
  conv at ho => lhs; whnf
  subst ho
  have g33 : a.tmps.getD 33 undef = .bool true := V.at (k := 1) (by kernel_rfl) (by kernel_rfl) (up hall (by kernel_rfl))
  refine want_on (g := 1) rfl (yld_at (k := 1) (by kernel_rfl) g33) ?_
  have g37 : a.tmps.getD 37 undef = .bool true := V.at (k := 5) (by kernel_rfl) (by kernel_rfl) (up hall (by kernel_rfl))
  have g39 : a.tmps.getD 39 undef = .bool false := V.at (k := 7) (by kernel_rfl) (by kernel_rfl) (up hall (by kernel_rfl))
  go_simp
  exact ⟨by simpa using hls, V.lay (k := 8) (d := 40) (by kernel_rfl) (by kernel_rfl) (by rw [hsz]; decide), K.lay (k := 8) (by kernel_rfl) _, (by first | rfl | exact hd), hb⟩
set_option maxHeartbeats 1000000 in
set_option maxRecDepth 100000 in
theorem opN2_9 {Q : Exit → Act → World → Prop} {w0 : World} {T : Array Value} {L : LN2} (H : HN2 w0 T L) : StepAt Tryz.prog Q oN2 (InvN2 w0 T L) 9 := by
  intro listed a wl o ho h0 hall ⟨hls, V, K, hd, hb⟩
  have hsz : a.tmps.size = 53 := K.1.trans H.hTs
  conv at ho => lhs; whnf
  injection ho with ho
  conv at ho => lhs; whnf
  subst ho
  have g33 : a.tmps.getD 33 undef = .bool true := V.at (k := 1) (by kernel_rfl) (by kernel_rfl) (up hall (by kernel_rfl))
  refine want_on (g := 1) rfl (yld_at (k := 1) (by kernel_rfl) g33) ?_
  have g34 : a.tmps.getD 34 undef = .bool false := V.at (k := 2) (by kernel_rfl) (by kernel_rfl) (up hall (by kernel_rfl))
  have g40 : a.tmps.getD 40 undef = .bool false := V.at (k := 8) (by kernel_rfl) (by kernel_rfl) (up hall (by kernel_rfl))
  go_simp
  exact ⟨by simpa using hls, V.lay (k := 9) (d := 41) (by kernel_rfl) (by kernel_rfl) (by rw [hsz]; decide), K.lay (k := 9) (by kernel_rfl) _, (by first | rfl | exact hd), hb⟩
set_option maxHeartbeats 1000000 in
set_option maxRecDepth 100000 in
theorem opN2_10 {Q : Exit → Act → World → Prop} {w0 : World} {T : Array Value} {L : LN2} (H : HN2 w0 T L) : StepAt Tryz.prog Q oN2 (InvN2 w0 T L) 10 := by
  intro listed a wl o ho h0 hall ⟨hls, V, K, hd, hb⟩
  have hsz : a.tmps.size = 53 := K.1.trans H.hTs
  conv at ho => lhs; whnf
  injection ho with ho
  conv at ho => lhs; whnf
  subst ho
  refine want_any rfl ?_
  have g33 : a.tmps.getD 33 undef = .bool true := V.at (k := 1) (by kernel_rfl) (by kernel_rfl) (up hall (by kernel_rfl))
  have g41 : a.tmps.getD 41 undef = .bool true := V.at (k := 9) (by kernel_rfl) (by kernel_rfl) (up hall (by kernel_rfl))
  go_simp
  exact ⟨by simpa using hls, V.lay (k := 10) (d := 42) (by kernel_rfl) (by kernel_rfl) (by rw [hsz]; decide), K.lay (k := 10) (by kernel_rfl) _, (by first | rfl | exact hd), hb⟩
set_option maxHeartbeats 1000000 in
set_option maxRecDepth 100000 in
theorem opN2_11 {Q : Exit → Act → World → Prop} {w0 : World} {T : Array Value} {L : LN2} (H : HN2 w0 T L) : StepAt Tryz.prog Q oN2 (InvN2 w0 T L) 11 := by
  intro listed a wl o ho h0 hall ⟨hls, V, K, hd, hb⟩
  have hsz : a.tmps.size = 53 := K.1.trans H.hTs
  conv at ho => lhs; whnf
  injection ho with ho
  conv at ho => lhs; whnf
  subst ho
  refine want_any rfl ?_
  have g42 : a.tmps.getD 42 undef = .bool true := V.at (k := 10) (by kernel_rfl) (by kernel_rfl) (up hall (by kernel_rfl))
  go_simp
  exact ⟨by simpa using hls, V.lay (k := 11) (d := 43) (by kernel_rfl) (by kernel_rfl) (by rw [hsz]; decide), K.lay (k := 11) (by kernel_rfl) _, (by first | rfl | exact hd), hb⟩
set_option maxHeartbeats 1000000 in
set_option maxRecDepth 100000 in
theorem opN2_12 {Q : Exit → Act → World → Prop} {w0 : World} {T : Array Value} {L : LN2} (H : HN2 w0 T L) : StepAt Tryz.prog Q oN2 (InvN2 w0 T L) 12 := by
  intro listed a wl o ho h0 hall ⟨hls, V, K, hd, hb⟩
  have hsz : a.tmps.size = 53 := K.1.trans H.hTs
  conv at ho => lhs; whnf
  injection ho with ho
  conv at ho => lhs; whnf
  subst ho
  have g43 : a.tmps.getD 43 undef = .bool true := V.at (k := 11) (by kernel_rfl) (by kernel_rfl) (up hall (by kernel_rfl))
  refine want_on (g := 11) rfl (yld_at (k := 11) (by kernel_rfl) g43) ?_
  have g6 : a.tmps.getD 6 undef = .bool false := (K.get 6 (by kernel_rfl)).trans H.hT6
  go_simp
  exact ⟨by simpa using hls, V.lay (k := 12) (d := 44) (by kernel_rfl) (by kernel_rfl) (by rw [hsz]; decide), K.lay (k := 12) (by kernel_rfl) _, (by first | rfl | exact hd), hb⟩
set_option maxHeartbeats 1000000 in
set_option maxRecDepth 100000 in
theorem opN2_13 {Q : Exit → Act → World → Prop} {w0 : World} {T : Array Value} {L : LN2} (H : HN2 w0 T L) : StepAt Tryz.prog Q oN2 (InvN2 w0 T L) 13 := by
  intro listed a wl o ho h0 hall ⟨hls, V, K, hd, hb⟩
  have hsz : a.tmps.size = 53 := K.1.trans H.hTs
  conv at ho => lhs; whnf
  injection ho with ho
  conv at ho => lhs; whnf
  subst ho
  have g43 : a.tmps.getD 43 undef = .bool true := V.at (k := 11) (by kernel_rfl) (by kernel_rfl) (up hall (by kernel_rfl))
  refine want_on (g := 11) rfl (yld_at (k := 11) (by kernel_rfl) g43) ?_
  have g44 : a.tmps.getD 44 undef = .bool false := V.at (k := 12) (by kernel_rfl) (by kernel_rfl) (up hall (by kernel_rfl))
  go_simp
  exact ⟨by simpa using hls, V.lay (k := 13) (d := 45) (by kernel_rfl) (by kernel_rfl) (by rw [hsz]; decide), K.lay (k := 13) (by kernel_rfl) _, (by first | rfl | exact hd), hb⟩
set_option maxHeartbeats 1000000 in
set_option maxRecDepth 100000 in
theorem opN2_14 {Q : Exit → Act → World → Prop} {w0 : World} {T : Array Value} {L : LN2} (H : HN2 w0 T L) : StepAt Tryz.prog Q oN2 (InvN2 w0 T L) 14 := by
  intro listed a wl o ho h0 hall ⟨hls, V, K, hd, hb⟩
  have hsz : a.tmps.size = 53 := K.1.trans H.hTs
  conv at ho => lhs; whnf
  injection ho with ho
  conv at ho => lhs; whnf
  subst ho
  have g43 : a.tmps.getD 43 undef = .bool true := V.at (k := 11) (by kernel_rfl) (by kernel_rfl) (up hall (by kernel_rfl))
  refine want_on (g := 11) rfl (yld_at (k := 11) (by kernel_rfl) g43) ?_
  have g45 : a.tmps.getD 45 undef = .bool true := V.at (k := 13) (by kernel_rfl) (by kernel_rfl) (up hall (by kernel_rfl))
  go_simp
  exact ⟨by simpa using hls, V.lay (k := 14) (d := 46) (by kernel_rfl) (by kernel_rfl) (by rw [hsz]; decide), K.lay (k := 14) (by kernel_rfl) _, (by first | rfl | exact hd), hb⟩
set_option maxHeartbeats 1000000 in
set_option maxRecDepth 100000 in
theorem opN2_15 {Q : Exit → Act → World → Prop} {w0 : World} {T : Array Value} {L : LN2} (H : HN2 w0 T L) : StepAt Tryz.prog Q oN2 (InvN2 w0 T L) 15 := by
  intro listed a wl o ho h0 hall ⟨hls, V, K, hd, hb⟩
  have hsz : a.tmps.size = 53 := K.1.trans H.hTs
  conv at ho => lhs; whnf
  injection ho with ho
  conv at ho => lhs; whnf
  subst ho
  have g46 : a.tmps.getD 46 undef = .bool true := V.at (k := 14) (by kernel_rfl) (by kernel_rfl) (up hall (by kernel_rfl))
  refine want_off (g := 14) rfl (yld_at (k := 14) (by kernel_rfl) g46) (by decide) ?_
  exact ⟨by simpa using hls, V.lay (k := 15) (d := 47) (by kernel_rfl) (by kernel_rfl) (by rw [hsz]; decide), K.lay (k := 15) (by kernel_rfl) _, (by first | rfl | exact hd), hb⟩
set_option maxHeartbeats 1000000 in
set_option maxRecDepth 100000 in
theorem opN2_16 {Q : Exit → Act → World → Prop} {w0 : World} {T : Array Value} {L : LN2} (H : HN2 w0 T L) : StepAt Tryz.prog Q oN2 (InvN2 w0 T L) 16 := by
  intro listed a wl o ho h0 hall ⟨hls, V, K, hd, hb⟩
  have hsz : a.tmps.size = 53 := K.1.trans H.hTs
  conv at ho => lhs; whnf
  injection ho with ho
  conv at ho => lhs; whnf
  subst ho
  have g46 : a.tmps.getD 46 undef = .bool true := V.at (k := 14) (by kernel_rfl) (by kernel_rfl) (up hall (by kernel_rfl))
  refine want_off (g := 14) rfl (yld_at (k := 14) (by kernel_rfl) g46) (by decide) ?_
  exact ⟨by simpa using hls, V.lay (k := 16) (d := 48) (by kernel_rfl) (by kernel_rfl) (by rw [hsz]; decide), K.lay (k := 16) (by kernel_rfl) _, (by first | rfl | exact hd), hb⟩
set_option maxHeartbeats 1000000 in
set_option maxRecDepth 100000 in
theorem opN2_17 {Q : Exit → Act → World → Prop} {w0 : World} {T : Array Value} {L : LN2} (H : HN2 w0 T L) : StepAt Tryz.prog Q oN2 (InvN2 w0 T L) 17 := by
  intro listed a wl o ho h0 hall ⟨hls, V, K, hd, hb⟩
  have hsz : a.tmps.size = 53 := K.1.trans H.hTs
  conv at ho => lhs; whnf
  injection ho with ho
  conv at ho => lhs; whnf
  subst ho
  have g46 : a.tmps.getD 46 undef = .bool true := V.at (k := 14) (by kernel_rfl) (by kernel_rfl) (up hall (by kernel_rfl))
  refine want_off (g := 14) rfl (yld_at (k := 14) (by kernel_rfl) g46) (by decide) ?_
  exact ⟨by simpa using hls, V.lay (k := 17) (d := 49) (by kernel_rfl) (by kernel_rfl) (by rw [hsz]; decide), K.lay (k := 17) (by kernel_rfl) _, (by first | rfl | exact hd), hb⟩
set_option maxHeartbeats 1000000 in
set_option maxRecDepth 100000 in
theorem opN2_18 {Q : Exit → Act → World → Prop} {w0 : World} {T : Array Value} {L : LN2} (H : HN2 w0 T L) : StepAt Tryz.prog Q oN2 (InvN2 w0 T L) 18 := by
  intro listed a wl o ho h0 hall ⟨hls, V, K, hd, hb⟩
  have hsz : a.tmps.size = 53 := K.1.trans H.hTs
  conv at ho => lhs; whnf
  injection ho with ho
  conv at ho => lhs; whnf
  subst ho
  have g46 : a.tmps.getD 46 undef = .bool true := V.at (k := 14) (by kernel_rfl) (by kernel_rfl) (up hall (by kernel_rfl))
  refine want_off (g := 14) rfl (yld_at (k := 14) (by kernel_rfl) g46) (by decide) ?_
  exact ⟨by simpa using hls, V.lay (k := 18) (d := 50) (by kernel_rfl) (by kernel_rfl) (by rw [hsz]; decide), K.lay (k := 18) (by kernel_rfl) _, (by first | rfl | exact hd), hb⟩
set_option maxHeartbeats 1000000 in
set_option maxRecDepth 100000 in
theorem opN2_19 {Q : Exit → Act → World → Prop} {w0 : World} {T : Array Value} {L : LN2} (H : HN2 w0 T L) : StepAt Tryz.prog Q oN2 (InvN2 w0 T L) 19 := by
  intro listed a wl o ho h0 hall ⟨hls, V, K, hd, hb⟩
  have hsz : a.tmps.size = 53 := K.1.trans H.hTs
  conv at ho => lhs; whnf
  injection ho with ho
  conv at ho => lhs; whnf
  subst ho
  have g43 : a.tmps.getD 43 undef = .bool true := V.at (k := 11) (by kernel_rfl) (by kernel_rfl) (up hall (by kernel_rfl))
  refine want_on (g := 11) rfl (yld_at (k := 11) (by kernel_rfl) g43) ?_
  have g46 : a.tmps.getD 46 undef = .bool true := V.at (k := 14) (by kernel_rfl) (by kernel_rfl) (up hall (by kernel_rfl))
  have g50 : a.tmps.getD 50 undef = undef := V.at (k := 18) (by kernel_rfl) (by kernel_rfl) (up hall (by kernel_rfl))
  go_simp
  exact ⟨by simpa using hls, V.lay (k := 19) (d := 51) (by kernel_rfl) (by kernel_rfl) (by rw [hsz]; decide), K.lay (k := 19) (by kernel_rfl) _, (by first | rfl | exact hd), hb⟩
set_option maxHeartbeats 1000000 in
set_option maxRecDepth 100000 in
theorem opN2_20 {Q : Exit → Act → World → Prop} {w0 : World} {T : Array Value} {L : LN2} (H : HN2 w0 T L) : StepAt Tryz.prog Q oN2 (InvN2 w0 T L) 20 := by
  intro listed a wl o ho h0 hall ⟨hls, V, K, hd, hb⟩
  have hsz : a.tmps.size = 53 := K.1.trans H.hTs
  conv at ho => lhs; whnf
  injection ho with ho
  conv at ho => lhs; whnf
  subst ho
  refine want_any rfl ?_
  have g43 : a.tmps.getD 43 undef = .bool true := V.at (k := 11) (by kernel_rfl) (by kernel_rfl) (up hall (by kernel_rfl))
  have g51 : a.tmps.getD 51 undef = .bool true := V.at (k := 19) (by kernel_rfl) (by kernel_rfl) (up hall (by kernel_rfl))
  go_simp
  exact ⟨by simpa using hls, V.lay (k := 20) (d := 52) (by kernel_rfl) (by kernel_rfl) (by rw [hsz]; decide), K.lay (k := 20) (by kernel_rfl) _, (by first | rfl | exact hd), hb⟩
set_option maxHeartbeats 1000000 in
set_option maxRecDepth 100000 in
theorem opN2_21 {Q : Exit → Act → World → Prop} {w0 : World} {T : Array Value} {L : LN2} (H : HN2 w0 T L) : StepAt Tryz.prog Q oN2 (InvN2 w0 T L) 21 := by
  intro listed a wl o ho h0 hall ⟨hls, V, K, hd, hb⟩
  have hsz : a.tmps.size = 53 := K.1.trans H.hTs
  conv at ho => lhs; whnf
  injection ho with ho
  conv at ho => lhs; whnf
  subst ho
  refine want_any rfl ?_
  have g52 : a.tmps.getD 52 undef = .bool true := V.at (k := 20) (by kernel_rfl) (by kernel_rfl) (up hall (by kernel_rfl))
  go_simp
  exact ⟨by simpa using hls, V.lay (k := 21) (d := 2) (by kernel_rfl) (by kernel_rfl) (by rw [hsz]; decide), K.lay (k := 21) (by kernel_rfl) _, (by first | rfl | exact hd), hb⟩
set_option maxHeartbeats 4000000 in
set_option maxRecDepth 100000 in
theorem regionN2 {Q : Exit → Act → World → Prop} (id : Nat) (w0 : World) (T : Array Value) (L : LN2) (H : HN2 w0 T L)
    (hQ : ∀ (t : Array Value) (wl : World), t.size = 53 → t.getD 2 undef = .bool true → Below w0.heap.size w0 wl → Q .normal ⟨t, []⟩ wl) :
    (Code.region id oN2 true).wp Tryz.prog Q ⟨T, []⟩ w0 := by
  have hz : oN2.size = 22 := by kernel_rfl
  refine region_steps (by kernel_rfl) (InvN2 w0 T L) ⟨by simp; rfl, VI.start _ _ _, KI.start _, rfl, (Below.refl _ _).drew⟩ ?_ 22 hz ?_
  · intro listed a wl hr ⟨hls, V, K, hd, hb⟩
    have ha := all_listed (ops := oN2) (by kernel_rfl) (hls.trans hz.symm) hr
    obtain ⟨t, df⟩ := a
    change df = [] at hd
    subst hd
    exact hQ t wl (K.1.trans H.hTs) (V.end ha (k := 21) (by kernel_rfl) (by kernel_rfl)) hb
  · intro k hk
    match k, hk with
    | 0, _ => exact opN2_0 H
    | 1, _ => exact opN2_1 H
    | 2, _ => exact opN2_2 H
    | 3, _ => exact opN2_3 H
    | 4, _ => exact opN2_4 H
    | 5, _ => exact opN2_5 H
    | 6, _ => exact opN2_6 H
    | 7, _ => exact opN2_7 H
    | 8, _ => exact opN2_8 H
    | 9, _ => exact opN2_9 H
    | 10, _ => exact opN2_10 H
    | 11, _ => exact opN2_11 H
    | 12, _ => exact opN2_12 H
    | 13, _ => exact opN2_13 H
    | 14, _ => exact opN2_14 H
    | 15, _ => exact opN2_15 H
    | 16, _ => exact opN2_16 H
    | 17, _ => exact opN2_17 H
    | 18, _ => exact opN2_18 H
    | 19, _ => exact opN2_19 H
    | 20, _ => exact opN2_20 H
    | 21, _ => exact opN2_21 H
    | k + 22, hk => exact absurd hk (by omega)
noncomputable def oN3 : Array Oper := findOps 9 (Tryz.f3.body.getD .skip)
structure LN3 where
  (b3 b5 pb : Nat)
  (r : PR)
  (u v : PV)
structure FN3 (L : LN3) (wl : World) : Prop where
  f3 : Block wl L.b3 (L.r.cells L.u)
  pu : PRows L.pb wl L.r L.u
  f5 : Block wl L.b5 (L.r.cells L.v)
  pv : PRows L.pb wl L.r L.v
structure HN3 (w0 : World) (T : Array Value) (L : LN3) : Prop where
  hTs : T.size = 53
  hT3 : T.getD 3 undef = .pointer (some ⟨L.b3, 0, none⟩)
  hT4 : T.getD 4 undef = .int .u8 0
  hT5 : T.getD 5 undef = .pointer (some ⟨L.b5, 0, none⟩)
  hT6 : T.getD 6 undef = .bool true
  HF : Hid (∀ wl, Below w0.heap.size w0 wl → FN3 L wl)
  he : Env w0
  hw21 : 20 ≤ w0.heap.size
  hsm : L.r.small
  hpb : L.pb < w0.heap.size
  hrr : Pl.ruleRight L.r = true
def valN3 (L : LN3) (gx : PV) (d : Nat) : Value := if d = 48 then .agg (L.r.cells gx) else (#[undef, undef, .bool true, undef, undef, undef, undef, undef, undef, undef, undef, undef, undef, undef, undef, undef, undef, undef, undef, undef, undef, undef, undef, undef, undef, undef, undef, undef, undef, undef, undef, undef, .bool true, .bool true, .bool true, .int .u8 0, .bool true, .bool true, .agg (L.r.cells L.u), .bool true, .bool true, .bool true, .bool true, .bool true, .bool true, .bool false, .bool false, .agg (L.r.cells L.v), undef, .agg (L.r.cells L.u), .bool true, .bool true, .bool true] : Array Value).getD d undef
/-- What holds while the operations come up. -/
def InvN3 (w0 : World) (T : Array Value) (L : LN3) (listed : Array Bool) (a : Act) (wl : World) : Prop :=
  ∃ gx : PV, listed.size = 22 ∧ VI oN3 (valN3 L gx) listed a.tmps ∧ KI oN3 T a.tmps ∧ a.defers = [] ∧ Below w0.heap.size w0 wl ∧ (listed.getD 16 false = true → PRows L.pb wl L.r gx)
set_option maxHeartbeats 1000000 in
set_option maxRecDepth 100000 in
theorem opN3_0 {Q : Exit → Act → World → Prop} {w0 : World} {T : Array Value} {L : LN3} (H : HN3 w0 T L) : StepAt Tryz.prog Q oN3 (InvN3 w0 T L) 0 := by
  intro listed a wl o ho h0 hall ⟨gx, hls, V, K, hd, hb, hw⟩
  have hsz : a.tmps.size = 53 := K.1.trans H.hTs
  conv at ho => lhs; whnf
  injection ho with ho
  conv at ho => lhs; whnf
  subst ho
  refine want_any rfl ?_
  go_simp
  go_at_call 4
  refine (textAwake_any _ (H.he.below hb) (Nat.le_trans H.hw21 hb.size)).mono ?_
  rintro e wN ⟨rfl, hbx⟩
  exact ⟨gx, by simpa using hls, V.lay (k := 0) (d := 32) (by kernel_rfl) (by kernel_rfl) (by rw [hsz]; decide), K.lay (k := 0) (by kernel_rfl) _, (by first | rfl | exact hd), hb.trans (hbx.mono hb.size), by rw [getD_ne _ (by decide)]; exact fun h => (fun hg => hg.but (ButBelow.of_below hbx)) (hw h)⟩
set_option maxHeartbeats 1000000 in
set_option maxRecDepth 100000 in
theorem opN3_1 {Q : Exit → Act → World → Prop} {w0 : World} {T : Array Value} {L : LN3} (H : HN3 w0 T L) : StepAt Tryz.prog Q oN3 (InvN3 w0 T L) 1 := by
  intro listed a wl o ho h0 hall ⟨gx, hls, V, K, hd, hb, hw⟩
  have hsz : a.tmps.size = 53 := K.1.trans H.hTs
  conv at ho => lhs; whnf
  injection ho with ho
  conv at ho => lhs; whnf
  subst ho
  refine want_any rfl ?_
  have g32 : a.tmps.getD 32 undef = .bool true := V.at (k := 0) (by kernel_rfl) (by kernel_rfl) (up hall (by kernel_rfl))
  go_simp
  exact ⟨gx, by simpa using hls, V.lay (k := 1) (d := 33) (by kernel_rfl) (by kernel_rfl) (by rw [hsz]; decide), K.lay (k := 1) (by kernel_rfl) _, (by first | rfl | exact hd), hb, by rw [getD_ne _ (by decide)]; exact hw⟩
set_option maxHeartbeats 1000000 in
set_option maxRecDepth 100000 in
theorem opN3_2 {Q : Exit → Act → World → Prop} {w0 : World} {T : Array Value} {L : LN3} (H : HN3 w0 T L) : StepAt Tryz.prog Q oN3 (InvN3 w0 T L) 2 := by
  intro listed a wl o ho h0 hall ⟨gx, hls, V, K, hd, hb, hw⟩
  have hsz : a.tmps.size = 53 := K.1.trans H.hTs
  conv at ho => lhs; whnf
  injection ho with ho
  conv at ho => lhs; whnf
  subst ho
  have g33 : a.tmps.getD 33 undef = .bool true := V.at (k := 1) (by kernel_rfl) (by kernel_rfl) (up hall (by kernel_rfl))
  refine want_on (g := 1) rfl (yld_at (k := 1) (by kernel_rfl) g33) ?_
  have g6 : a.tmps.getD 6 undef = .bool true := (K.get 6 (by kernel_rfl)).trans H.hT6
  go_simp
  exact ⟨gx, by simpa using hls, V.lay (k := 2) (d := 34) (by kernel_rfl) (by kernel_rfl) (by rw [hsz]; decide), K.lay (k := 2) (by kernel_rfl) _, (by first | rfl | exact hd), hb, by rw [getD_ne _ (by decide)]; exact hw⟩
set_option maxHeartbeats 1000000 in
set_option maxRecDepth 100000 in
theorem opN3_3 {Q : Exit → Act → World → Prop} {w0 : World} {T : Array Value} {L : LN3} (H : HN3 w0 T L) : StepAt Tryz.prog Q oN3 (InvN3 w0 T L) 3 := by
  intro listed a wl o ho h0 hall ⟨gx, hls, V, K, hd, hb, hw⟩
  have hsz : a.tmps.size = 53 := K.1.trans H.hTs
  conv at ho => lhs; whnf
  injection ho with ho
  conv at ho => lhs; whnf
  subst ho
  have g33 : a.tmps.getD 33 undef = .bool true := V.at (k := 1) (by kernel_rfl) (by kernel_rfl) (up hall (by kernel_rfl))
  refine want_on (g := 1) rfl (yld_at (k := 1) (by kernel_rfl) g33) ?_
  have g4 : a.tmps.getD 4 undef = .int .u8 0 := (K.get 4 (by kernel_rfl)).trans H.hT4
  go_simp
  exact ⟨gx, by simpa using hls, V.lay (k := 3) (d := 35) (by kernel_rfl) (by kernel_rfl) (by rw [hsz]; decide), K.lay (k := 3) (by kernel_rfl) _, (by first | rfl | exact hd), hb, by rw [getD_ne _ (by decide)]; exact hw⟩
set_option maxHeartbeats 1000000 in
set_option maxRecDepth 100000 in
theorem opN3_4 {Q : Exit → Act → World → Prop} {w0 : World} {T : Array Value} {L : LN3} (H : HN3 w0 T L) : StepAt Tryz.prog Q oN3 (InvN3 w0 T L) 4 := by
  intro listed a wl o ho h0 hall ⟨gx, hls, V, K, hd, hb, hw⟩
  have hsz : a.tmps.size = 53 := K.1.trans H.hTs
  conv at ho => lhs; whnf
  injection ho with ho
  conv at ho => lhs; whnf
  subst ho
  have g33 : a.tmps.getD 33 undef = .bool true := V.at (k := 1) (by kernel_rfl) (by kernel_rfl) (up hall (by kernel_rfl))
  refine want_on (g := 1) rfl (yld_at (k := 1) (by kernel_rfl) g33) ?_
  have g35 : a.tmps.getD 35 undef = .int .u8 0 := V.at (k := 3) (by kernel_rfl) (by kernel_rfl) (up hall (by kernel_rfl))
  go_simp
  exact ⟨gx, by simpa using hls, V.lay (k := 4) (d := 36) (by kernel_rfl) (by kernel_rfl) (by rw [hsz]; decide), K.lay (k := 4) (by kernel_rfl) _, (by first | rfl | exact hd), hb, by rw [getD_ne _ (by decide)]; exact hw⟩
set_option maxHeartbeats 1000000 in
set_option maxRecDepth 100000 in
theorem opN3_5 {Q : Exit → Act → World → Prop} {w0 : World} {T : Array Value} {L : LN3} (H : HN3 w0 T L) : StepAt Tryz.prog Q oN3 (InvN3 w0 T L) 5 := by
  intro listed a wl o ho h0 hall ⟨gx, hls, V, K, hd, hb, hw⟩
  have hsz : a.tmps.size = 53 := K.1.trans H.hTs
  conv at ho => lhs; whnf
  injection ho with ho
  conv at ho => lhs; whnf
  subst ho
  have g33 : a.tmps.getD 33 undef = .bool true := V.at (k := 1) (by kernel_rfl) (by kernel_rfl) (up hall (by kernel_rfl))
  refine want_on (g := 1) rfl (yld_at (k := 1) (by kernel_rfl) g33) ?_
  have g36 : a.tmps.getD 36 undef = .bool true := V.at (k := 4) (by kernel_rfl) (by kernel_rfl) (up hall (by kernel_rfl))
  go_simp
  exact ⟨gx, by simpa using hls, V.lay (k := 5) (d := 37) (by kernel_rfl) (by kernel_rfl) (by rw [hsz]; decide), K.lay (k := 5) (by kernel_rfl) _, (by first | rfl | exact hd), hb, by rw [getD_ne _ (by decide)]; exact hw⟩
set_option maxHeartbeats 1000000 in
set_option maxRecDepth 100000 in
theorem opN3_6 {Q : Exit → Act → World → Prop} {w0 : World} {T : Array Value} {L : LN3} (H : HN3 w0 T L) : StepAt Tryz.prog Q oN3 (InvN3 w0 T L) 6 := by
  intro listed a wl o ho h0 hall ⟨gx, hls, V, K, hd, hb, hw⟩
  have hsz : a.tmps.size = 53 := K.1.trans H.hTs
  conv at ho => lhs; whnf
  injection ho with ho
  conv at ho => lhs; whnf
  subst ho
  have g37 : a.tmps.getD 37 undef = .bool true := V.at (k := 5) (by kernel_rfl) (by kernel_rfl) (up hall (by kernel_rfl))
  refine want_on (g := 5) rfl (yld_at (k := 5) (by kernel_rfl) g37) ?_
  have g3 : a.tmps.getD 3 undef = .pointer (some ⟨L.b3, 0, none⟩) := (K.get 3 (by kernel_rfl)).trans H.hT3
  refine wp_load_block 26 (.tmp 3) rfl _ _ g3 _ (H.HF.out _ hb).f3 Tryz.underlying26 rfl (by kernel_rfl) ?_
  exact ⟨gx, by simpa using hls, V.lay (k := 6) (d := 38) (by kernel_rfl) (by kernel_rfl) (by rw [hsz]; decide), K.lay (k := 6) (by kernel_rfl) _, (by first | rfl | exact hd), hb, by rw [getD_ne _ (by decide)]; exact hw⟩
set_option maxHeartbeats 1000000 in
set_option maxRecDepth 100000 in
theorem opN3_7 {Q : Exit → Act → World → Prop} {w0 : World} {T : Array Value} {L : LN3} (H : HN3 w0 T L) : StepAt Tryz.prog Q oN3 (InvN3 w0 T L) 7 := by
  intro listed a wl o ho h0 hall ⟨gx, hls, V, K, hd, hb, hw⟩
  have hsz : a.tmps.size = 53 := K.1.trans H.hTs
  conv at ho => lhs; whnf
  injection ho with ho
  conv at ho => lhs; whnf
  subst ho
  have g37 : a.tmps.getD 37 undef = .bool true := V.at (k := 5) (by kernel_rfl) (by kernel_rfl) (up hall (by kernel_rfl))
  refine want_on (g := 5) rfl (yld_at (k := 5) (by kernel_rfl) g37) ?_
  have g38 : a.tmps.getD 38 undef = .agg (L.r.cells L.u) := V.at (k := 6) (by kernel_rfl) (by kernel_rfl) (up hall (by kernel_rfl))
  have hRR := RuleRight_any L.pb L.r L.u wl (H.HF.out _ hb).pu H.hsm
  rw [H.hrr] at hRR
  go_simp
  go_at_call 8
  refine (hRR).mono ?_
  rintro e wN ⟨rfl, hbx⟩
  exact ⟨gx, by simpa using hls, V.lay (k := 7) (d := 39) (by kernel_rfl) (by kernel_rfl) (by rw [hsz]; decide), K.lay (k := 7) (by kernel_rfl) _, (by first | rfl | exact hd), hb.trans (hbx.mono hb.size), by rw [getD_ne _ (by decide)]; exact fun h => (fun hg => hg.but (ButBelow.of_below hbx)) (hw h)⟩
set_option maxHeartbeats 1000000 in
set_option maxRecDepth 100000 in
theorem opN3_8 {Q : Exit → Act → World → Prop} {w0 : World} {T : Array Value} {L : LN3} (H : HN3 w0 T L) : StepAt Tryz.prog Q oN3 (InvN3 w0 T L) 8 := by
  intro listed a wl o ho h0 hall ⟨gx, hls, V, K, hd, hb, hw⟩
  have hsz : a.tmps.size = 53 := K.1.trans H.hTs
  conv at ho => lhs; whnf
  injection ho with ho
  conv at ho => lhs; whnf
  subst ho
  have g33 : a.tmps.getD 33 undef = .bool true := V.at (k := 1) (by kernel_rfl) (by kernel_rfl) (up hall (by kernel_rfl))
  refine want_on (g := 1) rfl (yld_at (k := 1) (by kernel_rfl) g33) ?_
  have g37 : a.tmps.getD 37 undef = .bool true := V.at (k := 5) (by kernel_rfl) (by kernel_rfl) (up hall (by kernel_rfl))
  have g39 : a.tmps.getD 39 undef = .bool true := V.at (k := 7) (by kernel_rfl) (by kernel_rfl) (up hall (by kernel_rfl))
  go_simp
  exact ⟨gx, by simpa using hls, V.lay (k := 8) (d := 40) (by kernel_rfl) (by kernel_rfl) (by rw [hsz]; decide), K.lay (k := 8) (by kernel_rfl) _, (by first | rfl | exact hd), hb, by rw [getD_ne _ (by decide)]; exact hw⟩
set_option maxHeartbeats 1000000 in
set_option maxRecDepth 100000 in
theorem opN3_9 {Q : Exit → Act → World → Prop} {w0 : World} {T : Array Value} {L : LN3} (H : HN3 w0 T L) : StepAt Tryz.prog Q oN3 (InvN3 w0 T L) 9 := by
  intro listed a wl o ho h0 hall ⟨gx, hls, V, K, hd, hb, hw⟩
  have hsz : a.tmps.size = 53 := K.1.trans H.hTs
  conv at ho => lhs; whnf
  injection ho with ho
  conv at ho => lhs; whnf
  subst ho
  have g33 : a.tmps.getD 33 undef = .bool true := V.at (k := 1) (by kernel_rfl) (by kernel_rfl) (up hall (by kernel_rfl))
  refine want_on (g := 1) rfl (yld_at (k := 1) (by kernel_rfl) g33) ?_
  have g34 : a.tmps.getD 34 undef = .bool true := V.at (k := 2) (by kernel_rfl) (by kernel_rfl) (up hall (by kernel_rfl))
  have g40 : a.tmps.getD 40 undef = .bool true := V.at (k := 8) (by kernel_rfl) (by kernel_rfl) (up hall (by kernel_rfl))
  go_simp
  exact ⟨gx, by simpa using hls, V.lay (k := 9) (d := 41) (by kernel_rfl) (by kernel_rfl) (by rw [hsz]; decide), K.lay (k := 9) (by kernel_rfl) _, (by first | rfl | exact hd), hb, by rw [getD_ne _ (by decide)]; exact hw⟩
set_option maxHeartbeats 1000000 in
set_option maxRecDepth 100000 in
theorem opN3_10 {Q : Exit → Act → World → Prop} {w0 : World} {T : Array Value} {L : LN3} (H : HN3 w0 T L) : StepAt Tryz.prog Q oN3 (InvN3 w0 T L) 10 := by
  intro listed a wl o ho h0 hall ⟨gx, hls, V, K, hd, hb, hw⟩
  have hsz : a.tmps.size = 53 := K.1.trans H.hTs
  conv at ho => lhs; whnf
  injection ho with ho
  conv at ho => lhs; whnf
  subst ho
  refine want_any rfl ?_
  have g33 : a.tmps.getD 33 undef = .bool true := V.at (k := 1) (by kernel_rfl) (by kernel_rfl) (up hall (by kernel_rfl))
  have g41 : a.tmps.getD 41 undef = .bool true := V.at (k := 9) (by kernel_rfl) (by kernel_rfl) (up hall (by kernel_rfl))
  go_simp
  exact ⟨gx, by simpa using hls, V.lay (k := 10) (d := 42) (by kernel_rfl) (by kernel_rfl) (by rw [hsz]; decide), K.lay (k := 10) (by kernel_rfl) _, (by first | rfl | exact hd), hb, by rw [getD_ne _ (by decide)]; exact hw⟩
set_option maxHeartbeats 1000000 in
set_option maxRecDepth 100000 in
theorem opN3_11 {Q : Exit → Act → World → Prop} {w0 : World} {T : Array Value} {L : LN3} (H : HN3 w0 T L) : StepAt Tryz.prog Q oN3 (InvN3 w0 T L) 11 := by
  intro listed a wl o ho h0 hall ⟨gx, hls, V, K, hd, hb, hw⟩
  have hsz : a.tmps.size = 53 := K.1.trans H.hTs
  conv at ho => lhs; whnf
  injection ho with ho
  conv at ho => lhs; whnf
  subst ho
  refine want_any rfl ?_
  have g42 : a.tmps.getD 42 undef = .bool true := V.at (k := 10) (by kernel_rfl) (by kernel_rfl) (up hall (by kernel_rfl))
  go_simp
  exact ⟨gx, by simpa using hls, V.lay (k := 11) (d := 43) (by kernel_rfl) (by kernel_rfl) (by rw [hsz]; decide), K.lay (k := 11) (by kernel_rfl) _, (by first | rfl | exact hd), hb, by rw [getD_ne _ (by decide)]; exact hw⟩
set_option maxHeartbeats 1000000 in
set_option maxRecDepth 100000 in
theorem opN3_12 {Q : Exit → Act → World → Prop} {w0 : World} {T : Array Value} {L : LN3} (H : HN3 w0 T L) : StepAt Tryz.prog Q oN3 (InvN3 w0 T L) 12 := by
  intro listed a wl o ho h0 hall ⟨gx, hls, V, K, hd, hb, hw⟩
  have hsz : a.tmps.size = 53 := K.1.trans H.hTs
  conv at ho => lhs; whnf
  injection ho with ho
  conv at ho => lhs; whnf
  subst ho
  have g43 : a.tmps.getD 43 undef = .bool true := V.at (k := 11) (by kernel_rfl) (by kernel_rfl) (up hall (by kernel_rfl))
  refine want_on (g := 11) rfl (yld_at (k := 11) (by kernel_rfl) g43) ?_
  have g6 : a.tmps.getD 6 undef = .bool true := (K.get 6 (by kernel_rfl)).trans H.hT6
  go_simp
  exact ⟨gx, by simpa using hls, V.lay (k := 12) (d := 44) (by kernel_rfl) (by kernel_rfl) (by rw [hsz]; decide), K.lay (k := 12) (by kernel_rfl) _, (by first | rfl | exact hd), hb, by rw [getD_ne _ (by decide)]; exact hw⟩
set_option maxHeartbeats 1000000 in
set_option maxRecDepth 100000 in
theorem opN3_13 {Q : Exit → Act → World → Prop} {w0 : World} {T : Array Value} {L : LN3} (H : HN3 w0 T L) : StepAt Tryz.prog Q oN3 (InvN3 w0 T L) 13 := by
  intro listed a wl o ho h0 hall ⟨gx, hls, V, K, hd, hb, hw⟩
  have hsz : a.tmps.size = 53 := K.1.trans H.hTs
  conv at ho => lhs; whnf
  injection ho with ho
  conv at ho => lhs; whnf
  subst ho
  have g43 : a.tmps.getD 43 undef = .bool true := V.at (k := 11) (by kernel_rfl) (by kernel_rfl) (up hall (by kernel_rfl))
  refine want_on (g := 11) rfl (yld_at (k := 11) (by kernel_rfl) g43) ?_
  have g44 : a.tmps.getD 44 undef = .bool true := V.at (k := 12) (by kernel_rfl) (by kernel_rfl) (up hall (by kernel_rfl))
  go_simp
  exact ⟨gx, by simpa using hls, V.lay (k := 13) (d := 45) (by kernel_rfl) (by kernel_rfl) (by rw [hsz]; decide), K.lay (k := 13) (by kernel_rfl) _, (by first | rfl | exact hd), hb, by rw [getD_ne _ (by decide)]; exact hw⟩
set_option maxHeartbeats 1000000 in
set_option maxRecDepth 100000 in
theorem opN3_14 {Q : Exit → Act → World → Prop} {w0 : World} {T : Array Value} {L : LN3} (H : HN3 w0 T L) : StepAt Tryz.prog Q oN3 (InvN3 w0 T L) 14 := by
  intro listed a wl o ho h0 hall ⟨gx, hls, V, K, hd, hb, hw⟩
  have hsz : a.tmps.size = 53 := K.1.trans H.hTs
  conv at ho => lhs; whnf
  injection ho with ho
  conv at ho => lhs; whnf
  subst ho
  have g43 : a.tmps.getD 43 undef = .bool true := V.at (k := 11) (by kernel_rfl) (by kernel_rfl) (up hall (by kernel_rfl))
  refine want_on (g := 11) rfl (yld_at (k := 11) (by kernel_rfl) g43) ?_
  have g45 : a.tmps.getD 45 undef = .bool false := V.at (k := 13) (by kernel_rfl) (by kernel_rfl) (up hall (by kernel_rfl))
  go_simp
  exact ⟨gx, by simpa using hls, V.lay (k := 14) (d := 46) (by kernel_rfl) (by kernel_rfl) (by rw [hsz]; decide), K.lay (k := 14) (by kernel_rfl) _, (by first | rfl | exact hd), hb, by rw [getD_ne _ (by decide)]; exact hw⟩
set_option maxHeartbeats 1000000 in
set_option maxRecDepth 100000 in
theorem opN3_15 {Q : Exit → Act → World → Prop} {w0 : World} {T : Array Value} {L : LN3} (H : HN3 w0 T L) : StepAt Tryz.prog Q oN3 (InvN3 w0 T L) 15 := by
  intro listed a wl o ho h0 hall ⟨gx, hls, V, K, hd, hb, hw⟩
  have hsz : a.tmps.size = 53 := K.1.trans H.hTs
  conv at ho => lhs; whnf
  injection ho with ho
  conv at ho => lhs; whnf
  subst ho
  have g46 : a.tmps.getD 46 undef = .bool false := V.at (k := 14) (by kernel_rfl) (by kernel_rfl) (up hall (by kernel_rfl))
  refine want_on (g := 14) rfl (yld_at (k := 14) (by kernel_rfl) g46) ?_
  have g5 : a.tmps.getD 5 undef = .pointer (some ⟨L.b5, 0, none⟩) := (K.get 5 (by kernel_rfl)).trans H.hT5
  refine wp_load_block 32 (.tmp 5) rfl _ _ g5 _ (H.HF.out _ hb).f5 Tryz.underlying32 rfl (by kernel_rfl) ?_
  exact ⟨gx, by simpa using hls, V.lay (k := 15) (d := 47) (by kernel_rfl) (by kernel_rfl) (by rw [hsz]; decide), K.lay (k := 15) (by kernel_rfl) _, (by first | rfl | exact hd), hb, by rw [getD_ne _ (by decide)]; exact hw⟩
set_option maxHeartbeats 1000000 in
set_option maxRecDepth 100000 in
theorem opN3_16 {Q : Exit → Act → World → Prop} {w0 : World} {T : Array Value} {L : LN3} (H : HN3 w0 T L) : StepAt Tryz.prog Q oN3 (InvN3 w0 T L) 16 := by
  intro listed a wl o ho h0 hall ⟨gx, hls, V, K, hd, hb, hw⟩
  have hsz : a.tmps.size = 53 := K.1.trans H.hTs
  conv at ho => lhs; whnf
  injection ho with ho
  conv at ho => lhs; whnf
  subst ho
  have g46 : a.tmps.getD 46 undef = .bool false := V.at (k := 14) (by kernel_rfl) (by kernel_rfl) (up hall (by kernel_rfl))
  refine want_on (g := 14) rfl (yld_at (k := 14) (by kernel_rfl) g46) ?_
  have g47 : a.tmps.getD 47 undef = .agg (L.r.cells L.v) := V.at (k := 15) (by kernel_rfl) (by kernel_rfl) (up hall (by kernel_rfl))
  go_simp
  go_at_call 10
  refine (ofRule_any L.pb L.r L.v _ (Nat.lt_of_lt_of_le H.hpb hb.size) (H.HF.out _ hb).pv H.hsm).mono ?_
  rintro e wN ⟨u2, rfl, hp2, hbx⟩
  have V2 : VI oN3 (valN3 L u2) listed a.tmps := V.re fun k o d ho hd hl => by
    by_cases e : d = 48
    · subst e
      have := dst_only (ops := oN3) (k := 16) (by kernel_rfl) ho hd
      subst this; rw [unlisted h0] at hl; cases hl
    · unfold valN3; rw [if_neg e, if_neg e]
  exact ⟨u2, by simpa using hls, V2.lay (k := 16) (d := 48) (by kernel_rfl) (by kernel_rfl) (by rw [hsz]; decide), K.lay (k := 16) (by kernel_rfl) _, (by first | rfl | exact hd), hb.trans (hbx.mono hb.size), fun _ => hp2⟩
set_option maxHeartbeats 1000000 in
set_option maxRecDepth 100000 in
theorem opN3_17 {Q : Exit → Act → World → Prop} {w0 : World} {T : Array Value} {L : LN3} (H : HN3 w0 T L) : StepAt Tryz.prog Q oN3 (InvN3 w0 T L) 17 := by
  intro listed a wl o ho h0 hall ⟨gx, hls, V, K, hd, hb, hw⟩
  have hsz : a.tmps.size = 53 := K.1.trans H.hTs
  conv at ho => lhs; whnf
  injection ho with ho
  conv at ho => lhs; whnf
  subst ho
  have g46 : a.tmps.getD 46 undef = .bool false := V.at (k := 14) (by kernel_rfl) (by kernel_rfl) (up hall (by kernel_rfl))
  refine want_on (g := 14) rfl (yld_at (k := 14) (by kernel_rfl) g46) ?_
  have g3 : a.tmps.getD 3 undef = .pointer (some ⟨L.b3, 0, none⟩) := (K.get 3 (by kernel_rfl)).trans H.hT3
  refine wp_load_block 26 (.tmp 3) rfl _ _ g3 _ (H.HF.out _ hb).f3 Tryz.underlying26 rfl (by kernel_rfl) ?_
  exact ⟨gx, by simpa using hls, V.lay (k := 17) (d := 49) (by kernel_rfl) (by kernel_rfl) (by rw [hsz]; decide), K.lay (k := 17) (by kernel_rfl) _, (by first | rfl | exact hd), hb, by rw [getD_ne _ (by decide)]; exact hw⟩
set_option maxHeartbeats 1000000 in
set_option maxRecDepth 100000 in
theorem opN3_18 {Q : Exit → Act → World → Prop} {w0 : World} {T : Array Value} {L : LN3} (H : HN3 w0 T L) : StepAt Tryz.prog Q oN3 (InvN3 w0 T L) 18 := by
  intro listed a wl o ho h0 hall ⟨gx, hls, V, K, hd, hb, hw⟩
  have hsz : a.tmps.size = 53 := K.1.trans H.hTs
  conv at ho => lhs; whnf
  injection ho with ho
  conv at ho => lhs; whnf
  subst ho
  have g46 : a.tmps.getD 46 undef = .bool false := V.at (k := 14) (by kernel_rfl) (by kernel_rfl) (up hall (by kernel_rfl))
  refine want_on (g := 14) rfl (yld_at (k := 14) (by kernel_rfl) g46) ?_
  have g49 : a.tmps.getD 49 undef = .agg (L.r.cells L.u) := V.at (k := 17) (by kernel_rfl) (by kernel_rfl) (up hall (by kernel_rfl))
  have l16 : listed.getD 16 false = true := hall ⟨16, .data⟩ (by simp) rfl
  have g48 : a.tmps.getD 48 undef = .agg (L.r.cells gx) := V.at (k := 16) (by kernel_rfl) (by kernel_rfl) l16
  have hpx := hw l16
  go_simp
  go_at_call 9
  refine (SameRule_same L.pb L.pb L.r gx L.u _ hpx (H.HF.out _ hb).pu H.hsm).mono ?_
  rintro e wN ⟨rfl, hbx⟩
  exact ⟨gx, by simpa using hls, V.lay (k := 18) (d := 50) (by kernel_rfl) (by kernel_rfl) (by rw [hsz]; decide), K.lay (k := 18) (by kernel_rfl) _, (by first | rfl | exact hd), hb.trans (hbx.mono hb.size), by rw [getD_ne _ (by decide)]; exact fun h => (fun hg => hg.but (ButBelow.of_below hbx)) (hw h)⟩
set_option maxHeartbeats 1000000 in
set_option maxRecDepth 100000 in
theorem opN3_19 {Q : Exit → Act → World → Prop} {w0 : World} {T : Array Value} {L : LN3} (H : HN3 w0 T L) : StepAt Tryz.prog Q oN3 (InvN3 w0 T L) 19 := by
  intro listed a wl o ho h0 hall ⟨gx, hls, V, K, hd, hb, hw⟩
  have hsz : a.tmps.size = 53 := K.1.trans H.hTs
  conv at ho => lhs; whnf
  injection ho with ho
  conv at ho => lhs; whnf
  subst ho
  have g43 : a.tmps.getD 43 undef = .bool true := V.at (k := 11) (by kernel_rfl) (by kernel_rfl) (up hall (by kernel_rfl))
  refine want_on (g := 11) rfl (yld_at (k := 11) (by kernel_rfl) g43) ?_
  have g46 : a.tmps.getD 46 undef = .bool false := V.at (k := 14) (by kernel_rfl) (by kernel_rfl) (up hall (by kernel_rfl))
  have g50 : a.tmps.getD 50 undef = .bool true := V.at (k := 18) (by kernel_rfl) (by kernel_rfl) (up hall (by kernel_rfl))
  go_simp
  exact ⟨gx, by simpa using hls, V.lay (k := 19) (d := 51) (by kernel_rfl) (by kernel_rfl) (by rw [hsz]; decide), K.lay (k := 19) (by kernel_rfl) _, (by first | rfl | exact hd), hb, by rw [getD_ne _ (by decide)]; exact hw⟩
set_option maxHeartbeats 1000000 in
set_option maxRecDepth 100000 in
theorem opN3_20 {Q : Exit → Act → World → Prop} {w0 : World} {T : Array Value} {L : LN3} (H : HN3 w0 T L) : StepAt Tryz.prog Q oN3 (InvN3 w0 T L) 20 := by
  intro listed a wl o ho h0 hall ⟨gx, hls, V, K, hd, hb, hw⟩
  have hsz : a.tmps.size = 53 := K.1.trans H.hTs
  conv at ho => lhs; whnf
  injection ho with ho
  conv at ho => lhs; whnf
  subst ho
  refine want_any rfl ?_
  have g43 : a.tmps.getD 43 undef = .bool true := V.at (k := 11) (by kernel_rfl) (by kernel_rfl) (up hall (by kernel_rfl))
  have g51 : a.tmps.getD 51 undef = .bool true := V.at (k := 19) (by kernel_rfl) (by kernel_rfl) (up hall (by kernel_rfl))
  go_simp
  exact ⟨gx, by simpa using hls, V.lay (k := 20) (d := 52) (by kernel_rfl) (by kernel_rfl) (by rw [hsz]; decide), K.lay (k := 20) (by kernel_rfl) _, (by first | rfl | exact hd), hb, by rw [getD_ne _ (by decide)]; exact hw⟩
set_option maxHeartbeats 1000000 in
set_option maxRecDepth 100000 in
theorem opN3_21 {Q : Exit → Act → World → Prop} {w0 : World} {T : Array Value} {L : LN3} (H : HN3 w0 T L) : StepAt Tryz.prog Q oN3 (InvN3 w0 T L) 21 := by
  intro listed a wl o ho h0 hall ⟨gx, hls, V, K, hd, hb, hw⟩
  have hsz : a.tmps.size = 53 := K.1.trans H.hTs
  conv at ho => lhs; whnf
  injection ho with ho
  conv at ho => lhs; whnf
  subst ho
  refine want_any rfl ?_
  have g52 : a.tmps.getD 52 undef = .bool true := V.at (k := 20) (by kernel_rfl) (by kernel_rfl) (up hall (by kernel_rfl))
  go_simp
  exact ⟨gx, by simpa using hls, V.lay (k := 21) (d := 2) (by kernel_rfl) (by kernel_rfl) (by rw [hsz]; decide), K.lay (k := 21) (by kernel_rfl) _, (by first | rfl | exact hd), hb, by rw [getD_ne _ (by decide)]; exact hw⟩
set_option maxHeartbeats 4000000 in
set_option maxRecDepth 100000 in
theorem regionN3 {Q : Exit → Act → World → Prop} (id : Nat) (w0 : World) (T : Array Value) (L : LN3) (H : HN3 w0 T L)
    (hQ : ∀ (t : Array Value) (wl : World) (gx : PV), t.size = 53 → t.getD 2 undef = .bool true → Below w0.heap.size w0 wl → PRows L.pb wl L.r gx → Q .normal ⟨t, []⟩ wl) :
    (Code.region id oN3 true).wp Tryz.prog Q ⟨T, []⟩ w0 := by
  have hz : oN3.size = 22 := by kernel_rfl
  refine region_steps (by kernel_rfl) (InvN3 w0 T L) ⟨PV.nil, by simp; rfl, VI.start _ _ _, KI.start _, rfl, (Below.refl _ _).drew, fun h => (unrep h).elim⟩ ?_ 22 hz ?_
  · intro listed a wl hr ⟨gx, hls, V, K, hd, hb, hw⟩
    have ha := all_listed (ops := oN3) (by kernel_rfl) (hls.trans hz.symm) hr
    obtain ⟨t, df⟩ := a
    change df = [] at hd
    subst hd
    exact hQ t wl gx (K.1.trans H.hTs) (V.end ha (k := 21) (by kernel_rfl) (by kernel_rfl)) hb (hw (ha 16 (by rw [hz]; decide)))
  · intro k hk
    match k, hk with
    | 0, _ => exact opN3_0 H
    | 1, _ => exact opN3_1 H
    | 2, _ => exact opN3_2 H
    | 3, _ => exact opN3_3 H
    | 4, _ => exact opN3_4 H
    | 5, _ => exact opN3_5 H
    | 6, _ => exact opN3_6 H
    | 7, _ => exact opN3_7 H
    | 8, _ => exact opN3_8 H
    | 9, _ => exact opN3_9 H
    | 10, _ => exact opN3_10 H
    | 11, _ => exact opN3_11 H
    | 12, _ => exact opN3_12 H
    | 13, _ => exact opN3_13 H
    | 14, _ => exact opN3_14 H
    | 15, _ => exact opN3_15 H
    | 16, _ => exact opN3_16 H
    | 17, _ => exact opN3_17 H
    | 18, _ => exact opN3_18 H
    | 19, _ => exact opN3_19 H
    | 20, _ => exact opN3_20 H
    | 21, _ => exact opN3_21 H
    | k + 22, hk => exact absurd hk (by omega)
end Go.Proofs.YthkgjhnckakliaaGreatDoorR
namespace Go.Proofs.YthkgjhnckakliaaGreatDoorR
open Go.RowKit
/-- A whole block loaded, where a guard lets it. -/
theorem wpList_load_guarded {P : Program} {ops : Array Oper} {rest : List Oper} {op : Oper} {a : Act} {w : World} {Q : Exit → Act → World → Prop} {g : Nat} {gb : Bool} (hgd : op.guard = some (g, gb)) (hy : yielded ops a.tmps g = some gb)
    (ty : TypeId) (x : Operand) (ho : op.op = .load ty x) (b : Nat) (cs : Array Value) (hx : a.eval x = .pointer (some ⟨b, 0, none⟩)) (d : TypeDesc) (hB : Block w b cs)
    (hu : P.underlying ty = some d) (hd : d.isRow = true) (hi : (P.info? ty).map (·.size) = some cs.size)
    (h : wpList P ops Q rest (a.put op.dst (.agg cs)) w) : wpList P ops Q (op :: rest) a w :=
  wpList_step fun _ hK => want_on hgd hy (wp_load_block ty x ho b cs hx d hB hu hd hi (hK _ _ h))
theorem lay53 (t : Array Value) (h : t.size = 53) {v : Value} (g : t.getD 2 undef = v) : ∃ u0 u1 rest, t = (u0 :: u1 :: v :: rest : List Value).toArray := by
  subst g
  exact ⟨_, _, _, (laid t 53 h).trans (by rw [show List.range 53 = 0 :: 1 :: 2 :: (List.range 50).map (· + 3) from by decide]; rfl)⟩
set_option maxHeartbeats 4000000 in
set_option maxRecDepth 100000 in
theorem FnTextMade_any (s : ByteArray) (w : World) (he : Env w) (hw : 20 ≤ w.heap.size) :
    Calls Tryz.prog 3 #[.string s] w fun e w' => e = .returned (.bool true) ∧ Below w.heap.size w w' := by
  by_cases h1 : (2147483647 : Int) < s.size
  · go_enter Tryz.func3, Tryz.ntmps3
    go_wp2
    go_ret
    exact ⟨rfl, Below.refl _ _⟩
  by_cases h2 : 2000 < s.size
  · have h2' : (2000 : Int) < s.size := by omega
    go_enter Tryz.func3, Tryz.ntmps3
    go_wp2_with (go_at_call 4; refine (textAwake_any _ he hw).mono ?_; rintro e wN ⟨rfl, hbx⟩)
    go_ret
    exact ⟨rfl, hbx⟩
  have h2' : ¬ (2000 : Int) < s.size := by omega
  have hP := ParseOption_any s w he hw (by omega)
  have hsm := Pl.option_small s.data.toList (by simp; omega)
  generalize hq : Pl.option s.data.toList = q at *
  obtain ⟨r, o⟩ := q
  go_enter Tryz.func3, Tryz.ntmps3
  go_upto_region 5 with fail
  go_wp2_with fail
  refine hP.mono ?_
  rintro e w1 ⟨u, rb, rfl, hp0, hb1⟩
  have hp := hp0.low (Nat.zero_le rb)
  have hone := hp.one
  have HBn : Hid (Block (w1.alloc (.cells zeroRule 26)) w1.heap.size zeroRule) := ⟨26, heap_alloc_new w1 _⟩
  go_upto_region 6 with ((with_reducible refine atl ?_); refine wpList_store_block rfl 26 _ _ rfl w1.heap.size zeroRule (r.cells u) rfl rfl HBn.out rfl (by kernel_rfl) hone ?_; intro w2 hB2 hbb2; go_simp)
  have hb12 : Below w1.heap.size w1 w2 := ((Below.refl _ _).alloc (Nat.le_refl _) _).trans (hbb2.own (Nat.le_refl _) (by simp))
  have hall : Below w.heap.size w w2 := hb1.trans (hb12.mono hb1.size)
  have hp2 := hp.but (ButBelow.of_below hb12)
  have hlt2 : w1.heap.size < w2.heap.size := hB2.lt
  have HB2 := Lib.hid hB2
  have hw2 : 20 ≤ w2.heap.size := Nat.le_trans hw hall.size
  clear hp0 hp hone HBn hbb2 hb12 hB2 hP
  by_cases ho2 : o = 2
  · subst ho2
    go_wp2_with (go_at_call 4; refine (textAwake_any _ (he.below hall) hw2).mono ?_; rintro e wN ⟨rfl, hbx⟩)
    go_ret
    exact ⟨rfl, hall.trans (hbx.mono hall.size)⟩
  have ho2' : ((o : Int) == 2) = false := by simp; omega
  have hE := textEaster_any 0 r u w2 hp2 hsm
  cases hea : Pl.easter r with
  | false =>
    rw [hea] at hE
    go_wp2_with (first | (refine wpList_load_guarded (g := 2) (gb := false) rfl rfl 26 (.tmp 3) rfl w1.heap.size (r.cells u) rfl _ HB2.out Tryz.underlying26 rfl (by kernel_rfl) ?_; go_simp) | (go_at_call 6; refine hE.mono ?_; rintro e w3 ⟨rfl, hb3⟩; have hall3 := hall.trans (hb3.mono hall.size)) | (go_at_call 4; refine (textAwake_any _ (he.below hall3) (Nat.le_trans hw hall3.size)).mono ?_; rintro e wN ⟨rfl, hbx⟩))
    go_ret
    exact ⟨rfl, hall3.trans (hbx.mono hall3.size)⟩
  | true =>
    rw [hea] at hE
    have hRl : Right s.data.toList ↔ o = 0 ∧ Pl.ruleRight r = true := by unfold Right; rw [hq]
    have hPR := fun (wx : World) (hex : Env wx) (hwx : 20 ≤ wx.heap.size) => ParseRule_any s.data.toList wx hex hwx (by simp; omega) (by rw [hq]; exact ho2)
    simp only [bs_eta, hq, hRl] at hPR
    go_upto_region 8 with (first | (refine wpList_load_guarded (g := 2) (gb := false) rfl rfl 26 (.tmp 3) rfl w1.heap.size (r.cells u) rfl _ HB2.out Tryz.underlying26 rfl (by kernel_rfl) ?_; go_simp) | (go_at_call 6; refine hE.mono ?_; rintro e w3 ⟨rfl, hb3⟩; have hall3 := hall.trans (hb3.mono hall.size)))
    have HB3 := Lib.hid (HB2.out.below hb3)
    have hp3 := hp2.but (ButBelow.of_below hb3)
    have hw3 : 20 ≤ w3.heap.size := Nat.le_trans hw hall3.size
    clear HB2 hp2 hE
    go_wp2_with fail
    refine (hPR w3 (he.below hall3) hw3).mono ?_
    rintro e w4 ⟨hyes, hno, hb4⟩
    have hall4 := hall3.trans (hb4.mono hall3.size)
    have HB4 := Lib.hid (HB3.out.below hb4)
    have hp4 := hp3.but (ButBelow.of_below hb4)
    have hlt4 : w1.heap.size < w4.heap.size := HB4.out.lt
    have HBn : Hid (Block (w4.alloc (.cells zeroRule 32)) w4.heap.size zeroRule) := ⟨32, heap_alloc_new w4 _⟩
    clear HB3 hp3 hPR hb3 hall hall3 hw2 hw3 hlt2
    by_cases hR : o = 0 ∧ Pl.ruleRight r = true
    · obtain ⟨v, rfl, hpv⟩ := hyes hR
      obtain ⟨rfl, hrr⟩ := hR
      clear hyes hno
      have hone := hpv.one
      go_upto_region 9 with ((with_reducible refine atl ?_); refine wpList_store_block rfl 32 _ _ rfl w4.heap.size zeroRule (r.cells v) rfl rfl HBn.out rfl (by kernel_rfl) hone ?_; intro w5 hB5 hbb5; go_simp)
      have hb45 : Below w4.heap.size w4 w5 := ((Below.refl _ _).alloc (Nat.le_refl _) _).trans (hbb5.own (Nat.le_refl _) (by simp))
      have hall5 := hall4.trans (hb45.mono hall4.size)
      have hp5 := hp4.but (ButBelow.of_below hb45)
      have hv5 := (hpv.low (Nat.zero_le _)).but (ButBelow.of_below hb45)
      have HB35 := HB4.out.below hb45
      have hz5 : 20 ≤ w5.heap.size := Nat.le_trans hw hall5.size
      refine regionN3 _ w5 _ ⟨w1.heap.size, w4.heap.size, 0, r, u, v⟩ ⟨rfl, rfl, rfl, rfl, rfl, (fun wl hb => ⟨HB35.below hb, hp5.but (ButBelow.of_below hb), hB5.below hb, hv5.but (ButBelow.of_below hb)⟩), he.below hall5, hz5, hsm, (by show 0 < _; omega), hrr⟩ ?_
      intro t wl gx hts g2 hbl _
      obtain ⟨u0, u1, rest, rfl⟩ := lay53 t hts g2
      go_step
      go_wp2
      go_ret
      exact ⟨rfl, hall5.trans (hbl.mono hall5.size)⟩
    · obtain rfl := hno hR
      clear hyes hno
      go_upto_region 9 with ((with_reducible refine atl ?_); refine wpList_store_block rfl 32 _ _ rfl w4.heap.size zeroRule zeroRule rfl rfl HBn.out rfl (by kernel_rfl) zeroRule_one ?_; intro w5 hB5 hbb5; go_simp)
      have hb45 : Below w4.heap.size w4 w5 := ((Below.refl _ _).alloc (Nat.le_refl _) _).trans (hbb5.own (Nat.le_refl _) (by simp))
      have hall5 := hall4.trans (hb45.mono hall4.size)
      have hp5 := hp4.but (ButBelow.of_below hb45)
      have HB35 := HB4.out.below hb45
      have hz5 : 20 ≤ w5.heap.size := Nat.le_trans hw hall5.size
      by_cases ho0 : o = 0
      · subst ho0
        have hrr : Pl.ruleRight r = false := by cases h : Pl.ruleRight r with
          | false => rfl
          | true => exact absurd ⟨rfl, h⟩ hR
        refine regionN2 _ w5 _ ⟨w1.heap.size, w4.heap.size, 0, r, u, PV.nil⟩ ⟨rfl, rfl, rfl, rfl, rfl, (fun wl hb => ⟨HB35.below hb, hp5.but (ButBelow.of_below hb)⟩), he.below hall5, hz5, hsm, (by show 0 < _; omega), hrr⟩ ?_
        intro t wl hts g2 hbl
        obtain ⟨u0, u1, rest, rfl⟩ := lay53 t hts g2
        go_step
        go_wp2
        go_ret
        exact ⟨rfl, hall5.trans (hbl.mono hall5.size)⟩
      · refine regionN1 _ w5 _ ⟨w1.heap.size, w4.heap.size, 0, o, r, u, PV.nil⟩ ⟨rfl, rfl, rfl, rfl, rfl, (fun wl hb => ⟨HB35.below hb, hp5.but (ButBelow.of_below hb)⟩), he.below hall5, hz5, hsm, (by show 0 < _; omega), (by simpa using ho0)⟩ ?_
        intro t wl hts g2 hbl
        obtain ⟨u0, u1, rest, rfl⟩ := lay53 t hts g2
        go_step
        go_wp2
        go_ret
        exact ⟨rfl, hall5.trans (hbl.mono hall5.size)⟩
end Go.Proofs.YthkgjhnckakliaaGreatDoorR

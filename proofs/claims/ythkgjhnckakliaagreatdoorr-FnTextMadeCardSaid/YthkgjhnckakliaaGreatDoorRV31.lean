/- impl.rule: an option of the package as data (printed by gen_imrule.py). -/
import Derived.Test.YthkgjhnckakliaaGreatDoorRV30
import Derived.Test.YthkgjhnckakliaaGreatDoorRV21
import Derived.Test.YthkgjhnckakliaaGreatDoorRV09
import Derived.Test.YthkgjhnckakliaaGreatDoorRV08
import Derived.Great.Walk
import Derived.Deep.RegionHeld3
import Derived.Deep.RegionLaw
namespace Go.Proofs.YthkgjhnckakliaaGreatDoorR
open Go.RowKit
noncomputable def oM1 : Array Oper := findOps 1 (Tryz.f23.body.getD .skip)
structure LM1 where
  (b b2 : Nat)
  (r : PR)
  (a1 a2 a3 a4 a5 a6 a7 a8 a9 a10 : Option Addr)
  (n1 c1 n2 c2 n3 c3 n4 c4 n5 c5 n6 c6 n7 c7 n8 c8 n9 c9 n10 c10 : Nat)
structure FM1 (L : LM1) (wl : World) : Prop where
  fc0 : wl.cell? ⟨L.b, 0, none⟩ = some (.int .i64 (L.r.freq : Nat))
  fc1 : wl.cell? ⟨L.b, 1, none⟩ = some (.int .i64 L.r.start)
  fc2 : wl.cell? ⟨L.b, 2, none⟩ = some (.int .i64 0)
  fc3 : wl.cell? ⟨L.b, 3, none⟩ = some (.int .i64 L.r.interval)
  fc4 : wl.cell? ⟨L.b, 4, none⟩ = some (.int .i64 L.r.wkst)
  fc6 : wl.cell? ⟨L.b, 6, none⟩ = some (.int .i64 L.r.count)
  fc7 : wl.cell? ⟨L.b, 7, none⟩ = some (.int .i64 L.r.until_)
  fc8 : wl.cell? ⟨L.b, 8, none⟩ = some (.int .i64 0)
  fc9 : wl.cell? ⟨L.b, 9, none⟩ = some (.slice L.a1 L.n1 L.c1)
  fc10 : wl.cell? ⟨L.b, 10, none⟩ = some (.slice L.a2 L.n2 L.c2)
  fc11 : wl.cell? ⟨L.b, 11, none⟩ = some (.slice L.a3 L.n3 L.c3)
  fc12 : wl.cell? ⟨L.b, 12, none⟩ = some (.slice L.a4 L.n4 L.c4)
  fc13 : wl.cell? ⟨L.b, 13, none⟩ = some (.slice L.a5 L.n5 L.c5)
  fc14 : wl.cell? ⟨L.b, 14, none⟩ = some (.slice L.a6 L.n6 L.c6)
  fc15 : wl.cell? ⟨L.b, 15, none⟩ = some (.slice L.a7 L.n7 L.c7)
  fc16 : wl.cell? ⟨L.b, 16, none⟩ = some (.slice L.a8 L.n8 L.c8)
  fc17 : wl.cell? ⟨L.b, 17, none⟩ = some (.slice L.a9 L.n9 L.c9)
  fc18 : wl.cell? ⟨L.b, 18, none⟩ = some (.slice L.a10 L.n10 L.c10)
structure HM1 (w0 : World) (T : Array Value) (L : LM1) : Prop where
  hTs : T.size = 101
  hT0 : T.getD 0 undef = .pointer (some ⟨L.b, 0, none⟩)
  hT2 : T.getD 2 undef = .pointer (some ⟨L.b2, 0, none⟩)
  HF : Hid (∀ wl, Below w0.heap.size w0 wl → FM1 L wl)
  HFR : Hid (IntKind.u8.wrap (L.r.freq : Int) = (L.r.freq : Int))
def valM1 (L : LM1) (b3 : Nat) (d : Nat) : Value := if d = 3 then .pointer (some ⟨b3, 0, none⟩) else (#[undef, undef, undef, undef, undef, undef, .pointer (some ⟨L.b, 0, none⟩), .pointer (some ⟨L.b, 0, none⟩), .pointer (some ⟨L.b, 0, none⟩), .int .i64 (L.r.freq : Nat), .int .u8 (L.r.freq : Nat), .pointer (some ⟨L.b, 0, none⟩), .pointer (some ⟨L.b, 0, none⟩), .pointer (some ⟨L.b, 1, none⟩), .agg #[.int .i64 L.r.start, .int .i64 0], .bool (L.r.start == 0), .bool (!(L.r.start == 0)), .pointer (some ⟨L.b, 0, none⟩), .pointer (some ⟨L.b, 0, none⟩), .pointer (some ⟨L.b, 1, none⟩), .agg #[.int .i64 L.r.start, .int .i64 0], .int .i64 L.r.start, .pointer (some ⟨L.b, 0, none⟩), .pointer (some ⟨L.b, 0, none⟩), .pointer (some ⟨L.b, 3, none⟩), .int .i64 L.r.interval, .pointer (some ⟨L.b, 0, none⟩), .pointer (some ⟨L.b, 0, none⟩), .pointer (some ⟨L.b, 4, none⟩), .int .i64 L.r.wkst, .pointer (some ⟨L.b, 0, none⟩), .pointer (some ⟨L.b, 0, none⟩), .pointer (some ⟨L.b, 6, none⟩), .int .i64 L.r.count, .pointer (some ⟨L.b, 0, none⟩), .pointer (some ⟨L.b, 0, none⟩), .pointer (some ⟨L.b, 7, none⟩), .agg #[.int .i64 L.r.until_, .int .i64 0], .bool (L.r.until_ == 0), .bool (!(L.r.until_ == 0)), .pointer (some ⟨L.b, 0, none⟩), .pointer (some ⟨L.b, 0, none⟩), .pointer (some ⟨L.b, 7, none⟩), .agg #[.int .i64 L.r.until_, .int .i64 0], .int .i64 L.r.until_, .pointer (some ⟨L.b, 0, none⟩), .pointer (some ⟨L.b, 0, none⟩), .pointer (some ⟨L.b, 9, none⟩), .slice L.a1 L.n1 L.c1, .pointer (some ⟨L.b, 0, none⟩), .pointer (some ⟨L.b, 0, none⟩), .pointer (some ⟨L.b, 10, none⟩), .slice L.a2 L.n2 L.c2, .pointer (some ⟨L.b, 0, none⟩), .pointer (some ⟨L.b, 0, none⟩), .pointer (some ⟨L.b, 11, none⟩), .slice L.a3 L.n3 L.c3, .pointer (some ⟨L.b, 0, none⟩), .pointer (some ⟨L.b, 0, none⟩), .pointer (some ⟨L.b, 12, none⟩), .slice L.a4 L.n4 L.c4, .pointer (some ⟨L.b, 0, none⟩), .pointer (some ⟨L.b, 0, none⟩), .pointer (some ⟨L.b, 13, none⟩), .slice L.a5 L.n5 L.c5, .pointer (some ⟨L.b, 0, none⟩), .pointer (some ⟨L.b, 0, none⟩), .pointer (some ⟨L.b, 15, none⟩), .slice L.a7 L.n7 L.c7, .pointer (some ⟨L.b, 0, none⟩), .pointer (some ⟨L.b, 0, none⟩), .pointer (some ⟨L.b, 16, none⟩), .slice L.a8 L.n8 L.c8, .pointer (some ⟨L.b, 0, none⟩), .pointer (some ⟨L.b, 0, none⟩), .pointer (some ⟨L.b, 17, none⟩), .slice L.a9 L.n9 L.c9, .pointer (some ⟨L.b, 0, none⟩), .pointer (some ⟨L.b, 0, none⟩), .pointer (some ⟨L.b, 18, none⟩), .slice L.a10 L.n10 L.c10, .agg #[.int .u8 (L.r.freq : Nat), .bool (!(L.r.start == 0)), .int .i64 L.r.start, .int .i64 L.r.interval, .int .i64 L.r.wkst, .int .i64 L.r.count, .bool (!(L.r.until_ == 0)), .int .i64 L.r.until_, .slice L.a1 L.n1 L.c1, .slice L.a2 L.n2 L.c2, .slice L.a3 L.n3 L.c3, .slice L.a4 L.n4 L.c4, .slice L.a5 L.n5 L.c5, .slice none 0 0, .slice L.a7 L.n7 L.c7, .slice L.a8 L.n8 L.c8, .slice L.a9 L.n9 L.c9, .slice L.a10 L.n10 L.c10], undef, undef, undef, undef, undef, undef, undef, undef, undef, undef, undef, undef, undef, undef, undef, undef, undef, undef, undef] : Array Value).getD d undef
/-- What holds while the operations come up. -/
def InvM1 (w0 : World) (T : Array Value) (L : LM1) (listed : Array Bool) (a : Act) (wl : World) : Prop :=
  ∃ b3 : Nat, listed.size = 78 ∧ VI oM1 (valM1 L b3) listed a.tmps ∧ KI oM1 T a.tmps ∧ a.defers = [] ∧ Below w0.heap.size w0 wl ∧ (listed.getD 77 false = true → listed.getD 76 false = true) ∧
    (listed.getD 76 false = true → w0.heap.size ≤ b3 ∧ (listed.getD 77 false = false → Block wl b3 zeroRule) ∧ (listed.getD 77 false = true → Block wl b3 #[.int .u8 (L.r.freq : Nat), .bool (!(L.r.start == 0)), .int .i64 L.r.start, .int .i64 L.r.interval, .int .i64 L.r.wkst, .int .i64 L.r.count, .bool (!(L.r.until_ == 0)), .int .i64 L.r.until_, .slice L.a1 L.n1 L.c1, .slice L.a2 L.n2 L.c2, .slice L.a3 L.n3 L.c3, .slice L.a4 L.n4 L.c4, .slice L.a5 L.n5 L.c5, .slice none 0 0, .slice L.a7 L.n7 L.c7, .slice L.a8 L.n8 L.c8, .slice L.a9 L.n9 L.c9, .slice L.a10 L.n10 L.c10]))
set_option maxHeartbeats 1000000 in
set_option maxRecDepth 100000 in
theorem opM1_0 {Q : Exit → Act → World → Prop} {w0 : World} {T : Array Value} {L : LM1} (H : HM1 w0 T L) : StepAt Tryz.prog Q oM1 (InvM1 w0 T L) 0 := by
  intro listed a wl o ho h0 hall ⟨b3, hls, V, K, hd, hb, hw⟩
  have hsz : a.tmps.size = 101 := K.1.trans H.hTs
  conv at ho => lhs; whnf
  injection ho with ho
  conv at ho => lhs; whnf
  subst ho
  refine want_any rfl ?_
  have g0 : a.tmps.getD 0 undef = .pointer (some ⟨L.b, 0, none⟩) := (K.get 0 (by kernel_rfl)).trans H.hT0
  go_simp
  exact ⟨b3, by simpa using hls, V.lay (k := 0) (d := 6) (by kernel_rfl) (by kernel_rfl) (by rw [hsz]; decide), K.lay (k := 0) (by kernel_rfl) _, (by first | rfl | exact hd), hb, by rw [getD_ne _ (by decide), getD_ne _ (by decide)]; exact hw⟩
set_option maxHeartbeats 1000000 in
set_option maxRecDepth 100000 in
theorem opM1_1 {Q : Exit → Act → World → Prop} {w0 : World} {T : Array Value} {L : LM1} (H : HM1 w0 T L) : StepAt Tryz.prog Q oM1 (InvM1 w0 T L) 1 := by
  intro listed a wl o ho h0 hall ⟨b3, hls, V, K, hd, hb, hw⟩
  have hsz : a.tmps.size = 101 := K.1.trans H.hTs
  conv at ho => lhs; whnf
  injection ho with ho
  conv at ho => lhs; whnf
  subst ho
  refine want_any rfl ?_
  have g6 : a.tmps.getD 6 undef = .pointer (some ⟨L.b, 0, none⟩) := V.at (k := 0) (by kernel_rfl) (by kernel_rfl) (up hall (by kernel_rfl))
  go_simp
  exact ⟨b3, by simpa using hls, V.lay (k := 1) (d := 7) (by kernel_rfl) (by kernel_rfl) (by rw [hsz]; decide), K.lay (k := 1) (by kernel_rfl) _, (by first | rfl | exact hd), hb, by rw [getD_ne _ (by decide), getD_ne _ (by decide)]; exact hw⟩
set_option maxHeartbeats 1000000 in
set_option maxRecDepth 100000 in
theorem opM1_2 {Q : Exit → Act → World → Prop} {w0 : World} {T : Array Value} {L : LM1} (H : HM1 w0 T L) : StepAt Tryz.prog Q oM1 (InvM1 w0 T L) 2 := by
  intro listed a wl o ho h0 hall ⟨b3, hls, V, K, hd, hb, hw⟩
  have hsz : a.tmps.size = 101 := K.1.trans H.hTs
  conv at ho => lhs; whnf
  injection ho with ho
  conv at ho => lhs; whnf
  subst ho
  refine want_any rfl ?_
  have g7 : a.tmps.getD 7 undef = .pointer (some ⟨L.b, 0, none⟩) := V.at (k := 1) (by kernel_rfl) (by kernel_rfl) (up hall (by kernel_rfl))
  go_simp
  exact ⟨b3, by simpa using hls, V.lay (k := 2) (d := 8) (by kernel_rfl) (by kernel_rfl) (by rw [hsz]; decide), K.lay (k := 2) (by kernel_rfl) _, (by first | rfl | exact hd), hb, by rw [getD_ne _ (by decide), getD_ne _ (by decide)]; exact hw⟩
set_option maxHeartbeats 1000000 in
set_option maxRecDepth 100000 in
theorem opM1_3 {Q : Exit → Act → World → Prop} {w0 : World} {T : Array Value} {L : LM1} (H : HM1 w0 T L) : StepAt Tryz.prog Q oM1 (InvM1 w0 T L) 3 := by
  intro listed a wl o ho h0 hall ⟨b3, hls, V, K, hd, hb, hw⟩
  have hsz : a.tmps.size = 101 := K.1.trans H.hTs
  conv at ho => lhs; whnf
  injection ho with ho
  conv at ho => lhs; whnf
  subst ho
  refine want_any rfl ?_
  have g8 : a.tmps.getD 8 undef = .pointer (some ⟨L.b, 0, none⟩) := V.at (k := 2) (by kernel_rfl) (by kernel_rfl) (up hall (by kernel_rfl))
  have c0 : wl.cell? ⟨L.b, 0, none⟩ = some (.int .i64 (L.r.freq : Nat)) := (H.HF.out _ hb).fc0
  go_simp
  exact ⟨b3, by simpa using hls, V.lay (k := 3) (d := 9) (by kernel_rfl) (by kernel_rfl) (by rw [hsz]; decide), K.lay (k := 3) (by kernel_rfl) _, (by first | rfl | exact hd), hb, by rw [getD_ne _ (by decide), getD_ne _ (by decide)]; exact hw⟩
set_option maxHeartbeats 1000000 in
set_option maxRecDepth 100000 in
theorem opM1_4 {Q : Exit → Act → World → Prop} {w0 : World} {T : Array Value} {L : LM1} (H : HM1 w0 T L) : StepAt Tryz.prog Q oM1 (InvM1 w0 T L) 4 := by
  intro listed a wl o ho h0 hall ⟨b3, hls, V, K, hd, hb, hw⟩
  have hsz : a.tmps.size = 101 := K.1.trans H.hTs
  conv at ho => lhs; whnf
  injection ho with ho
  conv at ho => lhs; whnf
  subst ho
  refine want_any rfl ?_
  have g9 : a.tmps.getD 9 undef = .int .i64 (L.r.freq : Nat) := V.at (k := 3) (by kernel_rfl) (by kernel_rfl) (up hall (by kernel_rfl))
  have hff : IntKind.u8.wrap (L.r.freq : Int) = (L.r.freq : Int) := H.HFR.out
  go_simp
  exact ⟨b3, by simpa using hls, V.lay (k := 4) (d := 10) (by kernel_rfl) (by kernel_rfl) (by rw [hsz]; decide), K.lay (k := 4) (by kernel_rfl) _, (by first | rfl | exact hd), hb, by rw [getD_ne _ (by decide), getD_ne _ (by decide)]; exact hw⟩
set_option maxHeartbeats 1000000 in
set_option maxRecDepth 100000 in
theorem opM1_5 {Q : Exit → Act → World → Prop} {w0 : World} {T : Array Value} {L : LM1} (H : HM1 w0 T L) : StepAt Tryz.prog Q oM1 (InvM1 w0 T L) 5 := by
  intro listed a wl o ho h0 hall ⟨b3, hls, V, K, hd, hb, hw⟩
  have hsz : a.tmps.size = 101 := K.1.trans H.hTs
  conv at ho => lhs; whnf
  injection ho with ho
  conv at ho => lhs; whnf
  subst ho
  refine want_any rfl ?_
  have g0 : a.tmps.getD 0 undef = .pointer (some ⟨L.b, 0, none⟩) := (K.get 0 (by kernel_rfl)).trans H.hT0
  go_simp
  exact ⟨b3, by simpa using hls, V.lay (k := 5) (d := 11) (by kernel_rfl) (by kernel_rfl) (by rw [hsz]; decide), K.lay (k := 5) (by kernel_rfl) _, (by first | rfl | exact hd), hb, by rw [getD_ne _ (by decide), getD_ne _ (by decide)]; exact hw⟩
set_option maxHeartbeats 1000000 in
set_option maxRecDepth 100000 in
theorem opM1_6 {Q : Exit → Act → World → Prop} {w0 : World} {T : Array Value} {L : LM1} (H : HM1 w0 T L) : StepAt Tryz.prog Q oM1 (InvM1 w0 T L) 6 := by
  intro listed a wl o ho h0 hall ⟨b3, hls, V, K, hd, hb, hw⟩
  have hsz : a.tmps.size = 101 := K.1.trans H.hTs
  conv at ho => lhs; whnf
  injection ho with ho
  conv at ho => lhs; whnf
  subst ho
  refine want_any rfl ?_
  have g11 : a.tmps.getD 11 undef = .pointer (some ⟨L.b, 0, none⟩) := V.at (k := 5) (by kernel_rfl) (by kernel_rfl) (up hall (by kernel_rfl))
  go_simp
  exact ⟨b3, by simpa using hls, V.lay (k := 6) (d := 12) (by kernel_rfl) (by kernel_rfl) (by rw [hsz]; decide), K.lay (k := 6) (by kernel_rfl) _, (by first | rfl | exact hd), hb, by rw [getD_ne _ (by decide), getD_ne _ (by decide)]; exact hw⟩
set_option maxHeartbeats 1000000 in
set_option maxRecDepth 100000 in
theorem opM1_7 {Q : Exit → Act → World → Prop} {w0 : World} {T : Array Value} {L : LM1} (H : HM1 w0 T L) : StepAt Tryz.prog Q oM1 (InvM1 w0 T L) 7 := by
  intro listed a wl o ho h0 hall ⟨b3, hls, V, K, hd, hb, hw⟩
  have hsz : a.tmps.size = 101 := K.1.trans H.hTs
  conv at ho => lhs; whnf
  injection ho with ho
  conv at ho => lhs; whnf
  subst ho
  refine want_any rfl ?_
  have g12 : a.tmps.getD 12 undef = .pointer (some ⟨L.b, 0, none⟩) := V.at (k := 6) (by kernel_rfl) (by kernel_rfl) (up hall (by kernel_rfl))
  go_simp
  exact ⟨b3, by simpa using hls, V.lay (k := 7) (d := 13) (by kernel_rfl) (by kernel_rfl) (by rw [hsz]; decide), K.lay (k := 7) (by kernel_rfl) _, (by first | rfl | exact hd), hb, by rw [getD_ne _ (by decide), getD_ne _ (by decide)]; exact hw⟩
set_option maxHeartbeats 1000000 in
set_option maxRecDepth 100000 in
theorem opM1_8 {Q : Exit → Act → World → Prop} {w0 : World} {T : Array Value} {L : LM1} (H : HM1 w0 T L) : StepAt Tryz.prog Q oM1 (InvM1 w0 T L) 8 := by
  intro listed a wl o ho h0 hall ⟨b3, hls, V, K, hd, hb, hw⟩
  have hsz : a.tmps.size = 101 := K.1.trans H.hTs
  conv at ho => lhs; whnf
  injection ho with ho
  conv at ho => lhs; whnf
  subst ho
  refine want_any rfl ?_
  have g13 : a.tmps.getD 13 undef = .pointer (some ⟨L.b, 1, none⟩) := V.at (k := 7) (by kernel_rfl) (by kernel_rfl) (up hall (by kernel_rfl))
  have c0 : wl.cell? ⟨L.b, 1, none⟩ = some (.int .i64 L.r.start) := (H.HF.out _ hb).fc1
  have c1 : wl.cell? ⟨L.b, 2, none⟩ = some (.int .i64 0) := (H.HF.out _ hb).fc2
  go_simp
  exact ⟨b3, by simpa using hls, V.lay (k := 8) (d := 14) (by kernel_rfl) (by kernel_rfl) (by rw [hsz]; decide), K.lay (k := 8) (by kernel_rfl) _, (by first | rfl | exact hd), hb, by rw [getD_ne _ (by decide), getD_ne _ (by decide)]; exact hw⟩
set_option maxHeartbeats 1000000 in
set_option maxRecDepth 100000 in
theorem opM1_9 {Q : Exit → Act → World → Prop} {w0 : World} {T : Array Value} {L : LM1} (H : HM1 w0 T L) : StepAt Tryz.prog Q oM1 (InvM1 w0 T L) 9 := by
  intro listed a wl o ho h0 hall ⟨b3, hls, V, K, hd, hb, hw⟩
  have hsz : a.tmps.size = 101 := K.1.trans H.hTs
  conv at ho => lhs; whnf
  injection ho with ho
  conv at ho => lhs; whnf
  subst ho
  refine want_any rfl ?_
  have g14 : a.tmps.getD 14 undef = .agg #[.int .i64 L.r.start, .int .i64 0] := V.at (k := 8) (by kernel_rfl) (by kernel_rfl) (up hall (by kernel_rfl))
  go_simp
  go_at_call 40
  refine (IsZero_any L.r.start _).mono ?_
  rintro e wN ⟨rfl, hbx⟩
  exact ⟨b3, by simpa using hls, V.lay (k := 9) (d := 15) (by kernel_rfl) (by kernel_rfl) (by rw [hsz]; decide), K.lay (k := 9) (by kernel_rfl) _, (by first | rfl | exact hd), hb.trans (hbx.mono hb.size), by rw [getD_ne _ (by decide), getD_ne _ (by decide)]; exact ⟨hw.1, fun h => ⟨(hw.2 h).1, fun h2 => ((hw.2 h).2.1 h2).below hbx, fun h2 => ((hw.2 h).2.2 h2).below hbx⟩⟩⟩
set_option maxHeartbeats 1000000 in
set_option maxRecDepth 100000 in
theorem opM1_10 {Q : Exit → Act → World → Prop} {w0 : World} {T : Array Value} {L : LM1} (H : HM1 w0 T L) : StepAt Tryz.prog Q oM1 (InvM1 w0 T L) 10 := by
  intro listed a wl o ho h0 hall ⟨b3, hls, V, K, hd, hb, hw⟩
  have hsz : a.tmps.size = 101 := K.1.trans H.hTs
  conv at ho => lhs; whnf
  injection ho with ho
  conv at ho => lhs; whnf
  subst ho
  refine want_any rfl ?_
  have g15 : a.tmps.getD 15 undef = .bool (L.r.start == 0) := V.at (k := 9) (by kernel_rfl) (by kernel_rfl) (up hall (by kernel_rfl))
  go_simp
  exact ⟨b3, by simpa using hls, V.lay (k := 10) (d := 16) (by kernel_rfl) (by kernel_rfl) (by rw [hsz]; decide), K.lay (k := 10) (by kernel_rfl) _, (by first | rfl | exact hd), hb, by rw [getD_ne _ (by decide), getD_ne _ (by decide)]; exact hw⟩
set_option maxHeartbeats 1000000 in
set_option maxRecDepth 100000 in
theorem opM1_11 {Q : Exit → Act → World → Prop} {w0 : World} {T : Array Value} {L : LM1} (H : HM1 w0 T L) : StepAt Tryz.prog Q oM1 (InvM1 w0 T L) 11 := by
  intro listed a wl o ho h0 hall ⟨b3, hls, V, K, hd, hb, hw⟩
  have hsz : a.tmps.size = 101 := K.1.trans H.hTs
  conv at ho => lhs; whnf
  injection ho with ho
  conv at ho => lhs; whnf
  subst ho
  refine want_any rfl ?_
  have g0 : a.tmps.getD 0 undef = .pointer (some ⟨L.b, 0, none⟩) := (K.get 0 (by kernel_rfl)).trans H.hT0
  go_simp
  exact ⟨b3, by simpa using hls, V.lay (k := 11) (d := 17) (by kernel_rfl) (by kernel_rfl) (by rw [hsz]; decide), K.lay (k := 11) (by kernel_rfl) _, (by first | rfl | exact hd), hb, by rw [getD_ne _ (by decide), getD_ne _ (by decide)]; exact hw⟩
set_option maxHeartbeats 1000000 in
set_option maxRecDepth 100000 in
theorem opM1_12 {Q : Exit → Act → World → Prop} {w0 : World} {T : Array Value} {L : LM1} (H : HM1 w0 T L) : StepAt Tryz.prog Q oM1 (InvM1 w0 T L) 12 := by
  intro listed a wl o ho h0 hall ⟨b3, hls, V, K, hd, hb, hw⟩
  have hsz : a.tmps.size = 101 := K.1.trans H.hTs
  conv at ho => lhs; whnf
  injection ho with ho
  conv at ho => lhs; whnf
  subst ho
  refine want_any rfl ?_
  have g17 : a.tmps.getD 17 undef = .pointer (some ⟨L.b, 0, none⟩) := V.at (k := 11) (by kernel_rfl) (by kernel_rfl) (up hall (by kernel_rfl))
  go_simp
  exact ⟨b3, by simpa using hls, V.lay (k := 12) (d := 18) (by kernel_rfl) (by kernel_rfl) (by rw [hsz]; decide), K.lay (k := 12) (by kernel_rfl) _, (by first | rfl | exact hd), hb, by rw [getD_ne _ (by decide), getD_ne _ (by decide)]; exact hw⟩
set_option maxHeartbeats 1000000 in
set_option maxRecDepth 100000 in
theorem opM1_13 {Q : Exit → Act → World → Prop} {w0 : World} {T : Array Value} {L : LM1} (H : HM1 w0 T L) : StepAt Tryz.prog Q oM1 (InvM1 w0 T L) 13 := by
  intro listed a wl o ho h0 hall ⟨b3, hls, V, K, hd, hb, hw⟩
  have hsz : a.tmps.size = 101 := K.1.trans H.hTs
  conv at ho => lhs; whnf
  injection ho with ho
  conv at ho => lhs; whnf
  subst ho
  refine want_any rfl ?_
  have g18 : a.tmps.getD 18 undef = .pointer (some ⟨L.b, 0, none⟩) := V.at (k := 12) (by kernel_rfl) (by kernel_rfl) (up hall (by kernel_rfl))
  go_simp
  exact ⟨b3, by simpa using hls, V.lay (k := 13) (d := 19) (by kernel_rfl) (by kernel_rfl) (by rw [hsz]; decide), K.lay (k := 13) (by kernel_rfl) _, (by first | rfl | exact hd), hb, by rw [getD_ne _ (by decide), getD_ne _ (by decide)]; exact hw⟩
set_option maxHeartbeats 1000000 in
set_option maxRecDepth 100000 in
theorem opM1_14 {Q : Exit → Act → World → Prop} {w0 : World} {T : Array Value} {L : LM1} (H : HM1 w0 T L) : StepAt Tryz.prog Q oM1 (InvM1 w0 T L) 14 := by
  intro listed a wl o ho h0 hall ⟨b3, hls, V, K, hd, hb, hw⟩
  have hsz : a.tmps.size = 101 := K.1.trans H.hTs
  conv at ho => lhs; whnf
  injection ho with ho
  conv at ho => lhs; whnf
  subst ho
  refine want_any rfl ?_
  have g19 : a.tmps.getD 19 undef = .pointer (some ⟨L.b, 1, none⟩) := V.at (k := 13) (by kernel_rfl) (by kernel_rfl) (up hall (by kernel_rfl))
  have c0 : wl.cell? ⟨L.b, 1, none⟩ = some (.int .i64 L.r.start) := (H.HF.out _ hb).fc1
  have c1 : wl.cell? ⟨L.b, 2, none⟩ = some (.int .i64 0) := (H.HF.out _ hb).fc2
  go_simp
  exact ⟨b3, by simpa using hls, V.lay (k := 14) (d := 20) (by kernel_rfl) (by kernel_rfl) (by rw [hsz]; decide), K.lay (k := 14) (by kernel_rfl) _, (by first | rfl | exact hd), hb, by rw [getD_ne _ (by decide), getD_ne _ (by decide)]; exact hw⟩
set_option maxHeartbeats 1000000 in
set_option maxRecDepth 100000 in
theorem opM1_15 {Q : Exit → Act → World → Prop} {w0 : World} {T : Array Value} {L : LM1} (H : HM1 w0 T L) : StepAt Tryz.prog Q oM1 (InvM1 w0 T L) 15 := by
  intro listed a wl o ho h0 hall ⟨b3, hls, V, K, hd, hb, hw⟩
  have hsz : a.tmps.size = 101 := K.1.trans H.hTs
  conv at ho => lhs; whnf
  injection ho with ho
  conv at ho => lhs; whnf
  subst ho
  refine want_any rfl ?_
  have g20 : a.tmps.getD 20 undef = .agg #[.int .i64 L.r.start, .int .i64 0] := V.at (k := 14) (by kernel_rfl) (by kernel_rfl) (up hall (by kernel_rfl))
  go_simp
  go_at_call 41
  refine (Seconds_any L.r.start 0 _).mono ?_
  rintro e wN ⟨rfl, hbx⟩
  exact ⟨b3, by simpa using hls, V.lay (k := 15) (d := 21) (by kernel_rfl) (by kernel_rfl) (by rw [hsz]; decide), K.lay (k := 15) (by kernel_rfl) _, (by first | rfl | exact hd), hb.trans (hbx.mono hb.size), by rw [getD_ne _ (by decide), getD_ne _ (by decide)]; exact ⟨hw.1, fun h => ⟨(hw.2 h).1, fun h2 => ((hw.2 h).2.1 h2).below hbx, fun h2 => ((hw.2 h).2.2 h2).below hbx⟩⟩⟩
set_option maxHeartbeats 1000000 in
set_option maxRecDepth 100000 in
theorem opM1_16 {Q : Exit → Act → World → Prop} {w0 : World} {T : Array Value} {L : LM1} (H : HM1 w0 T L) : StepAt Tryz.prog Q oM1 (InvM1 w0 T L) 16 := by
  intro listed a wl o ho h0 hall ⟨b3, hls, V, K, hd, hb, hw⟩
  have hsz : a.tmps.size = 101 := K.1.trans H.hTs
  conv at ho => lhs; whnf
  injection ho with ho
  conv at ho => lhs; whnf
  subst ho
  refine want_any rfl ?_
  have g0 : a.tmps.getD 0 undef = .pointer (some ⟨L.b, 0, none⟩) := (K.get 0 (by kernel_rfl)).trans H.hT0
  go_simp
  exact ⟨b3, by simpa using hls, V.lay (k := 16) (d := 22) (by kernel_rfl) (by kernel_rfl) (by rw [hsz]; decide), K.lay (k := 16) (by kernel_rfl) _, (by first | rfl | exact hd), hb, by rw [getD_ne _ (by decide), getD_ne _ (by decide)]; exact hw⟩
set_option maxHeartbeats 1000000 in
set_option maxRecDepth 100000 in
theorem opM1_17 {Q : Exit → Act → World → Prop} {w0 : World} {T : Array Value} {L : LM1} (H : HM1 w0 T L) : StepAt Tryz.prog Q oM1 (InvM1 w0 T L) 17 := by
  intro listed a wl o ho h0 hall ⟨b3, hls, V, K, hd, hb, hw⟩
  have hsz : a.tmps.size = 101 := K.1.trans H.hTs
  conv at ho => lhs; whnf
  injection ho with ho
  conv at ho => lhs; whnf
  subst ho
  refine want_any rfl ?_
  have g22 : a.tmps.getD 22 undef = .pointer (some ⟨L.b, 0, none⟩) := V.at (k := 16) (by kernel_rfl) (by kernel_rfl) (up hall (by kernel_rfl))
  go_simp
  exact ⟨b3, by simpa using hls, V.lay (k := 17) (d := 23) (by kernel_rfl) (by kernel_rfl) (by rw [hsz]; decide), K.lay (k := 17) (by kernel_rfl) _, (by first | rfl | exact hd), hb, by rw [getD_ne _ (by decide), getD_ne _ (by decide)]; exact hw⟩
set_option maxHeartbeats 1000000 in
set_option maxRecDepth 100000 in
theorem opM1_18 {Q : Exit → Act → World → Prop} {w0 : World} {T : Array Value} {L : LM1} (H : HM1 w0 T L) : StepAt Tryz.prog Q oM1 (InvM1 w0 T L) 18 := by
  intro listed a wl o ho h0 hall ⟨b3, hls, V, K, hd, hb, hw⟩
  have hsz : a.tmps.size = 101 := K.1.trans H.hTs
  conv at ho => lhs; whnf
  injection ho with ho
  conv at ho => lhs; whnf
  subst ho
  refine want_any rfl ?_
  have g23 : a.tmps.getD 23 undef = .pointer (some ⟨L.b, 0, none⟩) := V.at (k := 17) (by kernel_rfl) (by kernel_rfl) (up hall (by kernel_rfl))
  go_simp
  exact ⟨b3, by simpa using hls, V.lay (k := 18) (d := 24) (by kernel_rfl) (by kernel_rfl) (by rw [hsz]; decide), K.lay (k := 18) (by kernel_rfl) _, (by first | rfl | exact hd), hb, by rw [getD_ne _ (by decide), getD_ne _ (by decide)]; exact hw⟩
set_option maxHeartbeats 1000000 in
set_option maxRecDepth 100000 in
theorem opM1_19 {Q : Exit → Act → World → Prop} {w0 : World} {T : Array Value} {L : LM1} (H : HM1 w0 T L) : StepAt Tryz.prog Q oM1 (InvM1 w0 T L) 19 := by
  intro listed a wl o ho h0 hall ⟨b3, hls, V, K, hd, hb, hw⟩
  have hsz : a.tmps.size = 101 := K.1.trans H.hTs
  conv at ho => lhs; whnf
  injection ho with ho
  conv at ho => lhs; whnf
  subst ho
  refine want_any rfl ?_
  have g24 : a.tmps.getD 24 undef = .pointer (some ⟨L.b, 3, none⟩) := V.at (k := 18) (by kernel_rfl) (by kernel_rfl) (up hall (by kernel_rfl))
  have c0 : wl.cell? ⟨L.b, 3, none⟩ = some (.int .i64 L.r.interval) := (H.HF.out _ hb).fc3
  go_simp
  exact ⟨b3, by simpa using hls, V.lay (k := 19) (d := 25) (by kernel_rfl) (by kernel_rfl) (by rw [hsz]; decide), K.lay (k := 19) (by kernel_rfl) _, (by first | rfl | exact hd), hb, by rw [getD_ne _ (by decide), getD_ne _ (by decide)]; exact hw⟩
set_option maxHeartbeats 1000000 in
set_option maxRecDepth 100000 in
theorem opM1_20 {Q : Exit → Act → World → Prop} {w0 : World} {T : Array Value} {L : LM1} (H : HM1 w0 T L) : StepAt Tryz.prog Q oM1 (InvM1 w0 T L) 20 := by
  intro listed a wl o ho h0 hall ⟨b3, hls, V, K, hd, hb, hw⟩
  have hsz : a.tmps.size = 101 := K.1.trans H.hTs
  conv at ho => lhs; whnf
  injection ho with ho
  conv at ho => lhs; whnf
  subst ho
  refine want_any rfl ?_
  have g0 : a.tmps.getD 0 undef = .pointer (some ⟨L.b, 0, none⟩) := (K.get 0 (by kernel_rfl)).trans H.hT0
  go_simp
  exact ⟨b3, by simpa using hls, V.lay (k := 20) (d := 26) (by kernel_rfl) (by kernel_rfl) (by rw [hsz]; decide), K.lay (k := 20) (by kernel_rfl) _, (by first | rfl | exact hd), hb, by rw [getD_ne _ (by decide), getD_ne _ (by decide)]; exact hw⟩
set_option maxHeartbeats 1000000 in
set_option maxRecDepth 100000 in
theorem opM1_21 {Q : Exit → Act → World → Prop} {w0 : World} {T : Array Value} {L : LM1} (H : HM1 w0 T L) : StepAt Tryz.prog Q oM1 (InvM1 w0 T L) 21 := by
  intro listed a wl o ho h0 hall ⟨b3, hls, V, K, hd, hb, hw⟩
  have hsz : a.tmps.size = 101 := K.1.trans H.hTs
  conv at ho => lhs; whnf
  injection ho with ho
  conv at ho => lhs; whnf
  subst ho
  refine want_any rfl ?_
  have g26 : a.tmps.getD 26 undef = .pointer (some ⟨L.b, 0, none⟩) := V.at (k := 20) (by kernel_rfl) (by kernel_rfl) (up hall (by kernel_rfl))
  go_simp
  exact ⟨b3, by simpa using hls, V.lay (k := 21) (d := 27) (by kernel_rfl) (by kernel_rfl) (by rw [hsz]; decide), K.lay (k := 21) (by kernel_rfl) _, (by first | rfl | exact hd), hb, by rw [getD_ne _ (by decide), getD_ne _ (by decide)]; exact hw⟩
set_option maxHeartbeats 1000000 in
set_option maxRecDepth 100000 in
theorem opM1_22 {Q : Exit → Act → World → Prop} {w0 : World} {T : Array Value} {L : LM1} (H : HM1 w0 T L) : StepAt Tryz.prog Q oM1 (InvM1 w0 T L) 22 := by
  intro listed a wl o ho h0 hall ⟨b3, hls, V, K, hd, hb, hw⟩
  have hsz : a.tmps.size = 101 := K.1.trans H.hTs
  conv at ho => lhs; whnf
  injection ho with ho
  conv at ho => lhs; whnf
  subst ho
  refine want_any rfl ?_
  have g27 : a.tmps.getD 27 undef = .pointer (some ⟨L.b, 0, none⟩) := V.at (k := 21) (by kernel_rfl) (by kernel_rfl) (up hall (by kernel_rfl))
  go_simp
  exact ⟨b3, by simpa using hls, V.lay (k := 22) (d := 28) (by kernel_rfl) (by kernel_rfl) (by rw [hsz]; decide), K.lay (k := 22) (by kernel_rfl) _, (by first | rfl | exact hd), hb, by rw [getD_ne _ (by decide), getD_ne _ (by decide)]; exact hw⟩
set_option maxHeartbeats 1000000 in
set_option maxRecDepth 100000 in
theorem opM1_23 {Q : Exit → Act → World → Prop} {w0 : World} {T : Array Value} {L : LM1} (H : HM1 w0 T L) : StepAt Tryz.prog Q oM1 (InvM1 w0 T L) 23 := by
  intro listed a wl o ho h0 hall ⟨b3, hls, V, K, hd, hb, hw⟩
  have hsz : a.tmps.size = 101 := K.1.trans H.hTs
  conv at ho => lhs; whnf
  injection ho with ho
  conv at ho => lhs; whnf
  subst ho
  refine want_any rfl ?_
  have g28 : a.tmps.getD 28 undef = .pointer (some ⟨L.b, 4, none⟩) := V.at (k := 22) (by kernel_rfl) (by kernel_rfl) (up hall (by kernel_rfl))
  have cc0 : wl.cell? ⟨L.b, 4, none⟩ = some (.int .i64 L.r.wkst) := (H.HF.out _ hb).fc4
  go_simp
  go_at_call 42
  refine (WdayDay_any L.b 4 L.r.wkst _ cc0).mono ?_
  rintro e wN ⟨rfl, rfl⟩
  exact ⟨b3, by simpa using hls, V.lay (k := 23) (d := 29) (by kernel_rfl) (by kernel_rfl) (by rw [hsz]; decide), K.lay (k := 23) (by kernel_rfl) _, (by first | rfl | exact hd), hb, by rw [getD_ne _ (by decide), getD_ne _ (by decide)]; exact hw⟩
set_option maxHeartbeats 1000000 in
set_option maxRecDepth 100000 in
theorem opM1_24 {Q : Exit → Act → World → Prop} {w0 : World} {T : Array Value} {L : LM1} (H : HM1 w0 T L) : StepAt Tryz.prog Q oM1 (InvM1 w0 T L) 24 := by
  intro listed a wl o ho h0 hall ⟨b3, hls, V, K, hd, hb, hw⟩
  have hsz : a.tmps.size = 101 := K.1.trans H.hTs
  conv at ho => lhs; whnf
  injection ho with ho
  conv at ho => lhs; whnf
  subst ho
  refine want_any rfl ?_
  have g0 : a.tmps.getD 0 undef = .pointer (some ⟨L.b, 0, none⟩) := (K.get 0 (by kernel_rfl)).trans H.hT0
  go_simp
  exact ⟨b3, by simpa using hls, V.lay (k := 24) (d := 30) (by kernel_rfl) (by kernel_rfl) (by rw [hsz]; decide), K.lay (k := 24) (by kernel_rfl) _, (by first | rfl | exact hd), hb, by rw [getD_ne _ (by decide), getD_ne _ (by decide)]; exact hw⟩
set_option maxHeartbeats 1000000 in
set_option maxRecDepth 100000 in
theorem opM1_25 {Q : Exit → Act → World → Prop} {w0 : World} {T : Array Value} {L : LM1} (H : HM1 w0 T L) : StepAt Tryz.prog Q oM1 (InvM1 w0 T L) 25 := by
  intro listed a wl o ho h0 hall ⟨b3, hls, V, K, hd, hb, hw⟩
  have hsz : a.tmps.size = 101 := K.1.trans H.hTs
  conv at ho => lhs; whnf
  injection ho with ho
  conv at ho => lhs; whnf
  subst ho
  refine want_any rfl ?_
  have g30 : a.tmps.getD 30 undef = .pointer (some ⟨L.b, 0, none⟩) := V.at (k := 24) (by kernel_rfl) (by kernel_rfl) (up hall (by kernel_rfl))
  go_simp
  exact ⟨b3, by simpa using hls, V.lay (k := 25) (d := 31) (by kernel_rfl) (by kernel_rfl) (by rw [hsz]; decide), K.lay (k := 25) (by kernel_rfl) _, (by first | rfl | exact hd), hb, by rw [getD_ne _ (by decide), getD_ne _ (by decide)]; exact hw⟩
set_option maxHeartbeats 1000000 in
set_option maxRecDepth 100000 in
theorem opM1_26 {Q : Exit → Act → World → Prop} {w0 : World} {T : Array Value} {L : LM1} (H : HM1 w0 T L) : StepAt Tryz.prog Q oM1 (InvM1 w0 T L) 26 := by
  intro listed a wl o ho h0 hall ⟨b3, hls, V, K, hd, hb, hw⟩
  have hsz : a.tmps.size = 101 := K.1.trans H.hTs
  conv at ho => lhs; whnf
  injection ho with ho
  conv at ho => lhs; whnf
  subst ho
  refine want_any rfl ?_
  have g31 : a.tmps.getD 31 undef = .pointer (some ⟨L.b, 0, none⟩) := V.at (k := 25) (by kernel_rfl) (by kernel_rfl) (up hall (by kernel_rfl))
  go_simp
  exact ⟨b3, by simpa using hls, V.lay (k := 26) (d := 32) (by kernel_rfl) (by kernel_rfl) (by rw [hsz]; decide), K.lay (k := 26) (by kernel_rfl) _, (by first | rfl | exact hd), hb, by rw [getD_ne _ (by decide), getD_ne _ (by decide)]; exact hw⟩
set_option maxHeartbeats 1000000 in
set_option maxRecDepth 100000 in
theorem opM1_27 {Q : Exit → Act → World → Prop} {w0 : World} {T : Array Value} {L : LM1} (H : HM1 w0 T L) : StepAt Tryz.prog Q oM1 (InvM1 w0 T L) 27 := by
  intro listed a wl o ho h0 hall ⟨b3, hls, V, K, hd, hb, hw⟩
  have hsz : a.tmps.size = 101 := K.1.trans H.hTs
  conv at ho => lhs; whnf
  injection ho with ho
  conv at ho => lhs; whnf
  subst ho
  refine want_any rfl ?_
  have g32 : a.tmps.getD 32 undef = .pointer (some ⟨L.b, 6, none⟩) := V.at (k := 26) (by kernel_rfl) (by kernel_rfl) (up hall (by kernel_rfl))
  have c0 : wl.cell? ⟨L.b, 6, none⟩ = some (.int .i64 L.r.count) := (H.HF.out _ hb).fc6
  go_simp
  exact ⟨b3, by simpa using hls, V.lay (k := 27) (d := 33) (by kernel_rfl) (by kernel_rfl) (by rw [hsz]; decide), K.lay (k := 27) (by kernel_rfl) _, (by first | rfl | exact hd), hb, by rw [getD_ne _ (by decide), getD_ne _ (by decide)]; exact hw⟩
set_option maxHeartbeats 1000000 in
set_option maxRecDepth 100000 in
theorem opM1_28 {Q : Exit → Act → World → Prop} {w0 : World} {T : Array Value} {L : LM1} (H : HM1 w0 T L) : StepAt Tryz.prog Q oM1 (InvM1 w0 T L) 28 := by
  intro listed a wl o ho h0 hall ⟨b3, hls, V, K, hd, hb, hw⟩
  have hsz : a.tmps.size = 101 := K.1.trans H.hTs
  conv at ho => lhs; whnf
  injection ho with ho
  conv at ho => lhs; whnf
  subst ho
  refine want_any rfl ?_
  have g0 : a.tmps.getD 0 undef = .pointer (some ⟨L.b, 0, none⟩) := (K.get 0 (by kernel_rfl)).trans H.hT0
  go_simp
  exact ⟨b3, by simpa using hls, V.lay (k := 28) (d := 34) (by kernel_rfl) (by kernel_rfl) (by rw [hsz]; decide), K.lay (k := 28) (by kernel_rfl) _, (by first | rfl | exact hd), hb, by rw [getD_ne _ (by decide), getD_ne _ (by decide)]; exact hw⟩
set_option maxHeartbeats 1000000 in
set_option maxRecDepth 100000 in
theorem opM1_29 {Q : Exit → Act → World → Prop} {w0 : World} {T : Array Value} {L : LM1} (H : HM1 w0 T L) : StepAt Tryz.prog Q oM1 (InvM1 w0 T L) 29 := by
  intro listed a wl o ho h0 hall ⟨b3, hls, V, K, hd, hb, hw⟩
  have hsz : a.tmps.size = 101 := K.1.trans H.hTs
  conv at ho => lhs; whnf
  injection ho with ho
  conv at ho => lhs; whnf
  subst ho
  refine want_any rfl ?_
  have g34 : a.tmps.getD 34 undef = .pointer (some ⟨L.b, 0, none⟩) := V.at (k := 28) (by kernel_rfl) (by kernel_rfl) (up hall (by kernel_rfl))
  go_simp
  exact ⟨b3, by simpa using hls, V.lay (k := 29) (d := 35) (by kernel_rfl) (by kernel_rfl) (by rw [hsz]; decide), K.lay (k := 29) (by kernel_rfl) _, (by first | rfl | exact hd), hb, by rw [getD_ne _ (by decide), getD_ne _ (by decide)]; exact hw⟩
set_option maxHeartbeats 1000000 in
set_option maxRecDepth 100000 in
theorem opM1_30 {Q : Exit → Act → World → Prop} {w0 : World} {T : Array Value} {L : LM1} (H : HM1 w0 T L) : StepAt Tryz.prog Q oM1 (InvM1 w0 T L) 30 := by
  intro listed a wl o ho h0 hall ⟨b3, hls, V, K, hd, hb, hw⟩
  have hsz : a.tmps.size = 101 := K.1.trans H.hTs
  conv at ho => lhs; whnf
  injection ho with ho
  conv at ho => lhs; whnf
  subst ho
  refine want_any rfl ?_
  have g35 : a.tmps.getD 35 undef = .pointer (some ⟨L.b, 0, none⟩) := V.at (k := 29) (by kernel_rfl) (by kernel_rfl) (up hall (by kernel_rfl))
  go_simp
  exact ⟨b3, by simpa using hls, V.lay (k := 30) (d := 36) (by kernel_rfl) (by kernel_rfl) (by rw [hsz]; decide), K.lay (k := 30) (by kernel_rfl) _, (by first | rfl | exact hd), hb, by rw [getD_ne _ (by decide), getD_ne _ (by decide)]; exact hw⟩
set_option maxHeartbeats 1000000 in
set_option maxRecDepth 100000 in
theorem opM1_31 {Q : Exit → Act → World → Prop} {w0 : World} {T : Array Value} {L : LM1} (H : HM1 w0 T L) : StepAt Tryz.prog Q oM1 (InvM1 w0 T L) 31 := by
  intro listed a wl o ho h0 hall ⟨b3, hls, V, K, hd, hb, hw⟩
  have hsz : a.tmps.size = 101 := K.1.trans H.hTs
  conv at ho => lhs; whnf
  injection ho with ho
  conv at ho => lhs; whnf
  subst ho
  refine want_any rfl ?_
  have g36 : a.tmps.getD 36 undef = .pointer (some ⟨L.b, 7, none⟩) := V.at (k := 30) (by kernel_rfl) (by kernel_rfl) (up hall (by kernel_rfl))
  have c0 : wl.cell? ⟨L.b, 7, none⟩ = some (.int .i64 L.r.until_) := (H.HF.out _ hb).fc7
  have c1 : wl.cell? ⟨L.b, 8, none⟩ = some (.int .i64 0) := (H.HF.out _ hb).fc8
  go_simp
  exact ⟨b3, by simpa using hls, V.lay (k := 31) (d := 37) (by kernel_rfl) (by kernel_rfl) (by rw [hsz]; decide), K.lay (k := 31) (by kernel_rfl) _, (by first | rfl | exact hd), hb, by rw [getD_ne _ (by decide), getD_ne _ (by decide)]; exact hw⟩
set_option maxHeartbeats 1000000 in
set_option maxRecDepth 100000 in
theorem opM1_32 {Q : Exit → Act → World → Prop} {w0 : World} {T : Array Value} {L : LM1} (H : HM1 w0 T L) : StepAt Tryz.prog Q oM1 (InvM1 w0 T L) 32 := by
  intro listed a wl o ho h0 hall ⟨b3, hls, V, K, hd, hb, hw⟩
  have hsz : a.tmps.size = 101 := K.1.trans H.hTs
  conv at ho => lhs; whnf
  injection ho with ho
  conv at ho => lhs; whnf
  subst ho
  refine want_any rfl ?_
  have g37 : a.tmps.getD 37 undef = .agg #[.int .i64 L.r.until_, .int .i64 0] := V.at (k := 31) (by kernel_rfl) (by kernel_rfl) (up hall (by kernel_rfl))
  go_simp
  go_at_call 40
  refine (IsZero_any L.r.until_ _).mono ?_
  rintro e wN ⟨rfl, hbx⟩
  exact ⟨b3, by simpa using hls, V.lay (k := 32) (d := 38) (by kernel_rfl) (by kernel_rfl) (by rw [hsz]; decide), K.lay (k := 32) (by kernel_rfl) _, (by first | rfl | exact hd), hb.trans (hbx.mono hb.size), by rw [getD_ne _ (by decide), getD_ne _ (by decide)]; exact ⟨hw.1, fun h => ⟨(hw.2 h).1, fun h2 => ((hw.2 h).2.1 h2).below hbx, fun h2 => ((hw.2 h).2.2 h2).below hbx⟩⟩⟩
set_option maxHeartbeats 1000000 in
set_option maxRecDepth 100000 in
theorem opM1_33 {Q : Exit → Act → World → Prop} {w0 : World} {T : Array Value} {L : LM1} (H : HM1 w0 T L) : StepAt Tryz.prog Q oM1 (InvM1 w0 T L) 33 := by
  intro listed a wl o ho h0 hall ⟨b3, hls, V, K, hd, hb, hw⟩
  have hsz : a.tmps.size = 101 := K.1.trans H.hTs
  conv at ho => lhs; whnf
  injection ho with ho
  conv at ho => lhs; whnf
  subst ho
  refine want_any rfl ?_
  have g38 : a.tmps.getD 38 undef = .bool (L.r.until_ == 0) := V.at (k := 32) (by kernel_rfl) (by kernel_rfl) (up hall (by kernel_rfl))
  go_simp
  exact ⟨b3, by simpa using hls, V.lay (k := 33) (d := 39) (by kernel_rfl) (by kernel_rfl) (by rw [hsz]; decide), K.lay (k := 33) (by kernel_rfl) _, (by first | rfl | exact hd), hb, by rw [getD_ne _ (by decide), getD_ne _ (by decide)]; exact hw⟩
set_option maxHeartbeats 1000000 in
set_option maxRecDepth 100000 in
theorem opM1_34 {Q : Exit → Act → World → Prop} {w0 : World} {T : Array Value} {L : LM1} (H : HM1 w0 T L) : StepAt Tryz.prog Q oM1 (InvM1 w0 T L) 34 := by
  intro listed a wl o ho h0 hall ⟨b3, hls, V, K, hd, hb, hw⟩
  have hsz : a.tmps.size = 101 := K.1.trans H.hTs
  conv at ho => lhs; whnf
  injection ho with ho
  conv at ho => lhs; whnf
  subst ho
  refine want_any rfl ?_
  have g0 : a.tmps.getD 0 undef = .pointer (some ⟨L.b, 0, none⟩) := (K.get 0 (by kernel_rfl)).trans H.hT0
  go_simp
  exact ⟨b3, by simpa using hls, V.lay (k := 34) (d := 40) (by kernel_rfl) (by kernel_rfl) (by rw [hsz]; decide), K.lay (k := 34) (by kernel_rfl) _, (by first | rfl | exact hd), hb, by rw [getD_ne _ (by decide), getD_ne _ (by decide)]; exact hw⟩
set_option maxHeartbeats 1000000 in
set_option maxRecDepth 100000 in
theorem opM1_35 {Q : Exit → Act → World → Prop} {w0 : World} {T : Array Value} {L : LM1} (H : HM1 w0 T L) : StepAt Tryz.prog Q oM1 (InvM1 w0 T L) 35 := by
  intro listed a wl o ho h0 hall ⟨b3, hls, V, K, hd, hb, hw⟩
  have hsz : a.tmps.size = 101 := K.1.trans H.hTs
  conv at ho => lhs; whnf
  injection ho with ho
  conv at ho => lhs; whnf
  subst ho
  refine want_any rfl ?_
  have g40 : a.tmps.getD 40 undef = .pointer (some ⟨L.b, 0, none⟩) := V.at (k := 34) (by kernel_rfl) (by kernel_rfl) (up hall (by kernel_rfl))
  go_simp
  exact ⟨b3, by simpa using hls, V.lay (k := 35) (d := 41) (by kernel_rfl) (by kernel_rfl) (by rw [hsz]; decide), K.lay (k := 35) (by kernel_rfl) _, (by first | rfl | exact hd), hb, by rw [getD_ne _ (by decide), getD_ne _ (by decide)]; exact hw⟩
set_option maxHeartbeats 1000000 in
set_option maxRecDepth 100000 in
theorem opM1_36 {Q : Exit → Act → World → Prop} {w0 : World} {T : Array Value} {L : LM1} (H : HM1 w0 T L) : StepAt Tryz.prog Q oM1 (InvM1 w0 T L) 36 := by
  intro listed a wl o ho h0 hall ⟨b3, hls, V, K, hd, hb, hw⟩
  have hsz : a.tmps.size = 101 := K.1.trans H.hTs
  conv at ho => lhs; whnf
  injection ho with ho
  conv at ho => lhs; whnf
  subst ho
  refine want_any rfl ?_
  have g41 : a.tmps.getD 41 undef = .pointer (some ⟨L.b, 0, none⟩) := V.at (k := 35) (by kernel_rfl) (by kernel_rfl) (up hall (by kernel_rfl))
  go_simp
  exact ⟨b3, by simpa using hls, V.lay (k := 36) (d := 42) (by kernel_rfl) (by kernel_rfl) (by rw [hsz]; decide), K.lay (k := 36) (by kernel_rfl) _, (by first | rfl | exact hd), hb, by rw [getD_ne _ (by decide), getD_ne _ (by decide)]; exact hw⟩
set_option maxHeartbeats 1000000 in
set_option maxRecDepth 100000 in
theorem opM1_37 {Q : Exit → Act → World → Prop} {w0 : World} {T : Array Value} {L : LM1} (H : HM1 w0 T L) : StepAt Tryz.prog Q oM1 (InvM1 w0 T L) 37 := by
  intro listed a wl o ho h0 hall ⟨b3, hls, V, K, hd, hb, hw⟩
  have hsz : a.tmps.size = 101 := K.1.trans H.hTs
  conv at ho => lhs; whnf
  injection ho with ho
  conv at ho => lhs; whnf
  subst ho
  refine want_any rfl ?_
  have g42 : a.tmps.getD 42 undef = .pointer (some ⟨L.b, 7, none⟩) := V.at (k := 36) (by kernel_rfl) (by kernel_rfl) (up hall (by kernel_rfl))
  have c0 : wl.cell? ⟨L.b, 7, none⟩ = some (.int .i64 L.r.until_) := (H.HF.out _ hb).fc7
  have c1 : wl.cell? ⟨L.b, 8, none⟩ = some (.int .i64 0) := (H.HF.out _ hb).fc8
  go_simp
  exact ⟨b3, by simpa using hls, V.lay (k := 37) (d := 43) (by kernel_rfl) (by kernel_rfl) (by rw [hsz]; decide), K.lay (k := 37) (by kernel_rfl) _, (by first | rfl | exact hd), hb, by rw [getD_ne _ (by decide), getD_ne _ (by decide)]; exact hw⟩
set_option maxHeartbeats 1000000 in
set_option maxRecDepth 100000 in
theorem opM1_38 {Q : Exit → Act → World → Prop} {w0 : World} {T : Array Value} {L : LM1} (H : HM1 w0 T L) : StepAt Tryz.prog Q oM1 (InvM1 w0 T L) 38 := by
  intro listed a wl o ho h0 hall ⟨b3, hls, V, K, hd, hb, hw⟩
  have hsz : a.tmps.size = 101 := K.1.trans H.hTs
  conv at ho => lhs; whnf
  injection ho with ho
  conv at ho => lhs; whnf
  subst ho
  refine want_any rfl ?_
  have g43 : a.tmps.getD 43 undef = .agg #[.int .i64 L.r.until_, .int .i64 0] := V.at (k := 37) (by kernel_rfl) (by kernel_rfl) (up hall (by kernel_rfl))
  go_simp
  go_at_call 41
  refine (Seconds_any L.r.until_ 0 _).mono ?_
  rintro e wN ⟨rfl, hbx⟩
  exact ⟨b3, by simpa using hls, V.lay (k := 38) (d := 44) (by kernel_rfl) (by kernel_rfl) (by rw [hsz]; decide), K.lay (k := 38) (by kernel_rfl) _, (by first | rfl | exact hd), hb.trans (hbx.mono hb.size), by rw [getD_ne _ (by decide), getD_ne _ (by decide)]; exact ⟨hw.1, fun h => ⟨(hw.2 h).1, fun h2 => ((hw.2 h).2.1 h2).below hbx, fun h2 => ((hw.2 h).2.2 h2).below hbx⟩⟩⟩
set_option maxHeartbeats 1000000 in
set_option maxRecDepth 100000 in
theorem opM1_39 {Q : Exit → Act → World → Prop} {w0 : World} {T : Array Value} {L : LM1} (H : HM1 w0 T L) : StepAt Tryz.prog Q oM1 (InvM1 w0 T L) 39 := by
  intro listed a wl o ho h0 hall ⟨b3, hls, V, K, hd, hb, hw⟩
  have hsz : a.tmps.size = 101 := K.1.trans H.hTs
  conv at ho => lhs; whnf
  injection ho with ho
  conv at ho => lhs; whnf
  subst ho
  refine want_any rfl ?_
  have g0 : a.tmps.getD 0 undef = .pointer (some ⟨L.b, 0, none⟩) := (K.get 0 (by kernel_rfl)).trans H.hT0
  go_simp
  exact ⟨b3, by simpa using hls, V.lay (k := 39) (d := 45) (by kernel_rfl) (by kernel_rfl) (by rw [hsz]; decide), K.lay (k := 39) (by kernel_rfl) _, (by first | rfl | exact hd), hb, by rw [getD_ne _ (by decide), getD_ne _ (by decide)]; exact hw⟩
set_option maxHeartbeats 1000000 in
set_option maxRecDepth 100000 in
theorem opM1_40 {Q : Exit → Act → World → Prop} {w0 : World} {T : Array Value} {L : LM1} (H : HM1 w0 T L) : StepAt Tryz.prog Q oM1 (InvM1 w0 T L) 40 := by
  intro listed a wl o ho h0 hall ⟨b3, hls, V, K, hd, hb, hw⟩
  have hsz : a.tmps.size = 101 := K.1.trans H.hTs
  conv at ho => lhs; whnf
  injection ho with ho
  conv at ho => lhs; whnf
  subst ho
  refine want_any rfl ?_
  have g45 : a.tmps.getD 45 undef = .pointer (some ⟨L.b, 0, none⟩) := V.at (k := 39) (by kernel_rfl) (by kernel_rfl) (up hall (by kernel_rfl))
  go_simp
  exact ⟨b3, by simpa using hls, V.lay (k := 40) (d := 46) (by kernel_rfl) (by kernel_rfl) (by rw [hsz]; decide), K.lay (k := 40) (by kernel_rfl) _, (by first | rfl | exact hd), hb, by rw [getD_ne _ (by decide), getD_ne _ (by decide)]; exact hw⟩
set_option maxHeartbeats 1000000 in
set_option maxRecDepth 100000 in
theorem opM1_41 {Q : Exit → Act → World → Prop} {w0 : World} {T : Array Value} {L : LM1} (H : HM1 w0 T L) : StepAt Tryz.prog Q oM1 (InvM1 w0 T L) 41 := by
  intro listed a wl o ho h0 hall ⟨b3, hls, V, K, hd, hb, hw⟩
  have hsz : a.tmps.size = 101 := K.1.trans H.hTs
  conv at ho => lhs; whnf
  injection ho with ho
  conv at ho => lhs; whnf
  subst ho
  refine want_any rfl ?_
  have g46 : a.tmps.getD 46 undef = .pointer (some ⟨L.b, 0, none⟩) := V.at (k := 40) (by kernel_rfl) (by kernel_rfl) (up hall (by kernel_rfl))
  go_simp
  exact ⟨b3, by simpa using hls, V.lay (k := 41) (d := 47) (by kernel_rfl) (by kernel_rfl) (by rw [hsz]; decide), K.lay (k := 41) (by kernel_rfl) _, (by first | rfl | exact hd), hb, by rw [getD_ne _ (by decide), getD_ne _ (by decide)]; exact hw⟩
set_option maxHeartbeats 1000000 in
set_option maxRecDepth 100000 in
theorem opM1_42 {Q : Exit → Act → World → Prop} {w0 : World} {T : Array Value} {L : LM1} (H : HM1 w0 T L) : StepAt Tryz.prog Q oM1 (InvM1 w0 T L) 42 := by
  intro listed a wl o ho h0 hall ⟨b3, hls, V, K, hd, hb, hw⟩
  have hsz : a.tmps.size = 101 := K.1.trans H.hTs
  conv at ho => lhs; whnf
  injection ho with ho
  conv at ho => lhs; whnf
  subst ho
  refine want_any rfl ?_
  have g47 : a.tmps.getD 47 undef = .pointer (some ⟨L.b, 9, none⟩) := V.at (k := 41) (by kernel_rfl) (by kernel_rfl) (up hall (by kernel_rfl))
  have c0 : wl.cell? ⟨L.b, 9, none⟩ = some (.slice L.a1 L.n1 L.c1) := (H.HF.out _ hb).fc9
  go_simp
  exact ⟨b3, by simpa using hls, V.lay (k := 42) (d := 48) (by kernel_rfl) (by kernel_rfl) (by rw [hsz]; decide), K.lay (k := 42) (by kernel_rfl) _, (by first | rfl | exact hd), hb, by rw [getD_ne _ (by decide), getD_ne _ (by decide)]; exact hw⟩
set_option maxHeartbeats 1000000 in
set_option maxRecDepth 100000 in
theorem opM1_43 {Q : Exit → Act → World → Prop} {w0 : World} {T : Array Value} {L : LM1} (H : HM1 w0 T L) : StepAt Tryz.prog Q oM1 (InvM1 w0 T L) 43 := by
  intro listed a wl o ho h0 hall ⟨b3, hls, V, K, hd, hb, hw⟩
  have hsz : a.tmps.size = 101 := K.1.trans H.hTs
  conv at ho => lhs; whnf
  injection ho with ho
  conv at ho => lhs; whnf
  subst ho
  refine want_any rfl ?_
  have g0 : a.tmps.getD 0 undef = .pointer (some ⟨L.b, 0, none⟩) := (K.get 0 (by kernel_rfl)).trans H.hT0
  go_simp
  exact ⟨b3, by simpa using hls, V.lay (k := 43) (d := 49) (by kernel_rfl) (by kernel_rfl) (by rw [hsz]; decide), K.lay (k := 43) (by kernel_rfl) _, (by first | rfl | exact hd), hb, by rw [getD_ne _ (by decide), getD_ne _ (by decide)]; exact hw⟩
set_option maxHeartbeats 1000000 in
set_option maxRecDepth 100000 in
theorem opM1_44 {Q : Exit → Act → World → Prop} {w0 : World} {T : Array Value} {L : LM1} (H : HM1 w0 T L) : StepAt Tryz.prog Q oM1 (InvM1 w0 T L) 44 := by
  intro listed a wl o ho h0 hall ⟨b3, hls, V, K, hd, hb, hw⟩
  have hsz : a.tmps.size = 101 := K.1.trans H.hTs
  conv at ho => lhs; whnf
  injection ho with ho
  conv at ho => lhs; whnf
  subst ho
  refine want_any rfl ?_
  have g49 : a.tmps.getD 49 undef = .pointer (some ⟨L.b, 0, none⟩) := V.at (k := 43) (by kernel_rfl) (by kernel_rfl) (up hall (by kernel_rfl))
  go_simp
  exact ⟨b3, by simpa using hls, V.lay (k := 44) (d := 50) (by kernel_rfl) (by kernel_rfl) (by rw [hsz]; decide), K.lay (k := 44) (by kernel_rfl) _, (by first | rfl | exact hd), hb, by rw [getD_ne _ (by decide), getD_ne _ (by decide)]; exact hw⟩
set_option maxHeartbeats 1000000 in
set_option maxRecDepth 100000 in
theorem opM1_45 {Q : Exit → Act → World → Prop} {w0 : World} {T : Array Value} {L : LM1} (H : HM1 w0 T L) : StepAt Tryz.prog Q oM1 (InvM1 w0 T L) 45 := by
  intro listed a wl o ho h0 hall ⟨b3, hls, V, K, hd, hb, hw⟩
  have hsz : a.tmps.size = 101 := K.1.trans H.hTs
  conv at ho => lhs; whnf
  injection ho with ho
  conv at ho => lhs; whnf
  subst ho
  refine want_any rfl ?_
  have g50 : a.tmps.getD 50 undef = .pointer (some ⟨L.b, 0, none⟩) := V.at (k := 44) (by kernel_rfl) (by kernel_rfl) (up hall (by kernel_rfl))
  go_simp
  exact ⟨b3, by simpa using hls, V.lay (k := 45) (d := 51) (by kernel_rfl) (by kernel_rfl) (by rw [hsz]; decide), K.lay (k := 45) (by kernel_rfl) _, (by first | rfl | exact hd), hb, by rw [getD_ne _ (by decide), getD_ne _ (by decide)]; exact hw⟩
set_option maxHeartbeats 1000000 in
set_option maxRecDepth 100000 in
theorem opM1_46 {Q : Exit → Act → World → Prop} {w0 : World} {T : Array Value} {L : LM1} (H : HM1 w0 T L) : StepAt Tryz.prog Q oM1 (InvM1 w0 T L) 46 := by
  intro listed a wl o ho h0 hall ⟨b3, hls, V, K, hd, hb, hw⟩
  have hsz : a.tmps.size = 101 := K.1.trans H.hTs
  conv at ho => lhs; whnf
  injection ho with ho
  conv at ho => lhs; whnf
  subst ho
  refine want_any rfl ?_
  have g51 : a.tmps.getD 51 undef = .pointer (some ⟨L.b, 10, none⟩) := V.at (k := 45) (by kernel_rfl) (by kernel_rfl) (up hall (by kernel_rfl))
  have c0 : wl.cell? ⟨L.b, 10, none⟩ = some (.slice L.a2 L.n2 L.c2) := (H.HF.out _ hb).fc10
  go_simp
  exact ⟨b3, by simpa using hls, V.lay (k := 46) (d := 52) (by kernel_rfl) (by kernel_rfl) (by rw [hsz]; decide), K.lay (k := 46) (by kernel_rfl) _, (by first | rfl | exact hd), hb, by rw [getD_ne _ (by decide), getD_ne _ (by decide)]; exact hw⟩
set_option maxHeartbeats 1000000 in
set_option maxRecDepth 100000 in
theorem opM1_47 {Q : Exit → Act → World → Prop} {w0 : World} {T : Array Value} {L : LM1} (H : HM1 w0 T L) : StepAt Tryz.prog Q oM1 (InvM1 w0 T L) 47 := by
  intro listed a wl o ho h0 hall ⟨b3, hls, V, K, hd, hb, hw⟩
  have hsz : a.tmps.size = 101 := K.1.trans H.hTs
  conv at ho => lhs; whnf
  injection ho with ho
  conv at ho => lhs; whnf
  subst ho
  refine want_any rfl ?_
  have g0 : a.tmps.getD 0 undef = .pointer (some ⟨L.b, 0, none⟩) := (K.get 0 (by kernel_rfl)).trans H.hT0
  go_simp
  exact ⟨b3, by simpa using hls, V.lay (k := 47) (d := 53) (by kernel_rfl) (by kernel_rfl) (by rw [hsz]; decide), K.lay (k := 47) (by kernel_rfl) _, (by first | rfl | exact hd), hb, by rw [getD_ne _ (by decide), getD_ne _ (by decide)]; exact hw⟩
set_option maxHeartbeats 1000000 in
set_option maxRecDepth 100000 in
theorem opM1_48 {Q : Exit → Act → World → Prop} {w0 : World} {T : Array Value} {L : LM1} (H : HM1 w0 T L) : StepAt Tryz.prog Q oM1 (InvM1 w0 T L) 48 := by
  intro listed a wl o ho h0 hall ⟨b3, hls, V, K, hd, hb, hw⟩
  have hsz : a.tmps.size = 101 := K.1.trans H.hTs
  conv at ho => lhs; whnf
  injection ho with ho
  conv at ho => lhs; whnf
  subst ho
  refine want_any rfl ?_
  have g53 : a.tmps.getD 53 undef = .pointer (some ⟨L.b, 0, none⟩) := V.at (k := 47) (by kernel_rfl) (by kernel_rfl) (up hall (by kernel_rfl))
  go_simp
  exact ⟨b3, by simpa using hls, V.lay (k := 48) (d := 54) (by kernel_rfl) (by kernel_rfl) (by rw [hsz]; decide), K.lay (k := 48) (by kernel_rfl) _, (by first | rfl | exact hd), hb, by rw [getD_ne _ (by decide), getD_ne _ (by decide)]; exact hw⟩
set_option maxHeartbeats 1000000 in
set_option maxRecDepth 100000 in
theorem opM1_49 {Q : Exit → Act → World → Prop} {w0 : World} {T : Array Value} {L : LM1} (H : HM1 w0 T L) : StepAt Tryz.prog Q oM1 (InvM1 w0 T L) 49 := by
  intro listed a wl o ho h0 hall ⟨b3, hls, V, K, hd, hb, hw⟩
  have hsz : a.tmps.size = 101 := K.1.trans H.hTs
  conv at ho => lhs; whnf
  injection ho with ho
  conv at ho => lhs; whnf
  subst ho
  refine want_any rfl ?_
  have g54 : a.tmps.getD 54 undef = .pointer (some ⟨L.b, 0, none⟩) := V.at (k := 48) (by kernel_rfl) (by kernel_rfl) (up hall (by kernel_rfl))
  go_simp
  exact ⟨b3, by simpa using hls, V.lay (k := 49) (d := 55) (by kernel_rfl) (by kernel_rfl) (by rw [hsz]; decide), K.lay (k := 49) (by kernel_rfl) _, (by first | rfl | exact hd), hb, by rw [getD_ne _ (by decide), getD_ne _ (by decide)]; exact hw⟩
set_option maxHeartbeats 1000000 in
set_option maxRecDepth 100000 in
theorem opM1_50 {Q : Exit → Act → World → Prop} {w0 : World} {T : Array Value} {L : LM1} (H : HM1 w0 T L) : StepAt Tryz.prog Q oM1 (InvM1 w0 T L) 50 := by
  intro listed a wl o ho h0 hall ⟨b3, hls, V, K, hd, hb, hw⟩
  have hsz : a.tmps.size = 101 := K.1.trans H.hTs
  conv at ho => lhs; whnf
  injection ho with ho
  conv at ho => lhs; whnf
  subst ho
  refine want_any rfl ?_
  have g55 : a.tmps.getD 55 undef = .pointer (some ⟨L.b, 11, none⟩) := V.at (k := 49) (by kernel_rfl) (by kernel_rfl) (up hall (by kernel_rfl))
  have c0 : wl.cell? ⟨L.b, 11, none⟩ = some (.slice L.a3 L.n3 L.c3) := (H.HF.out _ hb).fc11
  go_simp
  exact ⟨b3, by simpa using hls, V.lay (k := 50) (d := 56) (by kernel_rfl) (by kernel_rfl) (by rw [hsz]; decide), K.lay (k := 50) (by kernel_rfl) _, (by first | rfl | exact hd), hb, by rw [getD_ne _ (by decide), getD_ne _ (by decide)]; exact hw⟩
set_option maxHeartbeats 1000000 in
set_option maxRecDepth 100000 in
theorem opM1_51 {Q : Exit → Act → World → Prop} {w0 : World} {T : Array Value} {L : LM1} (H : HM1 w0 T L) : StepAt Tryz.prog Q oM1 (InvM1 w0 T L) 51 := by
  intro listed a wl o ho h0 hall ⟨b3, hls, V, K, hd, hb, hw⟩
  have hsz : a.tmps.size = 101 := K.1.trans H.hTs
  conv at ho => lhs; whnf
  injection ho with ho
  conv at ho => lhs; whnf
  subst ho
  refine want_any rfl ?_
  have g0 : a.tmps.getD 0 undef = .pointer (some ⟨L.b, 0, none⟩) := (K.get 0 (by kernel_rfl)).trans H.hT0
  go_simp
  exact ⟨b3, by simpa using hls, V.lay (k := 51) (d := 57) (by kernel_rfl) (by kernel_rfl) (by rw [hsz]; decide), K.lay (k := 51) (by kernel_rfl) _, (by first | rfl | exact hd), hb, by rw [getD_ne _ (by decide), getD_ne _ (by decide)]; exact hw⟩
set_option maxHeartbeats 1000000 in
set_option maxRecDepth 100000 in
theorem opM1_52 {Q : Exit → Act → World → Prop} {w0 : World} {T : Array Value} {L : LM1} (H : HM1 w0 T L) : StepAt Tryz.prog Q oM1 (InvM1 w0 T L) 52 := by
  intro listed a wl o ho h0 hall ⟨b3, hls, V, K, hd, hb, hw⟩
  have hsz : a.tmps.size = 101 := K.1.trans H.hTs
  conv at ho => lhs; whnf
  injection ho with ho
  conv at ho => lhs; whnf
  subst ho
  refine want_any rfl ?_
  have g57 : a.tmps.getD 57 undef = .pointer (some ⟨L.b, 0, none⟩) := V.at (k := 51) (by kernel_rfl) (by kernel_rfl) (up hall (by kernel_rfl))
  go_simp
  exact ⟨b3, by simpa using hls, V.lay (k := 52) (d := 58) (by kernel_rfl) (by kernel_rfl) (by rw [hsz]; decide), K.lay (k := 52) (by kernel_rfl) _, (by first | rfl | exact hd), hb, by rw [getD_ne _ (by decide), getD_ne _ (by decide)]; exact hw⟩
set_option maxHeartbeats 1000000 in
set_option maxRecDepth 100000 in
theorem opM1_53 {Q : Exit → Act → World → Prop} {w0 : World} {T : Array Value} {L : LM1} (H : HM1 w0 T L) : StepAt Tryz.prog Q oM1 (InvM1 w0 T L) 53 := by
  intro listed a wl o ho h0 hall ⟨b3, hls, V, K, hd, hb, hw⟩
  have hsz : a.tmps.size = 101 := K.1.trans H.hTs
  conv at ho => lhs; whnf
  injection ho with ho
  conv at ho => lhs; whnf
  subst ho
  refine want_any rfl ?_
  have g58 : a.tmps.getD 58 undef = .pointer (some ⟨L.b, 0, none⟩) := V.at (k := 52) (by kernel_rfl) (by kernel_rfl) (up hall (by kernel_rfl))
  go_simp
  exact ⟨b3, by simpa using hls, V.lay (k := 53) (d := 59) (by kernel_rfl) (by kernel_rfl) (by rw [hsz]; decide), K.lay (k := 53) (by kernel_rfl) _, (by first | rfl | exact hd), hb, by rw [getD_ne _ (by decide), getD_ne _ (by decide)]; exact hw⟩
set_option maxHeartbeats 1000000 in
set_option maxRecDepth 100000 in
theorem opM1_54 {Q : Exit → Act → World → Prop} {w0 : World} {T : Array Value} {L : LM1} (H : HM1 w0 T L) : StepAt Tryz.prog Q oM1 (InvM1 w0 T L) 54 := by
  intro listed a wl o ho h0 hall ⟨b3, hls, V, K, hd, hb, hw⟩
  have hsz : a.tmps.size = 101 := K.1.trans H.hTs
  conv at ho => lhs; whnf
  injection ho with ho
  conv at ho => lhs; whnf
  subst ho
  refine want_any rfl ?_
  have g59 : a.tmps.getD 59 undef = .pointer (some ⟨L.b, 12, none⟩) := V.at (k := 53) (by kernel_rfl) (by kernel_rfl) (up hall (by kernel_rfl))
  have c0 : wl.cell? ⟨L.b, 12, none⟩ = some (.slice L.a4 L.n4 L.c4) := (H.HF.out _ hb).fc12
  go_simp
  exact ⟨b3, by simpa using hls, V.lay (k := 54) (d := 60) (by kernel_rfl) (by kernel_rfl) (by rw [hsz]; decide), K.lay (k := 54) (by kernel_rfl) _, (by first | rfl | exact hd), hb, by rw [getD_ne _ (by decide), getD_ne _ (by decide)]; exact hw⟩
set_option maxHeartbeats 1000000 in
set_option maxRecDepth 100000 in
theorem opM1_55 {Q : Exit → Act → World → Prop} {w0 : World} {T : Array Value} {L : LM1} (H : HM1 w0 T L) : StepAt Tryz.prog Q oM1 (InvM1 w0 T L) 55 := by
  intro listed a wl o ho h0 hall ⟨b3, hls, V, K, hd, hb, hw⟩
  have hsz : a.tmps.size = 101 := K.1.trans H.hTs
  conv at ho => lhs; whnf
  injection ho with ho
  conv at ho => lhs; whnf
  subst ho
  refine want_any rfl ?_
  have g0 : a.tmps.getD 0 undef = .pointer (some ⟨L.b, 0, none⟩) := (K.get 0 (by kernel_rfl)).trans H.hT0
  go_simp
  exact ⟨b3, by simpa using hls, V.lay (k := 55) (d := 61) (by kernel_rfl) (by kernel_rfl) (by rw [hsz]; decide), K.lay (k := 55) (by kernel_rfl) _, (by first | rfl | exact hd), hb, by rw [getD_ne _ (by decide), getD_ne _ (by decide)]; exact hw⟩
set_option maxHeartbeats 1000000 in
set_option maxRecDepth 100000 in
theorem opM1_56 {Q : Exit → Act → World → Prop} {w0 : World} {T : Array Value} {L : LM1} (H : HM1 w0 T L) : StepAt Tryz.prog Q oM1 (InvM1 w0 T L) 56 := by
  intro listed a wl o ho h0 hall ⟨b3, hls, V, K, hd, hb, hw⟩
  have hsz : a.tmps.size = 101 := K.1.trans H.hTs
  conv at ho => lhs; whnf
  injection ho with ho
  conv at ho => lhs; whnf
  subst ho
  refine want_any rfl ?_
  have g61 : a.tmps.getD 61 undef = .pointer (some ⟨L.b, 0, none⟩) := V.at (k := 55) (by kernel_rfl) (by kernel_rfl) (up hall (by kernel_rfl))
  go_simp
  exact ⟨b3, by simpa using hls, V.lay (k := 56) (d := 62) (by kernel_rfl) (by kernel_rfl) (by rw [hsz]; decide), K.lay (k := 56) (by kernel_rfl) _, (by first | rfl | exact hd), hb, by rw [getD_ne _ (by decide), getD_ne _ (by decide)]; exact hw⟩
set_option maxHeartbeats 1000000 in
set_option maxRecDepth 100000 in
theorem opM1_57 {Q : Exit → Act → World → Prop} {w0 : World} {T : Array Value} {L : LM1} (H : HM1 w0 T L) : StepAt Tryz.prog Q oM1 (InvM1 w0 T L) 57 := by
  intro listed a wl o ho h0 hall ⟨b3, hls, V, K, hd, hb, hw⟩
  have hsz : a.tmps.size = 101 := K.1.trans H.hTs
  conv at ho => lhs; whnf
  injection ho with ho
  conv at ho => lhs; whnf
  subst ho
  refine want_any rfl ?_
  have g62 : a.tmps.getD 62 undef = .pointer (some ⟨L.b, 0, none⟩) := V.at (k := 56) (by kernel_rfl) (by kernel_rfl) (up hall (by kernel_rfl))
  go_simp
  exact ⟨b3, by simpa using hls, V.lay (k := 57) (d := 63) (by kernel_rfl) (by kernel_rfl) (by rw [hsz]; decide), K.lay (k := 57) (by kernel_rfl) _, (by first | rfl | exact hd), hb, by rw [getD_ne _ (by decide), getD_ne _ (by decide)]; exact hw⟩
set_option maxHeartbeats 1000000 in
set_option maxRecDepth 100000 in
theorem opM1_58 {Q : Exit → Act → World → Prop} {w0 : World} {T : Array Value} {L : LM1} (H : HM1 w0 T L) : StepAt Tryz.prog Q oM1 (InvM1 w0 T L) 58 := by
  intro listed a wl o ho h0 hall ⟨b3, hls, V, K, hd, hb, hw⟩
  have hsz : a.tmps.size = 101 := K.1.trans H.hTs
  conv at ho => lhs; whnf
  injection ho with ho
  conv at ho => lhs; whnf
  subst ho
  refine want_any rfl ?_
  have g63 : a.tmps.getD 63 undef = .pointer (some ⟨L.b, 13, none⟩) := V.at (k := 57) (by kernel_rfl) (by kernel_rfl) (up hall (by kernel_rfl))
  have c0 : wl.cell? ⟨L.b, 13, none⟩ = some (.slice L.a5 L.n5 L.c5) := (H.HF.out _ hb).fc13
  go_simp
  exact ⟨b3, by simpa using hls, V.lay (k := 58) (d := 64) (by kernel_rfl) (by kernel_rfl) (by rw [hsz]; decide), K.lay (k := 58) (by kernel_rfl) _, (by first | rfl | exact hd), hb, by rw [getD_ne _ (by decide), getD_ne _ (by decide)]; exact hw⟩
set_option maxHeartbeats 1000000 in
set_option maxRecDepth 100000 in
theorem opM1_59 {Q : Exit → Act → World → Prop} {w0 : World} {T : Array Value} {L : LM1} (H : HM1 w0 T L) : StepAt Tryz.prog Q oM1 (InvM1 w0 T L) 59 := by
  intro listed a wl o ho h0 hall ⟨b3, hls, V, K, hd, hb, hw⟩
  have hsz : a.tmps.size = 101 := K.1.trans H.hTs
  conv at ho => lhs; whnf
  injection ho with ho
  conv at ho => lhs; whnf
  subst ho
  refine want_any rfl ?_
  have g0 : a.tmps.getD 0 undef = .pointer (some ⟨L.b, 0, none⟩) := (K.get 0 (by kernel_rfl)).trans H.hT0
  go_simp
  exact ⟨b3, by simpa using hls, V.lay (k := 59) (d := 65) (by kernel_rfl) (by kernel_rfl) (by rw [hsz]; decide), K.lay (k := 59) (by kernel_rfl) _, (by first | rfl | exact hd), hb, by rw [getD_ne _ (by decide), getD_ne _ (by decide)]; exact hw⟩
set_option maxHeartbeats 1000000 in
set_option maxRecDepth 100000 in
theorem opM1_60 {Q : Exit → Act → World → Prop} {w0 : World} {T : Array Value} {L : LM1} (H : HM1 w0 T L) : StepAt Tryz.prog Q oM1 (InvM1 w0 T L) 60 := by
  intro listed a wl o ho h0 hall ⟨b3, hls, V, K, hd, hb, hw⟩
  have hsz : a.tmps.size = 101 := K.1.trans H.hTs
  conv at ho => lhs; whnf
  injection ho with ho
  conv at ho => lhs; whnf
  subst ho
  refine want_any rfl ?_
  have g65 : a.tmps.getD 65 undef = .pointer (some ⟨L.b, 0, none⟩) := V.at (k := 59) (by kernel_rfl) (by kernel_rfl) (up hall (by kernel_rfl))
  go_simp
  exact ⟨b3, by simpa using hls, V.lay (k := 60) (d := 66) (by kernel_rfl) (by kernel_rfl) (by rw [hsz]; decide), K.lay (k := 60) (by kernel_rfl) _, (by first | rfl | exact hd), hb, by rw [getD_ne _ (by decide), getD_ne _ (by decide)]; exact hw⟩
set_option maxHeartbeats 1000000 in
set_option maxRecDepth 100000 in
theorem opM1_61 {Q : Exit → Act → World → Prop} {w0 : World} {T : Array Value} {L : LM1} (H : HM1 w0 T L) : StepAt Tryz.prog Q oM1 (InvM1 w0 T L) 61 := by
  intro listed a wl o ho h0 hall ⟨b3, hls, V, K, hd, hb, hw⟩
  have hsz : a.tmps.size = 101 := K.1.trans H.hTs
  conv at ho => lhs; whnf
  injection ho with ho
  conv at ho => lhs; whnf
  subst ho
  refine want_any rfl ?_
  have g66 : a.tmps.getD 66 undef = .pointer (some ⟨L.b, 0, none⟩) := V.at (k := 60) (by kernel_rfl) (by kernel_rfl) (up hall (by kernel_rfl))
  go_simp
  exact ⟨b3, by simpa using hls, V.lay (k := 61) (d := 67) (by kernel_rfl) (by kernel_rfl) (by rw [hsz]; decide), K.lay (k := 61) (by kernel_rfl) _, (by first | rfl | exact hd), hb, by rw [getD_ne _ (by decide), getD_ne _ (by decide)]; exact hw⟩
set_option maxHeartbeats 1000000 in
set_option maxRecDepth 100000 in
theorem opM1_62 {Q : Exit → Act → World → Prop} {w0 : World} {T : Array Value} {L : LM1} (H : HM1 w0 T L) : StepAt Tryz.prog Q oM1 (InvM1 w0 T L) 62 := by
  intro listed a wl o ho h0 hall ⟨b3, hls, V, K, hd, hb, hw⟩
  have hsz : a.tmps.size = 101 := K.1.trans H.hTs
  conv at ho => lhs; whnf
  injection ho with ho
  conv at ho => lhs; whnf
  subst ho
  refine want_any rfl ?_
  have g67 : a.tmps.getD 67 undef = .pointer (some ⟨L.b, 15, none⟩) := V.at (k := 61) (by kernel_rfl) (by kernel_rfl) (up hall (by kernel_rfl))
  have c0 : wl.cell? ⟨L.b, 15, none⟩ = some (.slice L.a7 L.n7 L.c7) := (H.HF.out _ hb).fc15
  go_simp
  exact ⟨b3, by simpa using hls, V.lay (k := 62) (d := 68) (by kernel_rfl) (by kernel_rfl) (by rw [hsz]; decide), K.lay (k := 62) (by kernel_rfl) _, (by first | rfl | exact hd), hb, by rw [getD_ne _ (by decide), getD_ne _ (by decide)]; exact hw⟩
set_option maxHeartbeats 1000000 in
set_option maxRecDepth 100000 in
theorem opM1_63 {Q : Exit → Act → World → Prop} {w0 : World} {T : Array Value} {L : LM1} (H : HM1 w0 T L) : StepAt Tryz.prog Q oM1 (InvM1 w0 T L) 63 := by
  intro listed a wl o ho h0 hall ⟨b3, hls, V, K, hd, hb, hw⟩
  have hsz : a.tmps.size = 101 := K.1.trans H.hTs
  conv at ho => lhs; whnf
  injection ho with ho
  conv at ho => lhs; whnf
  subst ho
  refine want_any rfl ?_
  have g0 : a.tmps.getD 0 undef = .pointer (some ⟨L.b, 0, none⟩) := (K.get 0 (by kernel_rfl)).trans H.hT0
  go_simp
  exact ⟨b3, by simpa using hls, V.lay (k := 63) (d := 69) (by kernel_rfl) (by kernel_rfl) (by rw [hsz]; decide), K.lay (k := 63) (by kernel_rfl) _, (by first | rfl | exact hd), hb, by rw [getD_ne _ (by decide), getD_ne _ (by decide)]; exact hw⟩
set_option maxHeartbeats 1000000 in
set_option maxRecDepth 100000 in
theorem opM1_64 {Q : Exit → Act → World → Prop} {w0 : World} {T : Array Value} {L : LM1} (H : HM1 w0 T L) : StepAt Tryz.prog Q oM1 (InvM1 w0 T L) 64 := by
  intro listed a wl o ho h0 hall ⟨b3, hls, V, K, hd, hb, hw⟩
  have hsz : a.tmps.size = 101 := K.1.trans H.hTs
  conv at ho => lhs; whnf
  injection ho with ho
  conv at ho => lhs; whnf
  subst ho
  refine want_any rfl ?_
  have g69 : a.tmps.getD 69 undef = .pointer (some ⟨L.b, 0, none⟩) := V.at (k := 63) (by kernel_rfl) (by kernel_rfl) (up hall (by kernel_rfl))
  go_simp
  exact ⟨b3, by simpa using hls, V.lay (k := 64) (d := 70) (by kernel_rfl) (by kernel_rfl) (by rw [hsz]; decide), K.lay (k := 64) (by kernel_rfl) _, (by first | rfl | exact hd), hb, by rw [getD_ne _ (by decide), getD_ne _ (by decide)]; exact hw⟩
set_option maxHeartbeats 1000000 in
set_option maxRecDepth 100000 in
theorem opM1_65 {Q : Exit → Act → World → Prop} {w0 : World} {T : Array Value} {L : LM1} (H : HM1 w0 T L) : StepAt Tryz.prog Q oM1 (InvM1 w0 T L) 65 := by
  intro listed a wl o ho h0 hall ⟨b3, hls, V, K, hd, hb, hw⟩
  have hsz : a.tmps.size = 101 := K.1.trans H.hTs
  conv at ho => lhs; whnf
  injection ho with ho
  conv at ho => lhs; whnf
  subst ho
  refine want_any rfl ?_
  have g70 : a.tmps.getD 70 undef = .pointer (some ⟨L.b, 0, none⟩) := V.at (k := 64) (by kernel_rfl) (by kernel_rfl) (up hall (by kernel_rfl))
  go_simp
  exact ⟨b3, by simpa using hls, V.lay (k := 65) (d := 71) (by kernel_rfl) (by kernel_rfl) (by rw [hsz]; decide), K.lay (k := 65) (by kernel_rfl) _, (by first | rfl | exact hd), hb, by rw [getD_ne _ (by decide), getD_ne _ (by decide)]; exact hw⟩
set_option maxHeartbeats 1000000 in
set_option maxRecDepth 100000 in
theorem opM1_66 {Q : Exit → Act → World → Prop} {w0 : World} {T : Array Value} {L : LM1} (H : HM1 w0 T L) : StepAt Tryz.prog Q oM1 (InvM1 w0 T L) 66 := by
  intro listed a wl o ho h0 hall ⟨b3, hls, V, K, hd, hb, hw⟩
  have hsz : a.tmps.size = 101 := K.1.trans H.hTs
  conv at ho => lhs; whnf
  injection ho with ho
  conv at ho => lhs; whnf
  subst ho
  refine want_any rfl ?_
  have g71 : a.tmps.getD 71 undef = .pointer (some ⟨L.b, 16, none⟩) := V.at (k := 65) (by kernel_rfl) (by kernel_rfl) (up hall (by kernel_rfl))
  have c0 : wl.cell? ⟨L.b, 16, none⟩ = some (.slice L.a8 L.n8 L.c8) := (H.HF.out _ hb).fc16
  go_simp
  exact ⟨b3, by simpa using hls, V.lay (k := 66) (d := 72) (by kernel_rfl) (by kernel_rfl) (by rw [hsz]; decide), K.lay (k := 66) (by kernel_rfl) _, (by first | rfl | exact hd), hb, by rw [getD_ne _ (by decide), getD_ne _ (by decide)]; exact hw⟩
set_option maxHeartbeats 1000000 in
set_option maxRecDepth 100000 in
theorem opM1_67 {Q : Exit → Act → World → Prop} {w0 : World} {T : Array Value} {L : LM1} (H : HM1 w0 T L) : StepAt Tryz.prog Q oM1 (InvM1 w0 T L) 67 := by
  intro listed a wl o ho h0 hall ⟨b3, hls, V, K, hd, hb, hw⟩
  have hsz : a.tmps.size = 101 := K.1.trans H.hTs
  conv at ho => lhs; whnf
  injection ho with ho
  conv at ho => lhs; whnf
  subst ho
  refine want_any rfl ?_
  have g0 : a.tmps.getD 0 undef = .pointer (some ⟨L.b, 0, none⟩) := (K.get 0 (by kernel_rfl)).trans H.hT0
  go_simp
  exact ⟨b3, by simpa using hls, V.lay (k := 67) (d := 73) (by kernel_rfl) (by kernel_rfl) (by rw [hsz]; decide), K.lay (k := 67) (by kernel_rfl) _, (by first | rfl | exact hd), hb, by rw [getD_ne _ (by decide), getD_ne _ (by decide)]; exact hw⟩
set_option maxHeartbeats 1000000 in
set_option maxRecDepth 100000 in
theorem opM1_68 {Q : Exit → Act → World → Prop} {w0 : World} {T : Array Value} {L : LM1} (H : HM1 w0 T L) : StepAt Tryz.prog Q oM1 (InvM1 w0 T L) 68 := by
  intro listed a wl o ho h0 hall ⟨b3, hls, V, K, hd, hb, hw⟩
  have hsz : a.tmps.size = 101 := K.1.trans H.hTs
  conv at ho => lhs; whnf
  injection ho with ho
  conv at ho => lhs; whnf
  subst ho
  refine want_any rfl ?_
  have g73 : a.tmps.getD 73 undef = .pointer (some ⟨L.b, 0, none⟩) := V.at (k := 67) (by kernel_rfl) (by kernel_rfl) (up hall (by kernel_rfl))
  go_simp
  exact ⟨b3, by simpa using hls, V.lay (k := 68) (d := 74) (by kernel_rfl) (by kernel_rfl) (by rw [hsz]; decide), K.lay (k := 68) (by kernel_rfl) _, (by first | rfl | exact hd), hb, by rw [getD_ne _ (by decide), getD_ne _ (by decide)]; exact hw⟩
set_option maxHeartbeats 1000000 in
set_option maxRecDepth 100000 in
theorem opM1_69 {Q : Exit → Act → World → Prop} {w0 : World} {T : Array Value} {L : LM1} (H : HM1 w0 T L) : StepAt Tryz.prog Q oM1 (InvM1 w0 T L) 69 := by
  intro listed a wl o ho h0 hall ⟨b3, hls, V, K, hd, hb, hw⟩
  have hsz : a.tmps.size = 101 := K.1.trans H.hTs
  conv at ho => lhs; whnf
  injection ho with ho
  conv at ho => lhs; whnf
  subst ho
  refine want_any rfl ?_
  have g74 : a.tmps.getD 74 undef = .pointer (some ⟨L.b, 0, none⟩) := V.at (k := 68) (by kernel_rfl) (by kernel_rfl) (up hall (by kernel_rfl))
  go_simp
  exact ⟨b3, by simpa using hls, V.lay (k := 69) (d := 75) (by kernel_rfl) (by kernel_rfl) (by rw [hsz]; decide), K.lay (k := 69) (by kernel_rfl) _, (by first | rfl | exact hd), hb, by rw [getD_ne _ (by decide), getD_ne _ (by decide)]; exact hw⟩
set_option maxHeartbeats 1000000 in
set_option maxRecDepth 100000 in
theorem opM1_70 {Q : Exit → Act → World → Prop} {w0 : World} {T : Array Value} {L : LM1} (H : HM1 w0 T L) : StepAt Tryz.prog Q oM1 (InvM1 w0 T L) 70 := by
  intro listed a wl o ho h0 hall ⟨b3, hls, V, K, hd, hb, hw⟩
  have hsz : a.tmps.size = 101 := K.1.trans H.hTs
  conv at ho => lhs; whnf
  injection ho with ho
  conv at ho => lhs; whnf
  subst ho
  refine want_any rfl ?_
  have g75 : a.tmps.getD 75 undef = .pointer (some ⟨L.b, 17, none⟩) := V.at (k := 69) (by kernel_rfl) (by kernel_rfl) (up hall (by kernel_rfl))
  have c0 : wl.cell? ⟨L.b, 17, none⟩ = some (.slice L.a9 L.n9 L.c9) := (H.HF.out _ hb).fc17
  go_simp
  exact ⟨b3, by simpa using hls, V.lay (k := 70) (d := 76) (by kernel_rfl) (by kernel_rfl) (by rw [hsz]; decide), K.lay (k := 70) (by kernel_rfl) _, (by first | rfl | exact hd), hb, by rw [getD_ne _ (by decide), getD_ne _ (by decide)]; exact hw⟩
set_option maxHeartbeats 1000000 in
set_option maxRecDepth 100000 in
theorem opM1_71 {Q : Exit → Act → World → Prop} {w0 : World} {T : Array Value} {L : LM1} (H : HM1 w0 T L) : StepAt Tryz.prog Q oM1 (InvM1 w0 T L) 71 := by
  intro listed a wl o ho h0 hall ⟨b3, hls, V, K, hd, hb, hw⟩
  have hsz : a.tmps.size = 101 := K.1.trans H.hTs
  conv at ho => lhs; whnf
  injection ho with ho
  conv at ho => lhs; whnf
  subst ho
  refine want_any rfl ?_
  have g0 : a.tmps.getD 0 undef = .pointer (some ⟨L.b, 0, none⟩) := (K.get 0 (by kernel_rfl)).trans H.hT0
  go_simp
  exact ⟨b3, by simpa using hls, V.lay (k := 71) (d := 77) (by kernel_rfl) (by kernel_rfl) (by rw [hsz]; decide), K.lay (k := 71) (by kernel_rfl) _, (by first | rfl | exact hd), hb, by rw [getD_ne _ (by decide), getD_ne _ (by decide)]; exact hw⟩
set_option maxHeartbeats 1000000 in
set_option maxRecDepth 100000 in
theorem opM1_72 {Q : Exit → Act → World → Prop} {w0 : World} {T : Array Value} {L : LM1} (H : HM1 w0 T L) : StepAt Tryz.prog Q oM1 (InvM1 w0 T L) 72 := by
  intro listed a wl o ho h0 hall ⟨b3, hls, V, K, hd, hb, hw⟩
  have hsz : a.tmps.size = 101 := K.1.trans H.hTs
  conv at ho => lhs; whnf
  injection ho with ho
  conv at ho => lhs; whnf
  subst ho
  refine want_any rfl ?_
  have g77 : a.tmps.getD 77 undef = .pointer (some ⟨L.b, 0, none⟩) := V.at (k := 71) (by kernel_rfl) (by kernel_rfl) (up hall (by kernel_rfl))
  go_simp
  exact ⟨b3, by simpa using hls, V.lay (k := 72) (d := 78) (by kernel_rfl) (by kernel_rfl) (by rw [hsz]; decide), K.lay (k := 72) (by kernel_rfl) _, (by first | rfl | exact hd), hb, by rw [getD_ne _ (by decide), getD_ne _ (by decide)]; exact hw⟩
set_option maxHeartbeats 1000000 in
set_option maxRecDepth 100000 in
theorem opM1_73 {Q : Exit → Act → World → Prop} {w0 : World} {T : Array Value} {L : LM1} (H : HM1 w0 T L) : StepAt Tryz.prog Q oM1 (InvM1 w0 T L) 73 := by
  intro listed a wl o ho h0 hall ⟨b3, hls, V, K, hd, hb, hw⟩
  have hsz : a.tmps.size = 101 := K.1.trans H.hTs
  conv at ho => lhs; whnf
  injection ho with ho
  conv at ho => lhs; whnf
  subst ho
  refine want_any rfl ?_
  have g78 : a.tmps.getD 78 undef = .pointer (some ⟨L.b, 0, none⟩) := V.at (k := 72) (by kernel_rfl) (by kernel_rfl) (up hall (by kernel_rfl))
  go_simp
  exact ⟨b3, by simpa using hls, V.lay (k := 73) (d := 79) (by kernel_rfl) (by kernel_rfl) (by rw [hsz]; decide), K.lay (k := 73) (by kernel_rfl) _, (by first | rfl | exact hd), hb, by rw [getD_ne _ (by decide), getD_ne _ (by decide)]; exact hw⟩
set_option maxHeartbeats 1000000 in
set_option maxRecDepth 100000 in
theorem opM1_74 {Q : Exit → Act → World → Prop} {w0 : World} {T : Array Value} {L : LM1} (H : HM1 w0 T L) : StepAt Tryz.prog Q oM1 (InvM1 w0 T L) 74 := by
  intro listed a wl o ho h0 hall ⟨b3, hls, V, K, hd, hb, hw⟩
  have hsz : a.tmps.size = 101 := K.1.trans H.hTs
  conv at ho => lhs; whnf
  injection ho with ho
  conv at ho => lhs; whnf
  subst ho
  refine want_any rfl ?_
  have g79 : a.tmps.getD 79 undef = .pointer (some ⟨L.b, 18, none⟩) := V.at (k := 73) (by kernel_rfl) (by kernel_rfl) (up hall (by kernel_rfl))
  have c0 : wl.cell? ⟨L.b, 18, none⟩ = some (.slice L.a10 L.n10 L.c10) := (H.HF.out _ hb).fc18
  go_simp
  exact ⟨b3, by simpa using hls, V.lay (k := 74) (d := 80) (by kernel_rfl) (by kernel_rfl) (by rw [hsz]; decide), K.lay (k := 74) (by kernel_rfl) _, (by first | rfl | exact hd), hb, by rw [getD_ne _ (by decide), getD_ne _ (by decide)]; exact hw⟩
set_option maxHeartbeats 1000000 in
set_option maxRecDepth 100000 in
theorem opM1_75 {Q : Exit → Act → World → Prop} {w0 : World} {T : Array Value} {L : LM1} (H : HM1 w0 T L) : StepAt Tryz.prog Q oM1 (InvM1 w0 T L) 75 := by
  intro listed a wl o ho h0 hall ⟨b3, hls, V, K, hd, hb, hw⟩
  have hsz : a.tmps.size = 101 := K.1.trans H.hTs
  conv at ho => lhs; whnf
  injection ho with ho
  conv at ho => lhs; whnf
  subst ho
  refine want_any rfl ?_
  have g10 : a.tmps.getD 10 undef = .int .u8 (L.r.freq : Nat) := V.at (k := 4) (by kernel_rfl) (by kernel_rfl) (up hall (by kernel_rfl))
  have g16 : a.tmps.getD 16 undef = .bool (!(L.r.start == 0)) := V.at (k := 10) (by kernel_rfl) (by kernel_rfl) (up hall (by kernel_rfl))
  have g21 : a.tmps.getD 21 undef = .int .i64 L.r.start := V.at (k := 15) (by kernel_rfl) (by kernel_rfl) (up hall (by kernel_rfl))
  have g25 : a.tmps.getD 25 undef = .int .i64 L.r.interval := V.at (k := 19) (by kernel_rfl) (by kernel_rfl) (up hall (by kernel_rfl))
  have g29 : a.tmps.getD 29 undef = .int .i64 L.r.wkst := V.at (k := 23) (by kernel_rfl) (by kernel_rfl) (up hall (by kernel_rfl))
  have g33 : a.tmps.getD 33 undef = .int .i64 L.r.count := V.at (k := 27) (by kernel_rfl) (by kernel_rfl) (up hall (by kernel_rfl))
  have g39 : a.tmps.getD 39 undef = .bool (!(L.r.until_ == 0)) := V.at (k := 33) (by kernel_rfl) (by kernel_rfl) (up hall (by kernel_rfl))
  have g44 : a.tmps.getD 44 undef = .int .i64 L.r.until_ := V.at (k := 38) (by kernel_rfl) (by kernel_rfl) (up hall (by kernel_rfl))
  have g48 : a.tmps.getD 48 undef = .slice L.a1 L.n1 L.c1 := V.at (k := 42) (by kernel_rfl) (by kernel_rfl) (up hall (by kernel_rfl))
  have g52 : a.tmps.getD 52 undef = .slice L.a2 L.n2 L.c2 := V.at (k := 46) (by kernel_rfl) (by kernel_rfl) (up hall (by kernel_rfl))
  have g56 : a.tmps.getD 56 undef = .slice L.a3 L.n3 L.c3 := V.at (k := 50) (by kernel_rfl) (by kernel_rfl) (up hall (by kernel_rfl))
  have g60 : a.tmps.getD 60 undef = .slice L.a4 L.n4 L.c4 := V.at (k := 54) (by kernel_rfl) (by kernel_rfl) (up hall (by kernel_rfl))
  have g64 : a.tmps.getD 64 undef = .slice L.a5 L.n5 L.c5 := V.at (k := 58) (by kernel_rfl) (by kernel_rfl) (up hall (by kernel_rfl))
  have g68 : a.tmps.getD 68 undef = .slice L.a7 L.n7 L.c7 := V.at (k := 62) (by kernel_rfl) (by kernel_rfl) (up hall (by kernel_rfl))
  have g72 : a.tmps.getD 72 undef = .slice L.a8 L.n8 L.c8 := V.at (k := 66) (by kernel_rfl) (by kernel_rfl) (up hall (by kernel_rfl))
  have g76 : a.tmps.getD 76 undef = .slice L.a9 L.n9 L.c9 := V.at (k := 70) (by kernel_rfl) (by kernel_rfl) (up hall (by kernel_rfl))
  have g80 : a.tmps.getD 80 undef = .slice L.a10 L.n10 L.c10 := V.at (k := 74) (by kernel_rfl) (by kernel_rfl) (up hall (by kernel_rfl))
  refine wp_build 32 _ #[(0, .int .u8 (L.r.freq : Nat)), (1, .bool (!(L.r.start == 0))), (2, .int .i64 L.r.start), (3, .int .i64 L.r.interval), (4, .int .i64 L.r.wkst), (5, .int .i64 L.r.count), (6, .bool (!(L.r.until_ == 0))), (7, .int .i64 L.r.until_), (8, .slice L.a1 L.n1 L.c1), (9, .slice L.a2 L.n2 L.c2), (10, .slice L.a3 L.n3 L.c3), (11, .slice L.a4 L.n4 L.c4), (12, .slice L.a5 L.n5 L.c5), (14, .slice L.a7 L.n7 L.c7), (15, .slice L.a8 L.n8 L.c8), (16, .slice L.a9 L.n9 L.c9), (17, .slice L.a10 L.n10 L.c10)] rfl #[.int .u8 (L.r.freq : Nat), .bool (!(L.r.start == 0)), .int .i64 L.r.start, .int .i64 L.r.interval, .int .i64 L.r.wkst, .int .i64 L.r.count, .bool (!(L.r.until_ == 0)), .int .i64 L.r.until_, .slice L.a1 L.n1 L.c1, .slice L.a2 L.n2 L.c2, .slice L.a3 L.n3 L.c3, .slice L.a4 L.n4 L.c4, .slice L.a5 L.n5 L.c5, .slice none 0 0, .slice L.a7 L.n7 L.c7, .slice L.a8 L.n8 L.c8, .slice L.a9 L.n9 L.c9, .slice L.a10 L.n10 L.c10] (by simp only [List.map_toArray, List.map_cons, List.map_nil, Act.eval, g10, g16, g21, g25, g29, g33, g39, g44, g48, g52, g56, g60, g64, g68, g72, g76, g80]) (by kernel_rfl) ?_
  exact ⟨b3, by simpa using hls, V.lay (k := 75) (d := 81) (by kernel_rfl) (by kernel_rfl) (by rw [hsz]; decide), K.lay (k := 75) (by kernel_rfl) _, (by first | rfl | exact hd), hb, by rw [getD_ne _ (by decide), getD_ne _ (by decide)]; exact hw⟩
set_option maxHeartbeats 1000000 in
set_option maxRecDepth 100000 in
theorem opM1_76 {Q : Exit → Act → World → Prop} {w0 : World} {T : Array Value} {L : LM1} (H : HM1 w0 T L) : StepAt Tryz.prog Q oM1 (InvM1 w0 T L) 76 := by
  intro listed a wl o ho h0 hall ⟨b3, hls, V, K, hd, hb, hw⟩
  have hsz : a.tmps.size = 101 := K.1.trans H.hTs
  conv at ho => lhs; whnf
  injection ho with ho
  conv at ho => lhs; whnf
  subst ho
  refine want_any rfl ?_
  have h30 : listed.getD 77 false = false := by
    cases h : listed.getD 77 false with
    | false => rfl
    | true => have := hw.1 h; rw [unlisted h0] at this; cases this
  go_simp
  have V2 : VI oM1 (valM1 L wl.heap.size) listed a.tmps := V.re fun k o d ho hd hl => by
    by_cases e : d = 3
    · subst e
      have := dst_only (ops := oM1) (k := 76) (by kernel_rfl) ho hd
      subst this; rw [unlisted h0] at hl; cases hl
    · unfold valM1; rw [if_neg e, if_neg e]
  exact ⟨wl.heap.size, by simpa using hls, V2.lay (k := 76) (d := 3) (by kernel_rfl) (by kernel_rfl) (by rw [hsz]; decide), K.lay (k := 76) (by kernel_rfl) _, (by first | rfl | exact hd), hb.alloc hb.size _, by rw [getD_ne _ (by decide), h30]; exact ⟨fun h => (by cases h), fun _ => ⟨hb.size, fun _ => ⟨32, heap_alloc_new _ _⟩, fun h => (by cases h)⟩⟩⟩
set_option maxHeartbeats 1000000 in
set_option maxRecDepth 100000 in
theorem opM1_77 {Q : Exit → Act → World → Prop} {w0 : World} {T : Array Value} {L : LM1} (H : HM1 w0 T L) : StepAt Tryz.prog Q oM1 (InvM1 w0 T L) 77 := by
  intro listed a wl o ho h0 hall ⟨b3, hls, V, K, hd, hb, hw⟩
  have hsz : a.tmps.size = 101 := K.1.trans H.hTs
  conv at ho => lhs; whnf
  injection ho with ho
  conv at ho => lhs; whnf
  subst ho
  refine want_any rfl ?_
  have l29 : listed.getD 76 false = true := up hall (by kernel_rfl)
  have hBz := (hw.2 l29).2.1 (unlisted h0)
  have g3 : a.tmps.getD 3 undef = .pointer (some ⟨b3, 0, none⟩) := V.at (k := 76) (by kernel_rfl) (by kernel_rfl) l29
  have g81 : a.tmps.getD 81 undef = .agg #[.int .u8 (L.r.freq : Nat), .bool (!(L.r.start == 0)), .int .i64 L.r.start, .int .i64 L.r.interval, .int .i64 L.r.wkst, .int .i64 L.r.count, .bool (!(L.r.until_ == 0)), .int .i64 L.r.until_, .slice L.a1 L.n1 L.c1, .slice L.a2 L.n2 L.c2, .slice L.a3 L.n3 L.c3, .slice L.a4 L.n4 L.c4, .slice L.a5 L.n5 L.c5, .slice none 0 0, .slice L.a7 L.n7 L.c7, .slice L.a8 L.n8 L.c8, .slice L.a9 L.n9 L.c9, .slice L.a10 L.n10 L.c10] := V.at (k := 75) (by kernel_rfl) (by kernel_rfl) (up hall (by kernel_rfl))
  have hst := hBz.stored (cells := #[.int .u8 (L.r.freq : Nat), .bool (!(L.r.start == 0)), .int .i64 L.r.start, .int .i64 L.r.interval, .int .i64 L.r.wkst, .int .i64 L.r.count, .bool (!(L.r.until_ == 0)), .int .i64 L.r.until_, .slice L.a1 L.n1 L.c1, .slice L.a2 L.n2 L.c2, .slice L.a3 L.n3 L.c3, .slice L.a4 L.n4 L.c4, .slice L.a5 L.n5 L.c5, .slice none 0 0, .slice L.a7 L.n7 L.c7, .slice L.a8 L.n8 L.c8, .slice L.a9 L.n9 L.c9, .slice L.a10 L.n10 L.c10]) rfl
  refine wp_store_mid 32 (.tmp 3) (.tmp 81) rfl b3 0 #[.int .u8 (L.r.freq : Nat), .bool (!(L.r.start == 0)), .int .i64 L.r.start, .int .i64 L.r.interval, .int .i64 L.r.wkst, .int .i64 L.r.count, .bool (!(L.r.until_ == 0)), .int .i64 L.r.until_, .slice L.a1 L.n1 L.c1, .slice L.a2 L.n2 L.c2, .slice L.a3 L.n3 L.c3, .slice L.a4 L.n4 L.c4, .slice L.a5 L.n5 L.c5, .slice none 0 0, .slice L.a7 L.n7 L.c7, .slice L.a8 L.n8 L.c8, .slice L.a9 L.n9 L.c9, .slice L.a10 L.n10 L.c10] g3 g81 (hBz.there _ rfl) (by kernel_rfl) (by simp [Value.oneCell']) ?_
  exact ⟨b3, by simpa using hls, V.pass (k := 77) (by kernel_rfl), K, hd, hb.trans (hst.2.own (hw.2 l29).1 hb.size),
    ⟨fun _ => (getD_ne listed (k := 77) (j := 76) (by decide) false).trans l29, fun _ => ⟨(hw.2 l29).1, fun h => (by have h2 := getD_self listed 77 h0; rw [h2] at h; cases h), fun _ => hst.1⟩⟩⟩
set_option maxHeartbeats 4000000 in
set_option maxRecDepth 100000 in
theorem regionM1 {Q : Exit → Act → World → Prop} (id : Nat) (w0 : World) (T : Array Value) (L : LM1) (H : HM1 w0 T L)
    (hQ : ∀ (t : Array Value) (wl : World) (b3 : Nat), t.size = 101 → t.getD 0 undef = .pointer (some ⟨L.b, 0, none⟩) → t.getD 2 undef = .pointer (some ⟨L.b2, 0, none⟩) → t.getD 3 undef = .pointer (some ⟨b3, 0, none⟩) → Below w0.heap.size w0 wl → w0.heap.size ≤ b3 → Block wl b3 #[.int .u8 (L.r.freq : Nat), .bool (!(L.r.start == 0)), .int .i64 L.r.start, .int .i64 L.r.interval, .int .i64 L.r.wkst, .int .i64 L.r.count, .bool (!(L.r.until_ == 0)), .int .i64 L.r.until_, .slice L.a1 L.n1 L.c1, .slice L.a2 L.n2 L.c2, .slice L.a3 L.n3 L.c3, .slice L.a4 L.n4 L.c4, .slice L.a5 L.n5 L.c5, .slice none 0 0, .slice L.a7 L.n7 L.c7, .slice L.a8 L.n8 L.c8, .slice L.a9 L.n9 L.c9, .slice L.a10 L.n10 L.c10] → Q .normal ⟨t, []⟩ wl) :
    (Code.region id oM1 true).wp Tryz.prog Q ⟨T, []⟩ w0 := by
  have hz : oM1.size = 78 := by kernel_rfl
  refine region_steps (by kernel_rfl) (InvM1 w0 T L) ⟨w0.heap.size, by simp; rfl, VI.start _ _ _, KI.start _, rfl, (Below.refl _ _).drew, fun h => (unrep h).elim, fun h => (unrep h).elim⟩ ?_ 78 hz ?_
  · intro listed a wl hr ⟨b3, hls, V, K, hd, hb, hw⟩
    have ha := all_listed (ops := oM1) (by kernel_rfl) (hls.trans hz.symm) hr
    obtain ⟨t, df⟩ := a
    change df = [] at hd
    subst hd
    exact hQ t wl b3 (K.1.trans H.hTs) ((K.get 0 (by kernel_rfl)).trans H.hT0) ((K.get 2 (by kernel_rfl)).trans H.hT2) (V.end ha (k := 76) (by kernel_rfl) (by kernel_rfl)) hb (hw.2 (ha 76 (by rw [hz]; decide))).1 ((hw.2 (ha 76 (by rw [hz]; decide))).2.2 (ha 77 (by rw [hz]; decide)))
  · intro k hk
    match k, hk with
    | 0, _ => exact opM1_0 H
    | 1, _ => exact opM1_1 H
    | 2, _ => exact opM1_2 H
    | 3, _ => exact opM1_3 H
    | 4, _ => exact opM1_4 H
    | 5, _ => exact opM1_5 H
    | 6, _ => exact opM1_6 H
    | 7, _ => exact opM1_7 H
    | 8, _ => exact opM1_8 H
    | 9, _ => exact opM1_9 H
    | 10, _ => exact opM1_10 H
    | 11, _ => exact opM1_11 H
    | 12, _ => exact opM1_12 H
    | 13, _ => exact opM1_13 H
    | 14, _ => exact opM1_14 H
    | 15, _ => exact opM1_15 H
    | 16, _ => exact opM1_16 H
    | 17, _ => exact opM1_17 H
    | 18, _ => exact opM1_18 H
    | 19, _ => exact opM1_19 H
    | 20, _ => exact opM1_20 H
    | 21, _ => exact opM1_21 H
    | 22, _ => exact opM1_22 H
    | 23, _ => exact opM1_23 H
    | 24, _ => exact opM1_24 H
    | 25, _ => exact opM1_25 H
    | 26, _ => exact opM1_26 H
    | 27, _ => exact opM1_27 H
    | 28, _ => exact opM1_28 H
    | 29, _ => exact opM1_29 H
    | 30, _ => exact opM1_30 H
    | 31, _ => exact opM1_31 H
    | 32, _ => exact opM1_32 H
    | 33, _ => exact opM1_33 H
    | 34, _ => exact opM1_34 H
    | 35, _ => exact opM1_35 H
    | 36, _ => exact opM1_36 H
    | 37, _ => exact opM1_37 H
    | 38, _ => exact opM1_38 H
    | 39, _ => exact opM1_39 H
    | 40, _ => exact opM1_40 H
    | 41, _ => exact opM1_41 H
    | 42, _ => exact opM1_42 H
    | 43, _ => exact opM1_43 H
    | 44, _ => exact opM1_44 H
    | 45, _ => exact opM1_45 H
    | 46, _ => exact opM1_46 H
    | 47, _ => exact opM1_47 H
    | 48, _ => exact opM1_48 H
    | 49, _ => exact opM1_49 H
    | 50, _ => exact opM1_50 H
    | 51, _ => exact opM1_51 H
    | 52, _ => exact opM1_52 H
    | 53, _ => exact opM1_53 H
    | 54, _ => exact opM1_54 H
    | 55, _ => exact opM1_55 H
    | 56, _ => exact opM1_56 H
    | 57, _ => exact opM1_57 H
    | 58, _ => exact opM1_58 H
    | 59, _ => exact opM1_59 H
    | 60, _ => exact opM1_60 H
    | 61, _ => exact opM1_61 H
    | 62, _ => exact opM1_62 H
    | 63, _ => exact opM1_63 H
    | 64, _ => exact opM1_64 H
    | 65, _ => exact opM1_65 H
    | 66, _ => exact opM1_66 H
    | 67, _ => exact opM1_67 H
    | 68, _ => exact opM1_68 H
    | 69, _ => exact opM1_69 H
    | 70, _ => exact opM1_70 H
    | 71, _ => exact opM1_71 H
    | 72, _ => exact opM1_72 H
    | 73, _ => exact opM1_73 H
    | 74, _ => exact opM1_74 H
    | 75, _ => exact opM1_75 H
    | 76, _ => exact opM1_76 H
    | 77, _ => exact opM1_77 H
    | k + 78, hk => exact absurd hk (by omega)
theorem lay101 (t : Array Value) (h : t.size = 101) {p0 p2 p3 : Value} (h0 : t.getD 0 undef = p0) (h2 : t.getD 2 undef = p2) (h3 : t.getD 3 undef = p3) : t = #[p0, t.getD 1 undef, p2, p3, t.getD 4 undef, t.getD 5 undef, t.getD 6 undef, t.getD 7 undef, t.getD 8 undef, t.getD 9 undef, t.getD 10 undef, t.getD 11 undef, t.getD 12 undef, t.getD 13 undef, t.getD 14 undef, t.getD 15 undef, t.getD 16 undef, t.getD 17 undef, t.getD 18 undef, t.getD 19 undef, t.getD 20 undef, t.getD 21 undef, t.getD 22 undef, t.getD 23 undef, t.getD 24 undef, t.getD 25 undef, t.getD 26 undef, t.getD 27 undef, t.getD 28 undef, t.getD 29 undef, t.getD 30 undef, t.getD 31 undef, t.getD 32 undef, t.getD 33 undef, t.getD 34 undef, t.getD 35 undef, t.getD 36 undef, t.getD 37 undef, t.getD 38 undef, t.getD 39 undef, t.getD 40 undef, t.getD 41 undef, t.getD 42 undef, t.getD 43 undef, t.getD 44 undef, t.getD 45 undef, t.getD 46 undef, t.getD 47 undef, t.getD 48 undef, t.getD 49 undef, t.getD 50 undef, t.getD 51 undef, t.getD 52 undef, t.getD 53 undef, t.getD 54 undef, t.getD 55 undef, t.getD 56 undef, t.getD 57 undef, t.getD 58 undef, t.getD 59 undef, t.getD 60 undef, t.getD 61 undef, t.getD 62 undef, t.getD 63 undef, t.getD 64 undef, t.getD 65 undef, t.getD 66 undef, t.getD 67 undef, t.getD 68 undef, t.getD 69 undef, t.getD 70 undef, t.getD 71 undef, t.getD 72 undef, t.getD 73 undef, t.getD 74 undef, t.getD 75 undef, t.getD 76 undef, t.getD 77 undef, t.getD 78 undef, t.getD 79 undef, t.getD 80 undef, t.getD 81 undef, t.getD 82 undef, t.getD 83 undef, t.getD 84 undef, t.getD 85 undef, t.getD 86 undef, t.getD 87 undef, t.getD 88 undef, t.getD 89 undef, t.getD 90 undef, t.getD 91 undef, t.getD 92 undef, t.getD 93 undef, t.getD 94 undef, t.getD 95 undef, t.getD 96 undef, t.getD 97 undef, t.getD 98 undef, t.getD 99 undef, t.getD 100 undef] := by
  subst h0 h2 h3; exact laid t 101 h
set_option maxRecDepth 100000 in
theorem rule_fill {u1 u4 u5 u6 u7 u8 u9 u10 u11 u12 u13 u14 u15 u16 u17 u18 u19 u20 u21 u22 u23 u24 u25 u26 u27 u28 u29 u30 u31 u32 u33 u34 u35 u36 u37 u38 u39 u40 u41 u42 u43 u44 u45 u46 u47 u48 u49 u50 u51 u52 u53 u54 u55 u56 u57 u58 u59 u60 u61 u62 u63 u64 u65 u66 u67 u68 u69 u70 u71 u72 u73 u74 u75 u76 u77 u78 u79 u80 u81 u82 u83 u84 u85 u86 u87 u88 u89 u90 u91 u92 u93 u94 u95 u96 u97 u98 u99 u100 : Value} {b b2 b3 pb : Nat} {r : PR} {v : PV} {w w0 W : World} (hb2 : b2 = w.heap.size) (hin : IAt w b (r.icells v) ∧ PRows pb w r v ∧ r.small) (hpb : pb ≤ w.heap.size)
    (hB0 : Block w0 w.heap.size zeroRule) (hbw : Below w.heap.size w w0) (hs0 : w.heap.size < w0.heap.size) (hbW : Below w0.heap.size w0 W) (hN : Block W b3 (r.cells { v with day := .slice none 0 0 })) (h3 : w0.heap.size ≤ b3) :
    (dropSeq 2 (Tryz.f23.body.getD .skip)).wp Tryz.prog (bodyPost Tryz.prog Tryz.f23 (RuleRes pb r w)) ⟨#[.pointer (some ⟨b, 0, none⟩), u1, .pointer (some ⟨b2, 0, none⟩), .pointer (some ⟨b3, 0, none⟩), u4, u5, u6, u7, u8, u9, u10, u11, u12, u13, u14, u15, u16, u17, u18, u19, u20, u21, u22, u23, u24, u25, u26, u27, u28, u29, u30, u31, u32, u33, u34, u35, u36, u37, u38, u39, u40, u41, u42, u43, u44, u45, u46, u47, u48, u49, u50, u51, u52, u53, u54, u55, u56, u57, u58, u59, u60, u61, u62, u63, u64, u65, u66, u67, u68, u69, u70, u71, u72, u73, u74, u75, u76, u77, u78, u79, u80, u81, u82, u83, u84, u85, u86, u87, u88, u89, u90, u91, u92, u93, u94, u95, u96, u97, u98, u99, u100], []⟩ W := by
  subst hb2
  exact rule_tail hin.1 hpb hin.2.1 hin.2.2 (hB0.below hbW) hN (hbw.trans (hbW.mono (by omega))) (Nat.le_refl _) (by omega) (by omega)

set_option maxHeartbeats 4000000 in
set_option maxRecDepth 100000 in
theorem rule_any (pb b : Nat) (r : PR) (v : PV) (w : World) (hA : IAt w b (r.icells v)) (hpb : pb ≤ w.heap.size) (hp : PRows pb w r v) (hg : Pl.Good r) (hs : r.small) :
    Calls Tryz.prog 23 #[.pointer (some ⟨b, 0, none⟩)] w (RuleRes pb r w) := by
  have hff : IntKind.u8.wrap (r.freq : Int) = (r.freq : Int) := by have := hg.freq; simp [IntKind.wrap, IntKind.bits, IntKind.signed]; omega
  obtain ⟨a1, n1, c1, e1⟩ := hp.setPos.form
  obtain ⟨a2, n2, c2, e2⟩ := hp.month.form
  obtain ⟨a3, n3, c3, e3⟩ := hp.monthDay.form
  obtain ⟨a4, n4, c4, e4⟩ := hp.yearDay.form
  obtain ⟨a5, n5, c5, e5⟩ := hp.weekNo.form
  obtain ⟨a6, n6, c6, e6⟩ := hp.day.form
  obtain ⟨a7, n7, c7, e7⟩ := hp.hour.form
  obtain ⟨a8, n8, c8, e8⟩ := hp.minute.form
  obtain ⟨a9, n9, c9, e9⟩ := hp.second.form
  obtain ⟨a10, n10, c10, e10⟩ := hp.easter.form
  have HF : Hid (∀ wl, Below w.heap.size w wl → FM1 ⟨b, w.heap.size, r, a1, a2, a3, a4, a5, a6, a7, a8, a9, a10, n1, c1, n2, c2, n3, c3, n4, c4, n5, c5, n6, c6, n7, c7, n8, c8, n9, c9, n10, c10⟩ wl) := fun wl hb => by
    have h := (hA.below hb).2
    exact ⟨h 0 _ rfl, h 1 _ rfl, h 2 _ rfl, h 3 _ rfl, h 4 _ rfl, h 6 _ rfl, h 7 _ rfl, h 8 _ rfl, h 9 _ (by rw [← e1]; rfl), h 10 _ (by rw [← e2]; rfl), h 11 _ (by rw [← e3]; rfl), h 12 _ (by rw [← e4]; rfl), h 13 _ (by rw [← e5]; rfl), h 14 _ (by rw [← e6]; rfl), h 15 _ (by rw [← e7]; rfl), h 16 _ (by rw [← e8]; rfl), h 17 _ (by rw [← e9]; rfl), h 18 _ (by rw [← e10]; rfl)⟩
  have hcells : r.cells { v with day := .slice none 0 0 } = #[.int .u8 (r.freq : Nat), .bool (!(r.start == 0)), .int .i64 r.start, .int .i64 r.interval, .int .i64 r.wkst, .int .i64 r.count, .bool (!(r.until_ == 0)), .int .i64 r.until_, .slice a1 n1 c1, .slice a2 n2 c2, .slice a3 n3 c3, .slice a4 n4 c4, .slice a5 n5 c5, .slice none 0 0, .slice a7 n7 c7, .slice a8 n8 c8, .slice a9 n9 c9, .slice a10 n10 c10] := by
    unfold PR.cells; rw [hg.start, hg.until_, e1, e2, e3, e4, e5, e7, e8, e9, e10]; rfl
  have HC := Lib.hid hcells; clear hcells
  have HIN : Hid (IAt w b (r.icells v) ∧ PRows pb w r v ∧ r.small) := ⟨hA, hp, hs⟩
  have HB0 : Hid (Block (w.alloc (.cells zeroRule 32)) w.heap.size zeroRule) := ⟨32, heap_alloc_new w _⟩
  have hball0 : Below w.heap.size w (w.alloc (.cells zeroRule 32)) := (Below.refl _ _).alloc (Nat.le_refl _) _
  have hs0 : w.heap.size < (w.alloc (.cells zeroRule 32)).heap.size := by simp
  unfold zeroRule at HB0 hball0 hs0
  go_enter Tryz.func23, Tryz.ntmps23
  go_upto_region 1 with fail
  generalize w.alloc (.cells _ 32) = w0 at *
  change Hid (Block w0 w.heap.size zeroRule) at HB0
  have HBW := Lib.hid hball0
  have HF0 := HF
  clear HF
  have HF := Lib.hid (fun wl (h : Below w0.heap.size w0 wl) => HF0.out wl (hball0.trans (h.mono hball0.size)))
  have hball := Below.refl w0.heap.size w0
  clear HF0 hball0
  have HFR := Lib.hid hff
  refine regionM1 _ w0 _ ⟨b, w.heap.size, r, a1, a2, a3, a4, a5, a6, a7, a8, a9, a10, n1, c1, n2, c2, n3, c3, n4, c4, n5, c5, n6, c6, n7, c7, n8, c8, n9, c9, n10, c10⟩ ⟨rfl, rfl, rfl, HF, HFR⟩ ?_
  intro t wl b3 hsz g0 g2 g3 hbl h3 hB3
  rw [lay101 t hsz g0 g2 g3]
  go_step
  go_step
  exact rule_fill rfl HIN.out hpb HB0.out HBW.out hs0 hbl (by rw [HC.out]; exact hB3) h3
end Go.Proofs.YthkgjhnckakliaaGreatDoorR

/- rrule.NewRRule, where buildRRule is as told. -/
import Derived.Test.YthkgjhnckakliaaGreatDoorRV25
import Derived.Test.YthkgjhnckakliaaGreatDoorRV28
import Derived.Test.YthkgjhnckakliaaGreatDoorRV21
namespace Go.Proofs.YthkgjhnckakliaaGreatDoorR
open Go.RowKit
/-- An option's cells lie at the head of block b. -/
def IAt (w : World) (b : Nat) (cs : Array Value) : Prop := b < w.heap.size ∧ ∀ i x, cs[i]? = some x → w.cell? ⟨b, i, none⟩ = some x
/-- What buildRRule hands back: a rule at whose head the option lies. -/
def BuildRes (r : PR) (v : PV) (w : World) (e : Ending) (w' : World) : Prop :=
  ∃ cs : Array Value, e = .returned (.agg cs) ∧ cs.size = 60 ∧ cs.all (·.oneCell') = true ∧ (∀ (i : Nat) (x : Value), (r.icells v)[i]? = some x → cs[i]? = some x) ∧ Below w.heap.size w w'
set_option maxHeartbeats 2000000 in
set_option maxRecDepth 100000 in
theorem NewRRule_of (b : Nat) (r : PR) (v : PV) (w : World) (hp : PRows b w r v) (hs : r.small) (hbuild : Pl.ruleRight r = true → ∀ w1, Below w.heap.size w w1 → Calls Tryz.prog 54 #[.agg (r.icells v)] w1 (BuildRes r v w1)) :
    Calls Tryz.prog 39 #[.agg (r.icells v)] w fun e w' =>
      (Pl.ruleRight r = false → ∃ t u, e = .returned (.tuple #[.pointer none, .iface t u])) ∧ (Pl.ruleRight r = true → ∃ rb, e = .returned (.tuple #[.pointer (some ⟨rb, 0, none⟩), .nilIface]) ∧ w.heap.size ≤ rb ∧ IAt w' rb (r.icells v)) ∧ Below w.heap.size w w' := by
  have HB0 : Hid (Block (w.alloc (.cells (r.icells v) 64)) w.heap.size (r.icells v)) := ⟨64, heap_alloc_new w _⟩
  have hb0 : Below w.heap.size w (w.alloc (.cells (r.icells v) 64)) := (Below.refl _ _).alloc (Nat.le_refl _) _
  go_enter Tryz.func39, Tryz.ntmps39
  go_upto_region 1 with (refine Go.Great.wpList_boxTo rfl 64 (.tmp 0) rfl _ rfl w.heap.size rfl (r.icells v) rfl ?_)
  generalize w.alloc (.cells (r.icells v) 64) = w0 at *
  have hp0 := hp.but (ButBelow.of_below (rb := b) hb0)
  go_wp2_with ((with_reducible refine atl ?_); refine wpList_load_block rfl 64 (.tmp 1) rfl w.heap.size (r.icells v) rfl _ HB0.out Tryz.underlying64 rfl (by kernel_rfl) ?_; go_simp)
  refine (validateBounds_any b r v w0 hp0 hs).mono ?_
  rintro e w1 ⟨err, rfl, hr1, hr0, hb1⟩
  have hall1 := hb0.trans (hb1.mono hb0.size)
  have HB1 := Lib.hid (HB0.out.below hb1)
  cases hrr : Pl.ruleRight r with
  | false =>
    obtain ⟨t, u, rfl⟩ := hr0 hrr
    go_wp2
    go_ret2
    exact ⟨fun _ => ⟨t, u, rfl⟩, (fun h => by rw [hrr] at h; cases h), hall1⟩
  | true =>
    have he := hr1 hrr
    subst he
    go_wp2_with ((with_reducible refine atl ?_); refine wpList_load_block rfl 64 (.tmp 1) rfl w.heap.size (r.icells v) rfl _ HB1.out Tryz.underlying64 rfl (by kernel_rfl) ?_; go_simp)
    refine (hbuild hrr w1 hall1).mono ?_
    rintro e w2 ⟨cs, rfl, hsz, hone, hcs, hb2⟩
    have hall2 := hall1.trans (hb2.mono hall1.size)
    have HCS := Lib.hid hcs; clear hcs
    go_wp2_with ((with_reducible refine atl ?_); refine wpList_store_block rfl 67 (.tmp 5) _ rfl w2.heap.size _ cs rfl rfl ⟨67, heap_alloc_new w2 _⟩ (by rw [hsz]; rfl) (by rw [hsz]; kernel_rfl) hone ?_; intro w3 hB3 hbb3; go_simp)
    go_ret2
    refine ⟨(fun h => by rw [hrr] at h; cases h), fun _ => ⟨w2.heap.size, rfl, hall2.size, hB3.lt, fun i x hx => ?_⟩, hall2.trans ((Below.alloc (Below.refl _ _) (Nat.le_refl _) _).mono hall2.size |>.trans (hbb3.own hall2.size (by simp; have := hall2.size; omega)))⟩
    rw [hB3.cell]; exact HCS.out i x hx

set_option maxHeartbeats 2000000 in
set_option maxRecDepth 100000 in
theorem StrToRRule_of (s : Bs) (w : World) (he : Env w) (hw : 20 ≤ w.heap.size) (hs : s.length ≤ 999999) (h2 : (Pl.option s).2 ≠ 2)
    (hB : (Pl.option s).2 = 0 → Pl.ruleRight (Pl.option s).1 = true → ∀ b v w1, Below w.heap.size w w1 → PRows b w1 (Pl.option s).1 v → Calls Tryz.prog 54 #[.agg ((Pl.option s).1.icells v)] w1 (BuildRes (Pl.option s).1 v w1)) :
    Calls Tryz.prog 22 #[.string (bs s)] w fun e w' =>
      (((Pl.option s).2 = 0 ∧ Pl.ruleRight (Pl.option s).1 = true) → ∃ rb v b, e = .returned (.tuple #[.pointer (some ⟨rb, 0, none⟩), .nilIface]) ∧ IAt w' rb ((Pl.option s).1.icells v) ∧ PRows b w' (Pl.option s).1 v) ∧
      (¬ ((Pl.option s).2 = 0 ∧ Pl.ruleRight (Pl.option s).1 = true) → ∃ t u, e = .returned (.tuple #[.pointer none, .iface t u])) ∧ Below w.heap.size w w' := by
  have hsm := Pl.option_small s (by omega)
  go_enter Tryz.func22, Tryz.ntmps22
  go_wp2_with fail
  refine (StrToROption_any s w he hw hs h2).mono ?_
  intro e w1 h
  rcases h with ⟨rb, h0, rfl, hR, hrb, hb1⟩ | ⟨t, u, h1, rfl, hb1⟩
  · obtain ⟨v, hBv, hPv⟩ := hR
    have HBV := Lib.hid hBv; clear hBv
    generalize hq : Pl.option s = q at *
    obtain ⟨r, o⟩ := q
    change o = 0 at h0
    subst h0
    go_wp2_with ((with_reducible refine atl ?_); refine wpList_load_block rfl 64 (.tmp 15) rfl rb (r.icells v) rfl _ HBV.out Tryz.underlying64 rfl (by kernel_rfl) ?_; go_simp)
    refine (NewRRule_of rb r v w1 hPv hsm (fun hrr wx hbx => hB (by trivial) hrr rb v wx (hb1.trans (hbx.mono hb1.size)) (hPv.but (ButBelow.of_below hbx)))).mono ?_
    rintro e w2 ⟨hno, hyes, hb2⟩
    have hall := hb1.trans (hb2.mono hb1.size)
    cases hrr : Pl.ruleRight r with
    | false =>
      obtain ⟨t, u, rfl⟩ := hno hrr
      go_wp2
      go_ret2
      rw [hq]
      exact ⟨(fun h => by rw [hrr] at h; cases h.2), fun _ => ⟨t, u, rfl⟩, hall⟩
    | true =>
      obtain ⟨r2, rfl, _, hA⟩ := hyes hrr
      have hp2 := hPv.but (ButBelow.of_below (rb := rb) hb2)
      go_wp2
      go_ret2
      rw [hq]
      exact ⟨fun _ => ⟨r2, v, rb, rfl, hA, hp2⟩, (fun h => absurd ⟨rfl, hrr⟩ h), hall⟩
  · go_wp2
    go_ret2
    exact ⟨(fun h => by rw [h1] at h; exact absurd h.1 (by decide)), fun _ => ⟨t, u, rfl⟩, hb1⟩
end Go.Proofs.YthkgjhnckakliaaGreatDoorR

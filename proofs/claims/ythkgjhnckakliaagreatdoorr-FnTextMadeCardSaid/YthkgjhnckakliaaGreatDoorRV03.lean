/- sort.Sort's functions over any two methods that keep what their caller asks: each returns, and it is kept; over any program; no order is told.
  sort.siftDown, heapSort, reverseRange over two methods that keep what is asked.
  sort.order2, median, medianAdjacent, choosePivot over a method that keeps what is asked: the answers lie within the range.
  sort.partitionEqual, partition over two methods that keep what is asked: the place handed back lies within the range. -/
import Derived.Shelf.SlSortFunc.Xorshift
import Derived.Shelf.GgSortMore.Bridge
import Derived.Deep.LoopGhost
import Derived.Deep.Cut
import Derived.Deep.DeepCutAuto
import Derived.Below
import Derived.Lib.Hide
import Derived.Deep.CutBlock
namespace Go.Proofs.YthkgjhnckakliaaGreatDoorR
open Go.Shelf Go.RowKit Go.Lib Go.Proofs
variable {P : Program} {ρ : Ren}
/-- The world behind may differ from the one ahead in one old block alone. -/
structure Kp (g : Nat) (w w' : World) : Prop where
  os : w'.os = w.os
  tape : w'.tape = w.tape
  output : w'.output = w.output
  size : w.heap.size ≤ w'.heap.size
  block : ∀ k, k < w.heap.size → k ≠ g → w'.heap[k]? = w.heap[k]?
theorem Kp.refl (g : Nat) (w : World) : Kp g w w := ⟨rfl, rfl, rfl, Nat.le_refl _, fun _ _ _ => rfl⟩
theorem Kp.of_below {g : Nat} {w w' : World} (h : Below w.heap.size w w') : Kp g w w' := ⟨h.os, h.tape, h.output, h.size, fun k hk _ => h.block k hk⟩
theorem Kp.trans {g : Nat} {a b c : World} (h : Kp g a b) (k : Kp g b c) : Kp g a c :=
  ⟨k.os.trans h.os, k.tape.trans h.tape, k.output.trans h.output, Nat.le_trans h.size k.size, fun i hi hne => (k.block i (Nat.lt_of_lt_of_le hi h.size) hne).trans (h.block i hi hne)⟩
/-- How a method of an interface value is reached. -/
structure Rch (P : Program) (T : TypeId) (rv : Value) (name : String) (f : Nat) : Prop where
  finds : ∀ w, (method (P.types.size + 100) T rv name).run P w = .ok (f, rv) w
  enters : ∀ args w, (callFunc f args).run P w = .ok (.enter f args) w
/-- What the two methods keep. -/
structure Meth (P : Program) (gl gs : Nat) (rv : Value) (g n : Nat) (I : World → Prop) : Prop where
  old : ∀ w, I w → g < w.heap.size
  keep : ∀ w w' : World, I w → w'.heap[g]? = w.heap[g]? → I w'
  less : ∀ (i j : Int) (w : World), I w → 0 ≤ i → i < n → 0 ≤ j → j < n → Calls P gl #[rv, .int .i64 i, .int .i64 j] w fun e w' => (∃ t : Bool, e = .returned (.bool t)) ∧ Below w.heap.size w w'
  swap : ∀ (i j : Int) (w : World), I w → 0 ≤ i → i < n → 0 ≤ j → j < n → Calls P gs #[rv, .int .i64 i, .int .i64 j] w fun e w' => e = .returned (.tuple #[]) ∧ I w' ∧ Kp g w w'
theorem Meth.below {gl gs : Nat} {rv : Value} {g n : Nat} {I : World → Prop} (M : Meth P gl gs rv g n I) {w w' : World} (h : I w) (hb : Below w.heap.size w w') : I w' := M.keep _ _ h (hb.block g (M.old _ h))
structure St (I : World → Prop) (g : Nat) (w0 w : World) : Prop where
  inv : I w
  kp : Kp g w0 w
theorem St.refl {I : World → Prop} {g : Nat} {w : World} (h : I w) : St I g w w := ⟨h, Kp.refl _ _⟩
theorem St.below {gl gs : Nat} {rv : Value} {n : Nat} {I : World → Prop} {g : Nat} {w0 w w' : World} (h : St I g w0 w) (M : Meth P gl gs rv g n I) (hb : Below w.heap.size w w') : St I g w0 w' := ⟨M.below h.inv hb, h.kp.trans (Kp.of_below hb)⟩
theorem St.swapped {I : World → Prop} {g : Nat} {w0 w w' : World} (h : St I g w0 w) (hi : I w') (hk : Kp g w w') : St I g w0 w' := ⟨hi, h.kp.trans hk⟩
theorem St.trans {I : World → Prop} {g : Nat} {w0 w w' : World} (h : St I g w0 w) (k : St I g w w') : St I g w0 w' := ⟨k.inv, h.kp.trans k.kp⟩
theorem St.own {gl gs : Nat} {rv : Value} {n : Nat} {I : World → Prop} {g : Nat} {w0 w : World} (h : St I g w0 w) (M : Meth P gl gs rv g n I) {b : Nat} (hb : w0.heap.size ≤ b) (hne : b ≠ g) (o : Nat) (v : Value) : St I g w0 (w.setCell ⟨b, o, none⟩ v) :=
  ⟨M.keep _ _ h.inv (Below.heap_setCell _ _ _ _ (fun e => hne e.symm)), h.kp.os, h.kp.tape, h.kp.output, Nat.le_trans h.kp.size (by simp [World.setCell]), fun k hk hk2 => (Below.heap_setCell _ _ _ _ (show k ≠ b by omega)).trans (h.kp.block k hk hk2)⟩
def Kept (I : World → Prop) (g : Nat) (w0 : World) (e : Ending) (w' : World) : Prop := e = .returned (.tuple #[]) ∧ St I g w0 w'

set_option maxHeartbeats 2000000 in
set_option maxRecDepth 100000 in
theorem insertionSort_st (L : LaysGt.n33 P ρ) (T : TypeId) (rv : Value) (gl gs : Nat) (rL : Rch P T rv "Less" gl) (rS : Rch P T rv "Swap" gs) (g n : Nat) (I : World → Prop) (M : Meth P gl gs rv g n I) (hn : n < 4611686018427387904) (a b : Nat) (w0 w : World) (hS : St I g w0 w) (hab : a ≤ b) (hb : b ≤ n) :
    Calls P (ρ.f 33) #[.iface T rv, .int .i64 a, .int .i64 b] w (Kept I g w0) := by
  have mixed := L.mixed; have t0 := L.t0; have a0 := L.a0; have z0 := L.z0; have v0 := L.v0; have t3 := L.t3; have a3 := L.a3; have z3 := L.z3; have v3 := L.v3; have t4 := L.t4; have a4 := L.a4; have z4 := L.z4; have v4 := L.v4; have t26 := L.t26; have a26 := L.a26; have z26 := L.z26; have v26 := L.v26; have t38 := L.t38; have a38 := L.a38; have z38 := L.z38; have v38 := L.v38; have t43 := L.t43; have a43 := L.a43; have z43 := L.z43; have v43 := L.v43; have t45 := L.t45; have a45 := L.a45; have z45 := L.z45; have v45 := L.v45
  have mL : ∀ w, Sem.run P (method (P.types.size + 100) T rv "Less") w = .ok (gl, rv) w := rL.finds; have eL := rL.enters
  have mS : ∀ w, Sem.run P (method (P.types.size + 100) T rv "Swap") w = .ok (gs, rv) w := rS.finds; have eS := rS.enters
  go_enter L.f33, BodyGt.n33_ntmps ρ
  go_wp2
  go_loopw [6] (fun vi wr => ∃ i : Nat, vi = .int .i64 i ∧ a < i ∧ i ≤ b + 1 ∧ St I g w0 wr) (fun vi _ => b + 1 - (intOf vi).toNat)
  case atStart => exact ⟨a + 1, by go_num, by omega, by omega, hS⟩
  case round =>
    clear hS
    obtain ⟨i, rfl, hai, hib, hS⟩ := hrel
    by_cases hlt : i < b
    · go_wp2
      go_loopw [7] (fun vj wr2 => ∃ j : Nat, vj = .int .i64 j ∧ a ≤ j ∧ j ≤ i ∧ St I g w0 wr2) (fun vj _ => (intOf vj).toNat)
      case atStart => exact ⟨i, rfl, by omega, Nat.le_refl _, hS⟩
      case round =>
        clear hS
        obtain ⟨j, rfl, haj, hji, hS⟩ := hrel
        by_cases hja : a < j
        · go_wp2_with (first | (go_at_fn gl; refine (M.less _ _ _ hS.inv (by omega) (by omega) (by omega) (by omega)).mono ?_; rintro e wn ⟨⟨t, rfl⟩, hb⟩; have hS := hS.below M hb; clear hb) | (go_at_fn gs; refine (M.swap _ _ _ hS.inv (by omega) (by omega) (by omega) (by omega)).mono ?_; rintro e wn ⟨rfl, hi, hk⟩; have hS := hS.swapped hi hk; clear hi hk))
          · exact ⟨⟨j - 1, by congr 1; omega, by omega, by omega, hS⟩, by simp [intOf]; omega⟩
          · exact ⟨⟨i + 1, by go_num, by omega, by omega, hS⟩, by simp [intOf]; omega⟩
        · go_wp2
          go_roundw
          case rel => exact ⟨i + 1, by go_num, by omega, by omega, hS⟩
          case measure => simp [intOf]; omega
    · go_wp2
      go_end0
      exact ⟨rfl, hS⟩
end Go.Proofs.YthkgjhnckakliaaGreatDoorR
namespace Go.Proofs.YthkgjhnckakliaaGreatDoorR
open Go.Shelf Go.RowKit Go.Lib Go.Proofs
variable {P : Program} {ρ : Ren}

set_option maxHeartbeats 2000000 in
set_option maxRecDepth 100000 in
theorem reverseRange_st (L : LaysGt.n37 P ρ) (T : TypeId) (rv : Value) (gl gs : Nat) (rS : Rch P T rv "Swap" gs) (g n : Nat) (I : World → Prop) (M : Meth P gl gs rv g n I) (hn : n < 4611686018427387904) (a b : Nat) (w0 w : World) (hS : St I g w0 w) (hab : a ≤ b) (hb : b ≤ n) :
    Calls P (ρ.f 37) #[.iface T rv, .int .i64 a, .int .i64 b] w (Kept I g w0) := by
  have mixed := L.mixed; have t0 := L.t0; have a0 := L.a0; have z0 := L.z0; have v0 := L.v0; have t3 := L.t3; have a3 := L.a3; have z3 := L.z3; have v3 := L.v3; have t4 := L.t4; have a4 := L.a4; have z4 := L.z4; have v4 := L.v4; have t26 := L.t26; have a26 := L.a26; have z26 := L.z26; have v26 := L.v26; have t38 := L.t38; have a38 := L.a38; have z38 := L.z38; have v38 := L.v38; have t43 := L.t43; have a43 := L.a43; have z43 := L.z43; have v43 := L.v43; have t45 := L.t45; have a45 := L.a45; have z45 := L.z45; have v45 := L.v45
  have mS : ∀ w, Sem.run P (method (P.types.size + 100) T rv "Swap") w = .ok (gs, rv) w := rS.finds; have eS := rS.enters
  go_enter L.f37, BodyGt.n37_ntmps ρ
  go_wp2
  go_loopg [6, 7] (b + 1) (fun k s6 s7 wr => ∃ i j : Int, s6 = .int .i64 i ∧ s7 = .int .i64 j ∧ 0 ≤ i ∧ i ≤ n ∧ -1 ≤ j ∧ j < n ∧ j + 1 - i ≤ k ∧ St I g w0 wr)
  case atStart => exact ⟨a, (b : Int) - 1, rfl, rfl, by omega, by omega, by omega, by omega, by omega, hS⟩
  case round =>
    clear hS
    obtain ⟨i, j, rfl, rfl, hi0, hin, hj0, hjn, hk, hS⟩ := hrel
    by_cases hlt : i < j
    · go_wp2_with (go_at_fn gs; refine (M.swap _ _ _ hS.inv (by omega) (by omega) (by omega) (by omega)).mono ?_; rintro e wn ⟨rfl, hi, hk⟩; have hS := hS.swapped hi hk; clear hi hk)
      go_roundg (gk - 1)
      case measure => omega
      case rel => exact ⟨i + 1, j - 1, rfl, rfl, by omega, by omega, by omega, by omega, by omega, hS⟩
    · go_wp2
      go_end0
      exact ⟨rfl, hS⟩

set_option maxHeartbeats 4000000 in
set_option maxRecDepth 1000000 in
theorem siftDown_st (L : LaysGt.n43 P ρ) (T : TypeId) (rv : Value) (gl gs : Nat) (rL : Rch P T rv "Less" gl) (rS : Rch P T rv "Swap" gs) (g n : Nat) (I : World → Prop) (M : Meth P gl gs rv g n I) (hn : n < 4611686018427387904) (lo hi first : Nat) (w0 w : World) (hS : St I g w0 w) (hlo : lo ≤ hi) (hb : first + hi ≤ n) :
    Calls P (ρ.f 43) #[.iface T rv, .int .i64 lo, .int .i64 hi, .int .i64 first] w (Kept I g w0) := by
  have mixed := L.mixed; have t0 := L.t0; have a0 := L.a0; have z0 := L.z0; have v0 := L.v0; have t3 := L.t3; have a3 := L.a3; have z3 := L.z3; have v3 := L.v3; have t4 := L.t4; have a4 := L.a4; have z4 := L.z4; have v4 := L.v4; have t26 := L.t26; have a26 := L.a26; have z26 := L.z26; have v26 := L.v26; have t38 := L.t38; have a38 := L.a38; have z38 := L.z38; have v38 := L.v38; have t43 := L.t43; have a43 := L.a43; have z43 := L.z43; have v43 := L.v43; have t45 := L.t45; have a45 := L.a45; have z45 := L.z45; have v45 := L.v45
  have mL : ∀ w, Sem.run P (method (P.types.size + 100) T rv "Less") w = .ok (gl, rv) w := rL.finds; have eL := rL.enters
  have mS : ∀ w, Sem.run P (method (P.types.size + 100) T rv "Swap") w = .ok (gs, rv) w := rS.finds; have eS := rS.enters
  go_enter L.f43, BodyGt.n43_ntmps ρ
  go_wp2
  go_loopg [8] (hi - lo) (fun kx s8 wr => ∃ root : Nat, s8 = .int .i64 root ∧ root ≤ hi ∧ hi - root ≤ kx ∧ St I g w0 wr)
  case atStart => exact ⟨lo, rfl, hlo, Nat.le_refl _, hS⟩
  case round =>
    clear hS
    obtain ⟨root, rfl, hr, hkx, hS⟩ := hrel
    by_cases h0 : hi ≤ 2 * root + 1
    · have h0z : (hi : Int) ≤ 2 * (root : Int) + 1 := by omega
      go_wp2
      go_end0
      exact ⟨rfl, hS⟩
    · have h0z : ¬ ((hi : Int) ≤ 2 * (root : Int) + 1) := by omega
      by_cases h1 : 2 * root + 2 < hi
      · have h1z : 2 * (root : Int) + 1 + 1 < (hi : Int) := by omega
        go_wp2_with (first | (go_at_fn gl; refine (M.less _ _ _ hS.inv (by omega) (by omega) (by omega) (by omega)).mono ?_; rintro e wn ⟨⟨t, rfl⟩, hb⟩; have hS := hS.below M hb; clear hb) | (go_at_fn gs; refine (M.swap _ _ _ hS.inv (by omega) (by omega) (by omega) (by omega)).mono ?_; rintro e wn ⟨rfl, hi, hk⟩; have hS := hS.swapped hi hk; clear hi hk))
        · (try simp only [Exit.inBlock, Exit.then]); refine bodyPost_ret (results_none rfl _ _ _) rfl ?_; exact ⟨rfl, hS⟩
        · go_roundg (hi - (2 * root + 2))
          case measure => omega
          case rel => exact ⟨2 * root + 2, by go_num, by omega, Nat.le_refl _, hS⟩
        · (try simp only [Exit.inBlock, Exit.then]); refine bodyPost_ret (results_none rfl _ _ _) rfl ?_; exact ⟨rfl, hS⟩
        · go_roundg (hi - (2 * root + 1))
          case measure => omega
          case rel => exact ⟨2 * root + 1, by go_num, by omega, Nat.le_refl _, hS⟩
      · have h1z : ¬ (2 * (root : Int) + 1 + 1 < (hi : Int)) := by omega
        go_wp2_with (first | (go_at_fn gl; refine (M.less _ _ _ hS.inv (by omega) (by omega) (by omega) (by omega)).mono ?_; rintro e wn ⟨⟨t, rfl⟩, hb⟩; have hS := hS.below M hb; clear hb) | (go_at_fn gs; refine (M.swap _ _ _ hS.inv (by omega) (by omega) (by omega) (by omega)).mono ?_; rintro e wn ⟨rfl, hi, hk⟩; have hS := hS.swapped hi hk; clear hi hk))
        · (try simp only [Exit.inBlock, Exit.then]); refine bodyPost_ret (results_none rfl _ _ _) rfl ?_; exact ⟨rfl, hS⟩
        · go_roundg (hi - (2 * root + 1))
          case measure => omega
          case rel => exact ⟨2 * root + 1, by go_num, by omega, Nat.le_refl _, hS⟩

theorem half_st {a b : Nat} (h : a ≤ b) : ((b : Int) - (a : Int) - 1).tdiv 2 = (((b - a - 1) / 2 + 1 : Nat) : Int) - 1 := by
  rcases Nat.eq_or_lt_of_le h with rfl | h
  · simp
  · rw [Int.tdiv_eq_ediv_of_nonneg (by omega)]; omega

set_option maxHeartbeats 4000000 in
set_option maxRecDepth 1000000 in
theorem heapSort_st (L : LaysGt.n34 P ρ) (T : TypeId) (rv : Value) (gl gs : Nat) (rL : Rch P T rv "Less" gl) (rS : Rch P T rv "Swap" gs) (g n : Nat) (I : World → Prop) (M : Meth P gl gs rv g n I) (hn : n < 4611686018427387904) (a b : Nat) (w0 w : World) (hS : St I g w0 w) (hab : a ≤ b) (hb : b ≤ n) :
    Calls P (ρ.f 34) #[.iface T rv, .int .i64 a, .int .i64 b] w (Kept I g w0) := by
  have mixed := L.mixed; have t0 := L.t0; have a0 := L.a0; have z0 := L.z0; have v0 := L.v0; have t3 := L.t3; have a3 := L.a3; have z3 := L.z3; have v3 := L.v3; have t4 := L.t4; have a4 := L.a4; have z4 := L.z4; have v4 := L.v4; have t26 := L.t26; have a26 := L.a26; have z26 := L.z26; have v26 := L.v26; have t38 := L.t38; have a38 := L.a38; have z38 := L.z38; have v38 := L.v38; have t43 := L.t43; have a43 := L.a43; have z43 := L.z43; have v43 := L.v43; have t45 := L.t45; have a45 := L.a45; have z45 := L.z45; have v45 := L.v45
  have mL : ∀ w, Sem.run P (method (P.types.size + 100) T rv "Less") w = .ok (gl, rv) w := rL.finds; have eL := rL.enters
  have mS : ∀ w, Sem.run P (method (P.types.size + 100) T rv "Swap") w = .ok (gs, rv) w := rS.finds; have eS := rS.enters
  have e43 : ∀ args w, (callFunc (ρ.f 43) args).run P w = .ok (.enter (ρ.f 43) args) w := enters_of L.f43 (by kernel_rfl) rfl
  have ecast : ((b - a : Nat) : Int) = (b : Int) - (a : Int) := by omega
  have hcall := fun (lo hi : Nat) (w : World) (hS : St I g w0 w) (h1 : lo ≤ hi) (h2 : a + hi ≤ n) => siftDown_st (P := P) (ρ := ρ) { L with } T rv gl gs rL rS g n I M hn lo hi a w0 w hS h1 h2
  have HC : Hid _ := hcall
  clear hcall
  go_enter L.f34, BodyGt.n34_ntmps ρ
  go_wp2
  go_loopg [9] ((b - a - 1) / 2 + 1) (fun kx s9 wr => s9 = .int .i64 ((kx : Int) - 1) ∧ kx ≤ (b - a - 1) / 2 + 1 ∧ St I g w0 wr)
  case atStart => exact ⟨by rw [half_st hab], Nat.le_refl _, hS⟩
  case round =>
    clear hS
    obtain ⟨rfl, hkk, hS⟩ := hrel
    cases gk with
    | zero =>
      go_wp2
      go_loopg [10] (b - a) (fun kx s10 wr2 => s10 = .int .i64 ((kx : Int) - 1) ∧ kx ≤ b - a ∧ St I g w0 wr2)
      case atStart => exact ⟨by rw [ecast], Nat.le_refl _, hS⟩
      case round =>
        clear hS hkk
        obtain ⟨rfl, hkk, hS⟩ := hrel
        cases gk with
        | zero =>
          go_wp2
          go_end0
          exact ⟨rfl, hS⟩
        | succ kx =>
          go_wp2_with (first | (go_at_fn gs; refine (M.swap _ _ _ hS.inv (by omega) (by omega) (by omega) (by omega)).mono ?_; rintro e wn ⟨rfl, hi, hk⟩; have hS := hS.swapped hi hk; clear hi hk) | (go_at_fn (ρ.f 43); refine (HC.out 0 kx _ hS (Nat.zero_le _) (by omega)).mono ?_; rintro e w1 ⟨rfl, hS⟩))
          go_roundg kx
          case measure => omega
          case rel => exact ⟨by simp, by omega, hS⟩
    | succ kx =>
      have hc2 := HC.out kx (b - a) wr hS (by omega) (by omega)
      rw [ecast] at hc2
      go_wp2_with (go_at_fn (ρ.f 43); refine hc2.mono ?_; rintro e w1 ⟨rfl, hS⟩)
      go_roundg kx
      case measure => omega
      case rel => exact ⟨by simp, by omega, hS⟩
end Go.Proofs.YthkgjhnckakliaaGreatDoorR
namespace Go.Proofs.YthkgjhnckakliaaGreatDoorR
open Go.Shelf Go.RowKit Go.Lib Go.Proofs
variable {P : Program} {ρ : Ren}
/-- A counter of the call's own, in block cb, holds s. -/
structure Cnt (W : World) (cb : Nat) (s : Int) (w : World) : Prop where
  cell : w.cell? ⟨cb, 0, none⟩ = some (.int .i64 s)
  free : w.frozen? ⟨cb, 0, none⟩ = false
  base : W.heap.size ≤ cb
  lt : cb < w.heap.size
  bel : Below W.heap.size W w
theorem Cnt.below {W w w' : World} {cb : Nat} {s : Int} (h : Cnt W cb s w) (hb : Below w.heap.size w w') : Cnt W cb s w' :=
  ⟨(hb.cell (p := ⟨cb, 0, none⟩) h.lt).trans h.cell, (hb.frozen (p := ⟨cb, 0, none⟩) h.lt).trans h.free, h.base, Nat.lt_of_lt_of_le h.lt hb.size, h.bel.trans (hb.mono h.bel.size)⟩
theorem Cnt.set {W w : World} {cb : Nat} {s : Int} (h : Cnt W cb s w) (t : Int) : Cnt W cb t (w.setCell ⟨cb, 0, none⟩ (.int .i64 t)) :=
  ⟨World.cell?_setCell_same _ _ _ h.cell, by simpa using h.free, h.base, by simpa [World.setCell] using h.lt, h.bel.setCell h.base _⟩
def Ord2 (W : World) (cb : Nat) (lo hi s : Int) (e : Ending) (w' : World) : Prop := ∃ x y t : Int, e = .returned (.tuple #[.int .i64 x, .int .i64 y]) ∧ lo ≤ x ∧ x < hi ∧ lo ≤ y ∧ y < hi ∧ s ≤ t ∧ t ≤ s + 1 ∧ Cnt W cb t w'
def Med (W : World) (cb : Nat) (lo hi s : Int) (e : Ending) (w' : World) : Prop := ∃ x t : Int, e = .returned (.int .i64 x) ∧ lo ≤ x ∧ x < hi ∧ s ≤ t ∧ t ≤ s + 3 ∧ Cnt W cb t w'
def Piv (W : World) (a b : Int) (e : Ending) (w' : World) : Prop := ∃ x h : Int, e = .returned (.tuple #[.int .i64 x, .int .i64 h]) ∧ a ≤ x ∧ x < b ∧ Below W.heap.size W w'

set_option maxHeartbeats 1000000 in
set_option maxRecDepth 100000 in
theorem order2_st (L : LaysGt.n50 P ρ) (T : TypeId) (rv : Value) (gl gs : Nat) (rL : Rch P T rv "Less" gl) (g n : Nat) (I : World → Prop) (M : Meth P gl gs rv g n I) (hn : n < 4611686018427387904) (W w : World) (cb : Nat) (a b lo hi s : Int) (hI : I W) (hC : Cnt W cb s w) (h0 : 0 ≤ lo) (hh : hi ≤ n) (ha : lo ≤ a) (ha' : a < hi) (hb : lo ≤ b) (hb' : b < hi) (hs : 0 ≤ s) (hs' : s ≤ 1000) :
    Calls P (ρ.f 50) #[.iface T rv, .int .i64 a, .int .i64 b, .pointer (some ⟨cb, 0, none⟩)] w (Ord2 W cb lo hi s) := by
  have _ := hn
  have mixed := L.mixed; have t0 := L.t0; have a0 := L.a0; have z0 := L.z0; have v0 := L.v0; have t3 := L.t3; have a3 := L.a3; have z3 := L.z3; have v3 := L.v3; have t4 := L.t4; have a4 := L.a4; have z4 := L.z4; have v4 := L.v4; have t26 := L.t26; have a26 := L.a26; have z26 := L.z26; have v26 := L.v26; have t38 := L.t38; have a38 := L.a38; have z38 := L.z38; have v38 := L.v38; have t43 := L.t43; have a43 := L.a43; have z43 := L.z43; have v43 := L.v43; have t45 := L.t45; have a45 := L.a45; have z45 := L.z45; have v45 := L.v45
  have t71 := L.t71; have a71 := L.a71; have z71 := L.z71; have v71 := L.v71
  have mL : ∀ w, Sem.run P (method (P.types.size + 100) T rv "Less") w = .ok (gl, rv) w := rL.finds; have eL := rL.enters
  have hl := M.less b a w (M.below hI hC.bel) (by omega) (by omega) (by omega) (by omega)
  go_enter L.f50, BodyGt.n50_ntmps ρ
  go_wp2_with (go_at_fn gl; refine hl.mono ?_; rintro e wn ⟨⟨t, rfl⟩, hbx⟩; have hC := hC.below hbx; have hc := hC.cell; have hf := hC.free; clear hbx)
  · go_ret2
    exact ⟨b, a, s + 1, rfl, hb, hb', ha, ha', by omega, by omega, hC.set _⟩
  · go_ret2
    exact ⟨a, b, s, rfl, ha, ha', hb, hb', by omega, by omega, hC⟩

set_option maxHeartbeats 1000000 in
set_option maxRecDepth 100000 in
theorem median_st (L : LaysGt.n47 P ρ) (T : TypeId) (rv : Value) (gl gs : Nat) (rL : Rch P T rv "Less" gl) (g n : Nat) (I : World → Prop) (M : Meth P gl gs rv g n I) (hn : n < 4611686018427387904) (W w : World) (cb : Nat) (a b c lo hi s : Int) (hI : I W) (hC : Cnt W cb s w) (h0 : 0 ≤ lo) (hh : hi ≤ n) (ha : lo ≤ a) (ha' : a < hi) (hb : lo ≤ b) (hb' : b < hi) (hc : lo ≤ c) (hc' : c < hi) (hs : 0 ≤ s) (hs' : s ≤ 900) :
    Calls P (ρ.f 47) #[.iface T rv, .int .i64 a, .int .i64 b, .int .i64 c, .pointer (some ⟨cb, 0, none⟩)] w (Med W cb lo hi s) := by
  have mixed := L.mixed; have t0 := L.t0; have a0 := L.a0; have z0 := L.z0; have v0 := L.v0; have t3 := L.t3; have a3 := L.a3; have z3 := L.z3; have v3 := L.v3; have t4 := L.t4; have a4 := L.a4; have z4 := L.z4; have v4 := L.v4; have t26 := L.t26; have a26 := L.a26; have z26 := L.z26; have v26 := L.v26; have t38 := L.t38; have a38 := L.a38; have z38 := L.z38; have v38 := L.v38; have t43 := L.t43; have a43 := L.a43; have z43 := L.z43; have v43 := L.v43; have t45 := L.t45; have a45 := L.a45; have z45 := L.z45; have v45 := L.v45
  have t71 := L.t71; have a71 := L.a71; have z71 := L.z71; have v71 := L.v71
  have t74 := L.t74; have a74 := L.a74; have z74 := L.z74; have v74 := L.v74
  have e50 : ∀ args w, (callFunc (ρ.f 50) args).run P w = .ok (.enter (ρ.f 50) args) w := enters_of L.f50 (by kernel_rfl) rfl
  have hcall := fun (w : World) (a b s : Int) (hC : Cnt W cb s w) (ha : lo ≤ a) (ha' : a < hi) (hb : lo ≤ b) (hb' : b < hi) (hs : 0 ≤ s) (hs' : s ≤ 1000) => order2_st (P := P) (ρ := ρ) { L with } T rv gl gs rL g n I M hn W w cb a b lo hi s hI hC h0 hh ha ha' hb hb' hs hs'
  have HC : Hid _ := hcall
  clear hcall
  go_enter L.f47, BodyGt.n47_ntmps ρ
  go_wp2_with fail
  refine (HC.out _ _ _ _ hC (by omega) (by omega) (by omega) (by omega) (by omega) (by omega)).mono ?_
  rintro e w1 ⟨x1, y1, s1, rfl, p1, p2, p3, p4, p5, p6, hC1⟩
  go_wp2_with fail
  refine (HC.out _ _ _ _ hC1 (by omega) (by omega) (by omega) (by omega) (by omega) (by omega)).mono ?_
  rintro e w2 ⟨x2, y2, s2, rfl, q1, q2, q3, q4, q5, q6, hC2⟩
  go_wp2_with fail
  refine (HC.out _ _ _ _ hC2 (by omega) (by omega) (by omega) (by omega) (by omega) (by omega)).mono ?_
  rintro e w3 ⟨x3, y3, s3, rfl, r1, r2, r3, r4, r5, r6, hC3⟩
  go_wp2
  go_ret
  exact ⟨_, s3, rfl, by omega, by omega, by omega, by omega, hC3⟩

set_option maxHeartbeats 1000000 in
set_option maxRecDepth 100000 in
theorem medianAdjacent_st (L : LaysGt.n46 P ρ) (T : TypeId) (rv : Value) (gl gs : Nat) (rL : Rch P T rv "Less" gl) (g n : Nat) (I : World → Prop) (M : Meth P gl gs rv g n I) (hn : n < 4611686018427387904) (W w : World) (cb : Nat) (a lo hi s : Int) (hI : I W) (hC : Cnt W cb s w) (h0 : 0 ≤ lo) (hh : hi ≤ n) (ha : lo ≤ a - 1) (ha' : a + 1 < hi) (hs : 0 ≤ s) (hs' : s ≤ 900) :
    Calls P (ρ.f 46) #[.iface T rv, .int .i64 a, .pointer (some ⟨cb, 0, none⟩)] w (Med W cb lo hi s) := by
  have mixed := L.mixed; have t0 := L.t0; have a0 := L.a0; have z0 := L.z0; have v0 := L.v0; have t3 := L.t3; have a3 := L.a3; have z3 := L.z3; have v3 := L.v3; have t4 := L.t4; have a4 := L.a4; have z4 := L.z4; have v4 := L.v4; have t26 := L.t26; have a26 := L.a26; have z26 := L.z26; have v26 := L.v26; have t38 := L.t38; have a38 := L.a38; have z38 := L.z38; have v38 := L.v38; have t43 := L.t43; have a43 := L.a43; have z43 := L.z43; have v43 := L.v43; have t45 := L.t45; have a45 := L.a45; have z45 := L.z45; have v45 := L.v45
  have t71 := L.t71; have a71 := L.a71; have z71 := L.z71; have v71 := L.v71
  have t74 := L.t74; have a74 := L.a74; have z74 := L.z74; have v74 := L.v74
  have e47 : ∀ args w, (callFunc (ρ.f 47) args).run P w = .ok (.enter (ρ.f 47) args) w := enters_of L.f47 (by kernel_rfl) rfl
  have hm := median_st (P := P) (ρ := ρ) { L with } T rv gl gs rL g n I M hn W w cb (a - 1) a (a + 1) lo hi s hI hC h0 hh (by omega) (by omega) (by omega) (by omega) (by omega) (by omega) hs hs'
  clear hC
  go_enter L.f46, BodyGt.n46_ntmps ρ
  go_wp2_with (go_at_fn (ρ.f 47); refine hm.mono ?_; rintro e w' ⟨x, t, rfl, p1, p2, p3, p4, hC⟩)
  go_ret
  exact ⟨x, t, rfl, p1, p2, p3, p4, hC⟩

set_option maxHeartbeats 2000000 in
set_option maxRecDepth 100000 in
theorem choosePivot_st (L : LaysGt.n36 P ρ) (T : TypeId) (rv : Value) (gl gs : Nat) (rL : Rch P T rv "Less" gl) (g n : Nat) (I : World → Prop) (M : Meth P gl gs rv g n I) (hn : n < 4611686018427387904) (a b : Nat) (W : World) (hI : I W) (hab : a < b) (hb : b ≤ n) :
    Calls P (ρ.f 36) #[.iface T rv, .int .i64 a, .int .i64 b] W (Piv W a b) := by
  have mixed := L.mixed; have t0 := L.t0; have a0 := L.a0; have z0 := L.z0; have v0 := L.v0; have t3 := L.t3; have a3 := L.a3; have z3 := L.z3; have v3 := L.v3; have t4 := L.t4; have a4 := L.a4; have z4 := L.z4; have v4 := L.v4; have t26 := L.t26; have a26 := L.a26; have z26 := L.z26; have v26 := L.v26; have t38 := L.t38; have a38 := L.a38; have z38 := L.z38; have v38 := L.v38; have t43 := L.t43; have a43 := L.a43; have z43 := L.z43; have v43 := L.v43; have t45 := L.t45; have a45 := L.a45; have z45 := L.z45; have v45 := L.v45
  have t60 := L.t60; have a60 := L.a60; have z60 := L.z60; have v60 := L.v60
  have t71 := L.t71; have a71 := L.a71; have z71 := L.z71; have v71 := L.v71
  have t74 := L.t74; have a74 := L.a74; have z74 := L.z74; have v74 := L.v74
  have e46 : ∀ args w, (callFunc (ρ.f 46) args).run P w = .ok (.enter (ρ.f 46) args) w := enters_of L.f46 (by kernel_rfl) rfl
  have e47 : ∀ args w, (callFunc (ρ.f 47) args).run P w = .ok (.enter (ρ.f 47) args) w := enters_of L.f47 (by kernel_rfl) rfl
  have hC0 : Cnt W W.heap.size 0 (W.alloc (.cells #[.int .i64 0] (ρ.t 3))) := ⟨by simp, by simp, Nat.le_refl _, by simp, (Below.refl _ _).alloc (Nat.le_refl _) _⟩
  have hA := fun (w : World) (x s : Int) (hC : Cnt W W.heap.size s w) (h1 : (a : Int) ≤ x - 1) (h2 : x + 1 < b) (hs : 0 ≤ s) (hs' : s ≤ 900) => medianAdjacent_st (P := P) (ρ := ρ) { L with } T rv gl gs rL g n I M hn W w W.heap.size x a b s hI hC (by omega) (by omega) h1 h2 hs hs'
  have hD := fun (w : World) (x y z s : Int) (hC : Cnt W W.heap.size s w) (h1 : (a : Int) ≤ x) (h2 : x < b) (h3 : (a : Int) ≤ y) (h4 : y < b) (h5 : (a : Int) ≤ z) (h6 : z < b) (hs : 0 ≤ s) (hs' : s ≤ 900) => median_st (P := P) (ρ := ρ) { L with } T rv gl gs rL g n I M hn W w W.heap.size x y z a b s hI hC (by omega) (by omega) h1 h2 h3 h4 h5 h6 hs hs'
  have HA : Hid _ := hA
  have HD : Hid _ := hD
  clear hA hD
  by_cases h8 : b - a ≥ 8
  · by_cases h50 : b - a ≥ 50
    · go_enter L.f36, BodyGt.n36_ntmps ρ
      go_wp2_with fail
      refine (HA.out _ _ _ hC0 (by omega) (by omega) (by omega) (by omega)).mono ?_
      rintro e w1 ⟨x1, s1, rfl, p1, p2, p3, p4, hC1⟩
      go_wp2_with fail
      refine (HA.out _ _ _ hC1 (by omega) (by omega) (by omega) (by omega)).mono ?_
      rintro e w2 ⟨x2, s2, rfl, q1, q2, q3, q4, hC2⟩
      go_wp2_with fail
      refine (HA.out _ _ _ hC2 (by omega) (by omega) (by omega) (by omega)).mono ?_
      rintro e w3 ⟨x3, s3, rfl, r1, r2, r3, r4, hC3⟩
      go_wp2_with fail
      refine (HD.out _ _ _ _ _ hC3 (by omega) (by omega) (by omega) (by omega) (by omega) (by omega) (by omega) (by omega)).mono ?_
      rintro e w4 ⟨x4, s4, rfl, t1, t2, t3', t4', hC4⟩
      have hc4 := hC4.cell; have hb4 := hC4.bel
      go_wp2
      all_goals go_ret2
      all_goals exact ⟨_, _, rfl, t1, t2, hb4⟩
    · go_enter L.f36, BodyGt.n36_ntmps ρ
      go_wp2_with fail
      refine (HD.out _ _ _ _ _ hC0 (by omega) (by omega) (by omega) (by omega) (by omega) (by omega) (by omega) (by omega)).mono ?_
      rintro e w4 ⟨x4, s4, rfl, t1, t2, t3', t4', hC4⟩
      have hc4 := hC4.cell; have hb4 := hC4.bel
      go_wp2
      all_goals go_ret2
      all_goals exact ⟨_, _, rfl, t1, t2, hb4⟩
  · have hb4 := hC0.bel
    go_enter L.f36, BodyGt.n36_ntmps ρ
    go_wp2
    all_goals go_ret2
    all_goals exact ⟨_, _, rfl, by omega, by omega, hb4⟩
end Go.Proofs.YthkgjhnckakliaaGreatDoorR
namespace Go.Proofs.YthkgjhnckakliaaGreatDoorR
open Go.Shelf Go.RowKit Go.Lib Go.Proofs
variable {P : Program} {ρ : Ren}
def PartE (I : World → Prop) (g : Nat) (w0 : World) (a b : Int) (e : Ending) (w' : World) : Prop := ∃ x : Int, e = .returned (.int .i64 x) ∧ a < x ∧ x ≤ b ∧ St I g w0 w'
def PartR (I : World → Prop) (g : Nat) (w0 : World) (a b : Int) (e : Ending) (w' : World) : Prop := ∃ (x : Int) (t : Bool), e = .returned (.tuple #[.int .i64 x, .bool t]) ∧ a ≤ x ∧ x < b ∧ St I g w0 w'

set_option maxHeartbeats 12800000 in
set_option maxRecDepth 100000 in
theorem partitionEqual_st (L : LaysGt.n39 P ρ) (T : TypeId) (rv : Value) (gl gs : Nat) (rL : Rch P T rv "Less" gl) (rS : Rch P T rv "Swap" gs) (g n : Nat) (I : World → Prop) (M : Meth P gl gs rv g n I) (hn : n < 4611686018427387904) (a b p : Int) (w0 w : World) (hS : St I g w0 w) (ha : 0 ≤ a) (hap : a ≤ p) (hpb : p < b) (hb : b ≤ n) :
    Calls P (ρ.f 39) #[.iface T rv, .int .i64 a, .int .i64 b, .int .i64 p] w (PartE I g w0 a b) := by
  have mixed := L.mixed; have t0 := L.t0; have a0 := L.a0; have z0 := L.z0; have v0 := L.v0; have t3 := L.t3; have a3 := L.a3; have z3 := L.z3; have v3 := L.v3; have t4 := L.t4; have a4 := L.a4; have z4 := L.z4; have v4 := L.v4; have t26 := L.t26; have a26 := L.a26; have z26 := L.z26; have v26 := L.v26; have t38 := L.t38; have a38 := L.a38; have z38 := L.z38; have v38 := L.v38; have t43 := L.t43; have a43 := L.a43; have z43 := L.z43; have v43 := L.v43; have t45 := L.t45; have a45 := L.a45; have z45 := L.z45; have v45 := L.v45
  have mL : ∀ w, Sem.run P (method (P.types.size + 100) T rv "Less") w = .ok (gl, rv) w := rL.finds; have eL := rL.enters
  have mS : ∀ w, Sem.run P (method (P.types.size + 100) T rv "Swap") w = .ok (gs, rv) w := rS.finds; have eS := rS.enters
  go_enter L.f39, BodyGt.n39_ntmps ρ
  go_wp2_with (go_at_fn gs; refine (M.swap _ _ _ hS.inv (by omega) (by omega) (by omega) (by omega)).mono ?_; rintro e wn ⟨rfl, hi, hk⟩; have hS := hS.swapped hi hk; clear hi hk)
  go_loopw [9, 10] (fun vi vj wr => ∃ i j : Int, vi = .int .i64 i ∧ vj = .int .i64 j ∧ a < i ∧ i ≤ b ∧ a ≤ j ∧ j < b ∧ St I g w0 wr) (fun vi vj _ => (intOf vj + 1 - intOf vi).toNat)
  case atStart => exact ⟨a + 1, b - 1, rfl, rfl, by omega, by omega, by omega, by omega, hS⟩
  case round =>
    clear hS
    obtain ⟨i, j, rfl, rfl, hai, hib, haj, hjb, hS⟩ := hrel
    go_upto_block 2 with fail
    go_cut [9] (fun vi wx => ∃ i2 : Int, vi = .int .i64 i2 ∧ i ≤ i2 ∧ i2 ≤ b ∧ St I g w0 wx)
    case first =>
      go_wp2_with fail
      go_loopw [9] (fun vi w1 => ∃ i2 : Int, vi = .int .i64 i2 ∧ i ≤ i2 ∧ i2 ≤ b ∧ St I g w0 w1) (fun vi _ => (b - intOf vi).toNat)
      case atStart => exact ⟨i, rfl, Int.le_refl _, hib, hS⟩
      case round =>
        clear hS
        obtain ⟨i2, rfl, hii, hib2, hS⟩ := hrel
        by_cases hle : i2 ≤ j
        · go_wp2_with (go_at_fn gl; refine (M.less _ _ _ hS.inv (by omega) (by omega) (by omega) (by omega)).mono ?_; rintro e wn ⟨⟨t, rfl⟩, hb⟩; have hS := hS.below M hb; clear hb)
          · exact ⟨⟨i2 + 1, rfl, by omega, by omega, hS⟩, by simp [intOf]; omega⟩
          · go_meet
            case rel => exact ⟨i2, rfl, hii, hib2, hS⟩
        · go_wp2
          go_meet
          case rel => exact ⟨i2, rfl, hii, hib2, hS⟩
    case rest =>
      clear hS
      obtain ⟨i2, rfl, hii, hib2, hS⟩ := hcut
      go_upto_block 4 with fail
      go_cut [10] (fun vj wx => ∃ j2 : Int, vj = .int .i64 j2 ∧ a ≤ j2 ∧ j2 ≤ j ∧ St I g w0 wx)
      case first =>
        go_wp2_with fail
        go_loopw [10] (fun vj w1 => ∃ j2 : Int, vj = .int .i64 j2 ∧ a ≤ j2 ∧ j2 ≤ j ∧ St I g w0 w1) (fun vj _ => (intOf vj).toNat)
        case atStart => exact ⟨j, rfl, haj, Int.le_refl _, hS⟩
        case round =>
          clear hS
          obtain ⟨j2, rfl, haj2, hjj2, hS⟩ := hrel
          by_cases hle : i2 ≤ j2
          · go_wp2_with (go_at_fn gl; refine (M.less _ _ _ hS.inv (by omega) (by omega) (by omega) (by omega)).mono ?_; rintro e wn ⟨⟨t, rfl⟩, hb⟩; have hS := hS.below M hb; clear hb)
            · exact ⟨⟨j2 - 1, rfl, by omega, by omega, hS⟩, by simp [intOf]; omega⟩
            · go_meet
              case rel => exact ⟨j2, rfl, haj2, hjj2, hS⟩
          · go_wp2
            go_meet
            case rel => exact ⟨j2, rfl, haj2, hjj2, hS⟩
      case rest =>
        clear hS
        obtain ⟨j2, rfl, haj2, hjj2, hS⟩ := hcut
        by_cases hle : i2 ≤ j2
        · go_wp2_with (go_at_fn gs; refine (M.swap _ _ _ hS.inv (by omega) (by omega) (by omega) (by omega)).mono ?_; rintro e wn ⟨rfl, hi, hk⟩; have hS := hS.swapped hi hk; clear hi hk)
          exact ⟨⟨i2 + 1, j2 - 1, rfl, rfl, by omega, by omega, by omega, by omega, hS⟩, by simp [intOf]; omega⟩
        · go_wp2
          go_ret
          exact ⟨i2, rfl, by omega, hib2, hS⟩

set_option maxHeartbeats 12800000 in
set_option maxRecDepth 100000 in
theorem partition_st (L : LaysGt.n40 P ρ) (T : TypeId) (rv : Value) (gl gs : Nat) (rL : Rch P T rv "Less" gl) (rS : Rch P T rv "Swap" gs) (g n : Nat) (I : World → Prop) (M : Meth P gl gs rv g n I) (hn : n < 4611686018427387904) (a b p : Int) (w0 w : World) (hS : St I g w0 w) (ha : 0 ≤ a) (hap : a ≤ p) (hpb : p < b) (hb : b ≤ n) :
    Calls P (ρ.f 40) #[.iface T rv, .int .i64 a, .int .i64 b, .int .i64 p] w (PartR I g w0 a b) := by
  have mixed := L.mixed; have t0 := L.t0; have a0 := L.a0; have z0 := L.z0; have v0 := L.v0; have t3 := L.t3; have a3 := L.a3; have z3 := L.z3; have v3 := L.v3; have t4 := L.t4; have a4 := L.a4; have z4 := L.z4; have v4 := L.v4; have t26 := L.t26; have a26 := L.a26; have z26 := L.z26; have v26 := L.v26; have t38 := L.t38; have a38 := L.a38; have z38 := L.z38; have v38 := L.v38; have t43 := L.t43; have a43 := L.a43; have z43 := L.z43; have v43 := L.v43; have t45 := L.t45; have a45 := L.a45; have z45 := L.z45; have v45 := L.v45
  have mL : ∀ w, Sem.run P (method (P.types.size + 100) T rv "Less") w = .ok (gl, rv) w := rL.finds; have eL := rL.enters
  have mS : ∀ w, Sem.run P (method (P.types.size + 100) T rv "Swap") w = .ok (gs, rv) w := rS.finds; have eS := rS.enters
  go_enter L.f40, BodyGt.n40_ntmps ρ
  obtain ⟨i, hi⟩ : ∃ i : Int, i = a + 1 := ⟨_, rfl⟩
  obtain ⟨j, hj⟩ : ∃ j : Int, j = b - 1 := ⟨_, rfl⟩
  have hib : i ≤ b := by omega
  have haj : a ≤ j := by omega
  have hai : a < i := by omega
  have hjb : j < b := by omega
  have HI := Lib.hid hi; have HJ := Lib.hid hj; clear hi hj
  go_upto_block 0 with (go_at_fn gs; refine (M.swap _ _ _ hS.inv (by omega) (by omega) (by omega) (by omega)).mono ?_; rintro e wn ⟨rfl, hi, hk⟩; have hS := hS.swapped hi hk; clear hi hk)
  rw [← HI.out, ← HJ.out]
  go_cut [10] (fun vi wx => ∃ i2 : Int, vi = .int .i64 i2 ∧ i ≤ i2 ∧ i2 ≤ b ∧ St I g w0 wx)
  case first =>
    go_wp2_with fail
    go_loopw [10] (fun vi w1 => ∃ i2 : Int, vi = .int .i64 i2 ∧ i ≤ i2 ∧ i2 ≤ b ∧ St I g w0 w1) (fun vi _ => (b - intOf vi).toNat)
    case atStart => exact ⟨i, rfl, Int.le_refl _, hib, hS⟩
    case round =>
      clear hS
      obtain ⟨i2, rfl, hii, hib2, hS⟩ := hrel
      by_cases hle : i2 ≤ j
      · go_wp2_with (go_at_fn gl; refine (M.less _ _ _ hS.inv (by omega) (by omega) (by omega) (by omega)).mono ?_; rintro e wn ⟨⟨t, rfl⟩, hb⟩; have hS := hS.below M hb; clear hb)
        · exact ⟨⟨i2 + 1, rfl, by omega, by omega, hS⟩, by simp [intOf]; omega⟩
        · go_meet
          case rel => exact ⟨i2, rfl, hii, hib2, hS⟩
      · go_wp2
        go_meet
        case rel => exact ⟨i2, rfl, hii, hib2, hS⟩
  case rest =>
    clear hS
    obtain ⟨i2, rfl, hii, hib2, hS⟩ := hcut
    go_upto_block 2 with fail
    go_cut [11] (fun vj wx => ∃ j2 : Int, vj = .int .i64 j2 ∧ a ≤ j2 ∧ j2 ≤ j ∧ St I g w0 wx)
    case first =>
      go_wp2_with fail
      go_loopw [11] (fun vj w1 => ∃ j2 : Int, vj = .int .i64 j2 ∧ a ≤ j2 ∧ j2 ≤ j ∧ St I g w0 w1) (fun vj _ => (intOf vj).toNat)
      case atStart => exact ⟨j, rfl, haj, Int.le_refl _, hS⟩
      case round =>
        clear hS
        obtain ⟨j2, rfl, haj2, hjj2, hS⟩ := hrel
        by_cases hle : i2 ≤ j2
        · go_wp2_with (go_at_fn gl; refine (M.less _ _ _ hS.inv (by omega) (by omega) (by omega) (by omega)).mono ?_; rintro e wn ⟨⟨t, rfl⟩, hb⟩; have hS := hS.below M hb; clear hb)
          · exact ⟨⟨j2 - 1, rfl, by omega, by omega, hS⟩, by simp [intOf]; omega⟩
          · go_meet
            case rel => exact ⟨j2, rfl, haj2, hjj2, hS⟩
        · go_wp2
          go_meet
          case rel => exact ⟨j2, rfl, haj2, hjj2, hS⟩
    case rest =>
      clear hS
      obtain ⟨j2, rfl, haj2, hjj2, hS⟩ := hcut
      by_cases hle : i2 ≤ j2
      · go_wp2_with (go_at_fn gs; refine (M.swap _ _ _ hS.inv (by omega) (by omega) (by omega) (by omega)).mono ?_; rintro e wn ⟨rfl, hi, hk⟩; have hS := hS.swapped hi hk; clear hi hk)
        go_loopw [10, 11] (fun vi vj wr => ∃ i j : Int, vi = .int .i64 i ∧ vj = .int .i64 j ∧ a < i ∧ i ≤ b ∧ a ≤ j ∧ j < b ∧ St I g w0 wr) (fun vi vj _ => (intOf vj + 1 - intOf vi).toNat)
        case atStart => exact ⟨i2 + 1, j2 - 1, rfl, rfl, by omega, by omega, by omega, by omega, hS⟩
        case round =>
          clear hS hii hib2 haj2 hjj2 hle hib haj hai hjb HI HJ
          obtain ⟨i, j, rfl, rfl, hai, hib, haj, hjb, hS⟩ := hrel
          go_upto_block 6 with fail
          go_cut [10] (fun vi wx => ∃ i2 : Int, vi = .int .i64 i2 ∧ i ≤ i2 ∧ i2 ≤ b ∧ St I g w0 wx)
          case first =>
            go_wp2_with fail
            go_loopw [10] (fun vi w1 => ∃ i2 : Int, vi = .int .i64 i2 ∧ i ≤ i2 ∧ i2 ≤ b ∧ St I g w0 w1) (fun vi _ => (b - intOf vi).toNat)
            case atStart => exact ⟨i, rfl, Int.le_refl _, hib, hS⟩
            case round =>
              clear hS
              obtain ⟨i2, rfl, hii, hib2, hS⟩ := hrel
              by_cases hle : i2 ≤ j
              · go_wp2_with (go_at_fn gl; refine (M.less _ _ _ hS.inv (by omega) (by omega) (by omega) (by omega)).mono ?_; rintro e wn ⟨⟨t, rfl⟩, hb⟩; have hS := hS.below M hb; clear hb)
                · exact ⟨⟨i2 + 1, rfl, by omega, by omega, hS⟩, by simp [intOf]; omega⟩
                · go_meet
                  case rel => exact ⟨i2, rfl, hii, hib2, hS⟩
              · go_wp2
                go_meet
                case rel => exact ⟨i2, rfl, hii, hib2, hS⟩
          case rest =>
            clear hS
            obtain ⟨i2, rfl, hii, hib2, hS⟩ := hcut
            go_upto_block 8 with fail
            go_cut [11] (fun vj wx => ∃ j2 : Int, vj = .int .i64 j2 ∧ a ≤ j2 ∧ j2 ≤ j ∧ St I g w0 wx)
            case first =>
              go_wp2_with fail
              go_loopw [11] (fun vj w1 => ∃ j2 : Int, vj = .int .i64 j2 ∧ a ≤ j2 ∧ j2 ≤ j ∧ St I g w0 w1) (fun vj _ => (intOf vj).toNat)
              case atStart => exact ⟨j, rfl, haj, Int.le_refl _, hS⟩
              case round =>
                clear hS
                obtain ⟨j2, rfl, haj2, hjj2, hS⟩ := hrel
                by_cases hle : i2 ≤ j2
                · go_wp2_with (go_at_fn gl; refine (M.less _ _ _ hS.inv (by omega) (by omega) (by omega) (by omega)).mono ?_; rintro e wn ⟨⟨t, rfl⟩, hb⟩; have hS := hS.below M hb; clear hb)
                  · exact ⟨⟨j2 - 1, rfl, by omega, by omega, hS⟩, by simp [intOf]; omega⟩
                  · go_meet
                    case rel => exact ⟨j2, rfl, haj2, hjj2, hS⟩
                · go_wp2
                  go_meet
                  case rel => exact ⟨j2, rfl, haj2, hjj2, hS⟩
            case rest =>
              clear hS
              obtain ⟨j2, rfl, haj2, hjj2, hS⟩ := hcut
              by_cases hle : i2 ≤ j2
              · go_wp2_with (go_at_fn gs; refine (M.swap _ _ _ hS.inv (by omega) (by omega) (by omega) (by omega)).mono ?_; rintro e wn ⟨rfl, hi, hk⟩; have hS := hS.swapped hi hk; clear hi hk)
                exact ⟨⟨i2 + 1, j2 - 1, rfl, rfl, by omega, by omega, by omega, by omega, hS⟩, by simp [intOf]; omega⟩
              · go_wp2_with (go_at_fn gs; refine (M.swap _ _ _ hS.inv (by omega) (by omega) (by omega) (by omega)).mono ?_; rintro e wn ⟨rfl, hi, hk⟩; have hS := hS.swapped hi hk; clear hi hk)
                go_ret2
                exact ⟨j2, false, rfl, haj2, by omega, hS⟩
      · go_wp2_with (go_at_fn gs; refine (M.swap _ _ _ hS.inv (by omega) (by omega) (by omega) (by omega)).mono ?_; rintro e wn ⟨rfl, hi, hk⟩; have hS := hS.swapped hi hk; clear hi hk)
        go_ret2
        exact ⟨j2, true, rfl, haj2, by omega, hS⟩
end Go.Proofs.YthkgjhnckakliaaGreatDoorR

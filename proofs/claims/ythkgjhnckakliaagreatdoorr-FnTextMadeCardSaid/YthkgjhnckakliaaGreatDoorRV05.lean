/- sort.partialInsertionSort, breakPatterns over two methods that keep what is asked.
  sort.pdqsort, sort.Sort over methods that keep what is asked. -/
import Derived.Test.YthkgjhnckakliaaGreatDoorRV03
import Derived.Deep.CutBlock
import Derived.Sort.Walk7
namespace Go.Proofs.YthkgjhnckakliaaGreatDoorR
open Go.Shelf Go.RowKit Go.Lib Go.Proofs
variable {P : Program} {ρ : Ren}
def BoolSt (I : World → Prop) (g : Nat) (w0 : World) (e : Ending) (w' : World) : Prop := ∃ t : Bool, e = .returned (.bool t) ∧ St I g w0 w'

set_option maxHeartbeats 16000000 in
set_option maxRecDepth 1000000 in
theorem partialInsertionSort_st (L : LaysGt.n38 P ρ) (T : TypeId) (rv : Value) (gl gs : Nat) (rL : Rch P T rv "Less" gl) (rS : Rch P T rv "Swap" gs) (g n : Nat) (I : World → Prop) (M : Meth P gl gs rv g n I) (hn : n < 4611686018427387904) (a b : Nat) (w0 w : World) (hS : St I g w0 w) (hab : a < b) (hb : b ≤ n) :
    Calls P (ρ.f 38) #[.iface T rv, .int .i64 a, .int .i64 b] w (BoolSt I g w0) := by
  have mixed := L.mixed; have t0 := L.t0; have a0 := L.a0; have z0 := L.z0; have v0 := L.v0; have t3 := L.t3; have a3 := L.a3; have z3 := L.z3; have v3 := L.v3; have t4 := L.t4; have a4 := L.a4; have z4 := L.z4; have v4 := L.v4; have t26 := L.t26; have a26 := L.a26; have z26 := L.z26; have v26 := L.v26; have t38 := L.t38; have a38 := L.a38; have z38 := L.z38; have v38 := L.v38; have t43 := L.t43; have a43 := L.a43; have z43 := L.z43; have v43 := L.v43; have t45 := L.t45; have a45 := L.a45; have z45 := L.z45; have v45 := L.v45
  have mL : ∀ w, Sem.run P (method (P.types.size + 100) T rv "Less") w = .ok (gl, rv) w := rL.finds; have eL := rL.enters
  have mS : ∀ w, Sem.run P (method (P.types.size + 100) T rv "Swap") w = .ok (gs, rv) w := rS.finds; have eS := rS.enters
  go_enter L.f38, BodyGt.n38_ntmps ρ
  go_wp2
  go_loopg [7, 8] 5 (fun g1 vi vs wr => ∃ i s : Nat, vi = .int .i64 i ∧ vs = .int .i64 s ∧ s ≤ 5 ∧ 5 - s ≤ g1 ∧ a < i ∧ i ≤ b ∧ St I g w0 wr)
  case atStart => exact ⟨a + 1, 0, by go_num, rfl, by omega, by omega, by omega, by omega, hS⟩
  case round =>
    clear hS
    obtain ⟨i, s, rfl, rfl, hs5, hg1, hai, hib, hS⟩ := hrel
    by_cases hs : s < 5
    · have hsz5 : (s : Int) < 5 := by omega
      go_upto_block 2 with fail
      go_cut [7] (fun vi wx => ∃ kx : Nat, vi = .int .i64 kx ∧ i ≤ kx ∧ kx ≤ b ∧ St I g w0 wx)
      case first =>
        go_wp2_with fail
        go_loopg [7] (b - i) (fun g2 vi wr2 => ∃ kx : Nat, vi = .int .i64 kx ∧ i ≤ kx ∧ kx ≤ b ∧ b - kx ≤ g2 ∧ St I g w0 wr2)
        case atStart => exact ⟨i, rfl, Nat.le_refl _, hib, Nat.le_refl _, hS⟩
        case round =>
          clear hS
          obtain ⟨kx, rfl, hik, hkb, hg2, hS⟩ := hrel
          by_cases hkb' : kx < b
          · have hkz : (kx : Int) < (b : Int) := by omega
            go_wp2_with (go_at_fn gl; refine (M.less _ _ _ hS.inv (by omega) (by omega) (by omega) (by omega)).mono ?_; rintro e wn ⟨⟨t, rfl⟩, hb⟩; have hS := hS.below M hb; clear hb)
            · go_roundg (b - (kx + 1))
              case measure => omega
              case rel => exact ⟨kx + 1, by go_num, by omega, by omega, Nat.le_refl _, hS⟩
            · go_meet
              case rel => exact ⟨kx, rfl, hik, hkb, hS⟩
          · have hkz : ¬ (kx : Int) < (b : Int) := by omega
            go_wp2
            go_meet
            case rel => exact ⟨kx, rfl, hik, hkb, hS⟩
      case rest =>
        clear hS
        obtain ⟨kx, rfl, hik, hkb, hS⟩ := hcut
        by_cases hkb' : kx = b
        · subst hkb'
          go_wp2
          go_ret
          exact ⟨true, rfl, hS⟩
        · have hkne : ((kx : Int) == (b : Int)) = false := beq_eq_false_iff_ne.2 (by omega)
          by_cases h50 : b - a < 50
          · have h50z : (b : Int) - (a : Int) < 50 := by omega
            go_wp2
            go_ret
            exact ⟨false, rfl, hS⟩
          · have h50z : ¬ ((b : Int) - (a : Int) < 50) := by omega
            go_upto_if 45 with (go_at_fn gs; refine (M.swap _ _ _ hS.inv (by omega) (by omega) (by omega) (by omega)).mono ?_; rintro e wn ⟨rfl, hi, hk⟩; have hS := hS.swapped hi hk; clear hi hk)
            go_cut [] (fun wx => St I g w0 wx)
            case first =>
              by_cases hka : kx - a ≥ 2
              · have hkaz : (2 : Int) ≤ (kx : Int) - (a : Int) := by omega
                go_wp2_with fail
                (try rw [decide_eq_true hkaz])
                go_loopg [9] (kx - 1) (fun g3 vj wr3 => ∃ j : Nat, vj = .int .i64 j ∧ j ≤ kx - 1 ∧ j ≤ g3 ∧ St I g w0 wr3)
                case atStart => exact ⟨kx - 1, by congr 1; omega, Nat.le_refl _, Nat.le_refl _, hS⟩
                case round =>
                  clear hS
                  obtain ⟨j, rfl, hjk, hg3, hS⟩ := hrel
                  by_cases hj1 : 1 ≤ j
                  · have hj1z : (1 : Int) ≤ (j : Int) := by omega
                    go_wp2_with (first | (go_at_fn gl; refine (M.less _ _ _ hS.inv (by omega) (by omega) (by omega) (by omega)).mono ?_; rintro e wn ⟨⟨t, rfl⟩, hb⟩; have hS := hS.below M hb; clear hb) | (go_at_fn gs; refine (M.swap _ _ _ hS.inv (by omega) (by omega) (by omega) (by omega)).mono ?_; rintro e wn ⟨rfl, hi, hk⟩; have hS := hS.swapped hi hk; clear hi hk))
                    · go_meet
                      case rel => exact hS
                    · go_roundg (j - 1)
                      case measure => omega
                      case rel => exact ⟨j - 1, by congr 1; omega, by omega, Nat.le_refl _, hS⟩
                  · have hj1z : ¬ (1 : Int) ≤ (j : Int) := by omega
                    go_wp2
                    go_meet
                    case rel => exact hS
              · have hkaz : ¬ (2 : Int) ≤ (kx : Int) - (a : Int) := by omega
                go_wp2_with fail
                go_meet
                case rel => exact hS
            case rest =>
              clear hS
              have hS := hcut
              go_upto_if 66 with fail
              by_cases hbk : b - kx ≥ 2
              · have hbkz : (2 : Int) ≤ (b : Int) - (kx : Int) := by omega
                go_wp2_with fail
                (try rw [decide_eq_true hbkz])
                go_loopg [10] (b - (kx + 1)) (fun g4 vj wr4 => ∃ ju : Nat, vj = .int .i64 ju ∧ kx + 1 ≤ ju ∧ ju ≤ b ∧ b - ju ≤ g4 ∧ St I g w0 wr4)
                case atStart => exact ⟨kx + 1, by go_num, Nat.le_refl _, by omega, Nat.le_refl _, hS⟩
                case round =>
                  clear hS hcut
                  obtain ⟨ju, rfl, hkj, hjb, hg4, hS⟩ := hrel
                  by_cases hjb' : ju < b
                  · have hjz : (ju : Int) < (b : Int) := by omega
                    go_wp2_with (first | (go_at_fn gl; refine (M.less _ _ _ hS.inv (by omega) (by omega) (by omega) (by omega)).mono ?_; rintro e wn ⟨⟨t, rfl⟩, hb⟩; have hS := hS.below M hb; clear hb) | (go_at_fn gs; refine (M.swap _ _ _ hS.inv (by omega) (by omega) (by omega) (by omega)).mono ?_; rintro e wn ⟨rfl, hi, hk⟩; have hS := hS.swapped hi hk; clear hi hk))
                    · go_roundg (5 - (s + 1))
                      case measure => omega
                      case rel => exact ⟨kx, s + 1, rfl, by go_num, by omega, Nat.le_refl _, by omega, by omega, hS⟩
                    · go_roundg (b - (ju + 1))
                      case measure => omega
                      case rel => exact ⟨ju + 1, by go_num, by omega, by omega, Nat.le_refl _, hS⟩
                  · have hjz : ¬ (ju : Int) < (b : Int) := by omega
                    go_wp2
                    go_roundg (5 - (s + 1))
                    case measure => omega
                    case rel => exact ⟨kx, s + 1, rfl, by go_num, by omega, Nat.le_refl _, by omega, by omega, hS⟩
              · have hbkz : ¬ (2 : Int) ≤ (b : Int) - (kx : Int) := by omega
                go_wp2_with fail
                go_roundg (5 - (s + 1))
                case measure => omega
                case rel => exact ⟨kx, s + 1, rfl, by go_num, by omega, Nat.le_refl _, by omega, by omega, hS⟩
    · obtain rfl : s = 5 := by omega
      go_wp2
      go_ret
      exact ⟨false, rfl, hS⟩

set_option maxHeartbeats 4000000 in
set_option maxRecDepth 1000000 in
theorem breakPatterns_st (L' : LaysGt.n35 P ρ) (T : TypeId) (rv : Value) (gl gs : Nat) (rS : Rch P T rv "Swap" gs) (g n : Nat) (I : World → Prop) (M : Meth P gl gs rv g n I) (hn : n < 4611686018427387904) (a b : Nat) (w0 w : World) (hS : St I g w0 w) (hab : a ≤ b) (hb : b ≤ n) :
    Calls P (ρ.f 35) #[.iface T rv, .int .i64 a, .int .i64 b] w (Kept I g w0) := by
  obtain ⟨L, rfl⟩ : ∃ L, b = a + L := ⟨b - a, by omega⟩
  have mixed := L'.mixed; have t0 := L'.t0; have a0 := L'.a0; have z0 := L'.z0; have v0 := L'.v0; have t3 := L'.t3; have a3 := L'.a3; have z3 := L'.z3; have v3 := L'.v3; have t4 := L'.t4; have a4 := L'.a4; have z4 := L'.z4; have v4 := L'.v4; have t5 := L'.t5; have a5 := L'.a5; have z5 := L'.z5; have v5 := L'.v5; have t9 := L'.t9; have a9 := L'.a9; have z9 := L'.z9; have v9 := L'.v9; have t26 := L'.t26; have a26 := L'.a26; have z26 := L'.z26; have v26 := L'.v26; have t38 := L'.t38; have a38 := L'.a38; have z38 := L'.z38; have v38 := L'.v38; have t43 := L'.t43; have a43 := L'.a43; have z43 := L'.z43; have v43 := L'.v43; have t45 := L'.t45; have a45 := L'.a45; have z45 := L'.z45; have v45 := L'.v45; have t47 := L'.t47; have a47 := L'.a47; have z47 := L'.z47; have v47 := L'.v47; have t56 := L'.t56; have a56 := L'.a56; have z56 := L'.z56; have v56 := L'.v56; have t58 := L'.t58; have a58 := L'.a58; have z58 := L'.z58; have v58 := L'.v58; have t67 := L'.t67; have a67 := L'.a67; have z67 := L'.z67; have v67 := L'.v67; have t73 := L'.t73; have a73 := L'.a73; have z73 := L'.z73; have v73 := L'.v73
  have hLz : ((a : Int) + (L : Int) - (a : Int)) = (L : Int) := by omega
  by_cases h8 : 8 ≤ L
  · have mS : ∀ w, Sem.run P (method (P.types.size + 100) T rv "Swap") w = .ok (gs, rv) w := rS.finds; have eS := rS.enters
    have e44 : ∀ args w, (callFunc (ρ.f 44) args).run P w = .ok (.enter (ρ.f 44) args) w := enters_of L'.f44 (by kernel_rfl) rfl
    have e45 : ∀ args w, (callFunc (ρ.f 45) args).run P w = .ok (.enter (ρ.f 45) args) w := enters_of L'.f45 (by kernel_rfl) rfl
    obtain ⟨m, hM⟩ : ∃ m : Nat, m = 1 <<< Sort.bitsLen L := ⟨_, rfl⟩
    have hM1 : 1 ≤ m := by rw [hM, Nat.one_shiftLeft]; exact Nat.two_pow_pos _
    have hM2 : m ≤ 2 * L := by rw [hM, Nat.one_shiftLeft]; exact Sort.two_pow_bitsLen_le (by omega)
    have hNP : ∀ w, Calls P (ρ.f 44) #[.int .i64 (L : Int)] w fun e w' => e = .returned (.int .u64 (m : Int)) ∧ w' = w := by rw [hM]; exact fun w => Any.nextPowerOfTwo (LaysGt.n44.elder (P := P) (ρ := ρ) { L' with }) L (by omega) w
    clear hM
    have h8z : (8 : Int) ≤ (L : Int) := by omega
    have hglt := M.old _ hS.inv
    have hne : w.heap.size ≠ g := by omega
    go_enter L'.f35, BodyGt.n35_ntmps ρ
    go_wp2_with (go_at_fn (ρ.f 44); refine (hNP _).mono ?_; rintro e w' ⟨rfl, rfl⟩)
    go_loopg [9] 3 (fun g1 vi wr => ∃ t R : Nat, vi = .int .i64 ((a : Int) + (L : Int) / 4 * 2 - 1 + (t : Int)) ∧ t ≤ 3 ∧ 3 - t ≤ g1 ∧ R < 18446744073709551616 ∧ St I g w0 wr ∧ w.heap.size < wr.heap.size ∧
      wr.cell? ⟨w.heap.size, 0, none⟩ = some (.int .u64 (R : Int)) ∧ wr.frozen? ⟨w.heap.size, 0, none⟩ = false)
    case atStart => exact ⟨0, L, by simp, by omega, by omega, by omega, hS.below M ((Below.refl _ _).alloc (Nat.le_refl _) _), by simp, by simp, by simp⟩
    case round =>
      clear hNP
      obtain ⟨t, R, rfl, ht, hg1, lR, hSr, hszr, cR, fR⟩ := hrel
      by_cases ht3 : t < 3
      · have hle : (a : Int) + (L : Int) / 4 * 2 - 1 + (t : Int) ≤ (a : Int) + (L : Int) / 4 * 2 + 1 := by omega
        obtain ⟨R', hR'⟩ : ∃ R' : Nat, R' = Sort.xorNextN R := ⟨_, rfl⟩
        have lR' : R' < 18446744073709551616 := by rw [hR']; exact Sort.xorNextN_lt R lR
        obtain ⟨O, hO⟩ : ∃ O : Nat, O = R' &&& (m - 1) := ⟨_, rfl⟩
        have lO : O ≤ m - 1 := by rw [hO]; exact Nat.and_le_right
        have eAnd : bits .and .u64 (R' : Int) ((m : Int) - 1) = (O : Int) := by
          rw [show ((m : Int) - 1) = ((m - 1 : Nat) : Int) by omega, bits_and_u64_nat _ _ lR' (by omega), hO]
        have hNext : Calls P (ρ.f 45) #[.pointer (some ⟨w.heap.size, 0, none⟩)] wr fun e w' => e = .returned (.int .u64 (R' : Int)) ∧ w' = (wr.setCell ⟨w.heap.size, 0, none⟩ (.int .u64 (R' : Int))).drewN 3 := by
          rw [hR']; exact Any.xorshift_Next (LaysGt.n45.elder (P := P) (ρ := ρ) { L' with }) _ _ R lR wr cR fR
        clear hR' hO
        have S2 : St I g w0 ((wr.setCell ⟨w.heap.size, 0, none⟩ (.int .u64 (R' : Int))).drewN 3) := (hSr.own M hS.kp.size hne 0 _).below M ⟨rfl, rfl, rfl, Nat.le_refl _, fun _ _ => rfl⟩
        have cR' : ((wr.setCell ⟨w.heap.size, 0, none⟩ (.int .u64 (R' : Int))).drewN 3).cell? ⟨w.heap.size, 0, none⟩ = some (.int .u64 (R' : Int)) := by
          rw [World.cell?_drewN]; exact World.cell?_setCell_same _ _ _ cR
        have fR' : ((wr.setCell ⟨w.heap.size, 0, none⟩ (.int .u64 (R' : Int))).drewN 3).frozen? ⟨w.heap.size, 0, none⟩ = false := by
          rw [World.frozen?_drewN]; simpa using fR
        have sz2 : w.heap.size < ((wr.setCell ⟨w.heap.size, 0, none⟩ (.int .u64 (R' : Int))).drewN 3).heap.size := by
          have h1 : ((wr.setCell ⟨w.heap.size, 0, none⟩ (.int .u64 (R' : Int))).drewN 3).heap.size = (wr.setCell ⟨w.heap.size, 0, none⟩ (.int .u64 (R' : Int))).heap.size := rfl
          have h2 : (wr.setCell ⟨w.heap.size, 0, none⟩ (.int .u64 (R' : Int))).heap.size = wr.heap.size := by simp [World.setCell]
          omega
        clear cR fR hszr hSr
        generalize (wr.setCell ⟨w.heap.size, 0, none⟩ (.int .u64 (R' : Int))).drewN 3 = w2 at hNext S2 cR' fR' sz2
        have KC : Hid (∀ w3, Kp g w2 w3 → w.heap.size < w3.heap.size ∧ w3.cell? ⟨w.heap.size, 0, none⟩ = some (.int .u64 (R' : Int)) ∧ w3.frozen? ⟨w.heap.size, 0, none⟩ = false) := fun w3 hk =>
          ⟨Nat.lt_of_lt_of_le sz2 hk.size, (World.cell?_of_block (w := w2) (a := ⟨w.heap.size, 0, none⟩) (hk.block _ sz2 hne)).trans cR', (World.frozen?_of_block (w := w2) (a := ⟨w.heap.size, 0, none⟩) (hk.block _ sz2 hne)).trans fR'⟩
        clear cR' fR' sz2
        by_cases hLO : L ≤ O
        · have hLOz : (L : Int) ≤ (O : Int) := by omega
          go_wp2_with (first | (go_at_fn (ρ.f 45); refine hNext.mono ?_; rintro e w' ⟨rfl, rfl⟩) | (go_at_fn gs; refine (M.swap _ _ _ S2.inv (by omega) (by omega) (by omega) (by omega)).mono ?_; rintro e wn ⟨rfl, hi, hk⟩))
          go_roundg (3 - (t + 1))
          case measure => omega
          case rel => exact ⟨t + 1, R', by congr 1; push_cast; omega, by omega, Nat.le_refl _, lR', S2.swapped hi hk, KC.out _ hk⟩
        · have hLOz : ¬ (L : Int) ≤ (O : Int) := by omega
          go_wp2_with (first | (go_at_fn (ρ.f 45); refine hNext.mono ?_; rintro e w' ⟨rfl, rfl⟩) | (go_at_fn gs; refine (M.swap _ _ _ S2.inv (by omega) (by omega) (by omega) (by omega)).mono ?_; rintro e wn ⟨rfl, hi, hk⟩))
          go_roundg (3 - (t + 1))
          case measure => omega
          case rel => exact ⟨t + 1, R', by congr 1; push_cast; omega, by omega, Nat.le_refl _, lR', S2.swapped hi hk, KC.out _ hk⟩
      · obtain rfl : t = 3 := by omega
        have hle : ¬ ((a : Int) + (L : Int) / 4 * 2 - 1 + ((3 : Nat) : Int) ≤ (a : Int) + (L : Int) / 4 * 2 + 1) := by omega
        go_wp2
        go_end0
        exact ⟨rfl, hSr⟩
  · have h8z : ¬ (8 : Int) ≤ (L : Int) := by omega
    go_enter L'.f35, BodyGt.n35_ntmps ρ
    go_wp2
    go_end0
    exact ⟨rfl, hS⟩
end Go.Proofs.YthkgjhnckakliaaGreatDoorR
namespace Go.Proofs.YthkgjhnckakliaaGreatDoorR
open Go.Shelf Go.RowKit Go.Lib Go.Proofs
variable {P : Program} {ρ : Ren}

set_option maxHeartbeats 12800000 in
set_option maxRecDepth 1000000 in
theorem pdqsort_st (L : LaysGt.n18 P ρ) (T : TypeId) (rv : Value) (gl gs : Nat) (rL : Rch P T rv "Less" gl) (rS : Rch P T rv "Swap" gs) (g n : Nat) (I : World → Prop) (M : Meth P gl gs rv g n I) (hn : n < 4611686018427387904) : ∀ (N a b lim : Nat) (w0 w : World), b - a < N → St I g w0 w → a ≤ b → b ≤ n → lim ≤ 1000 →
    Calls P (ρ.f 18) #[.iface T rv, .int .i64 a, .int .i64 b, .int .i64 lim] w (Kept I g w0) := by
  have mixed := L.mixed; have t0 := L.t0; have a0 := L.a0; have z0 := L.z0; have v0 := L.v0; have t3 := L.t3; have a3 := L.a3; have z3 := L.z3; have v3 := L.v3; have t4 := L.t4; have a4 := L.a4; have z4 := L.z4; have v4 := L.v4; have t26 := L.t26; have a26 := L.a26; have z26 := L.z26; have v26 := L.v26; have t38 := L.t38; have a38 := L.a38; have z38 := L.z38; have v38 := L.v38; have t43 := L.t43; have a43 := L.a43; have z43 := L.z43; have v43 := L.v43; have t45 := L.t45; have a45 := L.a45; have z45 := L.z45; have v45 := L.v45
  have t5 := L.t5; have a5 := L.a5; have z5 := L.z5; have v5 := L.v5
  have t9 := L.t9; have a9 := L.a9; have z9 := L.z9; have v9 := L.v9
  have t47 := L.t47; have a47 := L.a47; have z47 := L.z47; have v47 := L.v47
  have t56 := L.t56; have a56 := L.a56; have z56 := L.z56; have v56 := L.v56
  have t58 := L.t58; have a58 := L.a58; have z58 := L.z58; have v58 := L.v58
  have t60 := L.t60; have a60 := L.a60; have z60 := L.z60; have v60 := L.v60
  have t61 := L.t61; have a61 := L.a61; have z61 := L.z61; have v61 := L.v61
  have t65 := L.t65; have a65 := L.a65; have z65 := L.z65; have v65 := L.v65
  have t67 := L.t67; have a67 := L.a67; have z67 := L.z67; have v67 := L.v67
  have t71 := L.t71; have a71 := L.a71; have z71 := L.z71; have v71 := L.v71
  have t73 := L.t73; have a73 := L.a73; have z73 := L.z73; have v73 := L.v73
  have t74 := L.t74; have a74 := L.a74; have z74 := L.z74; have v74 := L.v74
  have mL : ∀ w, Sem.run P (method (P.types.size + 100) T rv "Less") w = .ok (gl, rv) w := rL.finds; have eL := rL.enters
  have mS : ∀ w, Sem.run P (method (P.types.size + 100) T rv "Swap") w = .ok (gs, rv) w := rS.finds; have eS := rS.enters
  have e33 : ∀ args w, (callFunc (ρ.f 33) args).run P w = .ok (.enter (ρ.f 33) args) w := enters_of L.f33 (by kernel_rfl) rfl
  have e34 : ∀ args w, (callFunc (ρ.f 34) args).run P w = .ok (.enter (ρ.f 34) args) w := enters_of L.f34 (by kernel_rfl) rfl
  have e35 : ∀ args w, (callFunc (ρ.f 35) args).run P w = .ok (.enter (ρ.f 35) args) w := enters_of L.f35 (by kernel_rfl) rfl
  have e36 : ∀ args w, (callFunc (ρ.f 36) args).run P w = .ok (.enter (ρ.f 36) args) w := enters_of L.f36 (by kernel_rfl) rfl
  have e37 : ∀ args w, (callFunc (ρ.f 37) args).run P w = .ok (.enter (ρ.f 37) args) w := enters_of L.f37 (by kernel_rfl) rfl
  have e38 : ∀ args w, (callFunc (ρ.f 38) args).run P w = .ok (.enter (ρ.f 38) args) w := enters_of L.f38 (by kernel_rfl) rfl
  have e39 : ∀ args w, (callFunc (ρ.f 39) args).run P w = .ok (.enter (ρ.f 39) args) w := enters_of L.f39 (by kernel_rfl) rfl
  have e40 : ∀ args w, (callFunc (ρ.f 40) args).run P w = .ok (.enter (ρ.f 40) args) w := enters_of L.f40 (by kernel_rfl) rfl
  have e18 : ∀ args w, (callFunc (ρ.f 18) args).run P w = .ok (.enter (ρ.f 18) args) w := enters_of L.f18 (by kernel_rfl) rfl
  intro N
  induction N with
  | zero => intro _ _ _ _ _ h; exact absurd h (Nat.not_lt_zero _)
  | succ N ih =>
    intro a b limit w0 w hN hS hab hb hlimit
    have IH : Hid _ := ih
    clear ih
    go_enter L.f18, BodyGt.n18_ntmps ρ
    go_wp2
    go_loopg [1, 2, 3, 8, 9] (b - a) (fun k s1 s2 s3 s8 s9 wr => ∃ (a' b' lim : Nat) (wb wp : Bool), s1 = .int .i64 a' ∧ s2 = .int .i64 b' ∧ s3 = .int .i64 lim ∧ s8 = .bool wb ∧ s9 = .bool wp ∧
      a' ≤ b' ∧ b' ≤ n ∧ b' - a' ≤ k ∧ k ≤ b - a ∧ lim ≤ limit ∧ St I g w0 wr)
    case atStart => exact ⟨a, b, limit, true, true, rfl, rfl, rfl, rfl, rfl, hab, hb, Nat.le_refl _, Nat.le_refl _, Nat.le_refl _, hS⟩
    case round =>
      clear hS
      obtain ⟨a', b', lim, wb, wp, rfl, rfl, rfl, rfl, rfl, hab', hb', hk, hkN, hlim, hS⟩ := hrel
      by_cases h12 : b' - a' ≤ 12
      · have h12z : (b' : Int) - (a' : Int) ≤ 12 := by omega
        have hc := insertionSort_st (P := P) (ρ := ρ) { L with } T rv gl gs rL rS g n I M hn a' b' w0 wr hS hab' hb'
        go_wp2_with (go_at_fn (ρ.f 33); refine hc.mono ?_; rintro e w1 ⟨rfl, hS⟩)
        (try simp only [Exit.inBlock, Exit.then]); refine bodyPost_ret (results_none rfl _ _ _) rfl ?_
        exact ⟨rfl, hS⟩
      · have h12z : ¬ ((b' : Int) - (a' : Int) ≤ 12) := by omega
        by_cases hl0 : lim = 0
        · subst hl0
          have hc := heapSort_st (P := P) (ρ := ρ) { L with } T rv gl gs rL rS g n I M hn a' b' w0 wr hS hab' hb'
          go_wp2_with (go_at_fn (ρ.f 34); refine hc.mono ?_; rintro e w1 ⟨rfl, hS⟩)
          (try simp only [Exit.inBlock, Exit.then]); refine bodyPost_ret (results_none rfl _ _ _) rfl ?_
          exact ⟨rfl, hS⟩
        · have hl0z : ¬ ((lim : Int) = 0) := by omega
          go_upto_if 35 with fail
          go_cut [3] from 19 (fun s3 wc => ∃ l2 : Nat, s3 = .int .i64 l2 ∧ l2 ≤ lim ∧ St I g w0 wc)
          case first =>
            cases wb
            · have hc := breakPatterns_st (P := P) (ρ := ρ) { L with } T rv gl gs rS g n I M hn a' b' w0 wr hS hab' hb'
              go_wp2_with (go_at_fn (ρ.f 35); refine hc.mono ?_; rintro e w1 ⟨rfl, hS⟩)
              go_meet
              case rel => exact ⟨lim - 1, by congr 1; omega, by omega, hS⟩
            · go_wp2_with fail
              go_meet
              case rel => exact ⟨lim, rfl, Nat.le_refl _, hS⟩
          case rest =>
            clear hS
            obtain ⟨l2, rfl, hl2, hS⟩ := hcut
            have hc36 := choosePivot_st (P := P) (ρ := ρ) { L with } T rv gl gs rL g n I M hn a' b' wc hS.inv (by omega) hb'
            go_upto_if 50 with (go_at_fn (ρ.f 36); refine hc36.mono ?_; rintro e w2 ⟨pv, ht, rfl, hpv1, hpv2, hb2⟩)
            have hS := hS.below M hb2
            go_cut [11, 12] from 19 (fun s11 s12 wc => ∃ p h : Int, s11 = .int .i64 p ∧ s12 = .int .i64 h ∧ (a' : Int) ≤ p ∧ p < b' ∧ St I g w0 wc)
            case first =>
              by_cases hh : ht = 2
              · subst hh
                have hc37 := reverseRange_st (P := P) (ρ := ρ) { L with } T rv gl gs rS g n I M hn a' b' w0 w2 hS hab' hb'
                go_wp2_with (go_at_fn (ρ.f 37); refine hc37.mono ?_; rintro e w3 ⟨rfl, hS⟩)
                go_meet
                case rel => exact ⟨_, _, rfl, rfl, by omega, by omega, hS⟩
              · go_wp2_with fail
                go_meet
                case rel => exact ⟨_, _, rfl, rfl, hpv1, hpv2, hS⟩
            case rest =>
              clear hS
              obtain ⟨p, h, rfl, rfl, hp1, hp2, hS⟩ := hcut
              go_upto_region 15 with fail
              go_cut [12, 68] from 19 (fun s12 s68 wx => s12 = .int .i64 h ∧ (∃ t : Bool, s68 = .bool t) ∧ wx = wc)
              case first =>
                cases wb <;> cases wp <;>
                  (go_wp2_with fail
                   go_meet
                   exact ⟨rfl, ⟨_, rfl⟩, rfl⟩)
              case rest =>
                obtain ⟨rfl, ⟨t68, rfl⟩, rfl⟩ := hcut
                go_upto_if 68 with fail
                go_cut [] from 19 (fun wx => St I g w0 wx)
                case first =>
                  cases t68
                  · go_wp2_with fail
                    go_meet
                    case rel => exact hS
                  · have hc38 := partialInsertionSort_st (P := P) (ρ := ρ) { L with } T rv gl gs rL rS g n I M hn a' b' w0 _ hS (by omega) hb'
                    go_wp2_with (go_at_fn (ρ.f 38); refine hc38.mono ?_; rintro e w4 ⟨t4, rfl, hS⟩)
                    all_goals first
                      | (go_meet
                         exact hS)
                      | ((try simp only [Exit.inBlock, Exit.then]); refine bodyPost_ret (results_none rfl _ _ _) rfl ?_
                         exact ⟨rfl, hS⟩)
                case rest =>
                  clear hS
                  have hS := hcut
                  go_upto_region 17 with fail
                  go_cut [82] from 19 (fun s82 wx => (∃ t : Bool, s82 = .bool t ∧ (t = true → 0 < a')) ∧ St I g w0 wx)
                  case first =>
                    rcases Nat.eq_zero_or_pos a' with ha0 | ha0
                    · have ha0z : decide ((a' : Int) > 0) = false := decide_eq_false (by omega)
                      go_wp2_with fail
                      go_meet
                      case rel => exact ⟨⟨false, rfl, fun h => by cases h⟩, hS⟩
                    · have ha0z : (a' : Int) > 0 := by omega
                      go_wp2_with (go_at_fn gl; refine (M.less _ _ _ hS.inv (by omega) (by omega) (by omega) (by omega)).mono ?_; rintro e wn ⟨⟨t, rfl⟩, hb⟩; have hS := hS.below M hb; clear hb)
                      all_goals (go_meet; exact ⟨⟨_, rfl, fun _ => ha0⟩, hS⟩)
                  case rest =>
                    clear hS
                    obtain ⟨⟨t82, rfl, ht82⟩, hS⟩ := hcut
                    cases t82
                    · have hc40 := partition_st (P := P) (ρ := ρ) { L with } T rv gl gs rL rS g n I M hn a' b' p w0 wc hS (by omega) hp1 hp2 (by omega)
                      go_upto_if 108 with (go_at_fn (ρ.f 40); refine hc40.mono ?_; rintro e w7 ⟨m, ap, rfl, hm1, hm2, hS⟩)
                      obtain ⟨mid, rfl⟩ : ∃ k : Nat, m = k := ⟨m.toNat, by omega⟩
                      by_cases h4 : mid - a' < b' - mid
                      · have h4z : (mid : Int) - (a' : Int) < (b' : Int) - (mid : Int) := by omega
                        have hih := IH.out a' mid l2 w0 w7 (by omega) hS (by omega) (by omega) (by omega)
                        go_wp2_with (go_at_fn (ρ.f 18); refine hih.mono ?_; rintro e w8 ⟨rfl, hS⟩)
                        go_roundg (b' - (mid + 1))
                        case measure => omega
                        case rel => exact ⟨mid + 1, b', l2, _, ap, by simp, rfl, rfl, rfl, rfl, by omega, by omega, Nat.le_refl _, by omega, by omega, hS⟩
                      · have h4z : ¬ ((mid : Int) - (a' : Int) < (b' : Int) - (mid : Int)) := by omega
                        have hih := IH.out (mid + 1) b' l2 w0 w7 (by omega) hS (by omega) (by omega) (by omega)
                        rw [show ((mid + 1 : Nat) : Int) = (mid : Int) + 1 by omega] at hih
                        go_wp2_with (go_at_fn (ρ.f 18); refine hih.mono ?_; rintro e w8 ⟨rfl, hS⟩)
                        go_roundg (mid - a')
                        case measure => omega
                        case rel => exact ⟨a', mid, l2, _, ap, rfl, rfl, rfl, rfl, rfl, by omega, by omega, Nat.le_refl _, by omega, by omega, hS⟩
                    · have hc39 := partitionEqual_st (P := P) (ρ := ρ) { L with } T rv gl gs rL rS g n I M hn a' b' p w0 wc hS (by omega) hp1 hp2 (by omega)
                      go_wp2_with (go_at_fn (ρ.f 39); refine hc39.mono ?_; rintro e w7 ⟨m, rfl, hm1, hm2, hS⟩)
                      obtain ⟨mid, rfl⟩ : ∃ k : Nat, m = k := ⟨m.toNat, by omega⟩
                      go_roundg (b' - mid)
                      case measure => omega
                      case rel => exact ⟨mid, b', l2, wb, wp, rfl, rfl, rfl, rfl, rfl, by omega, hb', Nat.le_refl _, by omega, by omega, hS⟩

/-- The third method: how long. -/
def LenOk (P : Program) (gn : Nat) (rv : Value) (n : Nat) : Prop := ∀ w, Calls P gn #[rv] w fun e w' => e = .returned (.int .i64 n) ∧ w = w'

set_option maxHeartbeats 1000000 in
set_option maxRecDepth 100000 in
theorem sort_st (L : LaysGt.n11 P ρ) (T : TypeId) (rv : Value) (gn gl gs : Nat) (rN : Rch P T rv "Len" gn) (rL : Rch P T rv "Less" gl) (rS : Rch P T rv "Swap" gs) (g n : Nat) (I : World → Prop) (M : Meth P gl gs rv g n I) (hn : n < 4611686018427387904) (hN : LenOk P gn rv n) (w : World) (hI : I w) :
    Calls P (ρ.f 11) #[.iface T rv] w (Kept I g w) := by
  have mixed := L.mixed; have t0 := L.t0; have a0 := L.a0; have z0 := L.z0; have v0 := L.v0; have t3 := L.t3; have a3 := L.a3; have z3 := L.z3; have v3 := L.v3; have t4 := L.t4; have a4 := L.a4; have z4 := L.z4; have v4 := L.v4; have t26 := L.t26; have a26 := L.a26; have z26 := L.z26; have v26 := L.v26; have t38 := L.t38; have a38 := L.a38; have z38 := L.z38; have v38 := L.v38; have t43 := L.t43; have a43 := L.a43; have z43 := L.z43; have v43 := L.v43; have t45 := L.t45; have a45 := L.a45; have z45 := L.z45; have v45 := L.v45
  have t5 := L.t5; have a5 := L.a5; have z5 := L.z5; have v5 := L.v5
  have t9 := L.t9; have a9 := L.a9; have z9 := L.z9; have v9 := L.v9
  have t47 := L.t47; have a47 := L.a47; have z47 := L.z47; have v47 := L.v47
  have t56 := L.t56; have a56 := L.a56; have z56 := L.z56; have v56 := L.v56
  have t58 := L.t58; have a58 := L.a58; have z58 := L.z58; have v58 := L.v58
  have t60 := L.t60; have a60 := L.a60; have z60 := L.z60; have v60 := L.v60
  have t61 := L.t61; have a61 := L.a61; have z61 := L.z61; have v61 := L.v61
  have t65 := L.t65; have a65 := L.a65; have z65 := L.z65; have v65 := L.v65
  have t67 := L.t67; have a67 := L.a67; have z67 := L.z67; have v67 := L.v67
  have t71 := L.t71; have a71 := L.a71; have z71 := L.z71; have v71 := L.v71
  have t73 := L.t73; have a73 := L.a73; have z73 := L.z73; have v73 := L.v73
  have t74 := L.t74; have a74 := L.a74; have z74 := L.z74; have v74 := L.v74
  have mN : ∀ w, Sem.run P (method (P.types.size + 100) T rv "Len") w = .ok (gn, rv) w := rN.finds
  have eN := rN.enters
  have e17 : ∀ args w, (callFunc (ρ.f 17) args).run P w = .ok (.enter (ρ.f 17) args) w := enters_of L.f17 (by kernel_rfl) rfl
  have e18 : ∀ args w, (callFunc (ρ.f 18) args).run P w = .ok (.enter (ρ.f 18) args) w := enters_of L.f18 (by kernel_rfl) rfl
  have hS : St I g w w := St.refl hI
  have hb := fun w => Any.bits_Len (LaysGg.n13.bits (({ L with } : LaysGt.n17 P ρ).elder)) (n : Int) w (by omega) (by omega)
  change ∀ w, Calls P (ρ.f 17) _ w _ at hb
  have wr : IntKind.u64.wrap (n : Int) = n := by simp [IntKind.wrap, IntKind.bits, IntKind.signed]; omega
  have hlim : Lib.bitLen n ≤ 1000 := Nat.le_trans (Lib.bitLen_le n 62 (by omega) (by omega)) (by omega)
  have hp := pdqsort_st (P := P) (ρ := ρ) { L with } T rv gl gs rL rS g n I M hn (n + 1) 0 n (Lib.bitLen n) w w (by omega) hS (Nat.zero_le _) (Nat.le_refl _) hlim
  by_cases h1 : n ≤ 1
  · have h1z : (n : Int) ≤ 1 := by omega
    go_enter L.f11, BodyGt.n11_ntmps ρ
    go_wp2_with (go_at_fn gn; refine (hN _).mono ?_; rintro e w' ⟨rfl, rfl⟩)
    (try simp only [Exit.inBlock, Exit.then]); refine bodyPost_ret (results_none rfl _ _ _) rfl ?_
    exact ⟨rfl, hS⟩
  · have h1z : ¬ (n : Int) ≤ 1 := by omega
    go_enter L.f11, BodyGt.n11_ntmps ρ
    go_wp2_with (first
      | (go_at_fn gn; refine (hN _).mono ?_; rintro e w' ⟨rfl, rfl⟩)
      | (go_at_fn (ρ.f 17); refine (hb _).mono ?_; rintro e w' ⟨rfl, rfl⟩)
      | (go_at_fn (ρ.f 18); refine hp.mono ?_; rintro e w' ⟨rfl, hS⟩))
    go_end0
    exact ⟨rfl, hS⟩
end Go.Proofs.YthkgjhnckakliaaGreatDoorR

/- strconv.Atoi in this claim's words; StrToFreq.
  rrule.strToInts. -/
import Derived.Test.YthkgjhnckakliaaGreatDoorRV14
import Derived.Test.YthkgjhnckakliaaGreatDoorRV07
import Derived.Test.YthkgjhnckakliaaGreatDoorRV06
import Derived.Test.YthkgjhnckakliaaGreatDoorRV04
import Derived.Test.YthkgjhnckakliaaGreatDoorRV08
namespace Go.Proofs.YthkgjhnckakliaaGreatDoorR
open Go.RowKit
/-- A number and no error, or an error. -/
def IntErr (o : Option Int) (v : Int) (err : Value) : Prop := (o = some v ∧ err = .nilIface) ∨ (o = none ∧ IsErr err)
def AtoiRes (s : Bs) (w : World) (e : Ending) (w' : World) : Prop := ∃ v err, e = .returned (.tuple #[.int .i64 v, err]) ∧ IntErr (Pl.intOf s) v err ∧ Below w.heap.size w w'
theorem Atoi_any (s : ByteArray) (w : World) (he : Env w) (hs : s.size ≤ 1000000) :
    Calls Tryz.prog 73 #[.string s] w (AtoiRes s.data.toList w) := by
  have hi := Pl.intOf_atoi s.data.toList
  cases ha : Lib.atoiAll s.data.toList with
  | ok v =>
    rw [ha] at hi
    refine (Tryz.strconv_Atoi_ok s (by omega) v ha w).mono ?_
    rintro e w' ⟨rfl, hw⟩
    refine ⟨v, .nilIface, rfl, Or.inl ⟨hi, rfl⟩, ?_⟩
    rcases hw with rfl | ⟨t, rfl⟩
    · exact Below.refl _ _
    · exact below_bytesWorld _ _ _
  | range =>
    rw [ha] at hi
    obtain ⟨t, p, hv⟩ := he.rng
    refine (Tryz.strconv_Atoi_range_var s (by omega) ha t p w hv).mono ?_
    rintro e w' ⟨N, rfl, _, _, hb⟩
    exact ⟨_, _, rfl, Or.inr ⟨hi, _, _, rfl⟩, hb⟩
  | _ =>
    rw [ha] at hi
    obtain ⟨t, p, hv⟩ := he.syn
    refine (Go.Proofs.Any.strconv_Atoi_syntax_var Tryz.laysC172 s (by omega) ha t p w hv).mono ?_
    rintro e w' ⟨N, rfl, _, _, hb⟩
    exact ⟨0, _, rfl, Or.inr ⟨hi, _, _, rfl⟩, hb⟩

theorem own_store' {w w' : World} {o : Obj} (h : ButBelow w.heap.size (w.alloc o) w') : Below w.heap.size w w' :=
  ((Below.refl _ _).alloc (Nat.le_refl _) _).trans (h.own (Nat.le_refl _) (by simp))
def freqL : List (Bs × Value) := [([89, 69, 65, 82, 76, 89], .int .i64 0), ([77, 79, 78, 84, 72, 76, 89], .int .i64 1), ([87, 69, 69, 75, 76, 89], .int .i64 2), ([68, 65, 73, 76, 89], .int .i64 3), ([72, 79, 85, 82, 76, 89], .int .i64 4), ([77, 73, 78, 85, 84, 69, 76, 89], .int .i64 5), ([83, 69, 67, 79, 78, 68, 76, 89], .int .i64 6)]
theorem freqL_get (s : Bs) : mget s freqL = (Pl.freqOf s).map fun (n : Nat) => .int .i64 (n : Int) := by
  unfold Pl.freqOf freqL
  simp only [mget, eq_comm (b := s)]
  repeat' split
  all_goals rfl

set_option maxHeartbeats 2000000 in
set_option maxRecDepth 100000 in
theorem StrToFreq_any (s : Bs) (w : World) (hs : s.length ≤ 1000000) :
    Calls Tryz.prog 71 #[.string (bs s)] w fun e w' => ∃ (v : Int) (err : Value), e = .returned (.tuple #[.int .i64 v, err]) ∧ IntErr ((Pl.freqOf s).map fun (n : Nat) => (n : Int)) v err ∧ Below w.heap.size w w' := by
  have hM : MapAt (w.alloc (.map #[] 0)) w.heap.size [] := ⟨#[], 0, heap_alloc_new w _, rfl⟩
  have hall := ButBelow.refl w.heap.size (w.alloc (.map #[] 0))
  have hsz : (bs s).size = s.length := bs_size s
  have hmm : ∀ w : World, (Instr.makeMap 164 none).run Tryz.prog w = .ok (.map (some w.heap.size)) (w.alloc (.map #[] 0)) := fun _ => rfl
  have hget := freqL_get s
  cases ho : Pl.freqOf s with
  | none =>
    rw [ho] at hget
    go_enter Tryz.func71, Tryz.ntmps71
    have hcat : ¬ 9223372036854775807 < 21 + (bs s).size := by omega
    clear hsz
    go_wp2_with (first | (refine wpList_insert_new rfl 164 _ _ _ rfl 9 57 Tryz.underlying164 Tryz.underlying9 w.heap.size _ _ (.int .i64 _) rfl rfl rfl hM (by simp) ?_; intro w' hM2 hbb2; have hM := hM2; have hall := hall.trans hbb2; clear hM2 hbb2) | (refine wpList_lookup_has rfl 164 _ _ rfl 9 57 Tryz.underlying164 Tryz.underlying9 w.heap.size freqL s (.int .i64 0) (by kernel_rfl) rfl rfl hM ?_; rw [hget]) | (go_at_call 67; refine (New_any _ _).mono ?_; rintro e w' ⟨⟨t, u, rfl⟩, hbx⟩; have hall := hall.below hbx; clear hbx))
    go_ret2
    exact ⟨0, .iface t u, rfl, Or.inr ⟨rfl, t, u, rfl⟩, own_store' hall⟩
  | some n =>
    rw [ho] at hget
    go_enter Tryz.func71, Tryz.ntmps71
    go_wp2_with (first | (refine wpList_insert_new rfl 164 _ _ _ rfl 9 57 Tryz.underlying164 Tryz.underlying9 w.heap.size _ _ (.int .i64 _) rfl rfl rfl hM (by simp) ?_; intro w' hM2 hbb2; have hM := hM2; have hall := hall.trans hbb2; clear hM2 hbb2) | (refine wpList_lookup_has rfl 164 _ _ rfl 9 57 Tryz.underlying164 Tryz.underlying9 w.heap.size freqL s (.int .i64 0) (by kernel_rfl) rfl rfl hM ?_; rw [hget]))
    go_ret2
    exact ⟨n, .nilIface, rfl, Or.inl ⟨rfl, rfl⟩, own_store' hall⟩
end Go.Proofs.YthkgjhnckakliaaGreatDoorR
namespace Go.Proofs.YthkgjhnckakliaaGreatDoorR
open Go.RowKit
/-- A row that a call has made to its full length, as a block. -/
theorem Block.of_owns {w : World} {base : Nat} {e : TypeId} {size g n : Nat} {xs : List Value} (h : w.ownsRow base e size (.slice (some ⟨g, 0, none⟩) n n) n xs) : Block w g xs.toArray ∧ xs.length = n * size := by
  obtain ⟨hl, h⟩ := h
  refine ⟨?_, hl⟩
  rcases h with ⟨h, _⟩ | ⟨g', cap, cur, hv, hg, hh, hc, _, hs, ht⟩
  · cases h
  · injection hv with h1 _ h3
    injection h1 with h1
    injection h1 with h1
    subst h1 h3
    refine ⟨e, ?_⟩
    rw [hh]; congr 2
    rw [← ht, List.take_of_length_le (by simp [hs])]
/-- Numbers and no error, or an error. -/
def IntsErr (s : Bs) (w : World) (e : Ending) (w' : World) : Prop :=
  ∃ a n c err, e = .returned (.tuple #[.slice a n c, err]) ∧ ((∃ l, Pl.intsOf s = some l ∧ Row w' (.slice a n c) (ints l) ∧ (∀ k, (Value.slice a n c).ownBlock = some k → w.heap.size ≤ k) ∧ err = .nilIface) ∨ (Pl.intsOf s = none ∧ IsErr err)) ∧ Below w.heap.size w w'

set_option maxHeartbeats 4000000 in
set_option maxRecDepth 100000 in
theorem strToInts_any (s : Bs) (w : World) (he : Env w) (hs : s.length ≤ 1000000) :
    Calls Tryz.prog 75 #[.string (bs s)] w (IntsErr s w) := by
  obtain ⟨i0, hi, hz0, hz1, hz2⟩ := info_parts Tryz.info3
  have hspl := zzSplit_any (bs s) ⟨#[44]⟩ 44 w (by rw [bs_size]; exact hs) rfl
  rw [bs_list] at hspl
  have hlen := Pl.split_length 44 s
  have hlen2 : (Pl.split 44 s).length ≤ 1000001 := by omega
  clear hlen
  have hne := Pl.split_ne 44 s
  have HMEM := Lib.hid (Pl.split_mem_length 44 s)
  go_enter Tryz.func75, Tryz.ntmps75
  go_wp2_with fail
  refine hspl.mono ?_
  rintro e w1 ⟨v, rfl, hrow, hb1⟩
  have he1 := he.below hb1
  obtain ⟨b, o, cap, rfl, hbl, hcap, hc⟩ := hrow.open (strs_ne hne)
  rw [strs_length] at hcap ⊢
  have HC := Lib.hid hc; clear hc hrow hspl
  generalize hL : Pl.split 44 s = L at *
  have HL := Lib.hid hL; clear hL
  go_wp2_with (at_make; refine wpList_make_full _ rfl _ _ 23 rfl w1.heap.size 3 i0 (.int .i64 0) 1 Tryz.underlying23 hi hz0 hz1 .i64 .i64 _ _ L.length rfl rfl rfl rfl (by rw [hz2]; omega) (by unfold maxLen; omega) (Nat.le_refl _) ?_; intro w2 hown hg2; obtain ⟨hB2, hl2⟩ := Block.of_owns hown; clear hown; go_simp)
  have hb2 : Below w1.heap.size w1 w2 := (Below.refl _ _).grown hg2 (by simp) (by simp)
  have hg0 := hB2.lt
  obtain ⟨cs0, hcs0, hsz0⟩ : ∃ cs0 : Array Value, Block w2 w1.heap.size cs0 ∧ cs0.size = L.length := ⟨_, hB2, by rw [List.size_toArray]; omega⟩
  clear hB2 hl2 hg2
  go_loopw [16] (fun i wr => ∃ (k : Nat) (ns : List Int) (cs : Array Value), k ≤ L.length ∧ i = .int .i64 k ∧ ns.length = k ∧ Hid (Pl.allInts (L.take k) = some ns) ∧ Hid (Block wr w1.heap.size cs) ∧ cs.size = L.length ∧ Hid (∀ (j : Nat) (x : Int), ns[j]? = some x → cs[j]? = some (.int .i64 x)) ∧ Below w1.heap.size w1 wr) (fun i _ => L.length - (intOf i).toNat)
  case atStart => exact ⟨0, [], cs0, Nat.zero_le _, rfl, rfl, Lib.hid rfl, Lib.hid hcs0, hsz0, Lib.hid (by simp), hb2⟩
  case round =>
    obtain ⟨k, ns, cs, hk, rfl, hnk, hA, hB, hsz, hcs, hbel⟩ := hrel
    have hbase := hbel.size
    by_cases hlt : k < L.length
    · obtain ⟨x, hx⟩ : ∃ x, L[k]? = some x := ⟨_, List.getElem?_eq_getElem hlt⟩
      have hcell : wr.cell? ⟨b, o + k, none⟩ = some (.string (bs x)) := by rw [hbel.cell (p := ⟨b, o + k, none⟩) hbl]; exact HC.out _ _ (strs_get hx)
      have hxl : (bs x).size ≤ 1000000 := by
        have := HMEM.out x (List.mem_of_getElem? hx)
        rw [bs_size]; omega
      have hT := Pl.allInts_take L k ns x hA.out hx
      have HT := Lib.hid hT; have HX := Lib.hid hx; clear hT hx
      have hcon := Atoi_any (bs x) wr (he1.below hbel) hxl
      rw [bs_list] at hcon
      go_wp2_with fail
      refine hcon.mono ?_
      rintro e w5 ⟨n, err, rfl, hE, hb5⟩
      have hB5 := Lib.hid (hB.out.below hb5)
      have c5 : ∃ u, w5.cell? ⟨w1.heap.size, k, none⟩ = some u := ⟨cs[k]'(by omega), by rw [hB5.out.cell k]; simp [hsz, hlt]⟩
      obtain ⟨u5, c5⟩ := c5
      have f5 := hB5.out.free k
      have hbel5 := hbel.trans (hb5.mono hbase)
      clear hcon hb5
      rcases hE with ⟨hn, rfl⟩ | ⟨hn, t, u, rfl⟩
      · have HT2 : Hid (Pl.allInts (L.take (k + 1)) = some (ns ++ [n])) := by have h := HT.out; rw [hn] at h; exact h
        clear hn
        go_wp2
        go_roundw
        case rel =>
          refine ⟨k + 1, ns ++ [n], cs.setIfInBounds k (.int .i64 n), by omega, by go_num, by simp; omega, HT2, Lib.hid (hB5.out.set k _), by simp [hsz], Lib.hid ?_, hbel5.trans (((ButBelow.refl w1.heap.size w5).setCell k (.int .i64 n)).own (Nat.le_refl _) hbel5.size)⟩
          intro j y hj
          rw [Array.getElem?_setIfInBounds]
          by_cases hjk : k = j
          · subst hjk
            rw [if_pos rfl, if_pos (by omega)]
            rw [← hnk, List.getElem?_concat_length] at hj
            injection hj with hj; rw [hj]
          · rw [if_neg hjk]
            have hjl : j < (ns ++ [n]).length := (List.getElem?_eq_some_iff.1 hj).1
            simp at hjl
            rw [List.getElem?_append_left (by omega)] at hj
            exact hcs.out j y hj
        case measure => simp [intOf]; omega
      · have HF : Hid (Pl.intsOf s = none) := by
          have h := HT.out; rw [hn] at h
          unfold Pl.intsOf; rw [HL.out, ← List.take_append_drop (k + 1) L]; exact Pl.allInts_none _ _ h
        clear hn
        go_wp2
        go_ret2
        exact ⟨none, 0, 0, .iface t u, rfl, Or.inr ⟨HF.out, t, u, rfl⟩, hb1.trans ((hbel5.trans (((ButBelow.refl w1.heap.size w5).setCell k (.int .i64 n)).own (Nat.le_refl _) hbel5.size)).mono hb1.size)⟩
    · obtain rfl : k = L.length := by omega
      have HF : Hid (Pl.intsOf s = some ns) := by
        have h := hA.out; rw [List.take_length] at h
        unfold Pl.intsOf; rw [HL.out]; exact h
      go_wp2
      go_ret2
      refine ⟨some ⟨w1.heap.size, 0, none⟩, L.length, L.length, .nilIface, rfl, Or.inl ⟨ns, HF.out, ⟨some ⟨w1.heap.size, 0, none⟩, L.length, by rw [ints_length, hnk], by rw [ints_length, hnk]; exact Nat.le_refl _, fun _ => ⟨w1.heap.size, 0, rfl, hB.out.lt, fun j y hj => ?_⟩⟩, fun j hj => ?_, rfl⟩, hb1.trans (hbel.mono hb1.size)⟩
      · rw [Nat.zero_add, hB.out.cell j]
        unfold ints at hj
        rw [List.getElem?_map] at hj
        cases hx : ns[j]? with
        | none => rw [hx] at hj; cases hj
        | some z => rw [hx] at hj; injection hj with hj; rw [← hj]; exact hcs.out j z hx
      · injection hj with hj; rw [← hj]; exact hb1.size
end Go.Proofs.YthkgjhnckakliaaGreatDoorR

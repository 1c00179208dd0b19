/- The contract of the reference's reader of a rule's part: the week's start, the days, and a key that is none. -/
import Derived.Test.YthkgjhnckakliaaGreatDoorRV08
import Derived.Test.YthkgjhnckakliaaGreatDoorRV07
import Derived.Deep.RegionHeld3
import Derived.Deep.RegionLaw
import Derived.Deep.AppendLies
namespace Go.Proofs.YthkgjhnckakliaaGreatDoorR
open Go.RowKit

set_option maxHeartbeats 4000000 in
set_option maxRecDepth 100000 in
theorem part_WKST (rb : Nat) (r : PR) (s : ByteArray) (w : World) (he : Env w) (hs : s.size ≤ 1000000) (hr : RuleAt w rb r) :
    Calls Tryz.prog 21 #[.pointer (some ⟨rb, 0, none⟩), .string ⟨#[87, 75, 83, 84]⟩, .string s] w (PartRes rb w (Pl.partOf r Pl.kWKST s.data.toList)) := by
  have hmf : ∀ (fn : Fn) (first cap : Array Value) (w : World), (Instr.makeFunc fn first cap).run Tryz.prog w = .ok (.func fn first cap) w := fun _ _ _ _ => rfl
  have hq : Pl.partOf r Pl.kWKST s.data.toList = match Pl.dayOf s.data.toList with | none => (r, 1) | some d => if d.2 != 0 then (r, 2) else ({ r with wkst := d.1 }, 0) := by
    unfold Pl.partOf; iterate 5 rw [if_neg (by decide)]
    rw [if_pos rfl]; rfl
  have HQ := Lib.hid hq; clear hq
  obtain ⟨v, hb, hp⟩ := hr
  have HB := Lib.hid hb; clear hb
  go_enter Tryz.func21, Tryz.ntmps21
  go_wp2_with fail
  refine (textDay_any s _ he hs).mono ?_
  rintro e w1 ⟨a, b, rfl, hd, hb1⟩
  have hB1 := HB.out.below hb1
  have c4 : w1.cell? ⟨rb, 4, none⟩ = some (.int .i64 r.wkst) := hB1.cell 4
  have f4 := hB1.free 4
  have hlt := hB1.lt
  have HB1 := Lib.hid hB1; clear hB1
  have hbb : ButBelow rb w w1 := ButBelow.of_below hb1
  cases hday : Pl.dayOf s.data.toList with
  | none =>
    have HQ2 : Hid (Pl.partOf r Pl.kWKST s.data.toList = (r, 1)) := by rw [HQ.out, hday]; rfl
    clear hd hday
    go_wp2_with (go_at_call 34; refine (told_any _ _).mono ?_; rintro e w' ⟨rfl, rfl⟩)
    go_ret
    refine ⟨by rw [HQ2.out]; rfl, (by rw [HQ2.out]; exact (fun h => by cases h)), ?_⟩
    exact (hbb.setCell _ _).alloc _
  | some d =>
    obtain ⟨rfl, rfl⟩ := hd d hday
    clear hd
    by_cases hz : d.2 = 0
    · have HQ2 : Hid (Pl.partOf r Pl.kWKST s.data.toList = ({ r with wkst := d.1 }, 0)) := by rw [HQ.out, hday]; simp only [hz]; rfl
      clear hday
      go_wp2_with (go_at_call 34; refine (told_any _ _).mono ?_; rintro e w' ⟨rfl, rfl⟩)
      go_ret
      refine ⟨by rw [HQ2.out]; rfl, ?_, (hbb.setCell _ _).alloc _⟩
      rw [HQ2.out]
      intro _
      have hp2 := hp.but ((hbb.setCell 4 (.int .i64 d.1)).alloc (.cells #[.int .i64 d.1, .int .i64 0] 69))
      exact ⟨v, (HB1.out.set 4 _).alloc _, ⟨hp2.setPos, hp2.month, hp2.monthDay, hp2.yearDay, hp2.weekNo, hp2.day, hp2.hour, hp2.minute, hp2.second, hp2.easter⟩⟩
    · have HQ2 : Hid (Pl.partOf r Pl.kWKST s.data.toList = (r, 2)) := by rw [HQ.out, hday]; simp only; rw [if_pos (by simpa using hz)]; rfl
      clear hday
      go_wp2_with (go_at_call 34; refine (told_any _ _).mono ?_; rintro e w' ⟨rfl, rfl⟩)
      go_ret
      refine ⟨by rw [HQ2.out]; rfl, (by rw [HQ2.out]; exact (fun h => by cases h)), ?_⟩
      exact hbb.alloc _

theorem Tryz.info69 : (Tryz.prog.info? 69).map (fun i => (i.zero, i.size, i.bytes)) = some (some (.agg #[.int .i64 0, .int .i64 0]), 2, 16) := by kernel_rfl

theorem Pl.allDays_take (l : List Bs) (k : Nat) (ns : List (Int × Int)) (x : Bs) (h : Pl.allDays (l.take k) = some ns) (hx : l[k]? = some x) :
    Pl.allDays (l.take (k + 1)) = match Pl.dayOf x with | none => none | some n => some (ns ++ [n]) := by
  induction l generalizing k ns with
  | nil => simp at hx
  | cons a l ih =>
    cases k with
    | zero =>
      simp at hx h; subst hx
      simp [Pl.allDays] at h; subst h
      simp only [List.take_succ_cons, List.take_zero, Pl.allDays]
      cases Pl.dayOf a <;> rfl
    | succ k =>
      simp only [List.take_succ_cons, Pl.allDays] at h ⊢
      cases ha : Pl.dayOf a with
      | none => rw [ha] at h; cases h
      | some n =>
        rw [ha] at h; simp only at h ⊢
        cases hr : Pl.allDays (l.take k) with
        | none => rw [hr] at h; cases h
        | some m =>
          rw [hr] at h; simp only [Option.some.injEq] at h; subst h
          rw [ih k m hr (by simpa using hx)]
          cases Pl.dayOf x <;> rfl
theorem Pl.allDays_none (l r : List Bs) (h : Pl.allDays l = none) : Pl.allDays (l ++ r) = none := by
  induction l with
  | nil => cases h
  | cons a l ih =>
    simp only [List.cons_append, Pl.allDays] at h ⊢
    cases ha : Pl.dayOf a with
    | none => rfl
    | some n =>
      rw [ha] at h; simp only at h ⊢
      cases hl : Pl.allDays l with
      | none => rw [ih hl]
      | some m => rw [hl] at h; cases h

/-- The cells of pairs. -/
def pairs (ps : List (Int × Int)) : List Value := ps.flatMap fun p => [.int .i64 p.1, .int .i64 p.2]
theorem pairs_snoc (ps : List (Int × Int)) (p : Int × Int) : pairs (ps ++ [p]) = pairs ps ++ [.int .i64 p.1, .int .i64 p.2] := by simp [pairs]
theorem pairs_get : ∀ (ps : List (Int × Int)) (i : Nat) (p : Int × Int), ps[i]? = some p → (pairs ps)[2 * i]? = some (.int .i64 p.1) ∧ (pairs ps)[2 * i + 1]? = some (.int .i64 p.2)
  | [], i, p, h => by simp at h
  | a :: r, 0, p, h => by simp at h; subst h; simp [pairs]
  | a :: r, i + 1, p, h => by
    have := pairs_get r i p (by simpa using h)
    have e1 : 2 * (i + 1) = 2 * i + 2 := by omega
    rw [e1]; simpa [pairs] using this
theorem RowP.of_owns {w : World} {base : Nat} {e : TypeId} {v : Value} {n : Nat} {ps : List (Int × Int)} (h : w.ownsRow base e 2 v n (pairs ps)) (hn : ps.length = n) : RowP w v ps := by
  obtain ⟨hl, h⟩ := h
  rcases h with ⟨rfl, rfl⟩ | ⟨g, cap, cur, rfl, hg, hh, hc, _, hs, ht⟩
  · have : ps = [] := List.eq_nil_of_length_eq_zero hn
    subst this; exact RowP.nil w
  · refine ⟨some ⟨g, 0, none⟩, cap, by rw [hn], by omega, fun _ => ⟨g, 0, rfl, ?_, fun i p hp => ?_⟩⟩
    · rcases Nat.lt_or_ge g w.heap.size with h | h
      · exact h
      · rw [Array.getElem?_eq_none h] at hh; cases hh
    · have hi : i < ps.length := (List.getElem?_eq_some_iff.1 hp).1
      obtain ⟨h1, h2⟩ := pairs_get ps i p hp
      rw [← ht, List.getElem?_take, if_pos (by omega)] at h1 h2
      simp only [World.cell?, hh, Nat.zero_add]
      exact ⟨by simpa using h1, by simpa using h2⟩

theorem ButBelow.grown {rb : Nat} {a w w' : World} {row : Option Nat} (h : ButBelow rb a w) (hg : w.grownBy w' row) (hr : ∀ k, row = some k → a.heap.size ≤ k) : ButBelow rb a w' :=
  ⟨hg.os.trans h.os, hg.tape.trans h.tape, hg.output.trans h.output, Nat.le_trans h.size hg.size, fun k hk hne => (hg.block k (Nat.lt_of_lt_of_le hk h.size) (fun e => by have := hr k e.symm; omega)).trans (h.block k hk hne)⟩
theorem Block.grown {w w' : World} {b : Nat} {cs : Array Value} {row : Option Nat} (h : Block w b cs) (hg : w.grownBy w' row) (hne : some b ≠ row) : Block w' b cs := by
  have hl := h.lt; obtain ⟨t, h⟩ := h; exact ⟨t, by rw [hg.block b hl hne]; exact h⟩
theorem SlI.form {rb : Nat} {w : World} {v : Value} {l : List Int} (h : SlI rb w v l) : ∃ a n c, v = .slice a n c := by
  obtain ⟨⟨a, c, h, _⟩, _⟩ := h; exact ⟨_, _, _, h⟩
theorem SlP.form {rb : Nat} {w : World} {v : Value} {l : List (Int × Int)} (h : SlP rb w v l) : ∃ a n c, v = .slice a n c := by
  obtain ⟨⟨a, c, h, _⟩, _⟩ := h; exact ⟨_, _, _, h⟩
/-- No cell of a rule holds a text. -/
theorem PRows.no_string {rb : Nat} {w : World} {r : PR} {v : PV} (h : PRows rb w r v) (o : Nat) (x : ByteArray) : (r.cells v)[o]? ≠ some (.string x) := by
  obtain ⟨_, _, _, e0⟩ := h.setPos.form; obtain ⟨_, _, _, e1⟩ := h.month.form; obtain ⟨_, _, _, e2⟩ := h.monthDay.form; obtain ⟨_, _, _, e3⟩ := h.yearDay.form; obtain ⟨_, _, _, e4⟩ := h.weekNo.form
  obtain ⟨_, _, _, e5⟩ := h.day.form; obtain ⟨_, _, _, e6⟩ := h.hour.form; obtain ⟨_, _, _, e7⟩ := h.minute.form; obtain ⟨_, _, _, e8⟩ := h.second.form; obtain ⟨_, _, _, e9⟩ := h.easter.form
  intro hc
  unfold PR.cells at hc
  rw [e0, e1, e2, e3, e4, e5, e6, e7, e8, e9] at hc
  rcases Nat.lt_or_ge o 18 with h | h
  · match o, h with
    | 0, _ | 1, _ | 2, _ | 3, _ | 4, _ | 5, _ | 6, _ | 7, _ | 8, _ | 9, _ | 10, _ | 11, _ | 12, _ | 13, _ | 14, _ | 15, _ | 16, _ | 17, _ => simp at hc
  · rw [Array.getElem?_eq_none (by simpa using h)] at hc; cases hc

set_option maxHeartbeats 4000000 in
set_option maxRecDepth 100000 in
theorem part_BYDAY (rb : Nat) (hrb : 20 ≤ rb) (r : PR) (s : ByteArray) (w : World) (he : Env w) (hs : s.size ≤ 1000000) (hr : RuleAt w rb r) :
    Calls Tryz.prog 21 #[.pointer (some ⟨rb, 0, none⟩), .string ⟨#[66, 89, 68, 65, 89]⟩, .string s] w (PartRes rb w (Pl.partOf r Pl.kBYDAY s.data.toList)) := by
  have hmf : ∀ (fn : Fn) (first cap : Array Value) (w : World), (Instr.makeFunc fn first cap).run Tryz.prog w = .ok (.func fn first cap) w := fun _ _ _ _ => rfl
  obtain ⟨i0, hi, hz0, hz1, hz2⟩ := info_parts Tryz.info69
  have hq : Pl.partOf r Pl.kBYDAY s.data.toList = match Pl.allDays (Pl.split 44 s.data.toList) with | none => (r, 1) | some l => ({ r with day := l }, 0) := by
    unfold Pl.partOf; iterate 6 rw [if_neg (by decide)]
    rw [if_pos rfl]; rfl
  have HQ := Lib.hid hq; clear hq
  obtain ⟨v, hb, hp⟩ := hr
  have c13 : w.cell? ⟨rb, 13, none⟩ = some v.day := hb.cell 13
  have f13 := hb.free 13
  have hlt := hb.lt
  have HB := Lib.hid hb; clear hb
  have hlen := Pl.split_length 44 s.data.toList
  have hlen2 : (Pl.split 44 s.data.toList).length ≤ 1000001 := by simp at hlen; omega
  clear hlen
  have HMEM := Lib.hid (Pl.split_mem_length 44 s.data.toList)
  have hne := Pl.split_ne 44 s.data.toList
  go_enter Tryz.func21, Tryz.ntmps21
  go_wp2_with fail
  refine (textSplit_any s 44 _ hs).mono ?_
  rintro e w1 ⟨vs, rfl, hrow, hb1⟩
  obtain ⟨b, o, cap, rfl, hbl, hcap, hc⟩ := hrow.open (strs_ne hne)
  rw [strs_length] at hcap ⊢
  have hnb : b ≠ rb := by
    rintro rfl
    obtain ⟨x, hx⟩ : ∃ x, (Pl.split 44 s.data.toList)[0]? = some x := ⟨_, List.getElem?_eq_getElem (List.length_pos_iff.2 hne)⟩
    have h1 := hc 0 _ (strs_get hx)
    have hsame := hb1.cell (p := ⟨b, o + 0, none⟩) (by simpa using hlt)
    rw [h1] at hsame
    have h2 := (HB.out.set 13 (.slice none 0 0)).cell (o + 0)
    rw [← hsame] at h2
    have hp2 := hp.but ((ButBelow.refl b w).setCell 13 (.slice none 0 0))
    exact PRows.no_string (r := { r with day := [] }) (v := { v with day := .slice none 0 0 }) ⟨hp2.setPos, hp2.month, hp2.monthDay, hp2.yearDay, hp2.weekNo, SlP.nil _ _, hp2.hour, hp2.minute, hp2.second, hp2.easter⟩ (o + 0) _ h2.symm
  have HC := Lib.hid hc; clear hc hrow
  have hB1 : Block w1 rb (r.cells { v with day := .slice none 0 0 }) := (HB.out.set 13 (.slice none 0 0)).below hb1
  have hbb1 : ButBelow rb w w1 := ((ButBelow.refl rb w).setCell 13 _).below hb1
  have hw1 : w.heap.size ≤ w1.heap.size := hbb1.size
  go_wp2
  generalize hL : Pl.split 44 s.data.toList = L at *
  have HL := Lib.hid hL; clear hL c13 f13
  have HB1 := Lib.hid hB1; clear hB1
  go_loopw [125] (fun i wr => ∃ (k : Nat) (ps : List (Int × Int)) (a : Option Addr) (n c : Nat), k ≤ L.length ∧ i = .int .i64 k ∧ n = k ∧ Hid (ps.length = k) ∧ Hid (Pl.allDays (L.take k) = some ps) ∧
      wr.ownsRow w1.heap.size 69 2 (.slice a n c) n (pairs ps) ∧ Hid (Block wr rb (r.cells { v with day := .slice a n c })) ∧ ButBelow rb w1 wr) (fun i _ => L.length - (intOf i).toNat)
  case atStart => exact ⟨0, [], none, 0, 0, Nat.zero_le _, rfl, rfl, Lib.hid rfl, Lib.hid rfl, World.ownsRow_nil _ _ _ _, HB1, ButBelow.refl _ _⟩
  case round =>
    obtain ⟨k, ps, a, n, c, hk, rfl, rfl, hpk, hA, hown, hBr, hbel⟩ := hrel
    have hbase := hbel.size
    by_cases hlt2 : n < L.length
    · obtain ⟨x, hx⟩ : ∃ x, L[n]? = some x := ⟨_, List.getElem?_eq_getElem hlt2⟩
      have hcell : wr.cell? ⟨b, o + n, none⟩ = some (.string (bs x)) := by rw [World.cell?_of_block (w := w1) (hbel.block b hbl hnb)]; exact HC.out _ _ (strs_get hx)
      have hxl : (bs x).size ≤ 1000000 := by
        have := HMEM.out x (List.mem_of_getElem? hx)
        rw [bs_size]; simp at this; omega
      have HT := Lib.hid (Pl.allDays_take L n ps x hA.out hx); have HX := Lib.hid hx; clear hx
      have her : Env wr := he.but hrb (hbb1.trans hbel)
      have hcon := textDay_any (bs x) wr her hxl
      rw [bs_list] at hcon
      cases hday : Pl.dayOf x with
      | none =>
        have HF : Hid (Pl.partOf r Pl.kBYDAY s.data.toList = (r, 1)) := by
          have h := HT.out; rw [hday] at h
          have h2 : Pl.allDays L = none := by rw [← List.take_append_drop (n + 1) L]; exact Pl.allDays_none _ _ h
          rw [HQ.out, h2]; rfl
        rw [hday] at hcon; clear hday
        go_wp2_with fail
        refine hcon.mono ?_
        rintro e w2 ⟨da, db, rfl, _, hb2⟩
        go_wp2
        go_ret
        refine ⟨by rw [HF.out]; rfl, (by rw [HF.out]; exact (fun h => by cases h)), ?_⟩
        exact ((hbb1.trans hbel).below hb2).alloc _
      | some d =>
        have HD := Lib.hid hday; 
        have HT2 : Hid (Pl.allDays (L.take (n + 1)) = some (ps ++ [d])) := by have h := HT.out; rw [hday] at h; exact h
        rw [hday] at hcon; clear hday
        go_wp2_with fail
        refine hcon.mono ?_
        rintro e w2 ⟨da, db, rfl, hd, hb2⟩
        obtain ⟨rfl, rfl⟩ := hd d rfl
        clear hd
        have hB2 := hBr.out.below hb2
        have hsz2 := hb2.size
        have hrlt := hB2.lt
        have k13 : w2.cell? ⟨rb, 13, none⟩ = some (.slice a n c) := hB2.cell 13
        have q13 : w2.frozen? ⟨rb, 13, none⟩ = false := hB2.free 13
        have hg2 : wr.grownBy w2 none := ⟨hb2.os, hb2.tape, hb2.output, hb2.size, fun j hj _ => hb2.block j hj⟩
        have hown2 : w2.ownsRow w1.heap.size 69 2 (.slice a n c) n (pairs ps) := hown.kept hg2 (by rcases (Value.slice a n c).ownBlock with _ | j; exact Or.inl rfl; exact Or.inr (by simp))
        have hlow := hown.lt
        have HG2 := Lib.hid hg2; clear hg2
        have HOWN := Lib.hid (((hown2.alloc (.cells #[.int .i64 d.1, .int .i64 d.2] 69)).alloc (.cells #[.int .i64 d.1, .int .i64 d.2] 69)).drew)
        have HLOW := Lib.hid hlow; clear hlow hown hown2
        have hrb1 : rb < w1.heap.size := HB1.out.lt
        have HNEWS : Hid (∀ j u, [Value.int .i64 d.1, .int .i64 d.2][j]? = some u → ((w2.alloc (.cells #[.int .i64 d.1, .int .i64 d.2] 69)).alloc (.cells #[.int .i64 d.1, .int .i64 d.2] 69)).drew.cell? ((⟨w2.heap.size + 1, 0, none⟩ : Addr).add j) = some u) := by
          intro j u hj
          match j, hj with
          | 0, hj => simp at hj; subst hj; simp [Addr.add]
          | 1, hj => simp at hj; subst hj; simp [Addr.add]
        have HONE : Hid (∀ u ∈ [Value.int .i64 d.1, .int .i64 d.2], u.oneCell' = true) := by
          intro u hu; simp at hu; rcases hu with rfl | rfl <;> rfl
        have hB3 : Hid (Block ((w2.alloc (.cells #[.int .i64 d.1, .int .i64 d.2] 69)).alloc (.cells #[.int .i64 d.1, .int .i64 d.2] 69)).drew rb (r.cells { v with day := .slice a n c })) := ((hB2.alloc _).alloc _).drew
        have HE : Hid (∀ w3, ((w2.alloc (.cells #[.int .i64 d.1, .int .i64 d.2] 69)).alloc (.cells #[.int .i64 d.1, .int .i64 d.2] 69)).drew.grownBy w3 (Value.slice a n c).ownBlock →
            w3.cell? ⟨rb, 13, none⟩ = some (.slice a n c) ∧ w3.frozen? ⟨rb, 13, none⟩ = false ∧ w3.cell? ⟨w2.heap.size, 0, none⟩ = some (.int .i64 d.1) ∧ w3.cell? ⟨w2.heap.size, 1, none⟩ = some (.int .i64 d.2) ∧ Hid (Block w3 rb (r.cells { v with day := .slice a n c })) ∧ ButBelow rb w1 w3) := by
          intro w3 hgrow
          have n1 : some rb ≠ (Value.slice a n c).ownBlock := fun h => by have := HLOW.out rb h.symm; omega
          have n2 : some w2.heap.size ≠ (Value.slice a n c).ownBlock := fun h => by have := HLOW.out _ h.symm; omega
          refine ⟨hgrow.cell (hB3.out.cell 13) n1, ?_, hgrow.cell (by simp) n2, hgrow.cell (by simp) n2, hB3.out.grown hgrow n1, ButBelow.grown (((((hbel.below hb2).alloc _).alloc _).drew)) hgrow (fun j hj => (HLOW.out j hj).1)⟩
          rw [World.frozen?_of_block (a := ⟨rb, 13, none⟩) (hgrow.block rb hB3.out.lt n1)]
          exact hB3.out.free 13
        have HB2 := Lib.hid hB2; clear hB2
        go_wp2
        go_region_law (first | (refine step_append_lies _ rfl (.tmp 140) (.tmp 142) 24 rfl w1.heap.size 69 i0 (.agg #[.int .i64 0, .int .i64 0]) 2 16 Tryz.underlying24 hi hz0 hz1 hz2 rfl (by decide) (.slice a n c) n (pairs ps) rfl HOWN.out ⟨w2.heap.size + 1, 0, none⟩ 1 1 [.int .i64 d.1, .int .i64 d.2] rfl rfl HNEWS.out HONE.out (by decide) (by unfold maxLen; omega) (by omega) (by simp; omega) (w2.heap.size + 2) (by simp) ?_; intro g cp w3 hown3 hgrow hat hg3; obtain ⟨e13, z13, e0, e1, hB4, hbb4⟩ := HE.out _ hgrow))
        all_goals go_wp2
        all_goals
          refine ⟨⟨n + 1, ps ++ [d], some ⟨g, 0, none⟩, n + 1, cp, by omega, by go_num, rfl, ?_, HT2, ?_, hB4.out.set 13 _, hbb4.setCell _ _⟩, by simp [intOf]; omega⟩
          · have := hpk.out; simp [Hid]; omega
          · rw [pairs_snoc]; exact ownsRow_setCell_below hown3 hrb1 _
    · obtain rfl : n = L.length := by omega
      have HF : Hid (Pl.partOf r Pl.kBYDAY s.data.toList = ({ r with day := ps }, 0)) := by
        have h := hA.out; rw [List.take_length] at h
        rw [HQ.out, h]; rfl
      go_wp2
      go_ret
      refine ⟨by rw [HF.out]; rfl, ?_, hbb1.trans hbel⟩
      rw [HF.out]
      intro _
      have hp2 := hp.but (hbb1.trans hbel)
      refine ⟨_, hBr.out, ⟨hp2.setPos, hp2.month, hp2.monthDay, hp2.yearDay, hp2.weekNo, ⟨RowP.of_owns hown hpk.out, fun k e => ?_⟩, hp2.hour, hp2.minute, hp2.second, hp2.easter⟩⟩
      have := (hown.lt k e).1; have := HB1.out.lt; omega

end Go.Proofs.YthkgjhnckakliaaGreatDoorR

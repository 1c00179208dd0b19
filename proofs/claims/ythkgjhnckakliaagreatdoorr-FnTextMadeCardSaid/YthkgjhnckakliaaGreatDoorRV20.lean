/- The contract of the reference's reader of a rule's text. -/
import Derived.Test.YthkgjhnckakliaaGreatDoorRV19
import Derived.Test.YthkgjhnckakliaaGreatDoorRV08
import Derived.StillTailTactics
namespace Go.Proofs.YthkgjhnckakliaaGreatDoorR
open Go.RowKit

namespace Pl
def rrule : Bs := [82, 82, 85, 76, 69, 58]
/-- The parts of a rule's text, one behind the other. -/
def partsOf : List Bs → PR → Bool → PR × Nat
  | [], r, freq => if freq then (r, 0) else ({}, 1)
  | p :: ps, r, freq => match split 61 p with
    | [k, v] => if v = [] then ({}, 1) else if (partOf r k v).2 = 0 then partsOf ps (partOf r k v).1 (freq || decide (k = kFREQ)) else ({}, (partOf r k v).2)
    | _ => ({}, 1)
/-- One part of a rule's text, split at the sign. -/
def partStep (P ps : List Bs) (r : PR) (freq : Bool) : PR × Nat := match P with
    | [k, v] => if v = [] then ({}, 1) else if (partOf r k v).2 = 0 then partsOf ps (partOf r k v).1 (freq || decide (k = kFREQ)) else ({}, (partOf r k v).2)
    | _ => ({}, 1)
theorem partStep_not2 (P ps : List Bs) (r : PR) (freq : Bool) (h : P.length ≠ 2) : partStep P ps r freq = ({}, 1) := by
  match P, h with
  | [], _ => rfl
  | [_], _ => rfl
  | [_, _], h => simp at h
  | _ :: _ :: _ :: _, _ => rfl
/-- A rule's text: the rule, and 0 (right), 1 (wrong) or 2 (left open). -/
def option (s : Bs) : PR × Nat :=
  if ascii s then
    match split 10 (Lib.trimSpace s) with
    | [t] => partsOf (split 59 (Lib.trimPrefix t rrule)) {} false
    | [l, t] =>
      if isStart l then
        if (tstart (l.drop 8)).2 = 0 then partsOf (split 59 (Lib.trimPrefix t rrule)) { start := (tstart (l.drop 8)).1, hasStart := (tstart (l.drop 8)).1 != 0 } false
        else ({}, (tstart (l.drop 8)).2)
      else ({}, 1)
    | _ => ({}, 1)
  else ({}, 2)
end Pl

theorem drop_get {l : List Bs} {k : Nat} {x : Bs} (h : l[k]? = some x) : l.drop k = x :: l.drop (k + 1) := by
  obtain ⟨hk, h2⟩ := List.getElem?_eq_some_iff.1 h
  rw [List.drop_eq_getElem_cons hk, h2]
theorem Pl.isStart_len {l : Bs} (h : Pl.isStart l = true) : 8 ≤ l.length := by
  unfold Pl.isStart at h
  obtain ⟨h1, h2⟩ := of_decide_eq_true h
  have h3 := congrArg List.length h1
  have h4 := congrArg List.length (List.takeWhile_append_dropWhile (p := fun c => !Pl.isEnd c) (l := Lib.toUpperA (Lib.trimSpace l)))
  have h5 : 0 < ((Lib.toUpperA (Lib.trimSpace l)).dropWhile (fun c => !Pl.isEnd c)).length := List.length_pos_iff.2 h2
  have h6 : Pl.dtstart.length = 7 := rfl
  have h7 : (Lib.toUpperA (Lib.trimSpace l)).length = (Lib.trimSpace l).length := by simp [Lib.toUpperA]
  have h8 := trim_length l
  rw [List.length_append] at h4
  omega
theorem bs_isEmpty (s : Bs) : (bs s).toList.isEmpty = decide (s = []) := by
  rw [← str_ne_lit]; cases (bs s).toList <;> rfl
def zeroRule : Array Value := #[.int .u8 0, .bool false, .int .i64 0, .int .i64 0, .int .i64 0, .int .i64 0, .bool false, .int .i64 0, .slice none 0 0, .slice none 0 0, .slice none 0 0, .slice none 0 0, .slice none 0 0, .slice none 0 0, .slice none 0 0, .slice none 0 0, .slice none 0 0, .slice none 0 0]
theorem zeroRule_one : zeroRule.all (·.oneCell') = true := by simp [zeroRule, Value.oneCell']
theorem PRows.one {rb : Nat} {w : World} {r : PR} {v : PV} (h : PRows rb w r v) : (r.cells v).all (·.oneCell') = true := by
  obtain ⟨_, _, _, e0⟩ := h.setPos.form; obtain ⟨_, _, _, e1⟩ := h.month.form; obtain ⟨_, _, _, e2⟩ := h.monthDay.form; obtain ⟨_, _, _, e3⟩ := h.yearDay.form; obtain ⟨_, _, _, e4⟩ := h.weekNo.form
  obtain ⟨_, _, _, e5⟩ := h.day.form; obtain ⟨_, _, _, e6⟩ := h.hour.form; obtain ⟨_, _, _, e7⟩ := h.minute.form; obtain ⟨_, _, _, e8⟩ := h.second.form; obtain ⟨_, _, _, e9⟩ := h.easter.form
  unfold PR.cells
  rw [e0, e1, e2, e3, e4, e5, e6, e7, e8, e9]
  simp [Value.oneCell']
def vnil : Value := .slice none 0 0
def PV.nil : PV := ⟨vnil, vnil, vnil, vnil, vnil, vnil, vnil, vnil, vnil, vnil⟩
theorem PRows.nil (rb : Nat) (w : World) : PRows rb w {} PV.nil := ⟨SlI.nil _ _, SlI.nil _ _, SlI.nil _ _, SlI.nil _ _, SlI.nil _ _, SlP.nil _ _, SlI.nil _ _, SlI.nil _ _, SlI.nil _ _, SlI.nil _ _⟩
theorem store_own {w w' : World} {o : Obj} (h : ButBelow w.heap.size (w.alloc o) w') : Below w.heap.size w w' :=
  ((Below.refl _ _).alloc (Nat.le_refl _) _).trans (h.own (Nat.le_refl _) (by simp))
theorem Block.but {rb b : Nat} {w w' : World} {cs : Array Value} (h : Block w b cs) (hne : b ≠ rb) (hb : ButBelow rb w w') : Block w' b cs := by
  have hl := h.lt; obtain ⟨t, h⟩ := h; exact ⟨t, by rw [hb.block b hl hne]; exact h⟩
/-- A rule by value, with an outcome. -/
def OptRes (w : World) (q : PR × Nat) (e : Ending) (w' : World) : Prop :=
  ∃ (v : PV) (rb : Nat), e = .returned (.tuple #[.agg (q.1.cells v), .int .u8 (q.2 : Nat)]) ∧ PRows rb w' q.1 v ∧ Below w.heap.size w w'
/-- The zero rule, with an outcome. -/
theorem OptRes.zero {w : World} {q : PR × Nat} {w' : World} {o : Nat} (hq : q = ({}, o)) (hb : Below w.heap.size w w') : OptRes w q (.returned (.tuple #[.agg (({} : PR).cells PV.nil), .int .u8 (o : Nat)])) w' :=
  ⟨PV.nil, 0, by rw [hq], by rw [hq]; exact PRows.nil _ _, hb⟩

set_option maxHeartbeats 4000000 in
set_option maxRecDepth 100000 in
theorem ParseOption_any (s : ByteArray) (w : World) (he : Env w) (hw : 20 ≤ w.heap.size) (hs : s.size ≤ 1000000) :
    Calls Tryz.prog 5 #[.string s] w (OptRes w (Pl.option s.data.toList)) := by
  cases ha : Pl.ascii s.data.toList with
  | false =>
    have HFIN : Hid (Pl.option s.data.toList = ({}, 2)) := by unfold Pl.option; rw [ha]; rfl
    have hB0 : Block (w.alloc (.cells zeroRule 26)) w.heap.size zeroRule := ⟨26, heap_alloc_new w _⟩
    have hb0 : Below w.heap.size w (w.alloc (.cells zeroRule 26)) := (Below.refl _ _).alloc (Nat.le_refl _) _
    have HB0 := Lib.hid hB0; clear hB0
    unfold zeroRule at HB0 hb0
    go_enter Tryz.func5, Tryz.ntmps5
    go_wp2_with fail
    generalize w.alloc (.cells _ 26) = w0 at *
    change Hid (Block w0 w.heap.size zeroRule) at HB0
    go_wp2_with (first | (go_at_call 15; refine (textASCII_any _ _ hs).mono ?_; rintro e w' ⟨rfl, rfl⟩) | (refine wpList_store_block rfl 26 _ _ rfl w.heap.size zeroRule zeroRule rfl rfl HB0.out rfl (by kernel_rfl) zeroRule_one ?_; intro w1 hB1 hbb1))
    refine bodyPost_ret (v := .tuple #[.agg (({} : PR).cells PV.nil), .int .u8 2]) (results_block_tmp Tryz.results5 _ _ w.heap.size zeroRule _ rfl hB1 Tryz.underlying26 rfl (by kernel_rfl)) rfl (OptRes.zero (o := 2) HFIN.out ?_)
    exact hb0.trans (hbb1.own (Nat.le_refl _) hb0.size)
  | true =>
    have HFIN : Hid (Pl.option s.data.toList = match Pl.split 10 (Lib.trimSpace s.data.toList) with
      | [t] => Pl.partsOf (Pl.split 59 (Lib.trimPrefix t Pl.rrule)) {} false
      | [l, t] =>
        if Pl.isStart l then
          if (Pl.tstart (l.drop 8)).2 = 0 then Pl.partsOf (Pl.split 59 (Lib.trimPrefix t Pl.rrule)) { start := (Pl.tstart (l.drop 8)).1, hasStart := (Pl.tstart (l.drop 8)).1 != 0 } false
          else ({}, (Pl.tstart (l.drop 8)).2)
        else ({}, 1)
      | _ => ({}, 1)) := by unfold Pl.option; rw [ha]; rfl
    have htl := trim_length s.data.toList
    have htl2 : (bs (Lib.trimSpace s.data.toList)).size ≤ 1000000 := by rw [bs_size]; simp at htl; omega
    have hlen := Pl.split_length 10 (Lib.trimSpace s.data.toList)
    have hlen2 : (Pl.split 10 (Lib.trimSpace s.data.toList)).length ≤ 1000001 := by simp at htl; omega
    have HMEM : Hid (∀ x ∈ Pl.split 10 (Lib.trimSpace s.data.toList), x.length ≤ 1000000) := fun x hx => by
      have := Pl.split_mem_length 10 _ x hx; simp at htl; omega
    clear htl hlen
    have hne := Pl.split_ne 10 (Lib.trimSpace s.data.toList)
    have hBa : Hid (∀ w' : World, Block (w'.alloc (.cells zeroRule 26)) w'.heap.size zeroRule) := fun w' => ⟨26, heap_alloc_new w' _⟩
    have hB0 : Block (w.alloc (.cells zeroRule 26)) w.heap.size zeroRule := ⟨26, heap_alloc_new w _⟩
    have hb0 : Below w.heap.size w (w.alloc (.cells zeroRule 26)) := (Below.refl _ _).alloc (Nat.le_refl _) _
    have hs0 : w.heap.size < (w.alloc (.cells zeroRule 26)).heap.size := by simp
    have HB0 := Lib.hid hB0; clear hB0
    unfold zeroRule at HB0 hb0 hs0
    go_enter Tryz.func5, Tryz.ntmps5
    go_wp2_with fail
    generalize w.alloc (.cells _ 26) = w0 at *
    change Hid (Block w0 w.heap.size zeroRule) at HB0
    go_wp2_with (go_at_call 15; refine (textASCII_any _ _ hs).mono ?_; rintro e w' ⟨rfl, rfl⟩)
    refine (textTrim_any s _ hs).mono ?_
    rintro e w1 ⟨rfl, hb1⟩
    go_wp2_with fail
    refine (textSplit_any _ 10 _ htl2).mono ?_
    rw [bs_list]
    rintro e w2 ⟨v, rfl, hrow, hb2⟩
    obtain ⟨b, o, cap, rfl, hbl, hcap, hc⟩ := hrow.open (strs_ne hne)
    rw [strs_length] at hcap ⊢
    have HC := Lib.hid hc; clear hc hrow
    generalize Pl.split 10 (Lib.trimSpace s.data.toList) = L at *
    have he2 : Env w2 := ((he.below hb0).below (hb1.mono (Nat.le_refl _))).below (hb2.mono (Nat.le_refl _))
    have hbw : Below w.heap.size w w2 := (hb0.trans (hb1.mono hb0.size)).trans (hb2.mono (Nat.le_trans hb0.size hb1.size))
    have hBw : Hid (Block w2 w.heap.size zeroRule) := (HB0.out.below hb1).below hb2
    have hsw : w.heap.size < w2.heap.size := Nat.lt_of_lt_of_le hs0 (Nat.le_trans hb1.size hb2.size)
    clear HB0 hb0 hb1 hb2 hs0 ha htl2
    match L, hne with
    | [t], _ =>
      have c0 : w2.cell? ⟨b, o, none⟩ = some (.string (bs t)) := by simpa using HC.out 0 _ (strs_get (l := t) rfl)
      go_wp2_with (refine wpList_store_block rfl 26 (.tmp 5) (.tmp 23) rfl _ zeroRule zeroRule rfl rfl (hBa.out _) rfl (by kernel_rfl) zeroRule_one ?_; intro wr hB3 hbb3; have hb23 := store_own hbb3; have k0 : wr.cell? ⟨b, o, none⟩ = some (.string (bs t)) := (hb23.cell (p := ⟨b, o, none⟩) hbl).trans c0; have HB3 := Lib.hid hB3; clear hB3)
      have htl : (bs t).size ≤ 1000000 := by rw [bs_size]; exact HMEM.out t (by simp)
      have hRr : Hid (RuleAt wr w2.heap.size {}) := ⟨PV.nil, HB3.out, PRows.nil _ _⟩
      have hBwr : Hid (Block wr w.heap.size zeroRule) := hBw.out.below hb23
      have hbwr : Below w.heap.size w wr := hbw.trans (hb23.mono (Nat.le_of_lt hsw))
      have her : Env wr := he2.below hb23
      have hrbl : w2.heap.size < wr.heap.size := HB3.out.lt
      have hrb21 : 20 ≤ w2.heap.size := by omega
      have hwrb : w.heap.size < w2.heap.size := hsw
      clear hBw hbw he2 hbb3 hb23 HMEM HC k0 c0 hbl hcap hlen2 he HB3
      generalize w2.heap.size = rb at *
      change Hid (_ = Pl.partsOf (Pl.split 59 (Lib.trimPrefix t Pl.rrule)) {} false) at HFIN
      have hbeg := textBegins_any (bs t) ⟨#[82, 82, 85, 76, 69, 58]⟩ wr
      rw [bs_list] at hbeg
      have hTP : ∀ p : Bool, Lib.hasPrefix t [82, 82, 85, 76, 69, 58] = p → Lib.trimPrefix t Pl.rrule = if p then t.drop 6 else t := fun p hp => by unfold Lib.trimPrefix Pl.rrule; rw [hp]; rfl
      obtain ⟨T, hT, hTl⟩ : ∃ T : Bs, Lib.trimPrefix t Pl.rrule = T ∧ T.length ≤ 1000000 := ⟨_, rfl, by
        have := hTP _ rfl; rw [this]; rw [bs_size] at htl; split
        · simp; omega
        · exact htl⟩
      rw [hT] at HFIN
      have HT := Lib.hid hT; clear hT
      have HTP := Lib.hid hTP; clear hTP
      have hTs : (bs T).size ≤ 1000000 := by rw [bs_size]; exact hTl
      have hspl := textSplit_any (bs T) 59 wr hTs
      rw [bs_list] at hspl
      cases hp : Lib.hasPrefix t [82, 82, 85, 76, 69, 58]
      · have HE : Hid (bs t = bs T) := by rw [← HT.out, HTP.out _ hp]; rfl
        have hbeg2 : Calls Tryz.prog 20 #[.string (bs t), .string ⟨#[82, 82, 85, 76, 69, 58]⟩] wr fun e w' => e = .returned (.bool false) ∧ wr = w' := by rw [← hp]; exact hbeg
        have hspl2 : Calls Tryz.prog 16 #[.string (bs t), .int .u8 59] wr fun e w' => ∃ v, e = .returned v ∧ Row w' v (strs (Pl.split 59 T)) ∧ Below wr.heap.size wr w' := by rw [HE.out]; exact hspl
        clear hbeg hspl hp
        go_wp2_with (go_at_call 20; refine hbeg2.mono ?_; rintro e w' ⟨rfl, rfl⟩)
        refine hspl2.mono ?_
        clear hbeg2 hspl2
        rintro e wq ⟨v2, rfl, hrow2, hbq⟩
        have hne2 := Pl.split_ne 59 T
        have hlen2 := Pl.split_length 59 T
        have HMEM2 := Lib.hid (Pl.split_mem_length 59 T)
        generalize Pl.split 59 T = L2 at *
        obtain ⟨b2, o2, cap2, rfl, hbl2, hcap2, hc2⟩ := hrow2.open (strs_ne hne2)
        rw [strs_length] at hcap2 ⊢
        have hRq : Hid (RuleAt wq rb _) := hRr.out.below hbq
        have hnb2 : b2 ≠ rb := by
          rintro rfl
          obtain ⟨x, hx⟩ : ∃ x, L2[0]? = some x := ⟨_, List.getElem?_eq_getElem (List.length_pos_iff.2 hne2)⟩
          obtain ⟨vv, hBB, hPP⟩ := hRq.out
          have h1 := hc2 0 _ (strs_get hx)
          rw [hBB.cell] at h1
          exact hPP.no_string _ _ h1
        have HC2 := Lib.hid hc2; clear hc2 hrow2
        have hBq : Hid (Block wq w.heap.size zeroRule) := hBwr.out.below hbq
        have hbwq : Below w.heap.size w wq := hbwr.trans (hbq.mono hbwr.size)
        have heq : Env wq := her.below hbq
        have hrq : rb < wq.heap.size := Nat.lt_of_lt_of_le hrbl hbq.size
        clear hRr hBwr hbwr her hbq hTs hrbl HTP HT
        have HBT : Hid (∀ wl, ButBelow rb wq wl → Below w.heap.size w wl ∧ Block wl w.heap.size zeroRule ∧ Env wl) := fun wl hbl =>
          ⟨hbwq.trans (hbl.own (Nat.le_of_lt hwrb) hbwq.size), hBq.out.but (Nat.ne_of_lt hwrb) hbl, heq.but hrb21 hbl⟩
        clear hBq heq
        go_wp2
        go_loopw [11, 78] (fun f i wl => ∃ (k : Nat) (r : PR) (fq : Bool), k ≤ L2.length ∧ i = .int .i64 k ∧ f = .bool fq ∧ Hid (Pl.option s.data.toList = Pl.partsOf (L2.drop k) r fq) ∧ Hid (RuleAt wl rb r) ∧ ButBelow rb wq wl) (fun _ i _ => L2.length - (intOf i).toNat)
        case atStart => exact ⟨0, _, false, Nat.zero_le _, rfl, rfl, HFIN, hRq, ButBelow.refl _ _⟩
        case round =>
          obtain ⟨k, r, fq, hk, rfl, rfl, hF, hR, hbl⟩ := hrel
          obtain ⟨hbw, hBz0, hel⟩ := HBT.out _ hbl
          have HBZ0 := Lib.hid hBz0; clear hBz0
          have hsl := hbl.size
          have hrl : rb < _ := Nat.lt_of_lt_of_le hrq hsl
          by_cases hlt : k < L2.length
          · obtain ⟨x, hx⟩ : ∃ x, L2[k]? = some x := ⟨_, List.getElem?_eq_getElem hlt⟩
            have hcell : wr.cell? ⟨b2, o2 + k, none⟩ = some (.string (bs x)) := by rw [World.cell?_of_block (w := wq) (hbl.block b2 hbl2 hnb2)]; exact HC2.out _ _ (strs_get hx)
            have hxT := HMEM2.out x (List.mem_of_getElem? hx)
            have hxl : (bs x).size ≤ 1000000 := by rw [bs_size]; omega
            have hF3 : Hid (Pl.option s.data.toList = Pl.partStep (Pl.split 61 x) (L2.drop (k + 1)) r fq) := by rw [hF.out, drop_get hx]; rfl
            have hspl3 := textSplit_any (bs x) 61 wr hxl
            rw [bs_list] at hspl3
            clear hF HBZ0 hx
            go_wp2_with fail
            refine hspl3.mono ?_
            rintro e wm ⟨v3, rfl, hrow3, hb3⟩
            have hne3 := Pl.split_ne 61 x
            have HM3 := Lib.hid (Pl.split_mem_length 61 x)
            generalize Pl.split 61 x = P at *
            obtain ⟨b3, o3, cap3, rfl, hbl3, hcap3, hc3⟩ := hrow3.open (strs_ne hne3)
            rw [strs_length] at hcap3 ⊢
            have HC3 := Lib.hid hc3; clear hc3 hrow3 hspl3
            have hblm := hbl.below hb3
            obtain ⟨hbwm, hBzm, hem⟩ := HBT.out _ hblm
            have HBZM := Lib.hid hBzm; clear hBzm
            have hRm : Hid (RuleAt wm rb r) := hR.out.below hb3
            clear hR hb3
            by_cases hP2 : P.length = 2
            · match P, hP2 with
              | [key, val], _ =>
                have c0 : wm.cell? ⟨b3, o3, none⟩ = some (.string (bs key)) := by simpa using HC3.out 0 _ (strs_get (l := key) rfl)
                have c1 : wm.cell? ⟨b3, o3 + 1, none⟩ = some (.string (bs val)) := HC3.out 1 _ (strs_get (l := val) rfl)
                have hvl : (bs val).size ≤ 1000000 := by
                  have := HM3.out val (by simp); rw [bs_size]; omega
                by_cases hv0 : val = []
                · subst hv0
                  have hF4 : Hid (Pl.option s.data.toList = ({}, 1)) := by rw [hF3.out]; rfl
                  have v0 : (bs []).toList.isEmpty = true := by rw [bs_isEmpty]; rfl
                  go_wp2_with (refine wpList_store_block rfl 26 (.tmp 2) _ rfl w.heap.size zeroRule zeroRule rfl rfl (HBZM.out) rfl (by kernel_rfl) zeroRule_one ?_; intro wz hBz hbbz)
                  refine bodyPost_ret (v := .tuple #[.agg (({} : PR).cells PV.nil), .int .u8 (1 : Nat)]) (results_block_tmp Tryz.results5 _ _ w.heap.size zeroRule _ rfl hBz Tryz.underlying26 rfl (by kernel_rfl)) rfl (OptRes.zero (o := 1) (hF4.out) ?_)
                  exact (hbwm).trans (hbbz.own (Nat.le_refl _) (hbwm).size)
                · have v0 : (bs val).toList.isEmpty = false := by rw [bs_isEmpty]; exact decide_eq_false hv0
                  have hcon := fun wd hed hrd => part_any rb hrb21 r (bs key) (bs val) wd hed hvl hrd
                  rw [bs_list, bs_list] at hcon
                  have hF5 : Hid (Pl.option s.data.toList = if (Pl.partOf r key val).2 = 0 then Pl.partsOf (L2.drop (k + 1)) (Pl.partOf r key val).1 (fq || decide (key = Pl.kFREQ)) else ({}, (Pl.partOf r key val).2)) := by
                    show Pl.option _ = _
                    rw [hF3.out]; unfold Pl.partStep; simp only [if_neg hv0]
                  have HV0 := Lib.hid hv0
                  clear hF3 hv0
                  cases hkf : decide (key = Pl.kFREQ)
                  · have hl : ((bs key).toList == [70, 82, 69, 81]) = false := by rw [str_ne_lit]; exact hkf
                    rw [hkf, Bool.or_false] at hF5
                    clear hkf
                    go_wp2_with fail
                    go_still_tail 6, (by kernel_rfl)
                    change wpList _ _ _ _ _ wm.drew
                    have hbd : Below wm.heap.size wm wm.drew := (Below.refl _ _).drew
                    have hbld := hblm.below hbd
                    have hed := hem.below hbd
                    have hRd : Hid (RuleAt wm.drew rb r) := hRm.out.below hbd
                    clear hbd HBZM hRm hbwm hem hblm c0 c1 v0 hl
                    generalize wm.drew = wd at *
                    go_wp2_with fail
                    refine (hcon wd hed hRd.out).mono ?_
                    rintro e w5 ⟨rfl, hok, hb5⟩
                    have hbl5 := hbld.trans hb5
                    obtain ⟨hbw5, hBz5, he5⟩ := HBT.out _ hbl5
                    have HBZ5 := Lib.hid hBz5; clear hBz5 hcon hbld hed hRd hb5
                    generalize Pl.partOf r key val = q at *
                    by_cases hq : q.2 = 0
                    · have hR5 := Lib.hid (hok hq)
                      have hF6 : Hid (Pl.option s.data.toList = Pl.partsOf (L2.drop (k + 1)) q.1 fq) := by show Pl.option _ = _; rw [hF5.out, if_pos hq]
                      have t0 : ((q.2 : Int) != 0) = false := by rw [hq]; rfl
                      clear hok hF5 hq
                      go_wp2
                      exact ⟨⟨k + 1, q.1, fq, by omega, by go_num, rfl, hF6, hR5, hbl5⟩, by simp [intOf]; omega⟩
                    · have hF6 : Hid (Pl.option s.data.toList = ({}, q.2)) := by show Pl.option _ = _; rw [hF5.out, if_neg hq]
                      have t0 : ((q.2 : Int) != 0) = true := by rw [bne_iff_ne]; omega
                      clear hok hF5 hq
                      go_wp2_with (refine wpList_store_block rfl 26 (.tmp 2) _ rfl w.heap.size zeroRule zeroRule rfl rfl (HBZ5.out) rfl (by kernel_rfl) zeroRule_one ?_; intro wz hBz hbbz)
                      refine bodyPost_ret (v := .tuple #[.agg (({} : PR).cells PV.nil), .int .u8 (q.2 : Nat)]) (results_block_tmp Tryz.results5 _ _ w.heap.size zeroRule _ rfl hBz Tryz.underlying26 rfl (by kernel_rfl)) rfl (OptRes.zero (o := q.2) (hF6.out) ?_)
                      exact (hbw5).trans (hbbz.own (Nat.le_refl _) (hbw5).size)
                  · have hl : ((bs key).toList == [70, 82, 69, 81]) = true := by rw [str_ne_lit]; exact hkf
                    rw [hkf, Bool.or_true] at hF5
                    clear hkf
                    go_wp2_with fail
                    go_still_tail 6, (by kernel_rfl)
                    change wpList _ _ _ _ _ wm.drew
                    have hbd : Below wm.heap.size wm wm.drew := (Below.refl _ _).drew
                    have hbld := hblm.below hbd
                    have hed := hem.below hbd
                    have hRd : Hid (RuleAt wm.drew rb r) := hRm.out.below hbd
                    clear hbd HBZM hRm hbwm hem hblm c0 c1 v0 hl
                    generalize wm.drew = wd at *
                    go_wp2_with fail
                    refine (hcon wd hed hRd.out).mono ?_
                    rintro e w5 ⟨rfl, hok, hb5⟩
                    have hbl5 := hbld.trans hb5
                    obtain ⟨hbw5, hBz5, he5⟩ := HBT.out _ hbl5
                    have HBZ5 := Lib.hid hBz5; clear hBz5 hcon hbld hed hRd hb5
                    generalize Pl.partOf r key val = q at *
                    by_cases hq : q.2 = 0
                    · have hR5 := Lib.hid (hok hq)
                      have hF6 : Hid (Pl.option s.data.toList = Pl.partsOf (L2.drop (k + 1)) q.1 true) := by show Pl.option _ = _; rw [hF5.out, if_pos hq]
                      have t0 : ((q.2 : Int) != 0) = false := by rw [hq]; rfl
                      clear hok hF5 hq
                      go_wp2
                      exact ⟨⟨k + 1, q.1, true, by omega, by go_num, rfl, hF6, hR5, hbl5⟩, by simp [intOf]; omega⟩
                    · have hF6 : Hid (Pl.option s.data.toList = ({}, q.2)) := by show Pl.option _ = _; rw [hF5.out, if_neg hq]
                      have t0 : ((q.2 : Int) != 0) = true := by rw [bne_iff_ne]; omega
                      clear hok hF5 hq
                      go_wp2_with (refine wpList_store_block rfl 26 (.tmp 2) _ rfl w.heap.size zeroRule zeroRule rfl rfl (HBZ5.out) rfl (by kernel_rfl) zeroRule_one ?_; intro wz hBz hbbz)
                      refine bodyPost_ret (v := .tuple #[.agg (({} : PR).cells PV.nil), .int .u8 (q.2 : Nat)]) (results_block_tmp Tryz.results5 _ _ w.heap.size zeroRule _ rfl hBz Tryz.underlying26 rfl (by kernel_rfl)) rfl (OptRes.zero (o := q.2) (hF6.out) ?_)
                      exact (hbw5).trans (hbbz.own (Nat.le_refl _) (hbw5).size)
            · have hF4 : Hid (Pl.option s.data.toList = ({}, 1)) := by rw [hF3.out]; exact Pl.partStep_not2 _ _ _ _ hP2
              have t1 : ((P.length : Int) != 2) = true := by rw [bne_iff_ne]; omega
              clear hF3
              go_wp2_with (refine wpList_store_block rfl 26 (.tmp 2) _ rfl w.heap.size zeroRule zeroRule rfl rfl (HBZM.out) rfl (by kernel_rfl) zeroRule_one ?_; intro wz hBz hbbz)
              refine bodyPost_ret (v := .tuple #[.agg (({} : PR).cells PV.nil), .int .u8 (1 : Nat)]) (results_block_tmp Tryz.results5 _ _ w.heap.size zeroRule _ rfl hBz Tryz.underlying26 rfl (by kernel_rfl)) rfl (OptRes.zero (o := 1) (hF4.out) ?_)
              exact (hbwm).trans (hbbz.own (Nat.le_refl _) (hbwm).size)
          · obtain rfl : k = L2.length := by omega
            rw [List.drop_length] at hF
            cases fq
            · have hF2 : Hid (Pl.option s.data.toList = ({}, 1)) := hF
              go_wp2_with (refine wpList_store_block rfl 26 (.tmp 2) _ rfl w.heap.size zeroRule zeroRule rfl rfl (HBZ0.out) rfl (by kernel_rfl) zeroRule_one ?_; intro wz hBz hbbz)
              refine bodyPost_ret (v := .tuple #[.agg (({} : PR).cells PV.nil), .int .u8 (1 : Nat)]) (results_block_tmp Tryz.results5 _ _ w.heap.size zeroRule _ rfl hBz Tryz.underlying26 rfl (by kernel_rfl)) rfl (OptRes.zero (o := 1) (hF2.out) ?_)
              exact (hbw).trans (hbbz.own (Nat.le_refl _) (hbw).size)
            · have hF2 : Hid (Pl.option s.data.toList = (r, 0)) := hF
              obtain ⟨vv, hBv, hPv⟩ := hR.out
              have HBV := Lib.hid hBv; clear hBv
              go_wp2_with (first | (refine wpList_load_block rfl 26 (.tmp 5) rfl rb _ rfl _ HBV.out Tryz.underlying26 rfl (by kernel_rfl) ?_) | (refine wpList_store_block rfl 26 (.tmp 2) _ rfl w.heap.size zeroRule _ rfl rfl HBZ0.out rfl (by kernel_rfl) hPv.one ?_; intro wz hBz hbbz))
              refine bodyPost_ret (v := .tuple #[.agg (r.cells vv), .int .u8 0]) (results_block_tmp Tryz.results5 _ _ w.heap.size _ _ rfl hBz Tryz.underlying26 rfl (by kernel_rfl)) rfl ⟨vv, rb, by rw [hF2.out]; rfl, ?_, ?_⟩
              · rw [hF2.out]; exact hPv.butO hbbz (Nat.le_of_lt hwrb)
              · exact hbw.trans (hbbz.own (Nat.le_refl _) hbw.size)
      · have HE : Hid ((bs t).extract 6 (bs t).size = bs T) := by
          show _ = _
          rw [bs_extract, bs_list, List.take_of_length_le (by rw [bs_size]; exact Nat.le_refl _), ← HT.out, HTP.out _ hp]; rfl
        have hbeg2 : Calls Tryz.prog 20 #[.string (bs t), .string ⟨#[82, 82, 85, 76, 69, 58]⟩] wr fun e w' => e = .returned (.bool true) ∧ wr = w' := by rw [← hp]; exact hbeg
        have hspl2 : Calls Tryz.prog 16 #[.string ((bs t).extract 6 (bs t).size), .int .u8 59] wr fun e w' => ∃ v, e = .returned v ∧ Row w' v (strs (Pl.split 59 T)) ∧ Below wr.heap.size wr w' := by rw [HE.out]; exact hspl
        have h6 : 6 ≤ (bs t).size := by
          rw [bs_size]; rcases Nat.lt_or_ge t.length 6 with h | h
          · rw [hasPrefix_short t _ (by simpa using h)] at hp; cases hp
          · exact h
        clear hbeg hspl hp
        go_wp2_with (go_at_call 20; refine hbeg2.mono ?_; rintro e w' ⟨rfl, rfl⟩)
        refine hspl2.mono ?_
        clear hbeg2 hspl2
        rintro e wq ⟨v2, rfl, hrow2, hbq⟩
        have hne2 := Pl.split_ne 59 T
        have hlen2 := Pl.split_length 59 T
        have HMEM2 := Lib.hid (Pl.split_mem_length 59 T)
        generalize Pl.split 59 T = L2 at *
        obtain ⟨b2, o2, cap2, rfl, hbl2, hcap2, hc2⟩ := hrow2.open (strs_ne hne2)
        rw [strs_length] at hcap2 ⊢
        have hRq : Hid (RuleAt wq rb _) := hRr.out.below hbq
        have hnb2 : b2 ≠ rb := by
          rintro rfl
          obtain ⟨x, hx⟩ : ∃ x, L2[0]? = some x := ⟨_, List.getElem?_eq_getElem (List.length_pos_iff.2 hne2)⟩
          obtain ⟨vv, hBB, hPP⟩ := hRq.out
          have h1 := hc2 0 _ (strs_get hx)
          rw [hBB.cell] at h1
          exact hPP.no_string _ _ h1
        have HC2 := Lib.hid hc2; clear hc2 hrow2
        have hBq : Hid (Block wq w.heap.size zeroRule) := hBwr.out.below hbq
        have hbwq : Below w.heap.size w wq := hbwr.trans (hbq.mono hbwr.size)
        have heq : Env wq := her.below hbq
        have hrq : rb < wq.heap.size := Nat.lt_of_lt_of_le hrbl hbq.size
        clear hRr hBwr hbwr her hbq hTs hrbl HTP HT
        have HBT : Hid (∀ wl, ButBelow rb wq wl → Below w.heap.size w wl ∧ Block wl w.heap.size zeroRule ∧ Env wl) := fun wl hbl =>
          ⟨hbwq.trans (hbl.own (Nat.le_of_lt hwrb) hbwq.size), hBq.out.but (Nat.ne_of_lt hwrb) hbl, heq.but hrb21 hbl⟩
        clear hBq heq
        go_wp2
        go_loopw [11, 78] (fun f i wl => ∃ (k : Nat) (r : PR) (fq : Bool), k ≤ L2.length ∧ i = .int .i64 k ∧ f = .bool fq ∧ Hid (Pl.option s.data.toList = Pl.partsOf (L2.drop k) r fq) ∧ Hid (RuleAt wl rb r) ∧ ButBelow rb wq wl) (fun _ i _ => L2.length - (intOf i).toNat)
        case atStart => exact ⟨0, _, false, Nat.zero_le _, rfl, rfl, HFIN, hRq, ButBelow.refl _ _⟩
        case round =>
          obtain ⟨k, r, fq, hk, rfl, rfl, hF, hR, hbl⟩ := hrel
          obtain ⟨hbw, hBz0, hel⟩ := HBT.out _ hbl
          have HBZ0 := Lib.hid hBz0; clear hBz0
          have hsl := hbl.size
          have hrl : rb < _ := Nat.lt_of_lt_of_le hrq hsl
          by_cases hlt : k < L2.length
          · obtain ⟨x, hx⟩ : ∃ x, L2[k]? = some x := ⟨_, List.getElem?_eq_getElem hlt⟩
            have hcell : wr.cell? ⟨b2, o2 + k, none⟩ = some (.string (bs x)) := by rw [World.cell?_of_block (w := wq) (hbl.block b2 hbl2 hnb2)]; exact HC2.out _ _ (strs_get hx)
            have hxT := HMEM2.out x (List.mem_of_getElem? hx)
            have hxl : (bs x).size ≤ 1000000 := by rw [bs_size]; omega
            have hF3 : Hid (Pl.option s.data.toList = Pl.partStep (Pl.split 61 x) (L2.drop (k + 1)) r fq) := by rw [hF.out, drop_get hx]; rfl
            have hspl3 := textSplit_any (bs x) 61 wr hxl
            rw [bs_list] at hspl3
            clear hF HBZ0 hx
            go_wp2_with fail
            refine hspl3.mono ?_
            rintro e wm ⟨v3, rfl, hrow3, hb3⟩
            have hne3 := Pl.split_ne 61 x
            have HM3 := Lib.hid (Pl.split_mem_length 61 x)
            generalize Pl.split 61 x = P at *
            obtain ⟨b3, o3, cap3, rfl, hbl3, hcap3, hc3⟩ := hrow3.open (strs_ne hne3)
            rw [strs_length] at hcap3 ⊢
            have HC3 := Lib.hid hc3; clear hc3 hrow3 hspl3
            have hblm := hbl.below hb3
            obtain ⟨hbwm, hBzm, hem⟩ := HBT.out _ hblm
            have HBZM := Lib.hid hBzm; clear hBzm
            have hRm : Hid (RuleAt wm rb r) := hR.out.below hb3
            clear hR hb3
            by_cases hP2 : P.length = 2
            · match P, hP2 with
              | [key, val], _ =>
                have c0 : wm.cell? ⟨b3, o3, none⟩ = some (.string (bs key)) := by simpa using HC3.out 0 _ (strs_get (l := key) rfl)
                have c1 : wm.cell? ⟨b3, o3 + 1, none⟩ = some (.string (bs val)) := HC3.out 1 _ (strs_get (l := val) rfl)
                have hvl : (bs val).size ≤ 1000000 := by
                  have := HM3.out val (by simp); rw [bs_size]; omega
                by_cases hv0 : val = []
                · subst hv0
                  have hF4 : Hid (Pl.option s.data.toList = ({}, 1)) := by rw [hF3.out]; rfl
                  have v0 : (bs []).toList.isEmpty = true := by rw [bs_isEmpty]; rfl
                  go_wp2_with (refine wpList_store_block rfl 26 (.tmp 2) _ rfl w.heap.size zeroRule zeroRule rfl rfl (HBZM.out) rfl (by kernel_rfl) zeroRule_one ?_; intro wz hBz hbbz)
                  refine bodyPost_ret (v := .tuple #[.agg (({} : PR).cells PV.nil), .int .u8 (1 : Nat)]) (results_block_tmp Tryz.results5 _ _ w.heap.size zeroRule _ rfl hBz Tryz.underlying26 rfl (by kernel_rfl)) rfl (OptRes.zero (o := 1) (hF4.out) ?_)
                  exact (hbwm).trans (hbbz.own (Nat.le_refl _) (hbwm).size)
                · have v0 : (bs val).toList.isEmpty = false := by rw [bs_isEmpty]; exact decide_eq_false hv0
                  have hcon := fun wd hed hrd => part_any rb hrb21 r (bs key) (bs val) wd hed hvl hrd
                  rw [bs_list, bs_list] at hcon
                  have hF5 : Hid (Pl.option s.data.toList = if (Pl.partOf r key val).2 = 0 then Pl.partsOf (L2.drop (k + 1)) (Pl.partOf r key val).1 (fq || decide (key = Pl.kFREQ)) else ({}, (Pl.partOf r key val).2)) := by
                    show Pl.option _ = _
                    rw [hF3.out]; unfold Pl.partStep; simp only [if_neg hv0]
                  have HV0 := Lib.hid hv0
                  clear hF3 hv0
                  cases hkf : decide (key = Pl.kFREQ)
                  · have hl : ((bs key).toList == [70, 82, 69, 81]) = false := by rw [str_ne_lit]; exact hkf
                    rw [hkf, Bool.or_false] at hF5
                    clear hkf
                    go_wp2_with fail
                    go_still_tail 6, (by kernel_rfl)
                    change wpList _ _ _ _ _ wm.drew
                    have hbd : Below wm.heap.size wm wm.drew := (Below.refl _ _).drew
                    have hbld := hblm.below hbd
                    have hed := hem.below hbd
                    have hRd : Hid (RuleAt wm.drew rb r) := hRm.out.below hbd
                    clear hbd HBZM hRm hbwm hem hblm c0 c1 v0 hl
                    generalize wm.drew = wd at *
                    go_wp2_with fail
                    refine (hcon wd hed hRd.out).mono ?_
                    rintro e w5 ⟨rfl, hok, hb5⟩
                    have hbl5 := hbld.trans hb5
                    obtain ⟨hbw5, hBz5, he5⟩ := HBT.out _ hbl5
                    have HBZ5 := Lib.hid hBz5; clear hBz5 hcon hbld hed hRd hb5
                    generalize Pl.partOf r key val = q at *
                    by_cases hq : q.2 = 0
                    · have hR5 := Lib.hid (hok hq)
                      have hF6 : Hid (Pl.option s.data.toList = Pl.partsOf (L2.drop (k + 1)) q.1 fq) := by show Pl.option _ = _; rw [hF5.out, if_pos hq]
                      have t0 : ((q.2 : Int) != 0) = false := by rw [hq]; rfl
                      clear hok hF5 hq
                      go_wp2
                      exact ⟨⟨k + 1, q.1, fq, by omega, by go_num, rfl, hF6, hR5, hbl5⟩, by simp [intOf]; omega⟩
                    · have hF6 : Hid (Pl.option s.data.toList = ({}, q.2)) := by show Pl.option _ = _; rw [hF5.out, if_neg hq]
                      have t0 : ((q.2 : Int) != 0) = true := by rw [bne_iff_ne]; omega
                      clear hok hF5 hq
                      go_wp2_with (refine wpList_store_block rfl 26 (.tmp 2) _ rfl w.heap.size zeroRule zeroRule rfl rfl (HBZ5.out) rfl (by kernel_rfl) zeroRule_one ?_; intro wz hBz hbbz)
                      refine bodyPost_ret (v := .tuple #[.agg (({} : PR).cells PV.nil), .int .u8 (q.2 : Nat)]) (results_block_tmp Tryz.results5 _ _ w.heap.size zeroRule _ rfl hBz Tryz.underlying26 rfl (by kernel_rfl)) rfl (OptRes.zero (o := q.2) (hF6.out) ?_)
                      exact (hbw5).trans (hbbz.own (Nat.le_refl _) (hbw5).size)
                  · have hl : ((bs key).toList == [70, 82, 69, 81]) = true := by rw [str_ne_lit]; exact hkf
                    rw [hkf, Bool.or_true] at hF5
                    clear hkf
                    go_wp2_with fail
                    go_still_tail 6, (by kernel_rfl)
                    change wpList _ _ _ _ _ wm.drew
                    have hbd : Below wm.heap.size wm wm.drew := (Below.refl _ _).drew
                    have hbld := hblm.below hbd
                    have hed := hem.below hbd
                    have hRd : Hid (RuleAt wm.drew rb r) := hRm.out.below hbd
                    clear hbd HBZM hRm hbwm hem hblm c0 c1 v0 hl
                    generalize wm.drew = wd at *
                    go_wp2_with fail
                    refine (hcon wd hed hRd.out).mono ?_
                    rintro e w5 ⟨rfl, hok, hb5⟩
                    have hbl5 := hbld.trans hb5
                    obtain ⟨hbw5, hBz5, he5⟩ := HBT.out _ hbl5
                    have HBZ5 := Lib.hid hBz5; clear hBz5 hcon hbld hed hRd hb5
                    generalize Pl.partOf r key val = q at *
                    by_cases hq : q.2 = 0
                    · have hR5 := Lib.hid (hok hq)
                      have hF6 : Hid (Pl.option s.data.toList = Pl.partsOf (L2.drop (k + 1)) q.1 true) := by show Pl.option _ = _; rw [hF5.out, if_pos hq]
                      have t0 : ((q.2 : Int) != 0) = false := by rw [hq]; rfl
                      clear hok hF5 hq
                      go_wp2
                      exact ⟨⟨k + 1, q.1, true, by omega, by go_num, rfl, hF6, hR5, hbl5⟩, by simp [intOf]; omega⟩
                    · have hF6 : Hid (Pl.option s.data.toList = ({}, q.2)) := by show Pl.option _ = _; rw [hF5.out, if_neg hq]
                      have t0 : ((q.2 : Int) != 0) = true := by rw [bne_iff_ne]; omega
                      clear hok hF5 hq
                      go_wp2_with (refine wpList_store_block rfl 26 (.tmp 2) _ rfl w.heap.size zeroRule zeroRule rfl rfl (HBZ5.out) rfl (by kernel_rfl) zeroRule_one ?_; intro wz hBz hbbz)
                      refine bodyPost_ret (v := .tuple #[.agg (({} : PR).cells PV.nil), .int .u8 (q.2 : Nat)]) (results_block_tmp Tryz.results5 _ _ w.heap.size zeroRule _ rfl hBz Tryz.underlying26 rfl (by kernel_rfl)) rfl (OptRes.zero (o := q.2) (hF6.out) ?_)
                      exact (hbw5).trans (hbbz.own (Nat.le_refl _) (hbw5).size)
            · have hF4 : Hid (Pl.option s.data.toList = ({}, 1)) := by rw [hF3.out]; exact Pl.partStep_not2 _ _ _ _ hP2
              have t1 : ((P.length : Int) != 2) = true := by rw [bne_iff_ne]; omega
              clear hF3
              go_wp2_with (refine wpList_store_block rfl 26 (.tmp 2) _ rfl w.heap.size zeroRule zeroRule rfl rfl (HBZM.out) rfl (by kernel_rfl) zeroRule_one ?_; intro wz hBz hbbz)
              refine bodyPost_ret (v := .tuple #[.agg (({} : PR).cells PV.nil), .int .u8 (1 : Nat)]) (results_block_tmp Tryz.results5 _ _ w.heap.size zeroRule _ rfl hBz Tryz.underlying26 rfl (by kernel_rfl)) rfl (OptRes.zero (o := 1) (hF4.out) ?_)
              exact (hbwm).trans (hbbz.own (Nat.le_refl _) (hbwm).size)
          · obtain rfl : k = L2.length := by omega
            rw [List.drop_length] at hF
            cases fq
            · have hF2 : Hid (Pl.option s.data.toList = ({}, 1)) := hF
              go_wp2_with (refine wpList_store_block rfl 26 (.tmp 2) _ rfl w.heap.size zeroRule zeroRule rfl rfl (HBZ0.out) rfl (by kernel_rfl) zeroRule_one ?_; intro wz hBz hbbz)
              refine bodyPost_ret (v := .tuple #[.agg (({} : PR).cells PV.nil), .int .u8 (1 : Nat)]) (results_block_tmp Tryz.results5 _ _ w.heap.size zeroRule _ rfl hBz Tryz.underlying26 rfl (by kernel_rfl)) rfl (OptRes.zero (o := 1) (hF2.out) ?_)
              exact (hbw).trans (hbbz.own (Nat.le_refl _) (hbw).size)
            · have hF2 : Hid (Pl.option s.data.toList = (r, 0)) := hF
              obtain ⟨vv, hBv, hPv⟩ := hR.out
              have HBV := Lib.hid hBv; clear hBv
              go_wp2_with (first | (refine wpList_load_block rfl 26 (.tmp 5) rfl rb _ rfl _ HBV.out Tryz.underlying26 rfl (by kernel_rfl) ?_) | (refine wpList_store_block rfl 26 (.tmp 2) _ rfl w.heap.size zeroRule _ rfl rfl HBZ0.out rfl (by kernel_rfl) hPv.one ?_; intro wz hBz hbbz))
              refine bodyPost_ret (v := .tuple #[.agg (r.cells vv), .int .u8 0]) (results_block_tmp Tryz.results5 _ _ w.heap.size _ _ rfl hBz Tryz.underlying26 rfl (by kernel_rfl)) rfl ⟨vv, rb, by rw [hF2.out]; rfl, ?_, ?_⟩
              · rw [hF2.out]; exact hPv.butO hbbz (Nat.le_of_lt hwrb)
              · exact hbw.trans (hbbz.own (Nat.le_refl _) hbw.size)
    | [l, t], _ =>
      have c0 : w2.cell? ⟨b, o, none⟩ = some (.string (bs l)) := by simpa using HC.out 0 _ (strs_get (l := l) rfl)
      have c1 : w2.cell? ⟨b, o + 1, none⟩ = some (.string (bs t)) := HC.out 1 _ (strs_get (l := t) rfl)
      go_wp2_with (refine wpList_store_block rfl 26 (.tmp 5) (.tmp 23) rfl _ zeroRule zeroRule rfl rfl (hBa.out _) rfl (by kernel_rfl) zeroRule_one ?_; intro wr hB3 hbb3; have hb23 := store_own hbb3; have k0 : wr.cell? ⟨b, o, none⟩ = some (.string (bs l)) := (hb23.cell (p := ⟨b, o, none⟩) hbl).trans c0; have k1 : wr.cell? ⟨b, o + 1, none⟩ = some (.string (bs t)) := (hb23.cell (p := ⟨b, o + 1, none⟩) hbl).trans c1; have HB3 := Lib.hid hB3; clear hB3)
      have hll : (bs l).size ≤ 1000000 := by rw [bs_size]; exact HMEM.out l (by simp)
      have htl : (bs t).size ≤ 1000000 := by rw [bs_size]; exact HMEM.out t (by simp)
      have hBwr : Hid (Block wr w.heap.size zeroRule) := hBw.out.below hb23
      have hbwr : Below w.heap.size w wr := hbw.trans (hb23.mono (Nat.le_of_lt hsw))
      have her : Env wr := he2.below hb23
      have hrbl : w2.heap.size < wr.heap.size := HB3.out.lt
      have hrb21 : 20 ≤ w2.heap.size := by omega
      have hwrb : w.heap.size < w2.heap.size := hsw
      have hnb : b ≠ w2.heap.size := Nat.ne_of_lt hbl
      have hblr : b < wr.heap.size := Nat.lt_trans hbl hrbl
      clear hBw hbw he2 hbb3 hb23 HMEM HC c0 c1 hbl hcap hlen2 he
      generalize w2.heap.size = rb at *
      have HFIN2 : Hid (Pl.option s.data.toList = if Pl.isStart l then
          if (Pl.tstart (l.drop 8)).2 = 0 then Pl.partsOf (Pl.split 59 (Lib.trimPrefix t Pl.rrule)) { start := (Pl.tstart (l.drop 8)).1, hasStart := (Pl.tstart (l.drop 8)).1 != 0 } false
          else ({}, (Pl.tstart (l.drop 8)).2)
        else ({}, 1)) := HFIN
      clear HFIN
      refine (textName_any (bs l) wr hll).mono ?_
      rw [bs_list]
      rintro e w3 ⟨nm, ok, rfl, hst, hnml, hb3⟩
      have hB3w : Hid (Block w3 w.heap.size zeroRule) := hBwr.out.below hb3
      have hbw3 : Below w.heap.size w w3 := hbwr.trans (hb3.mono hbwr.size)
      cases ok with
      | false =>
        have hF : Hid (Pl.option s.data.toList = ({}, 1)) := by
          show Pl.option _ = _
          rw [HFIN2.out, if_neg (by rw [hst]; simp)]
        clear HFIN2 hst
        go_wp2_with (refine wpList_store_block rfl 26 (.tmp 2) _ rfl w.heap.size zeroRule zeroRule rfl rfl (hB3w.out) rfl (by kernel_rfl) zeroRule_one ?_; intro wz hBz hbbz)
        refine bodyPost_ret (v := .tuple #[.agg (({} : PR).cells PV.nil), .int .u8 (1 : Nat)]) (results_block_tmp Tryz.results5 _ _ w.heap.size zeroRule _ rfl hBz Tryz.underlying26 rfl (by kernel_rfl)) rfl (OptRes.zero (o := 1) (hF.out) ?_)
        exact (hbw3).trans (hbbz.own (Nat.le_refl _) (hbw3).size)
      | true =>
        cases hnd : decide (nm = Pl.dtstart) with
        | false =>
          have hF : Hid (Pl.option s.data.toList = ({}, 1)) := by
            show Pl.option _ = _
            rw [HFIN2.out, if_neg (by rw [hst, hnd]; simp)]
          have hl : ((bs nm).toList == [68, 84, 83, 84, 65, 82, 84]) = false := by rw [str_ne_lit]; exact hnd
          clear HFIN2 hst hnd
          go_wp2_with (refine wpList_store_block rfl 26 (.tmp 2) _ rfl w.heap.size zeroRule zeroRule rfl rfl (hB3w.out) rfl (by kernel_rfl) zeroRule_one ?_; intro wz hBz hbbz)
          refine bodyPost_ret (v := .tuple #[.agg (({} : PR).cells PV.nil), .int .u8 (1 : Nat)]) (results_block_tmp Tryz.results5 _ _ w.heap.size zeroRule _ rfl hBz Tryz.underlying26 rfl (by kernel_rfl)) rfl (OptRes.zero (o := 1) (hF.out) ?_)
          exact (hbw3).trans (hbbz.own (Nat.le_refl _) (hbw3).size)
        | true =>
          have hl : ((bs nm).toList == [68, 84, 83, 84, 65, 82, 84]) = true := by rw [str_ne_lit]; exact hnd
          have hsz7 : (bs nm).size = 7 := by rw [of_decide_eq_true hnd]; rfl
          have hst2 : Pl.isStart l = true := by rw [hst, hnd]; rfl
          have h8 : 8 ≤ (bs l).size := by rw [bs_size]; exact Pl.isStart_len hst2
          have hF : Hid (Pl.option s.data.toList = if (Pl.tstart (l.drop 8)).2 = 0 then Pl.partsOf (Pl.split 59 (Lib.trimPrefix t Pl.rrule)) { start := (Pl.tstart (l.drop 8)).1, hasStart := (Pl.tstart (l.drop 8)).1 != 0 } false
              else ({}, (Pl.tstart (l.drop 8)).2)) := by
            show Pl.option _ = _
            rw [HFIN2.out, if_pos hst2]
          clear HFIN2 hst hnd hst2
          have k03 : w3.cell? ⟨b, o, none⟩ = some (.string (bs l)) := (hb3.cell (p := ⟨b, o, none⟩) hblr).trans k0
          have k13 : w3.cell? ⟨b, o + 1, none⟩ = some (.string (bs t)) := (hb3.cell (p := ⟨b, o + 1, none⟩) hblr).trans k1
          have hblr3 : b < w3.heap.size := Nat.lt_of_lt_of_le hblr hb3.size
          have hBr3 : Hid (Block w3 rb zeroRule) := HB3.out.below hb3
          have her3 := her.below hb3
          have hdl : ((bs l).extract 8 (bs l).size).size ≤ 1000000 := by simp; omega
          have hcon := TextStart_any ((bs l).extract 8 (bs l).size) w3 hdl
          have hex : (bs l).extract 8 (bs l).size = bs (l.drop 8) := by
            rw [bs_extract, bs_list, List.take_of_length_le (by rw [bs_size]; exact Nat.le_refl _)]
          rw [hex, bs_list, ← hex] at hcon
          clear k0 k1 hblr HB3 hBwr hbwr her hrbl hdl hex
          go_wp2_with fail
          refine hcon.mono ?_
          rintro e w4 ⟨rfl, hb4⟩
          clear hcon
          generalize Pl.tstart (l.drop 8) = q at *
          have hB4w : Hid (Block w4 w.heap.size zeroRule) := hB3w.out.below hb4
          have hbw4 : Below w.heap.size w w4 := hbw3.trans (hb4.mono hbw3.size)
          have hBr4 : Hid (Block w4 rb zeroRule) := hBr3.out.below hb4
          have her4 := her3.below hb4
          have k14 : w4.cell? ⟨b, o + 1, none⟩ = some (.string (bs t)) := (hb4.cell (p := ⟨b, o + 1, none⟩) hblr3).trans k13
          clear hB3w hbw3 hBr3 her3 k03 k13 hblr3 hb3 hb4 hll h8 hnml
          by_cases hq : q.2 = 0
          · have t0 : ((q.2 : Int) != 0) = false := by rw [hq]; rfl
            have HFIN : Hid (Pl.option s.data.toList = Pl.partsOf (Pl.split 59 (Lib.trimPrefix t Pl.rrule)) { start := q.1, hasStart := q.1 != 0 } false) := by show Pl.option _ = _; rw [hF.out, if_pos hq]
            have f2 : w4.cell? ⟨rb, 2, none⟩ = some (.int .i64 0) := hBr4.out.cell 2
            have f1 : w4.cell? ⟨rb, 1, none⟩ = some (.bool false) := hBr4.out.cell 1
            have g2 : w4.frozen? ⟨rb, 2, none⟩ = false := hBr4.out.free 2
            have g1 : w4.frozen? ⟨rb, 1, none⟩ = false := hBr4.out.free 1
            have bb : ButBelow rb w4 ((w4.setCell ⟨rb, 2, none⟩ (.int .i64 q.1)).setCell ⟨rb, 1, none⟩ (.bool (q.1 != 0))) := ((ButBelow.refl rb w4).setCell 2 _).setCell 1 _
            have hRr : Hid (RuleAt ((w4.setCell ⟨rb, 2, none⟩ (.int .i64 q.1)).setCell ⟨rb, 1, none⟩ (.bool (q.1 != 0))) rb { start := q.1, hasStart := q.1 != 0 }) := ⟨PV.nil, (hBr4.out.set 2 _).set 1 _, ⟨SlI.nil _ _, SlI.nil _ _, SlI.nil _ _, SlI.nil _ _, SlI.nil _ _, SlP.nil _ _, SlI.nil _ _, SlI.nil _ _, SlI.nil _ _, SlI.nil _ _⟩⟩
            have hBwr : Hid (Block ((w4.setCell ⟨rb, 2, none⟩ (.int .i64 q.1)).setCell ⟨rb, 1, none⟩ (.bool (q.1 != 0))) w.heap.size zeroRule) := hB4w.out.but (Nat.ne_of_lt hwrb) bb
            have hbwr : Below w.heap.size w ((w4.setCell ⟨rb, 2, none⟩ (.int .i64 q.1)).setCell ⟨rb, 1, none⟩ (.bool (q.1 != 0))) := hbw4.trans (bb.own (Nat.le_of_lt hwrb) hbw4.size)
            have her : Env ((w4.setCell ⟨rb, 2, none⟩ (.int .i64 q.1)).setCell ⟨rb, 1, none⟩ (.bool (q.1 != 0))) := her4.but hrb21 bb
            have hrbl : rb < ((w4.setCell ⟨rb, 2, none⟩ (.int .i64 q.1)).setCell ⟨rb, 1, none⟩ (.bool (q.1 != 0))).heap.size := Nat.lt_of_lt_of_le hBr4.out.lt bb.size
            clear bb hF hq hB4w hbw4 hBr4 her4
            go_wp2_with fail
            generalize hgw : (w4.setCell ⟨rb, 2, none⟩ (.int .i64 q.1)).setCell ⟨rb, 1, none⟩ (.bool (q.1 != 0)) = wr at *
            clear hgw
            have hbeg := textBegins_any (bs t) ⟨#[82, 82, 85, 76, 69, 58]⟩ wr
            rw [bs_list] at hbeg
            have hTP : ∀ p : Bool, Lib.hasPrefix t [82, 82, 85, 76, 69, 58] = p → Lib.trimPrefix t Pl.rrule = if p then t.drop 6 else t := fun p hp => by unfold Lib.trimPrefix Pl.rrule; rw [hp]; rfl
            obtain ⟨T, hT, hTl⟩ : ∃ T : Bs, Lib.trimPrefix t Pl.rrule = T ∧ T.length ≤ 1000000 := ⟨_, rfl, by
              have := hTP _ rfl; rw [this]; rw [bs_size] at htl; split
              · simp; omega
              · exact htl⟩
            rw [hT] at HFIN
            have HT := Lib.hid hT; clear hT
            have HTP := Lib.hid hTP; clear hTP
            have hTs : (bs T).size ≤ 1000000 := by rw [bs_size]; exact hTl
            have hspl := textSplit_any (bs T) 59 wr hTs
            rw [bs_list] at hspl
            cases hp : Lib.hasPrefix t [82, 82, 85, 76, 69, 58]
            · have HE : Hid (bs t = bs T) := by rw [← HT.out, HTP.out _ hp]; rfl
              have hbeg2 : Calls Tryz.prog 20 #[.string (bs t), .string ⟨#[82, 82, 85, 76, 69, 58]⟩] wr fun e w' => e = .returned (.bool false) ∧ wr = w' := by rw [← hp]; exact hbeg
              have hspl2 : Calls Tryz.prog 16 #[.string (bs t), .int .u8 59] wr fun e w' => ∃ v, e = .returned v ∧ Row w' v (strs (Pl.split 59 T)) ∧ Below wr.heap.size wr w' := by rw [HE.out]; exact hspl
              clear hbeg hspl hp
              go_wp2_with (go_at_call 20; refine hbeg2.mono ?_; rintro e w' ⟨rfl, rfl⟩)
              refine hspl2.mono ?_
              clear hbeg2 hspl2
              rintro e wq ⟨v2, rfl, hrow2, hbq⟩
              have hne2 := Pl.split_ne 59 T
              have hlen2 := Pl.split_length 59 T
              have HMEM2 := Lib.hid (Pl.split_mem_length 59 T)
              generalize Pl.split 59 T = L2 at *
              obtain ⟨b2, o2, cap2, rfl, hbl2, hcap2, hc2⟩ := hrow2.open (strs_ne hne2)
              rw [strs_length] at hcap2 ⊢
              have hRq : Hid (RuleAt wq rb _) := hRr.out.below hbq
              have hnb2 : b2 ≠ rb := by
                rintro rfl
                obtain ⟨x, hx⟩ : ∃ x, L2[0]? = some x := ⟨_, List.getElem?_eq_getElem (List.length_pos_iff.2 hne2)⟩
                obtain ⟨vv, hBB, hPP⟩ := hRq.out
                have h1 := hc2 0 _ (strs_get hx)
                rw [hBB.cell] at h1
                exact hPP.no_string _ _ h1
              have HC2 := Lib.hid hc2; clear hc2 hrow2
              have hBq : Hid (Block wq w.heap.size zeroRule) := hBwr.out.below hbq
              have hbwq : Below w.heap.size w wq := hbwr.trans (hbq.mono hbwr.size)
              have heq : Env wq := her.below hbq
              have hrq : rb < wq.heap.size := Nat.lt_of_lt_of_le hrbl hbq.size
              clear hRr hBwr hbwr her hbq hTs hrbl HTP HT
              have HBT : Hid (∀ wl, ButBelow rb wq wl → Below w.heap.size w wl ∧ Block wl w.heap.size zeroRule ∧ Env wl) := fun wl hbl =>
                ⟨hbwq.trans (hbl.own (Nat.le_of_lt hwrb) hbwq.size), hBq.out.but (Nat.ne_of_lt hwrb) hbl, heq.but hrb21 hbl⟩
              clear hBq heq
              go_wp2
              go_loopw [11, 78] (fun f i wl => ∃ (k : Nat) (r : PR) (fq : Bool), k ≤ L2.length ∧ i = .int .i64 k ∧ f = .bool fq ∧ Hid (Pl.option s.data.toList = Pl.partsOf (L2.drop k) r fq) ∧ Hid (RuleAt wl rb r) ∧ ButBelow rb wq wl) (fun _ i _ => L2.length - (intOf i).toNat)
              case atStart => exact ⟨0, _, false, Nat.zero_le _, rfl, rfl, HFIN, hRq, ButBelow.refl _ _⟩
              case round =>
                obtain ⟨k, r, fq, hk, rfl, rfl, hF, hR, hbl⟩ := hrel
                obtain ⟨hbw, hBz0, hel⟩ := HBT.out _ hbl
                have HBZ0 := Lib.hid hBz0; clear hBz0
                have hsl := hbl.size
                have hrl : rb < _ := Nat.lt_of_lt_of_le hrq hsl
                by_cases hlt : k < L2.length
                · obtain ⟨x, hx⟩ : ∃ x, L2[k]? = some x := ⟨_, List.getElem?_eq_getElem hlt⟩
                  have hcell : wr.cell? ⟨b2, o2 + k, none⟩ = some (.string (bs x)) := by rw [World.cell?_of_block (w := wq) (hbl.block b2 hbl2 hnb2)]; exact HC2.out _ _ (strs_get hx)
                  have hxT := HMEM2.out x (List.mem_of_getElem? hx)
                  have hxl : (bs x).size ≤ 1000000 := by rw [bs_size]; omega
                  have hF3 : Hid (Pl.option s.data.toList = Pl.partStep (Pl.split 61 x) (L2.drop (k + 1)) r fq) := by rw [hF.out, drop_get hx]; rfl
                  have hspl3 := textSplit_any (bs x) 61 wr hxl
                  rw [bs_list] at hspl3
                  clear hF HBZ0 hx
                  go_wp2_with fail
                  refine hspl3.mono ?_
                  rintro e wm ⟨v3, rfl, hrow3, hb3⟩
                  have hne3 := Pl.split_ne 61 x
                  have HM3 := Lib.hid (Pl.split_mem_length 61 x)
                  generalize Pl.split 61 x = P at *
                  obtain ⟨b3, o3, cap3, rfl, hbl3, hcap3, hc3⟩ := hrow3.open (strs_ne hne3)
                  rw [strs_length] at hcap3 ⊢
                  have HC3 := Lib.hid hc3; clear hc3 hrow3 hspl3
                  have hblm := hbl.below hb3
                  obtain ⟨hbwm, hBzm, hem⟩ := HBT.out _ hblm
                  have HBZM := Lib.hid hBzm; clear hBzm
                  have hRm : Hid (RuleAt wm rb r) := hR.out.below hb3
                  clear hR hb3
                  by_cases hP2 : P.length = 2
                  · match P, hP2 with
                    | [key, val], _ =>
                      have c0 : wm.cell? ⟨b3, o3, none⟩ = some (.string (bs key)) := by simpa using HC3.out 0 _ (strs_get (l := key) rfl)
                      have c1 : wm.cell? ⟨b3, o3 + 1, none⟩ = some (.string (bs val)) := HC3.out 1 _ (strs_get (l := val) rfl)
                      have hvl : (bs val).size ≤ 1000000 := by
                        have := HM3.out val (by simp); rw [bs_size]; omega
                      by_cases hv0 : val = []
                      · subst hv0
                        have hF4 : Hid (Pl.option s.data.toList = ({}, 1)) := by rw [hF3.out]; rfl
                        have v0 : (bs []).toList.isEmpty = true := by rw [bs_isEmpty]; rfl
                        go_wp2_with (refine wpList_store_block rfl 26 (.tmp 2) _ rfl w.heap.size zeroRule zeroRule rfl rfl (HBZM.out) rfl (by kernel_rfl) zeroRule_one ?_; intro wz hBz hbbz)
                        refine bodyPost_ret (v := .tuple #[.agg (({} : PR).cells PV.nil), .int .u8 (1 : Nat)]) (results_block_tmp Tryz.results5 _ _ w.heap.size zeroRule _ rfl hBz Tryz.underlying26 rfl (by kernel_rfl)) rfl (OptRes.zero (o := 1) (hF4.out) ?_)
                        exact (hbwm).trans (hbbz.own (Nat.le_refl _) (hbwm).size)
                      · have v0 : (bs val).toList.isEmpty = false := by rw [bs_isEmpty]; exact decide_eq_false hv0
                        have hcon := fun wd hed hrd => part_any rb hrb21 r (bs key) (bs val) wd hed hvl hrd
                        rw [bs_list, bs_list] at hcon
                        have hF5 : Hid (Pl.option s.data.toList = if (Pl.partOf r key val).2 = 0 then Pl.partsOf (L2.drop (k + 1)) (Pl.partOf r key val).1 (fq || decide (key = Pl.kFREQ)) else ({}, (Pl.partOf r key val).2)) := by
                          show Pl.option _ = _
                          rw [hF3.out]; unfold Pl.partStep; simp only [if_neg hv0]
                        have HV0 := Lib.hid hv0
                        clear hF3 hv0
                        cases hkf : decide (key = Pl.kFREQ)
                        · have hl : ((bs key).toList == [70, 82, 69, 81]) = false := by rw [str_ne_lit]; exact hkf
                          rw [hkf, Bool.or_false] at hF5
                          clear hkf
                          go_wp2_with fail
                          go_still_tail 6, (by kernel_rfl)
                          change wpList _ _ _ _ _ wm.drew
                          have hbd : Below wm.heap.size wm wm.drew := (Below.refl _ _).drew
                          have hbld := hblm.below hbd
                          have hed := hem.below hbd
                          have hRd : Hid (RuleAt wm.drew rb r) := hRm.out.below hbd
                          clear hbd HBZM hRm hbwm hem hblm c0 c1 v0 hl
                          generalize wm.drew = wd at *
                          go_wp2_with fail
                          refine (hcon wd hed hRd.out).mono ?_
                          rintro e w5 ⟨rfl, hok, hb5⟩
                          have hbl5 := hbld.trans hb5
                          obtain ⟨hbw5, hBz5, he5⟩ := HBT.out _ hbl5
                          have HBZ5 := Lib.hid hBz5; clear hBz5 hcon hbld hed hRd hb5
                          generalize Pl.partOf r key val = q at *
                          by_cases hq : q.2 = 0
                          · have hR5 := Lib.hid (hok hq)
                            have hF6 : Hid (Pl.option s.data.toList = Pl.partsOf (L2.drop (k + 1)) q.1 fq) := by show Pl.option _ = _; rw [hF5.out, if_pos hq]
                            have t0 : ((q.2 : Int) != 0) = false := by rw [hq]; rfl
                            clear hok hF5 hq
                            go_wp2
                            exact ⟨⟨k + 1, q.1, fq, by omega, by go_num, rfl, hF6, hR5, hbl5⟩, by simp [intOf]; omega⟩
                          · have hF6 : Hid (Pl.option s.data.toList = ({}, q.2)) := by show Pl.option _ = _; rw [hF5.out, if_neg hq]
                            have t0 : ((q.2 : Int) != 0) = true := by rw [bne_iff_ne]; omega
                            clear hok hF5 hq
                            go_wp2_with (refine wpList_store_block rfl 26 (.tmp 2) _ rfl w.heap.size zeroRule zeroRule rfl rfl (HBZ5.out) rfl (by kernel_rfl) zeroRule_one ?_; intro wz hBz hbbz)
                            refine bodyPost_ret (v := .tuple #[.agg (({} : PR).cells PV.nil), .int .u8 (q.2 : Nat)]) (results_block_tmp Tryz.results5 _ _ w.heap.size zeroRule _ rfl hBz Tryz.underlying26 rfl (by kernel_rfl)) rfl (OptRes.zero (o := q.2) (hF6.out) ?_)
                            exact (hbw5).trans (hbbz.own (Nat.le_refl _) (hbw5).size)
                        · have hl : ((bs key).toList == [70, 82, 69, 81]) = true := by rw [str_ne_lit]; exact hkf
                          rw [hkf, Bool.or_true] at hF5
                          clear hkf
                          go_wp2_with fail
                          go_still_tail 6, (by kernel_rfl)
                          change wpList _ _ _ _ _ wm.drew
                          have hbd : Below wm.heap.size wm wm.drew := (Below.refl _ _).drew
                          have hbld := hblm.below hbd
                          have hed := hem.below hbd
                          have hRd : Hid (RuleAt wm.drew rb r) := hRm.out.below hbd
                          clear hbd HBZM hRm hbwm hem hblm c0 c1 v0 hl
                          generalize wm.drew = wd at *
                          go_wp2_with fail
                          refine (hcon wd hed hRd.out).mono ?_
                          rintro e w5 ⟨rfl, hok, hb5⟩
                          have hbl5 := hbld.trans hb5
                          obtain ⟨hbw5, hBz5, he5⟩ := HBT.out _ hbl5
                          have HBZ5 := Lib.hid hBz5; clear hBz5 hcon hbld hed hRd hb5
                          generalize Pl.partOf r key val = q at *
                          by_cases hq : q.2 = 0
                          · have hR5 := Lib.hid (hok hq)
                            have hF6 : Hid (Pl.option s.data.toList = Pl.partsOf (L2.drop (k + 1)) q.1 true) := by show Pl.option _ = _; rw [hF5.out, if_pos hq]
                            have t0 : ((q.2 : Int) != 0) = false := by rw [hq]; rfl
                            clear hok hF5 hq
                            go_wp2
                            exact ⟨⟨k + 1, q.1, true, by omega, by go_num, rfl, hF6, hR5, hbl5⟩, by simp [intOf]; omega⟩
                          · have hF6 : Hid (Pl.option s.data.toList = ({}, q.2)) := by show Pl.option _ = _; rw [hF5.out, if_neg hq]
                            have t0 : ((q.2 : Int) != 0) = true := by rw [bne_iff_ne]; omega
                            clear hok hF5 hq
                            go_wp2_with (refine wpList_store_block rfl 26 (.tmp 2) _ rfl w.heap.size zeroRule zeroRule rfl rfl (HBZ5.out) rfl (by kernel_rfl) zeroRule_one ?_; intro wz hBz hbbz)
                            refine bodyPost_ret (v := .tuple #[.agg (({} : PR).cells PV.nil), .int .u8 (q.2 : Nat)]) (results_block_tmp Tryz.results5 _ _ w.heap.size zeroRule _ rfl hBz Tryz.underlying26 rfl (by kernel_rfl)) rfl (OptRes.zero (o := q.2) (hF6.out) ?_)
                            exact (hbw5).trans (hbbz.own (Nat.le_refl _) (hbw5).size)
                  · have hF4 : Hid (Pl.option s.data.toList = ({}, 1)) := by rw [hF3.out]; exact Pl.partStep_not2 _ _ _ _ hP2
                    have t1 : ((P.length : Int) != 2) = true := by rw [bne_iff_ne]; omega
                    clear hF3
                    go_wp2_with (refine wpList_store_block rfl 26 (.tmp 2) _ rfl w.heap.size zeroRule zeroRule rfl rfl (HBZM.out) rfl (by kernel_rfl) zeroRule_one ?_; intro wz hBz hbbz)
                    refine bodyPost_ret (v := .tuple #[.agg (({} : PR).cells PV.nil), .int .u8 (1 : Nat)]) (results_block_tmp Tryz.results5 _ _ w.heap.size zeroRule _ rfl hBz Tryz.underlying26 rfl (by kernel_rfl)) rfl (OptRes.zero (o := 1) (hF4.out) ?_)
                    exact (hbwm).trans (hbbz.own (Nat.le_refl _) (hbwm).size)
                · obtain rfl : k = L2.length := by omega
                  rw [List.drop_length] at hF
                  cases fq
                  · have hF2 : Hid (Pl.option s.data.toList = ({}, 1)) := hF
                    go_wp2_with (refine wpList_store_block rfl 26 (.tmp 2) _ rfl w.heap.size zeroRule zeroRule rfl rfl (HBZ0.out) rfl (by kernel_rfl) zeroRule_one ?_; intro wz hBz hbbz)
                    refine bodyPost_ret (v := .tuple #[.agg (({} : PR).cells PV.nil), .int .u8 (1 : Nat)]) (results_block_tmp Tryz.results5 _ _ w.heap.size zeroRule _ rfl hBz Tryz.underlying26 rfl (by kernel_rfl)) rfl (OptRes.zero (o := 1) (hF2.out) ?_)
                    exact (hbw).trans (hbbz.own (Nat.le_refl _) (hbw).size)
                  · have hF2 : Hid (Pl.option s.data.toList = (r, 0)) := hF
                    obtain ⟨vv, hBv, hPv⟩ := hR.out
                    have HBV := Lib.hid hBv; clear hBv
                    go_wp2_with (first | (refine wpList_load_block rfl 26 (.tmp 5) rfl rb _ rfl _ HBV.out Tryz.underlying26 rfl (by kernel_rfl) ?_) | (refine wpList_store_block rfl 26 (.tmp 2) _ rfl w.heap.size zeroRule _ rfl rfl HBZ0.out rfl (by kernel_rfl) hPv.one ?_; intro wz hBz hbbz))
                    refine bodyPost_ret (v := .tuple #[.agg (r.cells vv), .int .u8 0]) (results_block_tmp Tryz.results5 _ _ w.heap.size _ _ rfl hBz Tryz.underlying26 rfl (by kernel_rfl)) rfl ⟨vv, rb, by rw [hF2.out]; rfl, ?_, ?_⟩
                    · rw [hF2.out]; exact hPv.butO hbbz (Nat.le_of_lt hwrb)
                    · exact hbw.trans (hbbz.own (Nat.le_refl _) hbw.size)
            · have HE : Hid ((bs t).extract 6 (bs t).size = bs T) := by
                show _ = _
                rw [bs_extract, bs_list, List.take_of_length_le (by rw [bs_size]; exact Nat.le_refl _), ← HT.out, HTP.out _ hp]; rfl
              have hbeg2 : Calls Tryz.prog 20 #[.string (bs t), .string ⟨#[82, 82, 85, 76, 69, 58]⟩] wr fun e w' => e = .returned (.bool true) ∧ wr = w' := by rw [← hp]; exact hbeg
              have hspl2 : Calls Tryz.prog 16 #[.string ((bs t).extract 6 (bs t).size), .int .u8 59] wr fun e w' => ∃ v, e = .returned v ∧ Row w' v (strs (Pl.split 59 T)) ∧ Below wr.heap.size wr w' := by rw [HE.out]; exact hspl
              have h6 : 6 ≤ (bs t).size := by
                rw [bs_size]; rcases Nat.lt_or_ge t.length 6 with h | h
                · rw [hasPrefix_short t _ (by simpa using h)] at hp; cases hp
                · exact h
              clear hbeg hspl hp
              go_wp2_with (go_at_call 20; refine hbeg2.mono ?_; rintro e w' ⟨rfl, rfl⟩)
              refine hspl2.mono ?_
              clear hbeg2 hspl2
              rintro e wq ⟨v2, rfl, hrow2, hbq⟩
              have hne2 := Pl.split_ne 59 T
              have hlen2 := Pl.split_length 59 T
              have HMEM2 := Lib.hid (Pl.split_mem_length 59 T)
              generalize Pl.split 59 T = L2 at *
              obtain ⟨b2, o2, cap2, rfl, hbl2, hcap2, hc2⟩ := hrow2.open (strs_ne hne2)
              rw [strs_length] at hcap2 ⊢
              have hRq : Hid (RuleAt wq rb _) := hRr.out.below hbq
              have hnb2 : b2 ≠ rb := by
                rintro rfl
                obtain ⟨x, hx⟩ : ∃ x, L2[0]? = some x := ⟨_, List.getElem?_eq_getElem (List.length_pos_iff.2 hne2)⟩
                obtain ⟨vv, hBB, hPP⟩ := hRq.out
                have h1 := hc2 0 _ (strs_get hx)
                rw [hBB.cell] at h1
                exact hPP.no_string _ _ h1
              have HC2 := Lib.hid hc2; clear hc2 hrow2
              have hBq : Hid (Block wq w.heap.size zeroRule) := hBwr.out.below hbq
              have hbwq : Below w.heap.size w wq := hbwr.trans (hbq.mono hbwr.size)
              have heq : Env wq := her.below hbq
              have hrq : rb < wq.heap.size := Nat.lt_of_lt_of_le hrbl hbq.size
              clear hRr hBwr hbwr her hbq hTs hrbl HTP HT
              have HBT : Hid (∀ wl, ButBelow rb wq wl → Below w.heap.size w wl ∧ Block wl w.heap.size zeroRule ∧ Env wl) := fun wl hbl =>
                ⟨hbwq.trans (hbl.own (Nat.le_of_lt hwrb) hbwq.size), hBq.out.but (Nat.ne_of_lt hwrb) hbl, heq.but hrb21 hbl⟩
              clear hBq heq
              go_wp2
              go_loopw [11, 78] (fun f i wl => ∃ (k : Nat) (r : PR) (fq : Bool), k ≤ L2.length ∧ i = .int .i64 k ∧ f = .bool fq ∧ Hid (Pl.option s.data.toList = Pl.partsOf (L2.drop k) r fq) ∧ Hid (RuleAt wl rb r) ∧ ButBelow rb wq wl) (fun _ i _ => L2.length - (intOf i).toNat)
              case atStart => exact ⟨0, _, false, Nat.zero_le _, rfl, rfl, HFIN, hRq, ButBelow.refl _ _⟩
              case round =>
                obtain ⟨k, r, fq, hk, rfl, rfl, hF, hR, hbl⟩ := hrel
                obtain ⟨hbw, hBz0, hel⟩ := HBT.out _ hbl
                have HBZ0 := Lib.hid hBz0; clear hBz0
                have hsl := hbl.size
                have hrl : rb < _ := Nat.lt_of_lt_of_le hrq hsl
                by_cases hlt : k < L2.length
                · obtain ⟨x, hx⟩ : ∃ x, L2[k]? = some x := ⟨_, List.getElem?_eq_getElem hlt⟩
                  have hcell : wr.cell? ⟨b2, o2 + k, none⟩ = some (.string (bs x)) := by rw [World.cell?_of_block (w := wq) (hbl.block b2 hbl2 hnb2)]; exact HC2.out _ _ (strs_get hx)
                  have hxT := HMEM2.out x (List.mem_of_getElem? hx)
                  have hxl : (bs x).size ≤ 1000000 := by rw [bs_size]; omega
                  have hF3 : Hid (Pl.option s.data.toList = Pl.partStep (Pl.split 61 x) (L2.drop (k + 1)) r fq) := by rw [hF.out, drop_get hx]; rfl
                  have hspl3 := textSplit_any (bs x) 61 wr hxl
                  rw [bs_list] at hspl3
                  clear hF HBZ0 hx
                  go_wp2_with fail
                  refine hspl3.mono ?_
                  rintro e wm ⟨v3, rfl, hrow3, hb3⟩
                  have hne3 := Pl.split_ne 61 x
                  have HM3 := Lib.hid (Pl.split_mem_length 61 x)
                  generalize Pl.split 61 x = P at *
                  obtain ⟨b3, o3, cap3, rfl, hbl3, hcap3, hc3⟩ := hrow3.open (strs_ne hne3)
                  rw [strs_length] at hcap3 ⊢
                  have HC3 := Lib.hid hc3; clear hc3 hrow3 hspl3
                  have hblm := hbl.below hb3
                  obtain ⟨hbwm, hBzm, hem⟩ := HBT.out _ hblm
                  have HBZM := Lib.hid hBzm; clear hBzm
                  have hRm : Hid (RuleAt wm rb r) := hR.out.below hb3
                  clear hR hb3
                  by_cases hP2 : P.length = 2
                  · match P, hP2 with
                    | [key, val], _ =>
                      have c0 : wm.cell? ⟨b3, o3, none⟩ = some (.string (bs key)) := by simpa using HC3.out 0 _ (strs_get (l := key) rfl)
                      have c1 : wm.cell? ⟨b3, o3 + 1, none⟩ = some (.string (bs val)) := HC3.out 1 _ (strs_get (l := val) rfl)
                      have hvl : (bs val).size ≤ 1000000 := by
                        have := HM3.out val (by simp); rw [bs_size]; omega
                      by_cases hv0 : val = []
                      · subst hv0
                        have hF4 : Hid (Pl.option s.data.toList = ({}, 1)) := by rw [hF3.out]; rfl
                        have v0 : (bs []).toList.isEmpty = true := by rw [bs_isEmpty]; rfl
                        go_wp2_with (refine wpList_store_block rfl 26 (.tmp 2) _ rfl w.heap.size zeroRule zeroRule rfl rfl (HBZM.out) rfl (by kernel_rfl) zeroRule_one ?_; intro wz hBz hbbz)
                        refine bodyPost_ret (v := .tuple #[.agg (({} : PR).cells PV.nil), .int .u8 (1 : Nat)]) (results_block_tmp Tryz.results5 _ _ w.heap.size zeroRule _ rfl hBz Tryz.underlying26 rfl (by kernel_rfl)) rfl (OptRes.zero (o := 1) (hF4.out) ?_)
                        exact (hbwm).trans (hbbz.own (Nat.le_refl _) (hbwm).size)
                      · have v0 : (bs val).toList.isEmpty = false := by rw [bs_isEmpty]; exact decide_eq_false hv0
                        have hcon := fun wd hed hrd => part_any rb hrb21 r (bs key) (bs val) wd hed hvl hrd
                        rw [bs_list, bs_list] at hcon
                        have hF5 : Hid (Pl.option s.data.toList = if (Pl.partOf r key val).2 = 0 then Pl.partsOf (L2.drop (k + 1)) (Pl.partOf r key val).1 (fq || decide (key = Pl.kFREQ)) else ({}, (Pl.partOf r key val).2)) := by
                          show Pl.option _ = _
                          rw [hF3.out]; unfold Pl.partStep; simp only [if_neg hv0]
                        have HV0 := Lib.hid hv0
                        clear hF3 hv0
                        cases hkf : decide (key = Pl.kFREQ)
                        · have hl : ((bs key).toList == [70, 82, 69, 81]) = false := by rw [str_ne_lit]; exact hkf
                          rw [hkf, Bool.or_false] at hF5
                          clear hkf
                          go_wp2_with fail
                          go_still_tail 6, (by kernel_rfl)
                          change wpList _ _ _ _ _ wm.drew
                          have hbd : Below wm.heap.size wm wm.drew := (Below.refl _ _).drew
                          have hbld := hblm.below hbd
                          have hed := hem.below hbd
                          have hRd : Hid (RuleAt wm.drew rb r) := hRm.out.below hbd
                          clear hbd HBZM hRm hbwm hem hblm c0 c1 v0 hl
                          generalize wm.drew = wd at *
                          go_wp2_with fail
                          refine (hcon wd hed hRd.out).mono ?_
                          rintro e w5 ⟨rfl, hok, hb5⟩
                          have hbl5 := hbld.trans hb5
                          obtain ⟨hbw5, hBz5, he5⟩ := HBT.out _ hbl5
                          have HBZ5 := Lib.hid hBz5; clear hBz5 hcon hbld hed hRd hb5
                          generalize Pl.partOf r key val = q at *
                          by_cases hq : q.2 = 0
                          · have hR5 := Lib.hid (hok hq)
                            have hF6 : Hid (Pl.option s.data.toList = Pl.partsOf (L2.drop (k + 1)) q.1 fq) := by show Pl.option _ = _; rw [hF5.out, if_pos hq]
                            have t0 : ((q.2 : Int) != 0) = false := by rw [hq]; rfl
                            clear hok hF5 hq
                            go_wp2
                            exact ⟨⟨k + 1, q.1, fq, by omega, by go_num, rfl, hF6, hR5, hbl5⟩, by simp [intOf]; omega⟩
                          · have hF6 : Hid (Pl.option s.data.toList = ({}, q.2)) := by show Pl.option _ = _; rw [hF5.out, if_neg hq]
                            have t0 : ((q.2 : Int) != 0) = true := by rw [bne_iff_ne]; omega
                            clear hok hF5 hq
                            go_wp2_with (refine wpList_store_block rfl 26 (.tmp 2) _ rfl w.heap.size zeroRule zeroRule rfl rfl (HBZ5.out) rfl (by kernel_rfl) zeroRule_one ?_; intro wz hBz hbbz)
                            refine bodyPost_ret (v := .tuple #[.agg (({} : PR).cells PV.nil), .int .u8 (q.2 : Nat)]) (results_block_tmp Tryz.results5 _ _ w.heap.size zeroRule _ rfl hBz Tryz.underlying26 rfl (by kernel_rfl)) rfl (OptRes.zero (o := q.2) (hF6.out) ?_)
                            exact (hbw5).trans (hbbz.own (Nat.le_refl _) (hbw5).size)
                        · have hl : ((bs key).toList == [70, 82, 69, 81]) = true := by rw [str_ne_lit]; exact hkf
                          rw [hkf, Bool.or_true] at hF5
                          clear hkf
                          go_wp2_with fail
                          go_still_tail 6, (by kernel_rfl)
                          change wpList _ _ _ _ _ wm.drew
                          have hbd : Below wm.heap.size wm wm.drew := (Below.refl _ _).drew
                          have hbld := hblm.below hbd
                          have hed := hem.below hbd
                          have hRd : Hid (RuleAt wm.drew rb r) := hRm.out.below hbd
                          clear hbd HBZM hRm hbwm hem hblm c0 c1 v0 hl
                          generalize wm.drew = wd at *
                          go_wp2_with fail
                          refine (hcon wd hed hRd.out).mono ?_
                          rintro e w5 ⟨rfl, hok, hb5⟩
                          have hbl5 := hbld.trans hb5
                          obtain ⟨hbw5, hBz5, he5⟩ := HBT.out _ hbl5
                          have HBZ5 := Lib.hid hBz5; clear hBz5 hcon hbld hed hRd hb5
                          generalize Pl.partOf r key val = q at *
                          by_cases hq : q.2 = 0
                          · have hR5 := Lib.hid (hok hq)
                            have hF6 : Hid (Pl.option s.data.toList = Pl.partsOf (L2.drop (k + 1)) q.1 true) := by show Pl.option _ = _; rw [hF5.out, if_pos hq]
                            have t0 : ((q.2 : Int) != 0) = false := by rw [hq]; rfl
                            clear hok hF5 hq
                            go_wp2
                            exact ⟨⟨k + 1, q.1, true, by omega, by go_num, rfl, hF6, hR5, hbl5⟩, by simp [intOf]; omega⟩
                          · have hF6 : Hid (Pl.option s.data.toList = ({}, q.2)) := by show Pl.option _ = _; rw [hF5.out, if_neg hq]
                            have t0 : ((q.2 : Int) != 0) = true := by rw [bne_iff_ne]; omega
                            clear hok hF5 hq
                            go_wp2_with (refine wpList_store_block rfl 26 (.tmp 2) _ rfl w.heap.size zeroRule zeroRule rfl rfl (HBZ5.out) rfl (by kernel_rfl) zeroRule_one ?_; intro wz hBz hbbz)
                            refine bodyPost_ret (v := .tuple #[.agg (({} : PR).cells PV.nil), .int .u8 (q.2 : Nat)]) (results_block_tmp Tryz.results5 _ _ w.heap.size zeroRule _ rfl hBz Tryz.underlying26 rfl (by kernel_rfl)) rfl (OptRes.zero (o := q.2) (hF6.out) ?_)
                            exact (hbw5).trans (hbbz.own (Nat.le_refl _) (hbw5).size)
                  · have hF4 : Hid (Pl.option s.data.toList = ({}, 1)) := by rw [hF3.out]; exact Pl.partStep_not2 _ _ _ _ hP2
                    have t1 : ((P.length : Int) != 2) = true := by rw [bne_iff_ne]; omega
                    clear hF3
                    go_wp2_with (refine wpList_store_block rfl 26 (.tmp 2) _ rfl w.heap.size zeroRule zeroRule rfl rfl (HBZM.out) rfl (by kernel_rfl) zeroRule_one ?_; intro wz hBz hbbz)
                    refine bodyPost_ret (v := .tuple #[.agg (({} : PR).cells PV.nil), .int .u8 (1 : Nat)]) (results_block_tmp Tryz.results5 _ _ w.heap.size zeroRule _ rfl hBz Tryz.underlying26 rfl (by kernel_rfl)) rfl (OptRes.zero (o := 1) (hF4.out) ?_)
                    exact (hbwm).trans (hbbz.own (Nat.le_refl _) (hbwm).size)
                · obtain rfl : k = L2.length := by omega
                  rw [List.drop_length] at hF
                  cases fq
                  · have hF2 : Hid (Pl.option s.data.toList = ({}, 1)) := hF
                    go_wp2_with (refine wpList_store_block rfl 26 (.tmp 2) _ rfl w.heap.size zeroRule zeroRule rfl rfl (HBZ0.out) rfl (by kernel_rfl) zeroRule_one ?_; intro wz hBz hbbz)
                    refine bodyPost_ret (v := .tuple #[.agg (({} : PR).cells PV.nil), .int .u8 (1 : Nat)]) (results_block_tmp Tryz.results5 _ _ w.heap.size zeroRule _ rfl hBz Tryz.underlying26 rfl (by kernel_rfl)) rfl (OptRes.zero (o := 1) (hF2.out) ?_)
                    exact (hbw).trans (hbbz.own (Nat.le_refl _) (hbw).size)
                  · have hF2 : Hid (Pl.option s.data.toList = (r, 0)) := hF
                    obtain ⟨vv, hBv, hPv⟩ := hR.out
                    have HBV := Lib.hid hBv; clear hBv
                    go_wp2_with (first | (refine wpList_load_block rfl 26 (.tmp 5) rfl rb _ rfl _ HBV.out Tryz.underlying26 rfl (by kernel_rfl) ?_) | (refine wpList_store_block rfl 26 (.tmp 2) _ rfl w.heap.size zeroRule _ rfl rfl HBZ0.out rfl (by kernel_rfl) hPv.one ?_; intro wz hBz hbbz))
                    refine bodyPost_ret (v := .tuple #[.agg (r.cells vv), .int .u8 0]) (results_block_tmp Tryz.results5 _ _ w.heap.size _ _ rfl hBz Tryz.underlying26 rfl (by kernel_rfl)) rfl ⟨vv, rb, by rw [hF2.out]; rfl, ?_, ?_⟩
                    · rw [hF2.out]; exact hPv.butO hbbz (Nat.le_of_lt hwrb)
                    · exact hbw.trans (hbbz.own (Nat.le_refl _) hbw.size)
          · have t0 : ((q.2 : Int) != 0) = true := by rw [bne_iff_ne]; omega
            have hF2 : Hid (Pl.option s.data.toList = ({}, q.2)) := by show Pl.option _ = _; rw [hF.out, if_neg hq]
            clear hF hq
            go_wp2_with (refine wpList_store_block rfl 26 (.tmp 2) _ rfl w.heap.size zeroRule zeroRule rfl rfl (hB4w.out) rfl (by kernel_rfl) zeroRule_one ?_; intro wz hBz hbbz)
            refine bodyPost_ret (v := .tuple #[.agg (({} : PR).cells PV.nil), .int .u8 (q.2 : Nat)]) (results_block_tmp Tryz.results5 _ _ w.heap.size zeroRule _ rfl hBz Tryz.underlying26 rfl (by kernel_rfl)) rfl (OptRes.zero (o := q.2) (hF2.out) ?_)
            exact (hbw4).trans (hbbz.own (Nat.le_refl _) (hbw4).size)
    | x :: y :: z :: r, _ =>
      have h3 : 2 < (x :: y :: z :: r).length := by simp
      have HF : Hid (Pl.option s.data.toList = ({}, 1)) := HFIN
      clear HFIN HMEM HC
      generalize x :: y :: z :: r = L at *
      have hb1' : ((L.length : Int) == 1) = false := by rw [beq_eq_false_iff_ne]; omega
      have hb2' : ((L.length : Int) == 2) = false := by rw [beq_eq_false_iff_ne]; omega
      go_wp2_with (first | (refine wpList_store_block rfl 26 (.tmp 5) (.tmp 23) rfl _ zeroRule zeroRule rfl rfl (hBa.out _) rfl (by kernel_rfl) zeroRule_one ?_; intro w3 hB3 hbb3; have hb23 := store_own hbb3; have hBw3 : Hid (Block w3 w.heap.size zeroRule) := hBw.out.below hb23) | (refine wpList_store_block rfl 26 (.tmp 2) _ rfl w.heap.size zeroRule zeroRule rfl rfl hBw3.out rfl (by kernel_rfl) zeroRule_one ?_; intro w4 hB4 hbb4))
      refine bodyPost_ret (v := .tuple #[.agg (({} : PR).cells PV.nil), .int .u8 1]) (results_block_tmp Tryz.results5 _ _ w.heap.size zeroRule _ rfl hB4 Tryz.underlying26 rfl (by kernel_rfl)) rfl (OptRes.zero (o := 1) HF.out ?_)
      exact (hbw.trans (hb23.mono (Nat.le_of_lt hsw))).trans (hbb4.own (Nat.le_refl _) (Nat.le_of_lt (Nat.lt_of_lt_of_le hsw hb23.size)))

end Go.Proofs.YthkgjhnckakliaaGreatDoorR

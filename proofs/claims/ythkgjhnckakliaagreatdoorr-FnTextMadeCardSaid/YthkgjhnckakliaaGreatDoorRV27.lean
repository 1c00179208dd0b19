/- rrule.StrToROptionInLocation. -/
import Derived.Test.YthkgjhnckakliaaGreatDoorRV23
import Derived.Deep.DeepCutAuto
import Derived.Deep.CutBlock
import Derived.Deep.RegionLaw
import Derived.Deep.RegionHeld3
namespace Go.Proofs.YthkgjhnckakliaaGreatDoorR
open Go.RowKit

/-- What a part of the text makes of the option, and the error. -/
def IPart (rb : Nat) (r : PR) (key val : Bs) (e : Value) (w : World) : Prop :=
  ((Pl.partOf r key val).2 = 0 ∧ e = .nilIface ∧ IRuleAt w rb (Pl.partOf r key val).1) ∨ ((Pl.partOf r key val).2 = 1 ∧ IsErr e)
theorem Pl.moment_le (s : Bs) : (Pl.moment s).2 ≤ 2 := by
  unfold Pl.moment
  repeat' split
  all_goals simp
theorem Pl.tstart_le (s : Bs) : (Pl.tstart s).2 ≤ 2 := by
  unfold Pl.tstart
  repeat' split
  all_goals first | exact Pl.moment_le _ | simp
theorem Pl.split_mem_sub (b : UInt8) : ∀ (l x : Bs), x ∈ Pl.split b l → ∀ c ∈ x, c ∈ l
  | [], x, h, c, hc => by simp [Pl.split] at h; subst h; cases hc
  | a :: l, x, h, c, hc => by
    unfold Pl.split at h
    split at h
    · rcases List.mem_cons.1 h with rfl | h
      · cases hc
      · exact List.mem_cons_of_mem _ (Pl.split_mem_sub b l x h c hc)
    · cases hs : Pl.split b l with
      | nil => exact absurd hs (Pl.split_ne _ _)
      | cons y r =>
        rw [hs] at h
        rcases List.mem_cons.1 h with rfl | h
        · rcases List.mem_cons.1 hc with rfl | hc
          · simp
          · exact List.mem_cons_of_mem _ (Pl.split_mem_sub b l y (by rw [hs]; simp) c hc)
        · exact List.mem_cons_of_mem _ (Pl.split_mem_sub b l x (by rw [hs]; simp [h]) c hc)

set_option maxHeartbeats 8000000 in
set_option maxRecDepth 100000 in
theorem StrToROptionIn_any (s : Bs) (w : World) (he : Env w) (hw : 20 ≤ w.heap.size) (hs : s.length ≤ 999999) (h2 : (Pl.option s).2 ≠ 2) :
    Calls Tryz.prog 49 #[.string (bs s), .agg #[]] w (IOptRes s w) := by
  cases ha : Pl.ascii s with
  | false => exact absurd (by unfold Pl.option; rw [ha]; rfl) h2
  | true =>
  have hop : Pl.option s = match Pl.split 10 (Lib.trimSpace s) with
      | [t] => Pl.partsOf (Pl.split 59 (Lib.trimPrefix t Pl.rrule)) {} false
      | [l, t] =>
        if Pl.isStart l then
          if (Pl.tstart (l.drop 8)).2 = 0 then Pl.partsOf (Pl.split 59 (Lib.trimPrefix t Pl.rrule)) { start := (Pl.tstart (l.drop 8)).1, hasStart := (Pl.tstart (l.drop 8)).1 != 0 } false
          else ({}, (Pl.tstart (l.drop 8)).2)
        else ({}, 1)
      | _ => ({}, 1) := by unfold Pl.option; rw [ha]; rfl
  have HOP := Lib.hid hop; clear hop
  have H2 := Lib.hid h2; clear h2
  have hal : ∀ c ∈ s, c.toNat < 128 := fun c hc => by simpa using List.all_eq_true.1 ha c hc
  have htl := trim_length s
  have hcT := fun w (he : Env w) => Tryz.strings_TrimSpace (bs s) w (by rw [bs_size]; omega) (fun j b hj => hal b (by rw [bs_list] at hj; exact List.mem_of_getElem? hj)) he.space
  rw [bs_list] at hcT
  have hspl := fun w => zzSplit_any (bs (Lib.trimSpace s)) ⟨#[10]⟩ 10 w (by rw [bs_size]; omega) rfl
  rw [bs_list] at hspl
  have hba : Below w.heap.size w (w.alloc (.cells #[] 102)) := (Below.refl _ _).alloc (Nat.le_refl _) _
  have HLO : Hid (Block (w.alloc (.cells #[] 102)) w.heap.size #[]) := ⟨102, heap_alloc_new w _⟩
  have hsz0 : w.heap.size < (w.alloc (.cells #[] 102)).heap.size := by simp
  have hcT := hcT _ (he.below hba)
  go_enter Tryz.func49, Tryz.ntmps49
  go_wp2_with (go_at_call 65; refine hcT.mono ?_; rintro e w' ⟨rfl, rfl⟩)
  have hbb := below_bytesWorld (w.alloc (.cells #[] 102)) 5 (bs s)
  generalize Lib.bytesWorld (w.alloc (.cells #[] 102)) 5 (bs s) = w1 at *
  have HL1 := Lib.hid (HLO.out.below hbb)
  clear HLO
  have hball := hba.trans (hbb.mono hba.size)
  have hsz1 := Nat.lt_of_lt_of_le hsz0 hbb.size
  clear hbb hba hcT hsz0
  generalize w.alloc (.cells #[] 102) = w0 at *
  refine (hspl _).mono ?_
  rintro e w2 ⟨v, rfl, hrow, hb2⟩
  clear hspl
  have hne := Pl.split_ne 10 (Lib.trimSpace s)
  have HFIRST : Hid (∀ a r, Pl.split 10 (Lib.trimSpace s) = a :: r → r ≠ [] → a ≠ []) := fun a r h hr => Pl.split_first h hr
  have HMEM : Hid (∀ x ∈ Pl.split 10 (Lib.trimSpace s), x.length ≤ 999999 ∧ Pl.ascii x = true) := fun x hx => ⟨by
    have := Pl.split_mem_length 10 _ x hx; omega, by
    unfold Pl.ascii; rw [List.all_eq_true]; intro c hc
    exact decide_eq_true (hal c (trim_mem (Pl.split_mem_sub 10 _ x hx c hc)))⟩
  obtain ⟨b, o, cap, rfl, hbl, hcap, hc⟩ := hrow.open (strs_ne hne)
  rw [strs_length] at hcap ⊢
  have HC := Lib.hid hc; clear hc hrow hal
  have HL2 := Lib.hid (HL1.out.below hb2)
  have he2 := (he.below hball).below hb2
  have hsz2 := Nat.lt_of_lt_of_le hsz1 hb2.size
  have hball := hball.trans (hb2.mono hball.size)
  clear HL1 hb2 htl
  generalize Pl.split 10 (Lib.trimSpace s) = L at *
  go_upto_block 0 with fail
  go_cut [7, 8] (fun s7 s8 wx => ∃ l t : Bs, s7 = .string (bs t) ∧ s8 = .string (bs l) ∧ wx = w2 ∧ ((L = [t] ∧ l = []) ∨ (L = [l, t])))
  case first =>
    as_aux_lemma =>
      match L, hne with
      | [x], _ =>
        have c0 : w2.cell? ⟨b, o, none⟩ = some (.string (bs x)) := by simpa using HC.out 0 _ (strs_get (l := x) rfl)
        go_wp2_with fail
        go_meet
        case rel => exact ⟨[], x, rfl, rfl, rfl, Or.inl ⟨rfl, rfl⟩⟩
      | [x, y], _ =>
        have c0 : w2.cell? ⟨b, o, none⟩ = some (.string (bs x)) := by simpa using HC.out 0 _ (strs_get (l := x) rfl)
        have c1 : w2.cell? ⟨b, o + 1, none⟩ = some (.string (bs y)) := HC.out 1 _ (strs_get (l := y) rfl)
        go_wp2_with fail
        go_meet
        case rel => exact ⟨x, y, rfl, rfl, rfl, Or.inr rfl⟩
      | x :: y :: z :: r, _ =>
        have HF : Hid (Pl.option s = ({}, 1)) := HOP
        have h3 : 2 < (x :: y :: z :: r).length := by simp
        generalize x :: y :: z :: r = L at *
        have hb1' : ((L.length : Int) == 1) = false := by rw [beq_eq_false_iff_ne]; omega
        have hb2' : ((L.length : Int) == 2) = false := by rw [beq_eq_false_iff_ne]; omega
        go_wp2_with (go_at_call 67; refine (New_any _ _).mono ?_; rintro e w' ⟨⟨t, u, rfl⟩, hbx⟩; have hball := hball.trans (hbx.mono hball.size); clear hbx)
        go_ret2
        exact Or.inr ⟨t, u, by rw [HF.out], rfl, hball⟩
  case rest =>
    obtain ⟨l, t, rfl, rfl, rfl, hLL⟩ := hcut
    have HB0 : Hid (Block (wc.alloc (.cells zOpt 64)) wc.heap.size zOpt) := ⟨64, heap_alloc_new wc _⟩
    have hba : Below wc.heap.size wc (wc.alloc (.cells zOpt 64)) := (Below.refl _ _).alloc (Nat.le_refl _) _
    have he3 := he2.below hba
    have HL3 := Lib.hid (HL2.out.below hba)
    have hball := hball.trans (hba.mono hball.size)
    have hrb21 : 20 ≤ wc.heap.size := Nat.le_trans hw (Nat.le_of_lt hsz2)
    have hwrb : w.heap.size < wc.heap.size := hsz2
    have hrbl : wc.heap.size < (wc.alloc (.cells zOpt 64)).heap.size := by simp
    clear hba HL2 he2 HC hcap hbl
    unfold zOpt at HB0 he3 HL3 hball hrbl
    go_upto_region 12 with (refine wpList_store_block rfl 64 _ _ rfl wc.heap.size zOpt zOpt rfl rfl HB0.out rfl (by kernel_rfl) zOpt_one ?_; intro w3 hB3 hbb3; have HB3 := Lib.hid hB3; have heS := he3.but hrb21 hbb3; have HLS := Lib.hid (HL3.out.but (Nat.ne_of_lt hwrb) hbb3); have hballS := hball.trans (hbb3.own (Nat.le_of_lt hwrb) hball.size); have hrbS := Nat.lt_of_lt_of_le hrbl hbb3.size; clear hB3 hbb3 he3 HL3 hball hrbl)
    clear HB0
    change Hid (Block w3 wc.heap.size zOpt) at HB3
    generalize wc.heap.size = rb at *
    have hls := HMEM.out
    -- the start's line
    go_upto_if 41 with fail
    go_cut [] (fun wx => ∃ r0 : PR, Hid (Pl.option s = Pl.partsOf (Pl.split 59 (Lib.trimPrefix t Pl.rrule)) r0 false) ∧ Hid (IRuleAt wx rb r0) ∧ ButBelow rb w3 wx)
    case first =>
      as_aux_lemma =>
        rcases hLL with ⟨rfl, rfl⟩ | rfl
        · have hE : (!(bs []).toList.isEmpty) = false := by rw [ByteArray.toList_eq]; rfl
          have HF : Hid (Pl.option s = Pl.partsOf (Pl.split 59 (Lib.trimPrefix t Pl.rrule)) {} false) := HOP
          rw [hE]
          go_wp2_with fail
          go_meet
          case rel => exact ⟨{}, HF, Lib.hid ⟨PV.nil, HB3.out, PRows.inil _ _⟩, ButBelow.refl _ _⟩
        · have hl0 : l ≠ [] := HFIRST.out l [t] rfl (by simp)
          have hE : (!(bs l).toList.isEmpty) = true := by rw [bs_isEmpty, decide_eq_false hl0]; rfl
          obtain ⟨hll, hla⟩ := hls l (by simp)
          have hcon := fun w he => processName_any l w he (by omega) hla
          have hF1 : Pl.option s = if Pl.isStart l then
              if (Pl.tstart (l.drop 8)).2 = 0 then Pl.partsOf (Pl.split 59 (Lib.trimPrefix t Pl.rrule)) { start := (Pl.tstart (l.drop 8)).1, hasStart := (Pl.tstart (l.drop 8)).1 != 0 } false
              else ({}, (Pl.tstart (l.drop 8)).2)
            else ({}, 1) := HOP.out
          rw [hE]
          go_wp2_with fail
          refine (hcon w3 heS).mono ?_
          rintro e w4 ⟨nm, err, rfl, hn1, hn2, hb4⟩
          have hball4 := hballS.trans (hb4.mono hballS.size)
          have HB4 := Lib.hid (HB3.out.below hb4)
          have HL4 := Lib.hid (HLS.out.below hb4)
          have he4 := heS.below hb4
          have hrb4 := Nat.lt_of_lt_of_le hrbS hb4.size
          cases hst : Pl.isStart l with
          | false =>
            have HF : Hid (Pl.option s = ({}, 1)) := by show _ = _; rw [hF1, hst]; rfl
            have hn3 := hn2 hst
            clear hn1 hn2 hF1 hst hcon
            rcases hn3 with ⟨t5, u5, rfl⟩ | ⟨rfl, hnm⟩
            · have hball := hball4
              go_wp2_with (go_at_call 67; refine (New_any _ _).mono ?_; rintro e w' ⟨⟨t, u, rfl⟩, hbx⟩; have hball := hball.trans (hbx.mono hball.size); clear hbx)
              go_ret2
              exact Or.inr ⟨t, u, by rw [HF.out], rfl, hball⟩
            · have hnb : (!((bs nm).toList == [68, 84, 83, 84, 65, 82, 84])) = true := by rw [str_ne_lit, decide_eq_false (show ¬ (nm = [68, 84, 83, 84, 65, 82, 84]) from hnm)]; rfl
              have hball := hball4
              go_wp2_with (go_at_call 67; refine (New_any _ _).mono ?_; rintro e w' ⟨⟨t, u, rfl⟩, hbx⟩; have hball := hball.trans (hbx.mono hball.size); clear hbx)
              go_ret2
              exact Or.inr ⟨t, u, by rw [HF.out], rfl, hball⟩
          | true =>
            obtain ⟨rfl, rfl⟩ := hn1 hst
            have hl8 := Pl.isStart_len hst
            rw [hst, if_pos rfl] at hF1
            have hx8 : (bs l).extract 8 (bs l).size = bs (l.drop 8) := by rw [bs_extract, bs_list, bs_size, List.take_length]
            have hS8 : (8 : Int) ≤ ((bs l).size : Int) := by rw [bs_size]; omega
            have hnb : (!((bs Pl.dtstart).toList == [68, 84, 83, 84, 65, 82, 84])) = false := by rw [str_ne_lit]; rfl
            have hd7 : (bs Pl.dtstart).size = 7 := by rw [bs_size]; rfl
            have ht2 : (Pl.tstart (l.drop 8)).2 ≠ 2 := fun h => by
              apply H2.out; rw [hF1, if_neg (by rw [h]; decide)]; exact h
            have hcs := fun w => StrToDtStart_any (l.drop 8) w (by simp; omega) ht2
            rw [← hx8] at hcs
            clear hn1 hn2 hst hcon hx8
            go_wp2_with fail
            have hD : bs Pl.dtstart = ⟨#[68, 84, 83, 84, 65, 82, 84]⟩ := rfl
            rw [hD]
            clear hE hD hnb hd7
            have hwr : IntKind.i64.wrap 8 = 8 := by decide
            generalize bs l = S at *
            go_region_held3 (fun _ => True) (exact trivial) (first | (go_at_call 69; refine (hcs _).mono ?_; rintro e w5 ⟨v, err, rfl, hE, hbx⟩; have hb5 : Below w4.heap.size w4 w5 := (by first | exact hbx | exact (Below.refl _ _).drew.trans hbx); have hball5 := hball4.trans (hb5.mono hball4.size); have hB5 := HB4.out.below hb5; have z1 : w5.cell? ⟨rb, 1, none⟩ = some (.int .i64 0) := hB5.cell 1; have z2 : w5.cell? ⟨rb, 2, none⟩ = some (.int .i64 0) := hB5.cell 2; have f1 := hB5.free 1; have f2 := hB5.free 2))
            all_goals (
              have hbs := ((ButBelow.refl rb w5).setCell 1 (.int .i64 v)).setCell 2 (.int .i64 0)
              have hball := hball5.trans (hbs.own (Nat.le_of_lt hwrb) hball5.size)
              have hBs : Block ((w5.setCell ⟨rb, 1, none⟩ (.int .i64 v)).setCell ⟨rb, 2, none⟩ (.int .i64 0)) rb ((zOpt.setIfInBounds 1 (.int .i64 v)).setIfInBounds 2 (.int .i64 0)) := (hB5.set 1 _).set 2 _
              have HBS := Lib.hid hBs
              have hbw : ButBelow rb w3 ((w5.setCell ⟨rb, 1, none⟩ (.int .i64 v)).setCell ⟨rb, 2, none⟩ (.int .i64 0)) := (ButBelow.of_below (hb4.trans (hb5.mono hb4.size))).trans hbs
              clear hBs hB5 hbs z1 z2 f1 f2
              unfold Pl.tstOut at hE
              rcases hE with ⟨hv, rfl⟩ | ⟨hv, rfl, t5, u5, rfl⟩
              · have hts : (Pl.tstart (l.drop 8)).2 = 0 ∧ (Pl.tstart (l.drop 8)).1 = v := by
                  split at hv
                  · injection hv with hv; exact ⟨by assumption, hv⟩
                  · cases hv
                have HF : Hid (Pl.option s = Pl.partsOf (Pl.split 59 (Lib.trimPrefix t Pl.rrule)) { start := v, hasStart := v != 0 } false) := by show _ = _; rw [hF1, if_pos hts.1, hts.2]
                clear hts hv hF1
                go_wp2_with fail
                go_meet
                case rel => exact ⟨_, HF, Lib.hid ⟨PV.nil, HBS.out, PRows.istart _ _ _ _⟩, hbw⟩
              · have hts : (Pl.tstart (l.drop 8)).2 = 1 := by
                  split at hv
                  · cases hv
                  · rename_i h0
                    have hle := Pl.tstart_le (l.drop 8)
                    omega
                have HF : Hid (Pl.option s = ({}, 1)) := by show _ = _; rw [hF1, if_neg (by rw [hts]; decide), hts]
                clear hts hv hF1
                go_wp2_with (go_at_call 67; refine (New_any _ _).mono ?_; rintro e w' ⟨⟨t, u, rfl⟩, hbx⟩; have hball := hball.trans (hbx.mono hball.size); clear hbx)
                go_ret2
                exact Or.inr ⟨t, u, by rw [HF.out], rfl, hball⟩)
    case rest =>
      obtain ⟨r0, HF0, HR0, hbl0⟩ := hcut
      have htl : t.length ≤ 999999 := by rcases hLL with ⟨rfl, _⟩ | rfl <;> exact (hls t (by simp)).1
      have HBT : Hid (∀ wl, ButBelow rb w3 wl → Below w.heap.size w wl ∧ Block wl w.heap.size #[] ∧ Env wl) := fun wl hbl =>
        ⟨hballS.trans (hbl.own (Nat.le_of_lt hwrb) hballS.size), HLS.out.but (Nat.ne_of_lt hwrb) hbl, heS.but hrb21 hbl⟩
      clear hLL hls HMEM HFIRST HOP HB3 HLS hball heS hne hcT he ha
      have hT := TrimPrefix_any (bs t) ⟨#[82, 82, 85, 76, 69, 58]⟩ wc
      rw [bs_list] at hT
      have hT : Calls Tryz.prog 70 #[.string (bs t), .string ⟨#[82, 82, 85, 76, 69, 58]⟩] wc fun e w' => e = .returned (.string (bs (Lib.trimPrefix t Pl.rrule))) ∧ wc = w' := hT
      have hTl : (Lib.trimPrefix t Pl.rrule).length ≤ 999999 := by
        unfold Lib.trimPrefix; split
        · rw [List.length_drop]; omega
        · exact htl
      generalize Lib.trimPrefix t Pl.rrule = T at *
      have hspl := zzSplit_any (bs T) ⟨#[59]⟩ 59 wc (by rw [bs_size]; omega) rfl
      rw [bs_list] at hspl
      go_wp2_with (go_at_call 70; refine hT.mono ?_; rintro e w' ⟨rfl, rfl⟩)
      refine hspl.mono ?_
      clear hT hspl
      rintro e wq ⟨v2, rfl, hrow2, hbq⟩
      have hne2 := Pl.split_ne 59 T
      have hlen2 := Pl.split_length 59 T
      have HMEM2 := Lib.hid (Pl.split_mem_length 59 T)
      generalize Pl.split 59 T = L2 at *
      obtain ⟨b2, o2, cap2, rfl, hbl2, hcap2, hc2⟩ := hrow2.open (strs_ne hne2)
      rw [strs_length] at hcap2 ⊢
      have hRq : Hid (IRuleAt wq rb r0) := HR0.out.below hbq
      have hblq := hbl0.below hbq
      have hnb2 : b2 ≠ rb := by
        rintro rfl
        obtain ⟨x, hx⟩ : ∃ x, L2[0]? = some x := ⟨_, List.getElem?_eq_getElem (List.length_pos_iff.2 hne2)⟩
        obtain ⟨vv, hBB, hPP⟩ := hRq.out
        have h1 := hc2 0 _ (strs_get hx)
        rw [hBB.cell] at h1
        exact hPP.no_istring _ _ h1
      have HC2 := Lib.hid hc2; clear hc2 hrow2
      have hrq : rb < wq.heap.size := Nat.lt_of_lt_of_le hrbS hblq.size
      clear HR0 hbl0 hbq hrbS
      go_wp2_with fail
      go_loopw [10, 72] (fun f i wl => ∃ (k : Nat) (r : PR) (fq : Bool), k ≤ L2.length ∧ i = .int .i64 k ∧ f = .bool fq ∧ Hid (Pl.option s = Pl.partsOf (L2.drop k) r fq) ∧ Hid (IRuleAt wl rb r) ∧ ButBelow rb wq wl) (fun _ i _ => L2.length - (intOf i).toNat)
      case atStart => exact ⟨0, _, false, Nat.zero_le _, rfl, rfl, HF0, hRq, ButBelow.refl _ _⟩
      case round =>
        obtain ⟨k, r, fq, hk, rfl, rfl, hF, hR, hbl⟩ := hrel
        obtain ⟨hball, hLw, hel⟩ := HBT.out _ (hblq.trans hbl)
        have HLW := Lib.hid hLw; clear hLw
        have hsl := hbl.size
        by_cases hlt : k < L2.length
        · obtain ⟨x, hx⟩ : ∃ x, L2[k]? = some x := ⟨_, List.getElem?_eq_getElem hlt⟩
          have hcell : wr.cell? ⟨b2, o2 + k, none⟩ = some (.string (bs x)) := by rw [World.cell?_of_block (w := wq) (hbl.block b2 hbl2 hnb2)]; exact HC2.out _ _ (strs_get hx)
          have hxT := HMEM2.out x (List.mem_of_getElem? hx)
          have hxl : (bs x).size ≤ 1000000 := by rw [bs_size]; omega
          have hF3 : Hid (Pl.option s = Pl.partStep (Pl.split 61 x) (L2.drop (k + 1)) r fq) := by rw [hF.out, drop_get hx]; rfl
          have hspl3 := zzSplit_any (bs x) ⟨#[61]⟩ 61 wr hxl rfl
          rw [bs_list] at hspl3
          clear hF hx
          go_wp2_with fail
          refine hspl3.mono ?_
          rintro e wm ⟨v3, rfl, hrow3, hb3⟩
          have hne3 := Pl.split_ne 61 x
          have HM3 := Lib.hid (Pl.split_mem_length 61 x)
          generalize Pl.split 61 x = P at *
          obtain ⟨b3, o3, cap3, rfl, hbl3, hcap3, hc3⟩ := hrow3.open (strs_ne hne3)
          rw [strs_length] at hcap3 ⊢
          have HC3 := Lib.hid hc3; clear hc3 hrow3 hspl3
          have hblm := hbl.below hb3
          obtain ⟨hball, hLm, hem⟩ := HBT.out _ (hblq.trans hblm)
          have HLM := Lib.hid hLm; clear hLm HLW
          have hRm : Hid (IRuleAt wm rb r) := hR.out.below hb3
          clear hR hb3
          by_cases hP2 : P.length = 2
          · match P, hP2 with
            | [key, val], _ =>
              have c0 : wm.cell? ⟨b3, o3, none⟩ = some (.string (bs key)) := by simpa using HC3.out 0 _ (strs_get (l := key) rfl)
              have c1 : wm.cell? ⟨b3, o3 + 1, none⟩ = some (.string (bs val)) := HC3.out 1 _ (strs_get (l := val) rfl)
              have hvl : val.length ≤ 1000000 := by
                have := HM3.out val (by simp); omega
              have hkl : key.length ≤ 1000000 := by
                have := HM3.out key (by simp); omega
              go_wp2_with fail
              go_quiet (fail)
              have hbd : Below wm.heap.size wm (wm.drewN nq) := below_drewN (Below.refl _ _) _
              have hbld := hblm.below hbd
              have hRd : Hid (IRuleAt (wm.drewN nq) rb r) := hRm.out.below hbd
              clear c0 c1 hbd hRm HLM hem hball hblm HC3
              generalize wm.drewN nq = wd at *
              obtain ⟨hball, hLd, hed⟩ := HBT.out _ (hblq.trans hbld)
              have HLD := Lib.hid hLd; clear hLd
              have hks : (bs key).size = key.length := bs_size _
              by_cases hv0 : val = []
              · subst hv0
                have HF : Hid (Pl.option s = ({}, 1)) := by show _ = _; rw [hF3.out]; rfl
                have hz : (bs []).size = 0 := by rw [bs_size]; rfl
                have hcat : ¬ 9223372036854775807 < (bs key).size + 20 := by omega
                clear hks
                go_wp2_with (go_at_call 67; refine (New_any _ _).mono ?_; rintro e w' ⟨⟨t, u, rfl⟩, hbx⟩; have hball := hball.trans (hbx.mono hball.size); clear hbx)
                go_ret2
                exact Or.inr ⟨t, u, by rw [HF.out], rfl, hball⟩
              · have hvz : (bs val).size = val.length := bs_size _
                have hvp : 0 < val.length := List.length_pos_iff.2 hv0
                have hvb : ((val.length : Int) == 0) = false := by rw [beq_eq_false_iff_ne]; omega
                have hF5 : Hid (Pl.option s = if (Pl.partOf r key val).2 = 0 then Pl.partsOf (L2.drop (k + 1)) (Pl.partOf r key val).1 (fq || decide (key = Pl.kFREQ)) else ({}, (Pl.partOf r key val).2)) := by
                  show Pl.option _ = _
                  rw [hF3.out]; unfold Pl.partStep; simp only [if_neg hv0]
                have H2Q : Hid ((Pl.partOf r key val).2 ≠ 2) := fun h => by
                  apply H2.out; rw [hF5.out, if_neg (by rw [h]; decide)]; exact h
                clear hF3
                go_upto_block 3 with fail
                go_cut [18, 10] (fun e f wx => f = .bool (fq || decide (key = Pl.kFREQ)) ∧ Hid (IPart rb r key val e wx) ∧ ButBelow rb wd wx)
                case first =>
                  as_aux_lemma =>
                    have hrd : rb < wd.heap.size := Nat.lt_of_lt_of_le hrq hbld.size
                    by_cases hk0 : key = Pl.kFREQ
                    · as_aux_lemma =>
                        subst hk0
                        have k0 : ((bs Pl.kFREQ).toList == [70, 82, 69, 81]) = true := by rw [str_ne_lit]; rfl
                        have hfq : true = (fq || decide (Pl.kFREQ = Pl.kFREQ)) := by cases fq <;> rfl
                        have HFQ := Lib.hid hfq; clear hfq
                        obtain ⟨vv, hBv, hPv⟩ := hRd.out
                        have HBV := Lib.hid hBv; clear hBv
                        have hq : Pl.partOf r Pl.kFREQ val = ({ r with freq := (Pl.freqOf val).getD 0 }, Pl.told (Pl.freqOf val).isSome) := by unfold Pl.partOf; rw [if_pos rfl]
                        have HQ := Lib.hid hq; clear hq
                        generalize bs Pl.kFREQ = K at *
                        go_wp2_with fail
                        refine (StrToFreq_any val _ hvl).mono ?_
                        rintro e w5 ⟨v, err, rfl, hE, hbx⟩
                        have HB5 := Lib.hid (HBV.out.below hbx)
                        have z0 : w5.cell? ⟨rb, 0, none⟩ = some (.int .i64 (r.freq : Nat)) := HB5.out.cell 0
                        have f0 := HB5.out.free 0
                        have hbs := (ButBelow.of_below (rb := rb) hbx).setCell 0 (.int .i64 v)
                        rcases hE with ⟨hv, rfl⟩ | ⟨hv, t, u, rfl⟩
                        · have hv2 : ∃ n : Nat, Pl.freqOf val = some n ∧ v = n := by
                            cases hf : Pl.freqOf val with
                            | none => rw [hf] at hv; cases hv
                            | some n => rw [hf] at hv; injection hv with hv; exact ⟨n, rfl, hv.symm⟩
                          obtain ⟨n, hf, rfl⟩ := hv2
                          have HF2 := Lib.hid hf; clear hf hv
                          go_wp2_with fail
                          go_meet
                          case rel =>
                            refine ⟨congrArg Value.bool HFQ.out, Lib.hid (Or.inl ⟨?_, rfl, ?_⟩), hbs⟩
                            · rw [HQ.out, HF2.out]; rfl
                            · rw [HQ.out, HF2.out]; have hP2 := hPv.but hbs; exact ⟨vv, HB5.out.set 0 _, ⟨hP2.setPos, hP2.month, hP2.monthDay, hP2.yearDay, hP2.weekNo, hP2.day, hP2.hour, hP2.minute, hP2.second, hP2.easter⟩⟩
                        · have hf : Pl.freqOf val = none := by cases hf : Pl.freqOf val with | none => rfl | some n => rw [hf] at hv; cases hv
                          have HF2 := Lib.hid hf; clear hf hv
                          go_wp2_with fail
                          go_meet
                          case rel => exact ⟨congrArg Value.bool HFQ.out, Lib.hid (Or.inr ⟨by rw [HQ.out, HF2.out]; rfl, t, u, rfl⟩), hbs⟩
                    by_cases hk1 : key = Pl.kDTSTART
                    · as_aux_lemma =>
                        subst hk1
                        have k0 : ((bs Pl.kDTSTART).toList == [70, 82, 69, 81]) = false := by rw [str_ne_lit]; rfl
                        have k1 : ((bs Pl.kDTSTART).toList == [68, 84, 83, 84, 65, 82, 84]) = true := by rw [str_ne_lit]; rfl
                        have hfq : fq = (fq || decide (Pl.kDTSTART = Pl.kFREQ)) := by cases fq <;> rfl
                        have HFQ := Lib.hid hfq; clear hfq
                        obtain ⟨vv, hBv, hPv⟩ := hRd.out
                        have HBV := Lib.hid hBv; clear hBv
                        have hq : Pl.partOf r Pl.kDTSTART val = ({ r with start := (Pl.moment val).1, hasStart := (Pl.moment val).1 != 0 }, (Pl.moment val).2) := by unfold Pl.partOf; (iterate 1 rw [if_neg (by decide)]); rw [if_pos rfl]
                        have hm2 : (Pl.moment val).2 ≠ 2 := by have := H2Q.out; rw [hq] at this; exact this
                        have HQ := Lib.hid hq; clear hq
                        have hcon := fun w => toTime_any val w hvl hm2
                        have hmle := Pl.moment_le val
                        generalize bs Pl.kDTSTART = K at *
                        go_wp2_with fail
                        refine (hcon _).mono ?_
                        rintro e w5 ⟨v, err, rfl, hE, hbx⟩
                        clear hcon
                        have HB5 := Lib.hid (HBV.out.below hbx)
                        have z0 : w5.cell? ⟨rb, 1, none⟩ = some (.int .i64 r.start) := HB5.out.cell 1
                        have z1 : w5.cell? ⟨rb, 2, none⟩ = some (.int .i64 0) := HB5.out.cell 2
                        have f0 := HB5.out.free 1
                        have f1 := HB5.out.free 2
                        have hbs := ((ButBelow.of_below (rb := rb) hbx).setCell 1 (.int .i64 v)).setCell 2 (.int .i64 0)
                        unfold Pl.momOut at hE
                        rcases hE with ⟨hv, rfl⟩ | ⟨hv, rfl, t, u, rfl⟩
                        · have hv2 : Pl.moment val = (v, 0) := by
                            split at hv
                            · injection hv with hv; exact Prod.ext hv (by assumption)
                            · cases hv
                          have HF2 := Lib.hid hv2; clear hv hv2
                          go_wp2_with fail
                          go_meet
                          case rel =>
                            refine ⟨congrArg Value.bool HFQ.out, Lib.hid (Or.inl ⟨?_, rfl, ?_⟩), hbs⟩
                            · rw [HQ.out, HF2.out]
                            · rw [HQ.out, HF2.out]; have hP2 := hPv.but hbs; exact ⟨vv, (HB5.out.set 1 _).set 2 _, ⟨hP2.setPos, hP2.month, hP2.monthDay, hP2.yearDay, hP2.weekNo, hP2.day, hP2.hour, hP2.minute, hP2.second, hP2.easter⟩⟩
                        · have hv2 : (Pl.moment val).2 = 1 := by
                            split at hv
                            · cases hv
                            · omega
                          have HF2 := Lib.hid hv2; clear hv hv2
                          go_wp2_with fail
                          go_meet
                          case rel => exact ⟨congrArg Value.bool HFQ.out, Lib.hid (Or.inr ⟨by rw [HQ.out]; exact HF2.out, t, u, rfl⟩), hbs⟩
                    by_cases hk2 : key = Pl.kINTERVAL
                    · as_aux_lemma =>
                        subst hk2
                        have k0 : ((bs Pl.kINTERVAL).toList == [70, 82, 69, 81]) = false := by rw [str_ne_lit]; rfl
                        have k1 : ((bs Pl.kINTERVAL).toList == [68, 84, 83, 84, 65, 82, 84]) = false := by rw [str_ne_lit]; rfl
                        have k2 : ((bs Pl.kINTERVAL).toList == [73, 78, 84, 69, 82, 86, 65, 76]) = true := by rw [str_ne_lit]; rfl
                        have hfq : fq = (fq || decide (Pl.kINTERVAL = Pl.kFREQ)) := by cases fq <;> rfl
                        have HFQ := Lib.hid hfq; clear hfq
                        obtain ⟨vv, hBv, hPv⟩ := hRd.out
                        have HBV := Lib.hid hBv; clear hBv
                        have hq : Pl.partOf r Pl.kINTERVAL val = ({ r with interval := (Pl.intOf val).getD 0 }, Pl.told (Pl.intOf val).isSome) := by unfold Pl.partOf; (iterate 3 rw [if_neg (by decide)]); rw [if_pos rfl]
                        have HQ := Lib.hid hq; clear hq
                        have hcon := Atoi_any (bs val) wd hed (by rw [bs_size]; exact hvl)
                        rw [bs_list] at hcon
                        generalize bs Pl.kINTERVAL = K at *
                        go_wp2_with fail
                        refine hcon.mono ?_
                        rintro e w5 ⟨v, err, rfl, hE, hbx⟩
                        clear hcon
                        have HB5 := Lib.hid (HBV.out.below hbx)
                        have z0 : w5.cell? ⟨rb, 3, none⟩ = some (.int .i64 r.interval) := HB5.out.cell 3
                        have f0 := HB5.out.free 3
                        have hbs := (ButBelow.of_below (rb := rb) hbx).setCell 3 (.int .i64 v)
                        rcases hE with ⟨hv, rfl⟩ | ⟨hv, t, u, rfl⟩
                        · have HF2 := Lib.hid hv; clear hv
                          go_wp2_with fail
                          go_meet
                          case rel =>
                            refine ⟨congrArg Value.bool HFQ.out, Lib.hid (Or.inl ⟨?_, rfl, ?_⟩), hbs⟩
                            · rw [HQ.out, HF2.out]; rfl
                            · rw [HQ.out, HF2.out]; have hP2 := hPv.but hbs; exact ⟨vv, HB5.out.set 3 _, ⟨hP2.setPos, hP2.month, hP2.monthDay, hP2.yearDay, hP2.weekNo, hP2.day, hP2.hour, hP2.minute, hP2.second, hP2.easter⟩⟩
                        · have HF2 := Lib.hid hv; clear hv
                          go_wp2_with fail
                          go_meet
                          case rel => exact ⟨congrArg Value.bool HFQ.out, Lib.hid (Or.inr ⟨by rw [HQ.out, HF2.out]; rfl, t, u, rfl⟩), hbs⟩
                    by_cases hk3 : key = Pl.kWKST
                    · as_aux_lemma =>
                        subst hk3
                        have k0 : ((bs Pl.kWKST).toList == [70, 82, 69, 81]) = false := by rw [str_ne_lit]; rfl
                        have k1 : ((bs Pl.kWKST).toList == [68, 84, 83, 84, 65, 82, 84]) = false := by rw [str_ne_lit]; rfl
                        have k2 : ((bs Pl.kWKST).toList == [73, 78, 84, 69, 82, 86, 65, 76]) = false := by rw [str_ne_lit]; rfl
                        have k3 : ((bs Pl.kWKST).toList == [87, 75, 83, 84]) = true := by rw [str_ne_lit]; rfl
                        have hfq : fq = (fq || decide (Pl.kWKST = Pl.kFREQ)) := by cases fq <;> rfl
                        have HFQ := Lib.hid hfq; clear hfq
                        obtain ⟨vv, hBv, hPv⟩ := hRd.out
                        have HBV := Lib.hid hBv; clear hBv
                        have hq : Pl.partOf r Pl.kWKST val = match Pl.dayOf val with | none => (r, 1) | some d => if d.2 != 0 then (r, 2) else ({ r with wkst := d.1 }, 0) := by unfold Pl.partOf; (iterate 5 rw [if_neg (by decide)]); rw [if_pos rfl]; rfl
                        have HQ := Lib.hid hq; clear hq
                        have hcon := strToWeekday_any val wd hed (by omega) hvl
                        generalize bs Pl.kWKST = K at *
                        go_wp2_with fail
                        refine hcon.mono ?_
                        rintro e w5 ⟨d1, d2, err, rfl, hE, hbx⟩
                        clear hcon
                        unfold two
                        have HB5 := Lib.hid (HBV.out.below hbx)
                        have z0 : w5.cell? ⟨rb, 4, none⟩ = some (.int .i64 r.wkst) := HB5.out.cell 4
                        have z1 : w5.cell? ⟨rb, 5, none⟩ = some (.int .i64 0) := HB5.out.cell 5
                        have f0 := HB5.out.free 4
                        have f1 := HB5.out.free 5
                        have hbs := ((ButBelow.of_below (rb := rb) hbx).setCell 4 (.int .i64 d1)).setCell 5 (.int .i64 d2)
                        rcases hE with ⟨hv, rfl⟩ | ⟨hv, t, u, rfl⟩
                        · have hd2 : d2 = 0 := by
                            rcases Classical.em (d2 = 0) with h | h
                            · exact h
                            · exfalso; apply H2Q.out; rw [HQ.out, hv]; simp [h]
                          subst hd2
                          have HF2 := Lib.hid hv; clear hv
                          go_wp2_with fail
                          go_meet
                          case rel =>
                            refine ⟨congrArg Value.bool HFQ.out, Lib.hid (Or.inl ⟨?_, rfl, ?_⟩), hbs⟩
                            · rw [HQ.out, HF2.out]; rfl
                            · rw [HQ.out, HF2.out]; have hP2 := hPv.but hbs; exact ⟨vv, (HB5.out.set 4 _).set 5 _, ⟨hP2.setPos, hP2.month, hP2.monthDay, hP2.yearDay, hP2.weekNo, hP2.day, hP2.hour, hP2.minute, hP2.second, hP2.easter⟩⟩
                        · have HF2 := Lib.hid hv; clear hv
                          go_wp2_with fail
                          go_meet
                          case rel => exact ⟨congrArg Value.bool HFQ.out, Lib.hid (Or.inr ⟨by rw [HQ.out, HF2.out], t, u, rfl⟩), hbs⟩
                    by_cases hk4 : key = Pl.kCOUNT
                    · as_aux_lemma =>
                        subst hk4
                        have k0 : ((bs Pl.kCOUNT).toList == [70, 82, 69, 81]) = false := by rw [str_ne_lit]; rfl
                        have k1 : ((bs Pl.kCOUNT).toList == [68, 84, 83, 84, 65, 82, 84]) = false := by rw [str_ne_lit]; rfl
                        have k2 : ((bs Pl.kCOUNT).toList == [73, 78, 84, 69, 82, 86, 65, 76]) = false := by rw [str_ne_lit]; rfl
                        have k3 : ((bs Pl.kCOUNT).toList == [87, 75, 83, 84]) = false := by rw [str_ne_lit]; rfl
                        have k4 : ((bs Pl.kCOUNT).toList == [67, 79, 85, 78, 84]) = true := by rw [str_ne_lit]; rfl
                        have hfq : fq = (fq || decide (Pl.kCOUNT = Pl.kFREQ)) := by cases fq <;> rfl
                        have HFQ := Lib.hid hfq; clear hfq
                        obtain ⟨vv, hBv, hPv⟩ := hRd.out
                        have HBV := Lib.hid hBv; clear hBv
                        have hq : Pl.partOf r Pl.kCOUNT val = ({ r with count := (Pl.intOf val).getD 0 }, Pl.told (Pl.intOf val).isSome) := by unfold Pl.partOf; (iterate 4 rw [if_neg (by decide)]); rw [if_pos rfl]
                        have HQ := Lib.hid hq; clear hq
                        have hcon := Atoi_any (bs val) wd hed (by rw [bs_size]; exact hvl)
                        rw [bs_list] at hcon
                        generalize bs Pl.kCOUNT = K at *
                        go_wp2_with fail
                        refine hcon.mono ?_
                        rintro e w5 ⟨v, err, rfl, hE, hbx⟩
                        clear hcon
                        have HB5 := Lib.hid (HBV.out.below hbx)
                        have z0 : w5.cell? ⟨rb, 6, none⟩ = some (.int .i64 r.count) := HB5.out.cell 6
                        have f0 := HB5.out.free 6
                        have hbs := (ButBelow.of_below (rb := rb) hbx).setCell 6 (.int .i64 v)
                        rcases hE with ⟨hv, rfl⟩ | ⟨hv, t, u, rfl⟩
                        · have HF2 := Lib.hid hv; clear hv
                          go_wp2_with fail
                          go_meet
                          case rel =>
                            refine ⟨congrArg Value.bool HFQ.out, Lib.hid (Or.inl ⟨?_, rfl, ?_⟩), hbs⟩
                            · rw [HQ.out, HF2.out]; rfl
                            · rw [HQ.out, HF2.out]; have hP2 := hPv.but hbs; exact ⟨vv, HB5.out.set 6 _, ⟨hP2.setPos, hP2.month, hP2.monthDay, hP2.yearDay, hP2.weekNo, hP2.day, hP2.hour, hP2.minute, hP2.second, hP2.easter⟩⟩
                        · have HF2 := Lib.hid hv; clear hv
                          go_wp2_with fail
                          go_meet
                          case rel => exact ⟨congrArg Value.bool HFQ.out, Lib.hid (Or.inr ⟨by rw [HQ.out, HF2.out]; rfl, t, u, rfl⟩), hbs⟩
                    by_cases hk5 : key = Pl.kUNTIL
                    · as_aux_lemma =>
                        subst hk5
                        have k0 : ((bs Pl.kUNTIL).toList == [70, 82, 69, 81]) = false := by rw [str_ne_lit]; rfl
                        have k1 : ((bs Pl.kUNTIL).toList == [68, 84, 83, 84, 65, 82, 84]) = false := by rw [str_ne_lit]; rfl
                        have k2 : ((bs Pl.kUNTIL).toList == [73, 78, 84, 69, 82, 86, 65, 76]) = false := by rw [str_ne_lit]; rfl
                        have k3 : ((bs Pl.kUNTIL).toList == [87, 75, 83, 84]) = false := by rw [str_ne_lit]; rfl
                        have k4 : ((bs Pl.kUNTIL).toList == [67, 79, 85, 78, 84]) = false := by rw [str_ne_lit]; rfl
                        have k5 : ((bs Pl.kUNTIL).toList == [85, 78, 84, 73, 76]) = true := by rw [str_ne_lit]; rfl
                        have hfq : fq = (fq || decide (Pl.kUNTIL = Pl.kFREQ)) := by cases fq <;> rfl
                        have HFQ := Lib.hid hfq; clear hfq
                        obtain ⟨vv, hBv, hPv⟩ := hRd.out
                        have HBV := Lib.hid hBv; clear hBv
                        have hq : Pl.partOf r Pl.kUNTIL val = ({ r with until_ := (Pl.moment val).1, hasUntil := (Pl.moment val).1 != 0 }, (Pl.moment val).2) := by unfold Pl.partOf; (iterate 2 rw [if_neg (by decide)]); rw [if_pos rfl]
                        have hm2 : (Pl.moment val).2 ≠ 2 := by have := H2Q.out; rw [hq] at this; exact this
                        have HQ := Lib.hid hq; clear hq
                        have hcon := fun w => toTime_any val w hvl hm2
                        have hmle := Pl.moment_le val
                        generalize bs Pl.kUNTIL = K at *
                        go_wp2_with fail
                        refine (hcon _).mono ?_
                        rintro e w5 ⟨v, err, rfl, hE, hbx⟩
                        clear hcon
                        have HB5 := Lib.hid (HBV.out.below hbx)
                        have z0 : w5.cell? ⟨rb, 7, none⟩ = some (.int .i64 r.until_) := HB5.out.cell 7
                        have z1 : w5.cell? ⟨rb, 8, none⟩ = some (.int .i64 0) := HB5.out.cell 8
                        have f0 := HB5.out.free 7
                        have f1 := HB5.out.free 8
                        have hbs := ((ButBelow.of_below (rb := rb) hbx).setCell 7 (.int .i64 v)).setCell 8 (.int .i64 0)
                        unfold Pl.momOut at hE
                        rcases hE with ⟨hv, rfl⟩ | ⟨hv, rfl, t, u, rfl⟩
                        · have hv2 : Pl.moment val = (v, 0) := by
                            split at hv
                            · injection hv with hv; exact Prod.ext hv (by assumption)
                            · cases hv
                          have HF2 := Lib.hid hv2; clear hv hv2
                          go_wp2_with fail
                          go_meet
                          case rel =>
                            refine ⟨congrArg Value.bool HFQ.out, Lib.hid (Or.inl ⟨?_, rfl, ?_⟩), hbs⟩
                            · rw [HQ.out, HF2.out]
                            · rw [HQ.out, HF2.out]; have hP2 := hPv.but hbs; exact ⟨vv, (HB5.out.set 7 _).set 8 _, ⟨hP2.setPos, hP2.month, hP2.monthDay, hP2.yearDay, hP2.weekNo, hP2.day, hP2.hour, hP2.minute, hP2.second, hP2.easter⟩⟩
                        · have hv2 : (Pl.moment val).2 = 1 := by
                            split at hv
                            · cases hv
                            · omega
                          have HF2 := Lib.hid hv2; clear hv hv2
                          go_wp2_with fail
                          go_meet
                          case rel => exact ⟨congrArg Value.bool HFQ.out, Lib.hid (Or.inr ⟨by rw [HQ.out]; exact HF2.out, t, u, rfl⟩), hbs⟩
                    by_cases hk6 : key = Pl.kBYSETPOS
                    · as_aux_lemma =>
                        subst hk6
                        have k0 : ((bs Pl.kBYSETPOS).toList == [70, 82, 69, 81]) = false := by rw [str_ne_lit]; rfl
                        have k1 : ((bs Pl.kBYSETPOS).toList == [68, 84, 83, 84, 65, 82, 84]) = false := by rw [str_ne_lit]; rfl
                        have k2 : ((bs Pl.kBYSETPOS).toList == [73, 78, 84, 69, 82, 86, 65, 76]) = false := by rw [str_ne_lit]; rfl
                        have k3 : ((bs Pl.kBYSETPOS).toList == [87, 75, 83, 84]) = false := by rw [str_ne_lit]; rfl
                        have k4 : ((bs Pl.kBYSETPOS).toList == [67, 79, 85, 78, 84]) = false := by rw [str_ne_lit]; rfl
                        have k5 : ((bs Pl.kBYSETPOS).toList == [85, 78, 84, 73, 76]) = false := by rw [str_ne_lit]; rfl
                        have k6 : ((bs Pl.kBYSETPOS).toList == [66, 89, 83, 69, 84, 80, 79, 83]) = true := by rw [str_ne_lit]; rfl
                        have hfq : fq = (fq || decide (Pl.kBYSETPOS = Pl.kFREQ)) := by cases fq <;> rfl
                        have HFQ := Lib.hid hfq; clear hfq
                        obtain ⟨vv, hBv, hPv⟩ := hRd.out
                        have HBV := Lib.hid hBv; clear hBv
                        have hq : Pl.partOf r Pl.kBYSETPOS val = match Pl.intsOf val with | none => (r, 1) | some l => ({ r with setPos := l }, 0) := by unfold Pl.partOf; (iterate 7 rw [if_neg (by decide)]); rw [if_pos rfl]; rfl
                        have hcon := strToInts_any val wd hed hvl
                        have HQ := Lib.hid hq; clear hq
                        generalize bs Pl.kBYSETPOS = K at *
                        go_wp2_with fail
                        refine hcon.mono ?_
                        rintro e w5 ⟨a5, n5, c5, err, rfl, hE, hbx⟩
                        clear hcon
                        have HB5 := Lib.hid (HBV.out.below hbx)
                        have z0 : w5.cell? ⟨rb, 9, none⟩ = some vv.setPos := HB5.out.cell 9
                        have f0 := HB5.out.free 9
                        have hbs := (ButBelow.of_below (rb := rb) hbx).setCell 9 (.slice a5 n5 c5)
                        have hbz := (ButBelow.refl rb w5).setCell 9 (.slice a5 n5 c5)
                        rcases hE with ⟨l5, hv, hrow5, hown5, rfl⟩ | ⟨hv, t, u, rfl⟩
                        · have HF2 := Lib.hid hv; clear hv
                          go_wp2_with fail
                          go_meet
                          case rel =>
                            refine ⟨congrArg Value.bool HFQ.out, Lib.hid (Or.inl ⟨?_, rfl, ?_⟩), hbs⟩
                            · rw [HQ.out, HF2.out]
                            · rw [HQ.out, HF2.out]; have hP2 := hPv.but hbs; exact ⟨{ vv with setPos := .slice a5 n5 c5 }, HB5.out.set 9 _, ⟨⟨Row.but hrow5 (fun h => by have := hown5 _ h; omega) hbz, fun j hj => Nat.lt_of_lt_of_le hrd (hown5 j hj)⟩, hP2.month, hP2.monthDay, hP2.yearDay, hP2.weekNo, hP2.day, hP2.hour, hP2.minute, hP2.second, hP2.easter⟩⟩
                        · have HF2 := Lib.hid hv; clear hv
                          go_wp2_with fail
                          go_meet
                          case rel => exact ⟨congrArg Value.bool HFQ.out, Lib.hid (Or.inr ⟨by rw [HQ.out, HF2.out], t, u, rfl⟩), hbs⟩
                    by_cases hk7 : key = Pl.kBYMONTH
                    · as_aux_lemma =>
                        subst hk7
                        have k0 : ((bs Pl.kBYMONTH).toList == [70, 82, 69, 81]) = false := by rw [str_ne_lit]; rfl
                        have k1 : ((bs Pl.kBYMONTH).toList == [68, 84, 83, 84, 65, 82, 84]) = false := by rw [str_ne_lit]; rfl
                        have k2 : ((bs Pl.kBYMONTH).toList == [73, 78, 84, 69, 82, 86, 65, 76]) = false := by rw [str_ne_lit]; rfl
                        have k3 : ((bs Pl.kBYMONTH).toList == [87, 75, 83, 84]) = false := by rw [str_ne_lit]; rfl
                        have k4 : ((bs Pl.kBYMONTH).toList == [67, 79, 85, 78, 84]) = false := by rw [str_ne_lit]; rfl
                        have k5 : ((bs Pl.kBYMONTH).toList == [85, 78, 84, 73, 76]) = false := by rw [str_ne_lit]; rfl
                        have k6 : ((bs Pl.kBYMONTH).toList == [66, 89, 83, 69, 84, 80, 79, 83]) = false := by rw [str_ne_lit]; rfl
                        have k7 : ((bs Pl.kBYMONTH).toList == [66, 89, 77, 79, 78, 84, 72]) = true := by rw [str_ne_lit]; rfl
                        have hfq : fq = (fq || decide (Pl.kBYMONTH = Pl.kFREQ)) := by cases fq <;> rfl
                        have HFQ := Lib.hid hfq; clear hfq
                        obtain ⟨vv, hBv, hPv⟩ := hRd.out
                        have HBV := Lib.hid hBv; clear hBv
                        have hq : Pl.partOf r Pl.kBYMONTH val = match Pl.intsOf val with | none => (r, 1) | some l => ({ r with month := l }, 0) := by unfold Pl.partOf; (iterate 8 rw [if_neg (by decide)]); rw [if_pos rfl]; rfl
                        have hcon := strToInts_any val wd hed hvl
                        have HQ := Lib.hid hq; clear hq
                        generalize bs Pl.kBYMONTH = K at *
                        go_wp2_with fail
                        refine hcon.mono ?_
                        rintro e w5 ⟨a5, n5, c5, err, rfl, hE, hbx⟩
                        clear hcon
                        have HB5 := Lib.hid (HBV.out.below hbx)
                        have z0 : w5.cell? ⟨rb, 10, none⟩ = some vv.month := HB5.out.cell 10
                        have f0 := HB5.out.free 10
                        have hbs := (ButBelow.of_below (rb := rb) hbx).setCell 10 (.slice a5 n5 c5)
                        have hbz := (ButBelow.refl rb w5).setCell 10 (.slice a5 n5 c5)
                        rcases hE with ⟨l5, hv, hrow5, hown5, rfl⟩ | ⟨hv, t, u, rfl⟩
                        · have HF2 := Lib.hid hv; clear hv
                          go_wp2_with fail
                          go_meet
                          case rel =>
                            refine ⟨congrArg Value.bool HFQ.out, Lib.hid (Or.inl ⟨?_, rfl, ?_⟩), hbs⟩
                            · rw [HQ.out, HF2.out]
                            · rw [HQ.out, HF2.out]; have hP2 := hPv.but hbs; exact ⟨{ vv with month := .slice a5 n5 c5 }, HB5.out.set 10 _, ⟨hP2.setPos, ⟨Row.but hrow5 (fun h => by have := hown5 _ h; omega) hbz, fun j hj => Nat.lt_of_lt_of_le hrd (hown5 j hj)⟩, hP2.monthDay, hP2.yearDay, hP2.weekNo, hP2.day, hP2.hour, hP2.minute, hP2.second, hP2.easter⟩⟩
                        · have HF2 := Lib.hid hv; clear hv
                          go_wp2_with fail
                          go_meet
                          case rel => exact ⟨congrArg Value.bool HFQ.out, Lib.hid (Or.inr ⟨by rw [HQ.out, HF2.out], t, u, rfl⟩), hbs⟩
                    by_cases hk8 : key = Pl.kBYMONTHDAY
                    · as_aux_lemma =>
                        subst hk8
                        have k0 : ((bs Pl.kBYMONTHDAY).toList == [70, 82, 69, 81]) = false := by rw [str_ne_lit]; rfl
                        have k1 : ((bs Pl.kBYMONTHDAY).toList == [68, 84, 83, 84, 65, 82, 84]) = false := by rw [str_ne_lit]; rfl
                        have k2 : ((bs Pl.kBYMONTHDAY).toList == [73, 78, 84, 69, 82, 86, 65, 76]) = false := by rw [str_ne_lit]; rfl
                        have k3 : ((bs Pl.kBYMONTHDAY).toList == [87, 75, 83, 84]) = false := by rw [str_ne_lit]; rfl
                        have k4 : ((bs Pl.kBYMONTHDAY).toList == [67, 79, 85, 78, 84]) = false := by rw [str_ne_lit]; rfl
                        have k5 : ((bs Pl.kBYMONTHDAY).toList == [85, 78, 84, 73, 76]) = false := by rw [str_ne_lit]; rfl
                        have k6 : ((bs Pl.kBYMONTHDAY).toList == [66, 89, 83, 69, 84, 80, 79, 83]) = false := by rw [str_ne_lit]; rfl
                        have k7 : ((bs Pl.kBYMONTHDAY).toList == [66, 89, 77, 79, 78, 84, 72]) = false := by rw [str_ne_lit]; rfl
                        have k8 : ((bs Pl.kBYMONTHDAY).toList == [66, 89, 77, 79, 78, 84, 72, 68, 65, 89]) = true := by rw [str_ne_lit]; rfl
                        have hfq : fq = (fq || decide (Pl.kBYMONTHDAY = Pl.kFREQ)) := by cases fq <;> rfl
                        have HFQ := Lib.hid hfq; clear hfq
                        obtain ⟨vv, hBv, hPv⟩ := hRd.out
                        have HBV := Lib.hid hBv; clear hBv
                        have hq : Pl.partOf r Pl.kBYMONTHDAY val = match Pl.intsOf val with | none => (r, 1) | some l => ({ r with monthDay := l }, 0) := by unfold Pl.partOf; (iterate 9 rw [if_neg (by decide)]); rw [if_pos rfl]; rfl
                        have hcon := strToInts_any val wd hed hvl
                        have HQ := Lib.hid hq; clear hq
                        generalize bs Pl.kBYMONTHDAY = K at *
                        go_wp2_with fail
                        refine hcon.mono ?_
                        rintro e w5 ⟨a5, n5, c5, err, rfl, hE, hbx⟩
                        clear hcon
                        have HB5 := Lib.hid (HBV.out.below hbx)
                        have z0 : w5.cell? ⟨rb, 11, none⟩ = some vv.monthDay := HB5.out.cell 11
                        have f0 := HB5.out.free 11
                        have hbs := (ButBelow.of_below (rb := rb) hbx).setCell 11 (.slice a5 n5 c5)
                        have hbz := (ButBelow.refl rb w5).setCell 11 (.slice a5 n5 c5)
                        rcases hE with ⟨l5, hv, hrow5, hown5, rfl⟩ | ⟨hv, t, u, rfl⟩
                        · have HF2 := Lib.hid hv; clear hv
                          go_wp2_with fail
                          go_meet
                          case rel =>
                            refine ⟨congrArg Value.bool HFQ.out, Lib.hid (Or.inl ⟨?_, rfl, ?_⟩), hbs⟩
                            · rw [HQ.out, HF2.out]
                            · rw [HQ.out, HF2.out]; have hP2 := hPv.but hbs; exact ⟨{ vv with monthDay := .slice a5 n5 c5 }, HB5.out.set 11 _, ⟨hP2.setPos, hP2.month, ⟨Row.but hrow5 (fun h => by have := hown5 _ h; omega) hbz, fun j hj => Nat.lt_of_lt_of_le hrd (hown5 j hj)⟩, hP2.yearDay, hP2.weekNo, hP2.day, hP2.hour, hP2.minute, hP2.second, hP2.easter⟩⟩
                        · have HF2 := Lib.hid hv; clear hv
                          go_wp2_with fail
                          go_meet
                          case rel => exact ⟨congrArg Value.bool HFQ.out, Lib.hid (Or.inr ⟨by rw [HQ.out, HF2.out], t, u, rfl⟩), hbs⟩
                    by_cases hk9 : key = Pl.kBYYEARDAY
                    · as_aux_lemma =>
                        subst hk9
                        have k0 : ((bs Pl.kBYYEARDAY).toList == [70, 82, 69, 81]) = false := by rw [str_ne_lit]; rfl
                        have k1 : ((bs Pl.kBYYEARDAY).toList == [68, 84, 83, 84, 65, 82, 84]) = false := by rw [str_ne_lit]; rfl
                        have k2 : ((bs Pl.kBYYEARDAY).toList == [73, 78, 84, 69, 82, 86, 65, 76]) = false := by rw [str_ne_lit]; rfl
                        have k3 : ((bs Pl.kBYYEARDAY).toList == [87, 75, 83, 84]) = false := by rw [str_ne_lit]; rfl
                        have k4 : ((bs Pl.kBYYEARDAY).toList == [67, 79, 85, 78, 84]) = false := by rw [str_ne_lit]; rfl
                        have k5 : ((bs Pl.kBYYEARDAY).toList == [85, 78, 84, 73, 76]) = false := by rw [str_ne_lit]; rfl
                        have k6 : ((bs Pl.kBYYEARDAY).toList == [66, 89, 83, 69, 84, 80, 79, 83]) = false := by rw [str_ne_lit]; rfl
                        have k7 : ((bs Pl.kBYYEARDAY).toList == [66, 89, 77, 79, 78, 84, 72]) = false := by rw [str_ne_lit]; rfl
                        have k8 : ((bs Pl.kBYYEARDAY).toList == [66, 89, 77, 79, 78, 84, 72, 68, 65, 89]) = false := by rw [str_ne_lit]; rfl
                        have k9 : ((bs Pl.kBYYEARDAY).toList == [66, 89, 89, 69, 65, 82, 68, 65, 89]) = true := by rw [str_ne_lit]; rfl
                        have hfq : fq = (fq || decide (Pl.kBYYEARDAY = Pl.kFREQ)) := by cases fq <;> rfl
                        have HFQ := Lib.hid hfq; clear hfq
                        obtain ⟨vv, hBv, hPv⟩ := hRd.out
                        have HBV := Lib.hid hBv; clear hBv
                        have hq : Pl.partOf r Pl.kBYYEARDAY val = match Pl.intsOf val with | none => (r, 1) | some l => ({ r with yearDay := l }, 0) := by unfold Pl.partOf; (iterate 10 rw [if_neg (by decide)]); rw [if_pos rfl]; rfl
                        have hcon := strToInts_any val wd hed hvl
                        have HQ := Lib.hid hq; clear hq
                        generalize bs Pl.kBYYEARDAY = K at *
                        go_wp2_with fail
                        refine hcon.mono ?_
                        rintro e w5 ⟨a5, n5, c5, err, rfl, hE, hbx⟩
                        clear hcon
                        have HB5 := Lib.hid (HBV.out.below hbx)
                        have z0 : w5.cell? ⟨rb, 12, none⟩ = some vv.yearDay := HB5.out.cell 12
                        have f0 := HB5.out.free 12
                        have hbs := (ButBelow.of_below (rb := rb) hbx).setCell 12 (.slice a5 n5 c5)
                        have hbz := (ButBelow.refl rb w5).setCell 12 (.slice a5 n5 c5)
                        rcases hE with ⟨l5, hv, hrow5, hown5, rfl⟩ | ⟨hv, t, u, rfl⟩
                        · have HF2 := Lib.hid hv; clear hv
                          go_wp2_with fail
                          go_meet
                          case rel =>
                            refine ⟨congrArg Value.bool HFQ.out, Lib.hid (Or.inl ⟨?_, rfl, ?_⟩), hbs⟩
                            · rw [HQ.out, HF2.out]
                            · rw [HQ.out, HF2.out]; have hP2 := hPv.but hbs; exact ⟨{ vv with yearDay := .slice a5 n5 c5 }, HB5.out.set 12 _, ⟨hP2.setPos, hP2.month, hP2.monthDay, ⟨Row.but hrow5 (fun h => by have := hown5 _ h; omega) hbz, fun j hj => Nat.lt_of_lt_of_le hrd (hown5 j hj)⟩, hP2.weekNo, hP2.day, hP2.hour, hP2.minute, hP2.second, hP2.easter⟩⟩
                        · have HF2 := Lib.hid hv; clear hv
                          go_wp2_with fail
                          go_meet
                          case rel => exact ⟨congrArg Value.bool HFQ.out, Lib.hid (Or.inr ⟨by rw [HQ.out, HF2.out], t, u, rfl⟩), hbs⟩
                    by_cases hk10 : key = Pl.kBYWEEKNO
                    · as_aux_lemma =>
                        subst hk10
                        have k0 : ((bs Pl.kBYWEEKNO).toList == [70, 82, 69, 81]) = false := by rw [str_ne_lit]; rfl
                        have k1 : ((bs Pl.kBYWEEKNO).toList == [68, 84, 83, 84, 65, 82, 84]) = false := by rw [str_ne_lit]; rfl
                        have k2 : ((bs Pl.kBYWEEKNO).toList == [73, 78, 84, 69, 82, 86, 65, 76]) = false := by rw [str_ne_lit]; rfl
                        have k3 : ((bs Pl.kBYWEEKNO).toList == [87, 75, 83, 84]) = false := by rw [str_ne_lit]; rfl
                        have k4 : ((bs Pl.kBYWEEKNO).toList == [67, 79, 85, 78, 84]) = false := by rw [str_ne_lit]; rfl
                        have k5 : ((bs Pl.kBYWEEKNO).toList == [85, 78, 84, 73, 76]) = false := by rw [str_ne_lit]; rfl
                        have k6 : ((bs Pl.kBYWEEKNO).toList == [66, 89, 83, 69, 84, 80, 79, 83]) = false := by rw [str_ne_lit]; rfl
                        have k7 : ((bs Pl.kBYWEEKNO).toList == [66, 89, 77, 79, 78, 84, 72]) = false := by rw [str_ne_lit]; rfl
                        have k8 : ((bs Pl.kBYWEEKNO).toList == [66, 89, 77, 79, 78, 84, 72, 68, 65, 89]) = false := by rw [str_ne_lit]; rfl
                        have k9 : ((bs Pl.kBYWEEKNO).toList == [66, 89, 89, 69, 65, 82, 68, 65, 89]) = false := by rw [str_ne_lit]; rfl
                        have k10 : ((bs Pl.kBYWEEKNO).toList == [66, 89, 87, 69, 69, 75, 78, 79]) = true := by rw [str_ne_lit]; rfl
                        have hfq : fq = (fq || decide (Pl.kBYWEEKNO = Pl.kFREQ)) := by cases fq <;> rfl
                        have HFQ := Lib.hid hfq; clear hfq
                        obtain ⟨vv, hBv, hPv⟩ := hRd.out
                        have HBV := Lib.hid hBv; clear hBv
                        have hq : Pl.partOf r Pl.kBYWEEKNO val = match Pl.intsOf val with | none => (r, 1) | some l => ({ r with weekNo := l }, 0) := by unfold Pl.partOf; (iterate 11 rw [if_neg (by decide)]); rw [if_pos rfl]; rfl
                        have hcon := strToInts_any val wd hed hvl
                        have HQ := Lib.hid hq; clear hq
                        generalize bs Pl.kBYWEEKNO = K at *
                        go_wp2_with fail
                        refine hcon.mono ?_
                        rintro e w5 ⟨a5, n5, c5, err, rfl, hE, hbx⟩
                        clear hcon
                        have HB5 := Lib.hid (HBV.out.below hbx)
                        have z0 : w5.cell? ⟨rb, 13, none⟩ = some vv.weekNo := HB5.out.cell 13
                        have f0 := HB5.out.free 13
                        have hbs := (ButBelow.of_below (rb := rb) hbx).setCell 13 (.slice a5 n5 c5)
                        have hbz := (ButBelow.refl rb w5).setCell 13 (.slice a5 n5 c5)
                        rcases hE with ⟨l5, hv, hrow5, hown5, rfl⟩ | ⟨hv, t, u, rfl⟩
                        · have HF2 := Lib.hid hv; clear hv
                          go_wp2_with fail
                          go_meet
                          case rel =>
                            refine ⟨congrArg Value.bool HFQ.out, Lib.hid (Or.inl ⟨?_, rfl, ?_⟩), hbs⟩
                            · rw [HQ.out, HF2.out]
                            · rw [HQ.out, HF2.out]; have hP2 := hPv.but hbs; exact ⟨{ vv with weekNo := .slice a5 n5 c5 }, HB5.out.set 13 _, ⟨hP2.setPos, hP2.month, hP2.monthDay, hP2.yearDay, ⟨Row.but hrow5 (fun h => by have := hown5 _ h; omega) hbz, fun j hj => Nat.lt_of_lt_of_le hrd (hown5 j hj)⟩, hP2.day, hP2.hour, hP2.minute, hP2.second, hP2.easter⟩⟩
                        · have HF2 := Lib.hid hv; clear hv
                          go_wp2_with fail
                          go_meet
                          case rel => exact ⟨congrArg Value.bool HFQ.out, Lib.hid (Or.inr ⟨by rw [HQ.out, HF2.out], t, u, rfl⟩), hbs⟩
                    by_cases hk11 : key = Pl.kBYDAY
                    · as_aux_lemma =>
                        subst hk11
                        have k0 : ((bs Pl.kBYDAY).toList == [70, 82, 69, 81]) = false := by rw [str_ne_lit]; rfl
                        have k1 : ((bs Pl.kBYDAY).toList == [68, 84, 83, 84, 65, 82, 84]) = false := by rw [str_ne_lit]; rfl
                        have k2 : ((bs Pl.kBYDAY).toList == [73, 78, 84, 69, 82, 86, 65, 76]) = false := by rw [str_ne_lit]; rfl
                        have k3 : ((bs Pl.kBYDAY).toList == [87, 75, 83, 84]) = false := by rw [str_ne_lit]; rfl
                        have k4 : ((bs Pl.kBYDAY).toList == [67, 79, 85, 78, 84]) = false := by rw [str_ne_lit]; rfl
                        have k5 : ((bs Pl.kBYDAY).toList == [85, 78, 84, 73, 76]) = false := by rw [str_ne_lit]; rfl
                        have k6 : ((bs Pl.kBYDAY).toList == [66, 89, 83, 69, 84, 80, 79, 83]) = false := by rw [str_ne_lit]; rfl
                        have k7 : ((bs Pl.kBYDAY).toList == [66, 89, 77, 79, 78, 84, 72]) = false := by rw [str_ne_lit]; rfl
                        have k8 : ((bs Pl.kBYDAY).toList == [66, 89, 77, 79, 78, 84, 72, 68, 65, 89]) = false := by rw [str_ne_lit]; rfl
                        have k9 : ((bs Pl.kBYDAY).toList == [66, 89, 89, 69, 65, 82, 68, 65, 89]) = false := by rw [str_ne_lit]; rfl
                        have k10 : ((bs Pl.kBYDAY).toList == [66, 89, 87, 69, 69, 75, 78, 79]) = false := by rw [str_ne_lit]; rfl
                        have k11 : ((bs Pl.kBYDAY).toList == [66, 89, 68, 65, 89]) = true := by rw [str_ne_lit]; rfl
                        have hfq : fq = (fq || decide (Pl.kBYDAY = Pl.kFREQ)) := by cases fq <;> rfl
                        have HFQ := Lib.hid hfq; clear hfq
                        obtain ⟨vv, hBv, hPv⟩ := hRd.out
                        have HBV := Lib.hid hBv; clear hBv
                        have hq : Pl.partOf r Pl.kBYDAY val = match Pl.allDays (Pl.split 44 val) with | none => (r, 1) | some l => ({ r with day := l }, 0) := by unfold Pl.partOf; (iterate 6 rw [if_neg (by decide)]); rw [if_pos rfl]; rfl
                        have hcon := strToWeekdays_any val wd hed (by omega) hvl
                        have HQ := Lib.hid hq; clear hq
                        generalize bs Pl.kBYDAY = K at *
                        go_wp2_with fail
                        refine hcon.mono ?_
                        rintro e w5 ⟨a5, n5, c5, err, rfl, hE, hbx⟩
                        clear hcon
                        have HB5 := Lib.hid (HBV.out.below hbx)
                        have z0 : w5.cell? ⟨rb, 14, none⟩ = some vv.day := HB5.out.cell 14
                        have f0 := HB5.out.free 14
                        have hbs := (ButBelow.of_below (rb := rb) hbx).setCell 14 (.slice a5 n5 c5)
                        have hbz := (ButBelow.refl rb w5).setCell 14 (.slice a5 n5 c5)
                        rcases hE with ⟨l5, hv, hrow5, hown5, rfl⟩ | ⟨hv, t, u, rfl⟩
                        · have HF2 := Lib.hid hv; clear hv
                          go_wp2_with fail
                          go_meet
                          case rel =>
                            refine ⟨congrArg Value.bool HFQ.out, Lib.hid (Or.inl ⟨?_, rfl, ?_⟩), hbs⟩
                            · rw [HQ.out, HF2.out]
                            · rw [HQ.out, HF2.out]; have hP2 := hPv.but hbs; exact ⟨{ vv with day := .slice a5 n5 c5 }, HB5.out.set 14 _, ⟨hP2.setPos, hP2.month, hP2.monthDay, hP2.yearDay, hP2.weekNo, ⟨RowP.but hrow5 (fun h => by have := hown5 _ h; omega) hbz, fun j hj => Nat.lt_of_lt_of_le hrd (hown5 j hj)⟩, hP2.hour, hP2.minute, hP2.second, hP2.easter⟩⟩
                        · have HF2 := Lib.hid hv; clear hv
                          go_wp2_with fail
                          go_meet
                          case rel => exact ⟨congrArg Value.bool HFQ.out, Lib.hid (Or.inr ⟨by rw [HQ.out, HF2.out], t, u, rfl⟩), hbs⟩
                    by_cases hk12 : key = Pl.kBYHOUR
                    · as_aux_lemma =>
                        subst hk12
                        have k0 : ((bs Pl.kBYHOUR).toList == [70, 82, 69, 81]) = false := by rw [str_ne_lit]; rfl
                        have k1 : ((bs Pl.kBYHOUR).toList == [68, 84, 83, 84, 65, 82, 84]) = false := by rw [str_ne_lit]; rfl
                        have k2 : ((bs Pl.kBYHOUR).toList == [73, 78, 84, 69, 82, 86, 65, 76]) = false := by rw [str_ne_lit]; rfl
                        have k3 : ((bs Pl.kBYHOUR).toList == [87, 75, 83, 84]) = false := by rw [str_ne_lit]; rfl
                        have k4 : ((bs Pl.kBYHOUR).toList == [67, 79, 85, 78, 84]) = false := by rw [str_ne_lit]; rfl
                        have k5 : ((bs Pl.kBYHOUR).toList == [85, 78, 84, 73, 76]) = false := by rw [str_ne_lit]; rfl
                        have k6 : ((bs Pl.kBYHOUR).toList == [66, 89, 83, 69, 84, 80, 79, 83]) = false := by rw [str_ne_lit]; rfl
                        have k7 : ((bs Pl.kBYHOUR).toList == [66, 89, 77, 79, 78, 84, 72]) = false := by rw [str_ne_lit]; rfl
                        have k8 : ((bs Pl.kBYHOUR).toList == [66, 89, 77, 79, 78, 84, 72, 68, 65, 89]) = false := by rw [str_ne_lit]; rfl
                        have k9 : ((bs Pl.kBYHOUR).toList == [66, 89, 89, 69, 65, 82, 68, 65, 89]) = false := by rw [str_ne_lit]; rfl
                        have k10 : ((bs Pl.kBYHOUR).toList == [66, 89, 87, 69, 69, 75, 78, 79]) = false := by rw [str_ne_lit]; rfl
                        have k11 : ((bs Pl.kBYHOUR).toList == [66, 89, 68, 65, 89]) = false := by rw [str_ne_lit]; rfl
                        have k12 : ((bs Pl.kBYHOUR).toList == [66, 89, 72, 79, 85, 82]) = true := by rw [str_ne_lit]; rfl
                        have hfq : fq = (fq || decide (Pl.kBYHOUR = Pl.kFREQ)) := by cases fq <;> rfl
                        have HFQ := Lib.hid hfq; clear hfq
                        obtain ⟨vv, hBv, hPv⟩ := hRd.out
                        have HBV := Lib.hid hBv; clear hBv
                        have hq : Pl.partOf r Pl.kBYHOUR val = match Pl.intsOf val with | none => (r, 1) | some l => ({ r with hour := l }, 0) := by unfold Pl.partOf; (iterate 12 rw [if_neg (by decide)]); rw [if_pos rfl]; rfl
                        have hcon := strToInts_any val wd hed hvl
                        have HQ := Lib.hid hq; clear hq
                        generalize bs Pl.kBYHOUR = K at *
                        go_wp2_with fail
                        refine hcon.mono ?_
                        rintro e w5 ⟨a5, n5, c5, err, rfl, hE, hbx⟩
                        clear hcon
                        have HB5 := Lib.hid (HBV.out.below hbx)
                        have z0 : w5.cell? ⟨rb, 15, none⟩ = some vv.hour := HB5.out.cell 15
                        have f0 := HB5.out.free 15
                        have hbs := (ButBelow.of_below (rb := rb) hbx).setCell 15 (.slice a5 n5 c5)
                        have hbz := (ButBelow.refl rb w5).setCell 15 (.slice a5 n5 c5)
                        rcases hE with ⟨l5, hv, hrow5, hown5, rfl⟩ | ⟨hv, t, u, rfl⟩
                        · have HF2 := Lib.hid hv; clear hv
                          go_wp2_with fail
                          go_meet
                          case rel =>
                            refine ⟨congrArg Value.bool HFQ.out, Lib.hid (Or.inl ⟨?_, rfl, ?_⟩), hbs⟩
                            · rw [HQ.out, HF2.out]
                            · rw [HQ.out, HF2.out]; have hP2 := hPv.but hbs; exact ⟨{ vv with hour := .slice a5 n5 c5 }, HB5.out.set 15 _, ⟨hP2.setPos, hP2.month, hP2.monthDay, hP2.yearDay, hP2.weekNo, hP2.day, ⟨Row.but hrow5 (fun h => by have := hown5 _ h; omega) hbz, fun j hj => Nat.lt_of_lt_of_le hrd (hown5 j hj)⟩, hP2.minute, hP2.second, hP2.easter⟩⟩
                        · have HF2 := Lib.hid hv; clear hv
                          go_wp2_with fail
                          go_meet
                          case rel => exact ⟨congrArg Value.bool HFQ.out, Lib.hid (Or.inr ⟨by rw [HQ.out, HF2.out], t, u, rfl⟩), hbs⟩
                    by_cases hk13 : key = Pl.kBYMINUTE
                    · as_aux_lemma =>
                        subst hk13
                        have k0 : ((bs Pl.kBYMINUTE).toList == [70, 82, 69, 81]) = false := by rw [str_ne_lit]; rfl
                        have k1 : ((bs Pl.kBYMINUTE).toList == [68, 84, 83, 84, 65, 82, 84]) = false := by rw [str_ne_lit]; rfl
                        have k2 : ((bs Pl.kBYMINUTE).toList == [73, 78, 84, 69, 82, 86, 65, 76]) = false := by rw [str_ne_lit]; rfl
                        have k3 : ((bs Pl.kBYMINUTE).toList == [87, 75, 83, 84]) = false := by rw [str_ne_lit]; rfl
                        have k4 : ((bs Pl.kBYMINUTE).toList == [67, 79, 85, 78, 84]) = false := by rw [str_ne_lit]; rfl
                        have k5 : ((bs Pl.kBYMINUTE).toList == [85, 78, 84, 73, 76]) = false := by rw [str_ne_lit]; rfl
                        have k6 : ((bs Pl.kBYMINUTE).toList == [66, 89, 83, 69, 84, 80, 79, 83]) = false := by rw [str_ne_lit]; rfl
                        have k7 : ((bs Pl.kBYMINUTE).toList == [66, 89, 77, 79, 78, 84, 72]) = false := by rw [str_ne_lit]; rfl
                        have k8 : ((bs Pl.kBYMINUTE).toList == [66, 89, 77, 79, 78, 84, 72, 68, 65, 89]) = false := by rw [str_ne_lit]; rfl
                        have k9 : ((bs Pl.kBYMINUTE).toList == [66, 89, 89, 69, 65, 82, 68, 65, 89]) = false := by rw [str_ne_lit]; rfl
                        have k10 : ((bs Pl.kBYMINUTE).toList == [66, 89, 87, 69, 69, 75, 78, 79]) = false := by rw [str_ne_lit]; rfl
                        have k11 : ((bs Pl.kBYMINUTE).toList == [66, 89, 68, 65, 89]) = false := by rw [str_ne_lit]; rfl
                        have k12 : ((bs Pl.kBYMINUTE).toList == [66, 89, 72, 79, 85, 82]) = false := by rw [str_ne_lit]; rfl
                        have k13 : ((bs Pl.kBYMINUTE).toList == [66, 89, 77, 73, 78, 85, 84, 69]) = true := by rw [str_ne_lit]; rfl
                        have hfq : fq = (fq || decide (Pl.kBYMINUTE = Pl.kFREQ)) := by cases fq <;> rfl
                        have HFQ := Lib.hid hfq; clear hfq
                        obtain ⟨vv, hBv, hPv⟩ := hRd.out
                        have HBV := Lib.hid hBv; clear hBv
                        have hq : Pl.partOf r Pl.kBYMINUTE val = match Pl.intsOf val with | none => (r, 1) | some l => ({ r with minute := l }, 0) := by unfold Pl.partOf; (iterate 13 rw [if_neg (by decide)]); rw [if_pos rfl]; rfl
                        have hcon := strToInts_any val wd hed hvl
                        have HQ := Lib.hid hq; clear hq
                        generalize bs Pl.kBYMINUTE = K at *
                        go_wp2_with fail
                        refine hcon.mono ?_
                        rintro e w5 ⟨a5, n5, c5, err, rfl, hE, hbx⟩
                        clear hcon
                        have HB5 := Lib.hid (HBV.out.below hbx)
                        have z0 : w5.cell? ⟨rb, 16, none⟩ = some vv.minute := HB5.out.cell 16
                        have f0 := HB5.out.free 16
                        have hbs := (ButBelow.of_below (rb := rb) hbx).setCell 16 (.slice a5 n5 c5)
                        have hbz := (ButBelow.refl rb w5).setCell 16 (.slice a5 n5 c5)
                        rcases hE with ⟨l5, hv, hrow5, hown5, rfl⟩ | ⟨hv, t, u, rfl⟩
                        · have HF2 := Lib.hid hv; clear hv
                          go_wp2_with fail
                          go_meet
                          case rel =>
                            refine ⟨congrArg Value.bool HFQ.out, Lib.hid (Or.inl ⟨?_, rfl, ?_⟩), hbs⟩
                            · rw [HQ.out, HF2.out]
                            · rw [HQ.out, HF2.out]; have hP2 := hPv.but hbs; exact ⟨{ vv with minute := .slice a5 n5 c5 }, HB5.out.set 16 _, ⟨hP2.setPos, hP2.month, hP2.monthDay, hP2.yearDay, hP2.weekNo, hP2.day, hP2.hour, ⟨Row.but hrow5 (fun h => by have := hown5 _ h; omega) hbz, fun j hj => Nat.lt_of_lt_of_le hrd (hown5 j hj)⟩, hP2.second, hP2.easter⟩⟩
                        · have HF2 := Lib.hid hv; clear hv
                          go_wp2_with fail
                          go_meet
                          case rel => exact ⟨congrArg Value.bool HFQ.out, Lib.hid (Or.inr ⟨by rw [HQ.out, HF2.out], t, u, rfl⟩), hbs⟩
                    by_cases hk14 : key = Pl.kBYSECOND
                    · as_aux_lemma =>
                        subst hk14
                        have k0 : ((bs Pl.kBYSECOND).toList == [70, 82, 69, 81]) = false := by rw [str_ne_lit]; rfl
                        have k1 : ((bs Pl.kBYSECOND).toList == [68, 84, 83, 84, 65, 82, 84]) = false := by rw [str_ne_lit]; rfl
                        have k2 : ((bs Pl.kBYSECOND).toList == [73, 78, 84, 69, 82, 86, 65, 76]) = false := by rw [str_ne_lit]; rfl
                        have k3 : ((bs Pl.kBYSECOND).toList == [87, 75, 83, 84]) = false := by rw [str_ne_lit]; rfl
                        have k4 : ((bs Pl.kBYSECOND).toList == [67, 79, 85, 78, 84]) = false := by rw [str_ne_lit]; rfl
                        have k5 : ((bs Pl.kBYSECOND).toList == [85, 78, 84, 73, 76]) = false := by rw [str_ne_lit]; rfl
                        have k6 : ((bs Pl.kBYSECOND).toList == [66, 89, 83, 69, 84, 80, 79, 83]) = false := by rw [str_ne_lit]; rfl
                        have k7 : ((bs Pl.kBYSECOND).toList == [66, 89, 77, 79, 78, 84, 72]) = false := by rw [str_ne_lit]; rfl
                        have k8 : ((bs Pl.kBYSECOND).toList == [66, 89, 77, 79, 78, 84, 72, 68, 65, 89]) = false := by rw [str_ne_lit]; rfl
                        have k9 : ((bs Pl.kBYSECOND).toList == [66, 89, 89, 69, 65, 82, 68, 65, 89]) = false := by rw [str_ne_lit]; rfl
                        have k10 : ((bs Pl.kBYSECOND).toList == [66, 89, 87, 69, 69, 75, 78, 79]) = false := by rw [str_ne_lit]; rfl
                        have k11 : ((bs Pl.kBYSECOND).toList == [66, 89, 68, 65, 89]) = false := by rw [str_ne_lit]; rfl
                        have k12 : ((bs Pl.kBYSECOND).toList == [66, 89, 72, 79, 85, 82]) = false := by rw [str_ne_lit]; rfl
                        have k13 : ((bs Pl.kBYSECOND).toList == [66, 89, 77, 73, 78, 85, 84, 69]) = false := by rw [str_ne_lit]; rfl
                        have k14 : ((bs Pl.kBYSECOND).toList == [66, 89, 83, 69, 67, 79, 78, 68]) = true := by rw [str_ne_lit]; rfl
                        have hfq : fq = (fq || decide (Pl.kBYSECOND = Pl.kFREQ)) := by cases fq <;> rfl
                        have HFQ := Lib.hid hfq; clear hfq
                        obtain ⟨vv, hBv, hPv⟩ := hRd.out
                        have HBV := Lib.hid hBv; clear hBv
                        have hq : Pl.partOf r Pl.kBYSECOND val = match Pl.intsOf val with | none => (r, 1) | some l => ({ r with second := l }, 0) := by unfold Pl.partOf; (iterate 14 rw [if_neg (by decide)]); rw [if_pos rfl]; rfl
                        have hcon := strToInts_any val wd hed hvl
                        have HQ := Lib.hid hq; clear hq
                        generalize bs Pl.kBYSECOND = K at *
                        go_wp2_with fail
                        refine hcon.mono ?_
                        rintro e w5 ⟨a5, n5, c5, err, rfl, hE, hbx⟩
                        clear hcon
                        have HB5 := Lib.hid (HBV.out.below hbx)
                        have z0 : w5.cell? ⟨rb, 17, none⟩ = some vv.second := HB5.out.cell 17
                        have f0 := HB5.out.free 17
                        have hbs := (ButBelow.of_below (rb := rb) hbx).setCell 17 (.slice a5 n5 c5)
                        have hbz := (ButBelow.refl rb w5).setCell 17 (.slice a5 n5 c5)
                        rcases hE with ⟨l5, hv, hrow5, hown5, rfl⟩ | ⟨hv, t, u, rfl⟩
                        · have HF2 := Lib.hid hv; clear hv
                          go_wp2_with fail
                          go_meet
                          case rel =>
                            refine ⟨congrArg Value.bool HFQ.out, Lib.hid (Or.inl ⟨?_, rfl, ?_⟩), hbs⟩
                            · rw [HQ.out, HF2.out]
                            · rw [HQ.out, HF2.out]; have hP2 := hPv.but hbs; exact ⟨{ vv with second := .slice a5 n5 c5 }, HB5.out.set 17 _, ⟨hP2.setPos, hP2.month, hP2.monthDay, hP2.yearDay, hP2.weekNo, hP2.day, hP2.hour, hP2.minute, ⟨Row.but hrow5 (fun h => by have := hown5 _ h; omega) hbz, fun j hj => Nat.lt_of_lt_of_le hrd (hown5 j hj)⟩, hP2.easter⟩⟩
                        · have HF2 := Lib.hid hv; clear hv
                          go_wp2_with fail
                          go_meet
                          case rel => exact ⟨congrArg Value.bool HFQ.out, Lib.hid (Or.inr ⟨by rw [HQ.out, HF2.out], t, u, rfl⟩), hbs⟩
                    by_cases hk15 : key = Pl.kBYEASTER
                    · as_aux_lemma =>
                        subst hk15
                        have k0 : ((bs Pl.kBYEASTER).toList == [70, 82, 69, 81]) = false := by rw [str_ne_lit]; rfl
                        have k1 : ((bs Pl.kBYEASTER).toList == [68, 84, 83, 84, 65, 82, 84]) = false := by rw [str_ne_lit]; rfl
                        have k2 : ((bs Pl.kBYEASTER).toList == [73, 78, 84, 69, 82, 86, 65, 76]) = false := by rw [str_ne_lit]; rfl
                        have k3 : ((bs Pl.kBYEASTER).toList == [87, 75, 83, 84]) = false := by rw [str_ne_lit]; rfl
                        have k4 : ((bs Pl.kBYEASTER).toList == [67, 79, 85, 78, 84]) = false := by rw [str_ne_lit]; rfl
                        have k5 : ((bs Pl.kBYEASTER).toList == [85, 78, 84, 73, 76]) = false := by rw [str_ne_lit]; rfl
                        have k6 : ((bs Pl.kBYEASTER).toList == [66, 89, 83, 69, 84, 80, 79, 83]) = false := by rw [str_ne_lit]; rfl
                        have k7 : ((bs Pl.kBYEASTER).toList == [66, 89, 77, 79, 78, 84, 72]) = false := by rw [str_ne_lit]; rfl
                        have k8 : ((bs Pl.kBYEASTER).toList == [66, 89, 77, 79, 78, 84, 72, 68, 65, 89]) = false := by rw [str_ne_lit]; rfl
                        have k9 : ((bs Pl.kBYEASTER).toList == [66, 89, 89, 69, 65, 82, 68, 65, 89]) = false := by rw [str_ne_lit]; rfl
                        have k10 : ((bs Pl.kBYEASTER).toList == [66, 89, 87, 69, 69, 75, 78, 79]) = false := by rw [str_ne_lit]; rfl
                        have k11 : ((bs Pl.kBYEASTER).toList == [66, 89, 68, 65, 89]) = false := by rw [str_ne_lit]; rfl
                        have k12 : ((bs Pl.kBYEASTER).toList == [66, 89, 72, 79, 85, 82]) = false := by rw [str_ne_lit]; rfl
                        have k13 : ((bs Pl.kBYEASTER).toList == [66, 89, 77, 73, 78, 85, 84, 69]) = false := by rw [str_ne_lit]; rfl
                        have k14 : ((bs Pl.kBYEASTER).toList == [66, 89, 83, 69, 67, 79, 78, 68]) = false := by rw [str_ne_lit]; rfl
                        have k15 : ((bs Pl.kBYEASTER).toList == [66, 89, 69, 65, 83, 84, 69, 82]) = true := by rw [str_ne_lit]; rfl
                        have hfq : fq = (fq || decide (Pl.kBYEASTER = Pl.kFREQ)) := by cases fq <;> rfl
                        have HFQ := Lib.hid hfq; clear hfq
                        obtain ⟨vv, hBv, hPv⟩ := hRd.out
                        have HBV := Lib.hid hBv; clear hBv
                        have hq : Pl.partOf r Pl.kBYEASTER val = match Pl.intsOf val with | none => (r, 1) | some l => ({ r with easter := l }, 0) := by unfold Pl.partOf; (iterate 15 rw [if_neg (by decide)]); rw [if_pos rfl]; rfl
                        have hcon := strToInts_any val wd hed hvl
                        have HQ := Lib.hid hq; clear hq
                        generalize bs Pl.kBYEASTER = K at *
                        go_wp2_with fail
                        refine hcon.mono ?_
                        rintro e w5 ⟨a5, n5, c5, err, rfl, hE, hbx⟩
                        clear hcon
                        have HB5 := Lib.hid (HBV.out.below hbx)
                        have z0 : w5.cell? ⟨rb, 18, none⟩ = some vv.easter := HB5.out.cell 18
                        have f0 := HB5.out.free 18
                        have hbs := (ButBelow.of_below (rb := rb) hbx).setCell 18 (.slice a5 n5 c5)
                        have hbz := (ButBelow.refl rb w5).setCell 18 (.slice a5 n5 c5)
                        rcases hE with ⟨l5, hv, hrow5, hown5, rfl⟩ | ⟨hv, t, u, rfl⟩
                        · have HF2 := Lib.hid hv; clear hv
                          go_wp2_with fail
                          go_meet
                          case rel =>
                            refine ⟨congrArg Value.bool HFQ.out, Lib.hid (Or.inl ⟨?_, rfl, ?_⟩), hbs⟩
                            · rw [HQ.out, HF2.out]
                            · rw [HQ.out, HF2.out]; have hP2 := hPv.but hbs; exact ⟨{ vv with easter := .slice a5 n5 c5 }, HB5.out.set 18 _, ⟨hP2.setPos, hP2.month, hP2.monthDay, hP2.yearDay, hP2.weekNo, hP2.day, hP2.hour, hP2.minute, hP2.second, ⟨Row.but hrow5 (fun h => by have := hown5 _ h; omega) hbz, fun j hj => Nat.lt_of_lt_of_le hrd (hown5 j hj)⟩⟩⟩
                        · have HF2 := Lib.hid hv; clear hv
                          go_wp2_with fail
                          go_meet
                          case rel => exact ⟨congrArg Value.bool HFQ.out, Lib.hid (Or.inr ⟨by rw [HQ.out, HF2.out], t, u, rfl⟩), hbs⟩
                    as_aux_lemma =>
                      have k0 : ((bs key).toList == [70, 82, 69, 81]) = false := by rw [str_ne_lit]; exact decide_eq_false hk0
                      have k1 : ((bs key).toList == [68, 84, 83, 84, 65, 82, 84]) = false := by rw [str_ne_lit]; exact decide_eq_false hk1
                      have k2 : ((bs key).toList == [73, 78, 84, 69, 82, 86, 65, 76]) = false := by rw [str_ne_lit]; exact decide_eq_false hk2
                      have k3 : ((bs key).toList == [87, 75, 83, 84]) = false := by rw [str_ne_lit]; exact decide_eq_false hk3
                      have k4 : ((bs key).toList == [67, 79, 85, 78, 84]) = false := by rw [str_ne_lit]; exact decide_eq_false hk4
                      have k5 : ((bs key).toList == [85, 78, 84, 73, 76]) = false := by rw [str_ne_lit]; exact decide_eq_false hk5
                      have k6 : ((bs key).toList == [66, 89, 83, 69, 84, 80, 79, 83]) = false := by rw [str_ne_lit]; exact decide_eq_false hk6
                      have k7 : ((bs key).toList == [66, 89, 77, 79, 78, 84, 72]) = false := by rw [str_ne_lit]; exact decide_eq_false hk7
                      have k8 : ((bs key).toList == [66, 89, 77, 79, 78, 84, 72, 68, 65, 89]) = false := by rw [str_ne_lit]; exact decide_eq_false hk8
                      have k9 : ((bs key).toList == [66, 89, 89, 69, 65, 82, 68, 65, 89]) = false := by rw [str_ne_lit]; exact decide_eq_false hk9
                      have k10 : ((bs key).toList == [66, 89, 87, 69, 69, 75, 78, 79]) = false := by rw [str_ne_lit]; exact decide_eq_false hk10
                      have k11 : ((bs key).toList == [66, 89, 68, 65, 89]) = false := by rw [str_ne_lit]; exact decide_eq_false hk11
                      have k12 : ((bs key).toList == [66, 89, 72, 79, 85, 82]) = false := by rw [str_ne_lit]; exact decide_eq_false hk12
                      have k13 : ((bs key).toList == [66, 89, 77, 73, 78, 85, 84, 69]) = false := by rw [str_ne_lit]; exact decide_eq_false hk13
                      have k14 : ((bs key).toList == [66, 89, 83, 69, 67, 79, 78, 68]) = false := by rw [str_ne_lit]; exact decide_eq_false hk14
                      have k15 : ((bs key).toList == [66, 89, 69, 65, 83, 84, 69, 82]) = false := by rw [str_ne_lit]; exact decide_eq_false hk15
                      have hq : Pl.partOf r key val = (r, 1) := by unfold Pl.partOf; rw [if_neg hk0, if_neg hk1, if_neg hk5, if_neg hk2, if_neg hk4, if_neg hk3, if_neg hk11, if_neg hk6, if_neg hk7, if_neg hk8, if_neg hk9, if_neg hk10, if_neg hk12, if_neg hk13, if_neg hk14, if_neg hk15]
                      have HF : Hid (Pl.option s = ({}, 1)) := by show Pl.option _ = _; rw [hF5.out, hq, if_neg (by show ¬ (1 = 0); decide)]
                      clear hq hF5 hk0 hk1 hk2 hk3 hk4 hk5 hk6 hk7 hk8 hk9 hk10 hk11 hk12 hk13 hk14 hk15
                      have hcat : ¬ 9223372036854775807 < 24 + (bs key).size := by omega
                      clear hks
                      go_wp2_with (go_at_call 67; refine (New_any _ _).mono ?_; rintro e w' ⟨⟨t, u, rfl⟩, hbx⟩; have hball := hball.trans (hbx.mono hball.size); clear hbx)
                      go_ret2
                      exact Or.inr ⟨t, u, by rw [HF.out], rfl, hball⟩
                case rest =>
                  obtain ⟨rfl, hIP, hbx⟩ := hcut
                  have hblx := hbld.trans hbx
                  obtain ⟨hball, hLx, hex⟩ := HBT.out _ (hblq.trans hblx)
                  rcases hIP.out with ⟨hq, rfl, hRx⟩ | ⟨hq, t, u, rfl⟩
                  · have HRX := Lib.hid hRx; clear hRx
                    have hF6 : Hid (Pl.option s = Pl.partsOf (L2.drop (k + 1)) (Pl.partOf r key val).1 (fq || decide (key = Pl.kFREQ))) := by show Pl.option _ = _; rw [hF5.out, if_pos hq]
                    clear hF5 hq hIP
                    generalize (Pl.partOf r key val).1 = r1 at *
                    generalize (fq || decide (key = Pl.kFREQ)) = f1 at *
                    go_wp2_with fail
                    go_roundw
                    case rel => exact ⟨k + 1, r1, f1, by omega, by go_num, rfl, hF6, HRX, hblx⟩
                    case measure => simp [intOf]; omega
                  · have HF : Hid (Pl.option s = ({}, 1)) := by show Pl.option _ = _; rw [hF5.out, if_neg (by rw [hq]; decide), hq]
                    clear hF5 hq hIP
                    go_wp2_with fail
                    go_ret2
                    exact Or.inr ⟨t, u, by rw [HF.out], rfl, hball⟩
          · have HF : Hid (Pl.option s = ({}, 1)) := by show _ = _; rw [hF3.out]; exact Pl.partStep_not2 _ _ _ _ hP2
            have t1 : ((P.length : Int) != 2) = true := by rw [bne_iff_ne]; omega
            clear hF3
            go_wp2_with (go_at_call 67; refine (New_any _ _).mono ?_; rintro e w' ⟨⟨t, u, rfl⟩, hbx⟩; have hball := hball.trans (hbx.mono hball.size); clear hbx)
            go_ret2
            exact Or.inr ⟨t, u, by rw [HF.out], rfl, hball⟩
        · obtain rfl : k = L2.length := by omega
          rw [List.drop_length] at hF
          cases fq
          · have HF : Hid (Pl.option s = ({}, 1)) := hF
            go_wp2_with (go_at_call 67; refine (New_any _ _).mono ?_; rintro e w' ⟨⟨t, u, rfl⟩, hbx⟩; have hball := hball.trans (hbx.mono hball.size); clear hbx)
            go_ret2
            exact Or.inr ⟨t, u, by rw [HF.out], rfl, hball⟩
          · have HF2 : Hid (Pl.option s = (r, 0)) := hF
            go_wp2
            go_ret2
            exact Or.inl ⟨rb, by rw [HF2.out], rfl, by rw [HF2.out]; exact hR.out, Nat.le_of_lt hwrb, hball⟩
end Go.Proofs.YthkgjhnckakliaaGreatDoorR

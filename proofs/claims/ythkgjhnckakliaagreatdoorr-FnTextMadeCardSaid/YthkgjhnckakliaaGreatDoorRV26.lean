/- From the row's condition on the listed variables to what the walks ask of the world (Env). -/
import Derived.Test.YthkgjhnckakliaaGreatDoorRRows
import Derived.Test.YthkgjhnckakliaaGreatDoorRV06
import Derived.ProofKit
import Derived.Lib.LaidU8
import Derived.LaidLaws
import Derived.Lib.LaidTab
namespace Go.Proofs.YthkgjhnckakliaaGreatDoorR
open Go.RowKit Go.Lib
/-- A variable that reads as this datum: its block, and the reading. -/
theorem reads_var {P : Program} {w : World} {n : String} {d : DataW Unit} {g : Nat} {t : TypeId} (hg : P.globalNamed n = some g) (ht : (P.globals[g]?).map (·.type) = some t) (h : VarReads P w n d) :
    ∃ cs fuel p, w.var? P n = some cs ∧ DataW.trod (fun _ => ()) P w 0 (fun _ => true) false fuel t cs.toList = some (d, p) := by
  obtain ⟨g', t', cs, fuel, p, h1, h2, h3, h4⟩ := h
  obtain rfl := Option.some.inj (hg.symm.trans h1)
  obtain rfl := Option.some.inj (ht.symm.trans h2)
  exact ⟨cs, fuel, p, h3, h4⟩
theorem holds_var {P : Program} {w : World} {n : String} {g : Nat} {cs : Array Value} (hg : P.globalNamed n = some g) (h : w.var? P n = some cs) : Holds w g cs := by
  unfold World.var? at h
  rw [hg] at h
  simp only [Option.bind_some] at h
  split at h
  · rename_i cells t fr e
    simp at h; subst h
    exact ⟨t, fr, e⟩
  · cases h
/-- An array of texts that reads as these texts holds them. -/
theorem cells_of_strs {P : Program} {w : World} {base : Nat} {sp : Nat → Bool} {held : Bool} {fuel : Nat} {t e : TypeId} {n : Nat} {cs : List Value} {ss : List Bs} {p : List MemPlace}
    (ht : P.underlying t = some (.array n e)) (he : P.underlying e = some .string) (hce : P.cellsOf e = 1) (hct : P.cellsOf t = n)
    (h : DataW.trod (fun _ => ()) P w base sp held fuel t cs = some (.agg (ss.map fun s => .lit (.string s)), p)) : cs = ss.map fun s => Value.string (bs s) := by
  cases fuel with
  | zero => simp [DataW.trod] at h
  | succ fuel =>
    simp only [DataW.trod, ht, hce, hct, Nat.mul_one] at h
    split at h
    · rename_i hl
      obtain ⟨xs, hm, hx⟩ := Option.map_eq_some_iff.1 h
      have hxs : xs.map (·.1) = ss.map fun s => (DataW.lit (.string s) : DataW Unit) := by
        have := congrArg Prod.fst hx
        simpa using this
      have hxl : xs.length = n := by simpa using mapM_length hm
      have hzl : ss.length = n := by
        have := congrArg List.length hxs
        simp at this
        omega
      apply List.ext_getElem?
      intro i
      by_cases hi : i < n
      · obtain ⟨b, hb, hf⟩ := mapM_at hm i i (by simp [hi])
        obtain ⟨z, hc, rfl, _⟩ := DataW.trod_string he hf
        have h1 : cs[i]? = some (.string z) := by
          have := congrArg (·[0]?) hc
          simpa [List.getElem?_take, List.getElem?_drop] using this
        have h2 : (xs.map (·.1))[i]? = some (DataW.lit (.string z.data.toList) : DataW Unit) := by simp [hb]
        rw [hxs] at h2
        simp only [List.getElem?_map, Option.map_eq_some_iff, DataW.lit.injEq, Lit.string.injEq] at h2
        obtain ⟨z', hz', rfl⟩ := h2
        simp [h1, hz', bs_eta]
      · rw [List.getElem?_eq_none (by omega), List.getElem?_eq_none (by simp; omega)]
    · cases h
theorem weekday_of_reads {w : World} {n : String} {g : Nat} {k : Int} (hg : Tryz.prog.globalNamed n = some g) (ht : (Tryz.prog.globals[g]?).map (·.type) = some 61)
    (h : VarReads Tryz.prog w n (.agg [.lit (.int .i64 k), .lit (.int .i64 0)])) : Holds w g #[.int .i64 k, .int .i64 0] := by
  obtain ⟨cs, fuel, p, hv, hd⟩ := reads_var hg ht h
  have hu := Tryz.underlying61
  have e := ints_of_struct (k := .i64) (zs := [k, 0]) hu (by
    intro i f hf
    match i, hf with
    | 0, hf => simp at hf; subst hf; exact ⟨Tryz.underlying3, rfl, by kernel_rfl⟩
    | 1, hf => simp at hf; subst hf; exact ⟨Tryz.underlying3, rfl, by kernel_rfl⟩) (by kernel_rfl) hd
  have : cs = #[.int .i64 k, .int .i64 0] := Array.toList_inj.1 (by simpa using e)
  subst this
  exact holds_var hg hv
theorem strs_of_reads {w : World} {n : String} {g m : Nat} {t : TypeId} {ss : List Bs} {cs : Array Value} (hg : Tryz.prog.globalNamed n = some g) (ht : (Tryz.prog.globals[g]?).map (·.type) = some t)
    (hu : Tryz.prog.underlying t = some (.array m 9)) (hc : Tryz.prog.cellsOf t = m) (hcs : (ss.map fun s => Value.string (bs s)).toArray = cs) (h : VarReads Tryz.prog w n (.agg (ss.map fun s => .lit (.string s)))) : Holds w g cs := by
  obtain ⟨cs', fuel, p, hv, hd⟩ := reads_var hg ht h
  have e := cells_of_strs hu Tryz.underlying9 (by kernel_rfl) hc hd
  have : cs' = cs := by rw [← hcs, ← e]
  subst this
  exact holds_var hg hv
theorem tab_of_reads {P : Program} {w : World} {n : String} {g m : Nat} {t e : TypeId} {k : IntKind} {zs : List Int} (hg : P.globalNamed n = some g) (ht : (P.globals[g]?).map (·.type) = some t)
    (hu : P.underlying t = some (.array m e)) (he : P.underlying e = some (.int k)) (hce : P.cellsOf e = 1) (hc : P.cellsOf t = m) (h : VarReads P w n (tabData k zs)) : TabIs P w n k zs := by
  obtain ⟨cs, fuel, p, hv, hd⟩ := reads_var hg ht h
  have e := cells_of_tab hu he hce hc hd
  unfold TabIs
  rw [hv, ← e]
theorem iface_of_reads {w : World} {n : String} {g : Nat} {d : DataW Unit} {nm : String} {ms : Array (String × TypeId)} {t : TypeId} (hg : Tryz.prog.globalNamed n = some g) (ht : (Tryz.prog.globals[g]?).map (·.type) = some t)
    (hu : Tryz.prog.underlying t = some (.interface ms)) (h : VarReads Tryz.prog w n (.iface nm d)) : ∃ u v, w.var? Tryz.prog n = some #[.iface u v] := by
  obtain ⟨cs, fuel, p, hv, hd⟩ := reads_var hg ht h
  obtain ⟨f2, u, v, e, _⟩ := iface_of_trod hu hd
  have : cs = #[.iface u v] := Array.toList_inj.1 (by simpa using e)
  subst this
  exact ⟨u, v, hv⟩
set_option maxRecDepth 100000 in
set_option maxHeartbeats 4000000 in
theorem env_of_laid {W : World} (h : laidMet Tryz.prog Rows.fnTextMadeRow.laid W) : Env W := by
  have r := fun {n : String} {d : DataW Unit} (hm : (n, d) ∈ Rows.fnTextMadeRow.laid) => laidMet.reads h hm
  refine ⟨?_, ?_, ?_, ?_, ?_, ?_, ?_, ?_, ?_, ?_, ?_, ?_, ?_⟩
  · exact strs_of_reads (t := 106) (m := 7) (n := "pub-ferial/spec.textFreqs") (ss := Pl.freqs) (by kernel_rfl) (by kernel_rfl) (by kernel_rfl) (by kernel_rfl) rfl (r (d := Rows.laid_pub_ferial_spec_textFreqs) (List.mem_of_getElem? (i := 5) rfl))
  · exact strs_of_reads (t := 106) (m := 7) (n := "pub-ferial/spec.textDayNames") (ss := Pl.days) (by kernel_rfl) (by kernel_rfl) (by kernel_rfl) (by kernel_rfl) rfl (r (d := Rows.laid_pub_ferial_spec_textDayNames) (List.mem_of_getElem? (i := 4) rfl))
  · exact weekday_of_reads (n := "pub-ferial/pub/rrule.MO") (by kernel_rfl) (by kernel_rfl) (r (d := Rows.laid_pub_ferial_pub_rrule_MO) (List.mem_of_getElem? (i := 10) rfl))
  · exact weekday_of_reads (n := "pub-ferial/pub/rrule.TU") (by kernel_rfl) (by kernel_rfl) (r (d := Rows.laid_pub_ferial_pub_rrule_TU) (List.mem_of_getElem? (i := 11) rfl))
  · exact weekday_of_reads (n := "pub-ferial/pub/rrule.WE") (by kernel_rfl) (by kernel_rfl) (r (d := Rows.laid_pub_ferial_pub_rrule_WE) (List.mem_of_getElem? (i := 12) rfl))
  · exact weekday_of_reads (n := "pub-ferial/pub/rrule.TH") (by kernel_rfl) (by kernel_rfl) (r (d := Rows.laid_pub_ferial_pub_rrule_TH) (List.mem_of_getElem? (i := 13) rfl))
  · exact weekday_of_reads (n := "pub-ferial/pub/rrule.FR") (by kernel_rfl) (by kernel_rfl) (r (d := Rows.laid_pub_ferial_pub_rrule_FR) (List.mem_of_getElem? (i := 14) rfl))
  · exact weekday_of_reads (n := "pub-ferial/pub/rrule.SA") (by kernel_rfl) (by kernel_rfl) (r (d := Rows.laid_pub_ferial_pub_rrule_SA) (List.mem_of_getElem? (i := 15) rfl))
  · exact weekday_of_reads (n := "pub-ferial/pub/rrule.SU") (by kernel_rfl) (by kernel_rfl) (r (d := Rows.laid_pub_ferial_pub_rrule_SU) (List.mem_of_getElem? (i := 16) rfl))
  · exact tab_of_reads (g := 3) (t := 157) (m := 256) (e := 5) (n := "strings.asciiSpace") (by kernel_rfl) (by kernel_rfl) (by kernel_rfl) (by kernel_rfl) (by kernel_rfl) (by kernel_rfl) (show VarReads _ _ _ (tabData .u8 Lib.asciiSpaceTab) from r (d := Rows.laid_strings_asciiSpace) (List.mem_of_getElem? (i := 9) rfl))
  · exact tab_of_reads (g := 13) (t := 244) (m := 20) (e := 107) (n := "internal/strconv.uint64pow10") (by kernel_rfl) (by kernel_rfl) (by kernel_rfl) (by kernel_rfl) (by kernel_rfl) (by kernel_rfl) (show VarReads _ _ _ (tabData .u64 Lib.pow10Tab) from r (d := Rows.laid_internal_strconv_uint64pow10) (List.mem_of_getElem? (i := 2) rfl))
  · exact iface_of_reads (g := 11) (t := 52) (n := "strconv.ErrSyntax") (by kernel_rfl) (by kernel_rfl) Tryz.underlying52 (r (d := Rows.laid_strconv_ErrSyntax) (List.mem_of_getElem? (i := 7) rfl))
  · exact iface_of_reads (g := 12) (t := 52) (n := "strconv.ErrRange") (by kernel_rfl) (by kernel_rfl) Tryz.underlying52 (r (d := Rows.laid_strconv_ErrRange) (List.mem_of_getElem? (i := 6) rfl))
end Go.Proofs.YthkgjhnckakliaaGreatDoorR

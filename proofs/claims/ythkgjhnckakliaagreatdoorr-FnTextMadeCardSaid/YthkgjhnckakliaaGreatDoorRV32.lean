/- rrule.buildRRule from the times on: the times are gathered and sorted; the rule is handed back. -/
import Derived.Test.YthkgjhnckakliaaGreatDoorRV30
namespace Go.Proofs.YthkgjhnckakliaaGreatDoorR
open Go.RowKit
theorem Date_ex (x y z : Int) (w : World) (hx0 : 0 ≤ x) (hx1 : x ≤ 23) (hy0 : 0 ≤ y) (hy1 : y ≤ 59) (hz0 : 0 ≤ z) (hz1 : z ≤ 59) :
    Calls Tryz.prog 88 #[.int .i64 1, .int .i64 1, .int .i64 1, .int .i64 x, .int .i64 y, .int .i64 z, .int .i64 0, .agg #[]] w fun e w' => ∃ V : Int, e = .returned (vTime V 0) ∧ Below w.heap.size w w' :=
  (Date_any 1 1 1 x y z w (by omega) (by omega) (by omega) (by omega) (by omega) (by omega) (by omega) (by omega) (by omega) (by omega) (by omega) (by omega)).mono fun _ _ ⟨h1, h2⟩ => ⟨_, h1, h2⟩
set_option maxHeartbeats 100000000 in
set_option maxRecDepth 100000 in
theorem build_times {u0 u4 u5 u6 u7 u8 u9 u10 u11 u12 u13 u14 u15 u16 u17 u18 u19 u20 u21 u22 u23 u24 u25 u26 u27 u28 u29 u30 u31 u32 u33 u34 u35 u36 u37 u38 u39 u40 u41 u42 u43 u44 u45 u46 u47 u48 u49 u50 u51 u52 u53 u54 u55 u56 u57 u58 u59 u60 u61 u62 u63 u64 u65 u66 u67 u68 u69 u70 u71 u72 u73 u74 u75 u76 u77 u78 u79 u80 u81 u82 u83 u84 u85 u86 u87 u88 u89 u90 u91 u92 u93 u94 u95 u96 u97 u98 u99 u100 u101 u102 u103 u104 u105 u106 u107 u108 u109 u110 u111 u112 u113 u114 u115 u116 u117 u118 u119 u120 u121 u122 u123 u124 u125 u126 u127 u128 u129 u130 u131 u132 u133 u134 u135 u136 u137 u138 u139 u140 u141 u142 u143 u144 u145 u146 u147 u148 u149 u150 u151 u152 u153 u154 u155 u156 u157 u158 u159 u160 u161 u162 u163 u164 u165 u166 u167 u168 u169 u170 u171 u172 u173 u174 u175 u176 u177 u178 u179 u180 u181 u182 u183 u184 u185 u186 u187 u188 u189 u190 u191 u192 u193 u194 u195 u196 u197 u198 u199 u200 u201 u202 u203 u204 u205 u206 u207 u208 u209 u210 u211 u212 u213 u214 u215 u216 u217 u218 u219 u220 u221 u222 u223 u224 u225 u226 u227 u228 u229 u230 u231 u232 u233 u234 u235 u236 u237 u238 u239 u240 u241 u242 u243 u244 u245 u246 u247 u248 u249 u250 u251 u252 u253 u254 u255 u256 u257 u258 u259 u260 u261 u262 u263 u264 u265 u266 u267 u268 u269 u270 u271 u272 u273 u274 u275 u276 u277 u278 u279 u280 u281 u282 u283 u284 u285 u286 u287 u288 u289 u290 u291 u292 u293 u294 u295 u296 u297 u298 u299 : Value} {ab tb rb : Nat} {ic : Array Value} (hd19 : ic.size ≤ 19) {r : PR} {v : PV} {w wc : World} {la : List (Nat × Value)} {d : Int} {hs ms ss : List Int} {ph pm ps : Option Addr} {kh km ks : Nat}
    (HGE : Hid (w.heap.size ≤ ab ∧ w.heap.size ≤ tb ∧ w.heap.size ≤ rb)) (HIC : Hid (r.icells v = ic))
    (HS : Hid (BS ab tb rb ic wc la ((54, .slice ph hs.length kh) :: (55, .slice pm ms.length km) :: (56, .slice ps ss.length ks) :: (38, .int .i64 (r.freq : Nat)) :: (39, .int .i64 d) :: (40, .int .i64 0) :: []) wc))
    (HXh : Hid (RowX ab tb rb wc (.slice ph hs.length kh) (ints hs))) (HXm : Hid (RowX ab tb rb wc (.slice pm ms.length km) (ints ms))) (HXs : Hid (RowX ab tb rb wc (.slice ps ss.length ks) (ints ss)))
    (HGh : Hid (Rng 23 hs)) (HGm : Hid (Rng 59 ms)) (HGs : Hid (Rng 59 ss)) (HBL : Hid (Below w.heap.size w wc)) :
    (dropSeq 24 (Tryz.f54.body.getD .skip)).wp Tryz.prog (bodyPost Tryz.prog Tryz.f54 (BuildRes r v w)) ⟨#[u0, .pointer (some ⟨ab, 0, none⟩), .pointer (some ⟨tb, 0, none⟩), .pointer (some ⟨rb, 0, none⟩), u4, u5, u6, u7, u8, u9, u10, u11, u12, u13, u14, u15, u16, u17, u18, u19, u20, u21, u22, u23, u24, u25, u26, u27, u28, u29, u30, u31, u32, u33, u34, u35, u36, u37, u38, u39, u40, u41, u42, u43, u44, u45, u46, u47, u48, u49, u50, u51, u52, u53, u54, u55, u56, u57, u58, u59, u60, u61, u62, u63, u64, u65, u66, u67, u68, u69, u70, u71, u72, u73, u74, u75, u76, u77, u78, u79, u80, u81, u82, u83, u84, u85, u86, u87, u88, u89, u90, u91, u92, u93, u94, u95, u96, u97, u98, u99, u100, u101, u102, u103, u104, u105, u106, u107, u108, u109, u110, u111, u112, u113, u114, u115, u116, u117, u118, u119, u120, u121, u122, u123, u124, u125, u126, u127, u128, u129, u130, u131, u132, u133, u134, u135, u136, u137, u138, u139, u140, u141, u142, u143, u144, u145, u146, u147, u148, u149, u150, u151, u152, u153, u154, u155, u156, u157, u158, u159, u160, u161, u162, u163, u164, u165, u166, u167, u168, u169, u170, u171, u172, u173, u174, u175, u176, u177, u178, u179, u180, u181, u182, u183, u184, u185, u186, u187, u188, u189, u190, u191, u192, u193, u194, u195, u196, u197, u198, u199, u200, u201, u202, u203, u204, u205, u206, u207, u208, u209, u210, u211, u212, u213, u214, u215, u216, u217, u218, u219, u220, u221, u222, u223, u224, u225, u226, u227, u228, u229, u230, u231, u232, u233, u234, u235, u236, u237, u238, u239, u240, u241, u242, u243, u244, u245, u246, u247, u248, u249, u250, u251, u252, u253, u254, u255, u256, u257, u258, u259, u260, u261, u262, u263, u264, u265, u266, u267, u268, u269, u270, u271, u272, u273, u274, u275, u276, u277, u278, u279, u280, u281, u282, u283, u284, u285, u286, u287, u288, u289, u290, u291, u292, u293, u294, u295, u296, u297, u298, u299], []⟩ wc := by
  conv => arg 2; whnf
  go_upto_if 243 with (first | ((with_reducible refine atld ?_); (first | refine bs_load1A HS.out rfl _ _ rfl _ _ rfl rfl (by first | exact Tryz.isAgg3 | exact Tryz.isAgg57 | exact Tryz.isAgg23 | exact Tryz.isAgg62 | exact Tryz.isAgg65) ?_ | refine bs_load1R HS.out rfl _ _ rfl _ _ rfl rfl (by first | exact Tryz.isAgg3 | exact Tryz.isAgg57 | exact Tryz.isAgg23 | exact Tryz.isAgg62 | exact Tryz.isAgg65) ?_ | refine bs_load2A HS.out rfl 59 _ rfl _ _ _ rfl rfl rfl _ Tryz.underlying59 rfl (by kernel_rfl) ?_ | refine bs_load2R HS.out rfl 59 _ rfl _ _ _ rfl rfl rfl _ Tryz.underlying59 rfl (by kernel_rfl) ?_); go_simp) | ((with_reducible refine atst ?_); (first | (refine bs_store1A HS.out rfl _ _ _ rfl _ rfl (by decide) (by kernel_rfl) rfl ?_; intro wz s hs hz; (conv at hs => rhs; whnf); subst hs) | (refine bs_store1R HS.out rfl _ _ _ rfl _ rfl (by decide) (Nat.le_trans hd19 (by decide)) (by kernel_rfl) rfl ?_; intro wz s hs hz; (conv at hs => rhs; whnf); subst hs) | (refine bs_store2A HS.out rfl 59 _ _ rfl _ _ _ rfl rfl (by decide) (by kernel_rfl) rfl rfl ?_; intro wz hz) | (refine bs_store2R HS.out rfl 59 _ _ rfl _ _ _ rfl rfl (by decide) (Nat.le_trans hd19 (by decide)) (by kernel_rfl) rfl rfl ?_; intro wz hz)); have HSn := Lib.hid hz; clear hz; clear HS; have HS := HSn; clear HSn; go_simp) | (go_at_call 40; (with_reducible refine (IsZero_any _ _).mono ?_); rintro e wn ⟨rfl, hbx⟩; have HSn := Lib.hid (HS.out.below hbx); clear hbx; clear HS; have HS := HSn; clear HSn) | (go_at_call 78; (with_reducible refine (At_any _ _ (by omega) (by omega)).mono ?_); rintro e wn ⟨rfl, hbx⟩; have HSn := Lib.hid (HS.out.below hbx); clear hbx; clear HS; have HS := HSn; clear HSn) | (go_at_call 79; (with_reducible refine (Truncate_any _ _ _ _).mono ?_); rintro e wn ⟨rfl, hbx⟩; have HSn := Lib.hid (HS.out.below hbx); clear hbx; clear HS; have HS := HSn; clear HSn) | (go_at_call 80; (with_reducible refine (Add_any _ _ _ (by omega) (by omega) (by omega) (by omega)).mono ?_); rintro e wn ⟨rfl, hbx⟩; have HSn := Lib.hid (HS.out.below hbx); clear hbx; clear HS; have HS := HSn; clear HSn))
  go_cut [] from 240 to 243 (fun wx => ∃ lr, BS ab tb rb ic wx la lr wx ∧ Hid (Below w.heap.size w wx))
  case first => as_aux_lemma =>
    by_cases hf : r.freq < 4
    · have hfz : (r.freq : Int) < 4 := by omega
      go_upto_region 62 with fail
      have HSn := Lib.hid ((have hh := HS.out; (⟨hh.a, hh.z, hh.r.re ((54, .slice ph hs.length kh) :: (55, .slice pm ms.length km) :: (56, .slice ps ss.length ks) :: (38, .int .i64 (r.freq : Nat)) :: (39, .int .i64 d) :: (40, .int .i64 0) :: []) (by (repeat (refine List.forall_mem_cons.2 ⟨rfl, ?_⟩)); exact List.forall_mem_nil _), hh.n1, hh.n2, hh.n3, hh.b1, hh.b2, hh.b3, hh.but⟩ : BS ab tb rb ic _ (la) ((54, .slice ph hs.length kh) :: (55, .slice pm ms.length km) :: (56, .slice ps ss.length ks) :: (38, .int .i64 (r.freq : Nat)) :: (39, .int .i64 d) :: (40, .int .i64 0) :: []) _)))
      have HXhn := Lib.hid (HXh.out.but HS.out.but); have HXmn := Lib.hid (HXm.out.but HS.out.but); have HXsn := Lib.hid (HXs.out.but HS.out.but)
      have HBLn := Lib.hid (HS.out.bel HBL.out HGE.out)
      clear HXh HXm HXs HBL HS
      have HXh := HXhn; have HXm := HXmn; have HXs := HXsn; have HBL := HBLn; have HS := Lib.hid HSn.out.base
      clear HXhn HXmn HXsn HBLn HSn
      rename World => W2
      obtain ⟨i0, hi, hz0, hz1, hz2⟩ := info_parts Tryz.info59
      have hHl := HGh.out.1; have hMl := HGm.out.1; have hSl := HGs.out.1
      have q1 : hs.length * ms.length ≤ 2001 * 2001 := Nat.mul_le_mul hHl hMl
      have q2 : hs.length * ms.length * ss.length ≤ 2001 * 2001 * 2001 := Nat.mul_le_mul q1 hSl
      have z1 : (0 : Int) ≤ (hs.length : Int) * (ms.length : Int) := by rw [← Int.natCast_mul]; omega
      have z2 : (hs.length : Int) * (ms.length : Int) ≤ 4004001 := by rw [← Int.natCast_mul]; omega
      have z3 : (0 : Int) ≤ (hs.length : Int) * (ms.length : Int) * (ss.length : Int) := by rw [← Int.natCast_mul, ← Int.natCast_mul]; omega
      have z4 : (hs.length : Int) * (ms.length : Int) * (ss.length : Int) ≤ 8012006001 := by rw [← Int.natCast_mul, ← Int.natCast_mul]; omega
      have z5 : (hs.length : Int) * (ms.length : Int) * (ss.length : Int) = ((hs.length * ms.length * ss.length : Nat) : Int) := by rw [Int.natCast_mul, Int.natCast_mul]
      have Z5 := Lib.hid z5; clear z5
      have HQ2 := Lib.hid q2; clear q1 q2
      go_upto_block 4 with (first | ((with_reducible refine atld ?_); (first | refine bs_load1A HS.out rfl _ _ rfl _ _ rfl rfl (by first | exact Tryz.isAgg3 | exact Tryz.isAgg57 | exact Tryz.isAgg23 | exact Tryz.isAgg62 | exact Tryz.isAgg65) ?_ | refine bs_load1R HS.out rfl _ _ rfl _ _ rfl rfl (by first | exact Tryz.isAgg3 | exact Tryz.isAgg57 | exact Tryz.isAgg23 | exact Tryz.isAgg62 | exact Tryz.isAgg65) ?_ | refine bs_load2A HS.out rfl 59 _ rfl _ _ _ rfl rfl rfl _ Tryz.underlying59 rfl (by kernel_rfl) ?_ | refine bs_load2R HS.out rfl 59 _ rfl _ _ _ rfl rfl rfl _ Tryz.underlying59 rfl (by kernel_rfl) ?_); go_simp) | (refine wpList_make_own _ rfl _ _ 65 rfl W2.heap.size 59 i0 (.agg #[.int .i64 0, .int .i64 0]) 2 Tryz.underlying65 hi hz0 hz1 .i64 .i64 _ (hs.length * ms.length * ss.length) rfl rfl Z5.out (by have := HQ2.out; rw [hz2]; omega) (by have := HQ2.out; unfold maxLen; omega) (Nat.le_refl _) ?_; intro w5 hown5 hg5; have HSn := Lib.hid (HS.out.grown hg5 (fun k hk => by cases hk)); clear HS; have HS := HSn; clear HSn) | ((with_reducible refine atst ?_); refine bs_store1Rk HS.out rfl _ _ _ rfl _ (.slice (some ⟨W2.heap.size, 0, none⟩) 0 (hs.length * ms.length * ss.length)) rfl rfl (by decide) (Nat.le_trans hd19 (by decide)) (by kernel_rfl) rfl ?_; intro w6 hz hbb; have HSn := Lib.hid hz; clear hz; clear HS; have HS := HSn; clear HSn; go_simp))
      have HT : Hid (TSt ab tb rb ic W2 la ((54, .slice ph hs.length kh) :: (55, .slice pm ms.length km) :: (56, .slice ps ss.length ks) :: (38, .int .i64 (r.freq : Nat)) :: (39, .int .i64 d) :: (40, .int .i64 0) :: []) 0 w6) := ⟨W2.heap.size, 0, _, [], HS.out, hown5.kept hbb.grownBy (own_ne hown5 HS.out.b3), Nat.le_refl _, fun x hx => by cases hx⟩
      clear HS hown5 hbb hg5
      go_wp2_with fail
      go_loopw [260] (fun s260 wr => ∃ i : Nat, s260 = .int .i64 i ∧ i ≤ hs.length ∧ Hid (TSt ab tb rb ic W2 la ((54, .slice ph hs.length kh) :: (55, .slice pm ms.length km) :: (56, .slice ps ss.length ks) :: (38, .int .i64 (r.freq : Nat)) :: (39, .int .i64 d) :: (40, .int .i64 0) :: []) (i * 4004001) wr)) (fun s260 _ => hs.length - (intOf s260).toNat)
      case atStart => exact ⟨0, rfl, Nat.zero_le _, HT.out.mono (by omega)⟩
      case round =>
        clear HT
        obtain ⟨i, rfl, hi1, HT⟩ := hrel
        obtain ⟨g, m, cap, xs, hSx, hO, hm, hA⟩ := HT.out
        have HS := Lib.hid hSx; have HO := Lib.hid hO; have HA := Lib.hid hA; clear hSx hO hA
        by_cases hlt : i < hs.length
        · obtain ⟨x, hx⟩ : ∃ x, hs[i]? = some x := ⟨_, List.getElem?_eq_getElem hlt⟩
          obtain ⟨bh, oh, rfl, hcell⟩ := (HXh.out.but HS.out.but).elem hx
          obtain ⟨x0, x1⟩ := HGh.out.2 x (List.mem_of_getElem? hx)
          clear hx HA
          go_wp2_with ((with_reducible refine atld ?_); (first | refine bs_load1A HS.out rfl _ _ rfl _ _ rfl rfl (by first | exact Tryz.isAgg3 | exact Tryz.isAgg57 | exact Tryz.isAgg23 | exact Tryz.isAgg62 | exact Tryz.isAgg65) ?_ | refine bs_load1R HS.out rfl _ _ rfl _ _ rfl rfl (by first | exact Tryz.isAgg3 | exact Tryz.isAgg57 | exact Tryz.isAgg23 | exact Tryz.isAgg62 | exact Tryz.isAgg65) ?_ | refine bs_load2A HS.out rfl 59 _ rfl _ _ _ rfl rfl rfl _ Tryz.underlying59 rfl (by kernel_rfl) ?_ | refine bs_load2R HS.out rfl 59 _ rfl _ _ _ rfl rfl rfl _ Tryz.underlying59 rfl (by kernel_rfl) ?_); go_simp)
          clear hcell HS HO
          go_loopw [267] (fun s267 wr2 => ∃ j : Nat, s267 = .int .i64 j ∧ j ≤ ms.length ∧ Hid (TSt ab tb rb ic W2 la ((54, .slice (some ⟨bh, oh, none⟩) hs.length kh) :: (55, .slice pm ms.length km) :: (56, .slice ps ss.length ks) :: (38, .int .i64 (r.freq : Nat)) :: (39, .int .i64 d) :: (40, .int .i64 0) :: []) (i * 4004001 + j * 2001) wr2)) (fun s267 _ => ms.length - (intOf s267).toNat)
          case atStart => exact ⟨0, rfl, Nat.zero_le _, HT.out.mono (by omega)⟩
          case round =>
            clear HT hm
            obtain ⟨j, rfl, hj1, HT⟩ := hrel
            by_cases hlt2 : j < ms.length
            · obtain ⟨g, m, cap, xs, hSx, hO, hm, hA⟩ := HT.out
              have HS := Lib.hid hSx; clear hSx hO hA hm
              obtain ⟨y, hy⟩ : ∃ y, ms[j]? = some y := ⟨_, List.getElem?_eq_getElem hlt2⟩
              obtain ⟨bm, om, rfl, hcell⟩ := (HXm.out.but HS.out.but).elem hy
              obtain ⟨y0, y1⟩ := HGm.out.2 y (List.mem_of_getElem? hy)
              clear hy
              go_wp2_with ((with_reducible refine atld ?_); (first | refine bs_load1A HS.out rfl _ _ rfl _ _ rfl rfl (by first | exact Tryz.isAgg3 | exact Tryz.isAgg57 | exact Tryz.isAgg23 | exact Tryz.isAgg62 | exact Tryz.isAgg65) ?_ | refine bs_load1R HS.out rfl _ _ rfl _ _ rfl rfl (by first | exact Tryz.isAgg3 | exact Tryz.isAgg57 | exact Tryz.isAgg23 | exact Tryz.isAgg62 | exact Tryz.isAgg65) ?_ | refine bs_load2A HS.out rfl 59 _ rfl _ _ _ rfl rfl rfl _ Tryz.underlying59 rfl (by kernel_rfl) ?_ | refine bs_load2R HS.out rfl 59 _ rfl _ _ _ rfl rfl rfl _ Tryz.underlying59 rfl (by kernel_rfl) ?_); go_simp)
              clear hcell HS
              go_loopw [274] (fun s274 wr3 => ∃ k : Nat, s274 = .int .i64 k ∧ k ≤ ss.length ∧ Hid (TSt ab tb rb ic W2 la ((54, .slice (some ⟨bh, oh, none⟩) hs.length kh) :: (55, .slice (some ⟨bm, om, none⟩) ms.length km) :: (56, .slice ps ss.length ks) :: (38, .int .i64 (r.freq : Nat)) :: (39, .int .i64 d) :: (40, .int .i64 0) :: []) (i * 4004001 + j * 2001 + k) wr3)) (fun s274 _ => ss.length - (intOf s274).toNat)
              case atStart => exact ⟨0, rfl, Nat.zero_le _, HT.out.mono (by omega)⟩
              case round =>
                clear HT
                obtain ⟨k, rfl, hk1, HT⟩ := hrel
                by_cases hlt3 : k < ss.length
                · obtain ⟨g, m, cap, xs, hSx, hO, hm, hA⟩ := HT.out
                  have HS := Lib.hid hSx; have HO := Lib.hid hO; have HA := Lib.hid hA; clear hSx hO hA HT
                  obtain ⟨z, hz⟩ : ∃ z, ss[k]? = some z := ⟨_, List.getElem?_eq_getElem hlt3⟩
                  obtain ⟨bs', os', rfl, hcell⟩ := (HXs.out.but HS.out.but).elem hz
                  obtain ⟨w0, w1⟩ := HGs.out.2 z (List.mem_of_getElem? hz)
                  clear hz
                  go_wp2_with fail
                  have HK : Hid (∀ wl, Below wr.heap.size wr wl → wl.cell? ⟨rb, 58, none⟩ = some (.slice (some ⟨g, 0, none⟩) m cap) ∧ wl.cell? ⟨rb, 39, none⟩ = some (.int .i64 d) ∧ wl.cell? ⟨rb, 40, none⟩ = some (.int .i64 0) ∧ rb ≠ wl.heap.size) := fun wl hb => have h := HS.out.below hb; ⟨h.r.load rfl, h.r.load rfl, h.r.load rfl, Nat.ne_of_lt h.r.lt⟩
                  have HW2 : Hid (W2.heap.size ≤ wr.heap.size) := HS.out.but.size
                  have HOA : Hid (∀ wl, Below wr.heap.size wr wl → ∀ V : Int, (wl.alloc (.cells #[.int .i64 V, .int .i64 0] 59)).ownsRow W2.heap.size 59 2 (.slice (some ⟨g, 0, none⟩) m cap) m xs) := fun wl hb V => (HO.out.kept (row := none) ⟨hb.os, hb.tape, hb.output, hb.size, fun j hj _ => hb.block j hj⟩ (Or.inr (by simp [Value.ownBlock]))).alloc _
                  have HEE : Hid (∀ wl, Below wr.heap.size wr wl → ∀ (V : Int) (w3 : World), (wl.alloc (.cells #[.int .i64 V, .int .i64 0] 59)).grownBy w3 (some g) → BS ab tb rb ic W2 la ((58, .slice (some ⟨g, 0, none⟩) m cap) :: (54, .slice (some ⟨bh, oh, none⟩) hs.length kh) :: (55, .slice (some ⟨bm, om, none⟩) ms.length km) :: (56, .slice (some ⟨bs', os', none⟩) ss.length ks) :: (38, .int .i64 (r.freq : Nat)) :: (39, .int .i64 d) :: (40, .int .i64 0) :: []) w3) := fun wl hb V w3 hg => ((HS.out.below hb).below ((Below.refl _ _).alloc (Nat.le_refl _) _)).grown hg (fun k hk => (HO.out.lt k hk).1)
                  have HNW : Hid (∀ (wl : World) (V : Int) (j : Nat) (u : Value), [Value.int .i64 V, .int .i64 0][j]? = some u → (wl.alloc (.cells #[.int .i64 V, .int .i64 0] 59)).cell? ((⟨wl.heap.size, 0, none⟩ : Addr).add j) = some u) := by
                    intro wl V j u hj
                    match j, hj with
                    | 0, hj => simp at hj; subst hj; simp [Addr.add]
                    | 1, hj => simp at hj; subst hj; simp [Addr.add]
                  have HON : Hid (∀ V : Int, ∀ u ∈ [Value.int .i64 V, .int .i64 0], u.oneCell' = true) := by
                    intro V u hu; simp at hu; rcases hu with rfl | rfl <;> rfl
                  have HRB : Hid (rb < W2.heap.size) := HS.out.b3
                  clear HS hcell
                  have hball := Below.refl wr.heap.size wr
                  obtain ⟨k58, k39, k40, hne⟩ := HK.out _ hball
                  go_region_law (first
                    | (refine step_append_lies _ rfl (.tmp 279) (.tmp 287) 65 rfl W2.heap.size 59 i0 (.agg #[.int .i64 0, .int .i64 0]) 2 16 Tryz.underlying65 hi hz0 hz1 hz2 rfl (by decide) (.slice (some ⟨g, 0, none⟩) m cap) m xs rfl (HOA.out _ hball V) ⟨wN.heap.size, 0, none⟩ 1 1 [.int .i64 V, .int .i64 0] rfl rfl (HNW.out wN V) (HON.out V) (by decide) (by unfold maxLen; omega) (by omega) (by simp; have := hball.size; have := HW2.out; omega) (wN.heap.size + 1) (by simp) ?_; intro g3 cp w3 hown3 hgrow hat hg3; have hbs := HEE.out _ hball V _ hgrow; have e58 := hbs.r.load (i := 58) rfl; have f58 := hbs.r.free 58; have HSn := Lib.hid hbs; clear hbs)
                    | (go_simp; go_at_call 62; refine (Location_any d 0 _).mono ?_; rintro e wN ⟨rfl, hbx⟩; have hball := (by first | exact hball.trans (hbx.mono hball.size) | exact hball.drew.trans (Below.mono hbx hball.size) | exact (hball.alloc hball.size _).trans (Below.mono hbx (hball.alloc hball.size _).size) | exact (hball.drew.alloc hball.size _).trans (Below.mono hbx (hball.drew.alloc hball.size _).size)); clear hbx; obtain ⟨k58, k39, k40, hne⟩ := HK.out _ hball)
                    | (go_simp; go_at_call 88; refine (Date_ex x y z _ (by omega) (by omega) (by omega) (by omega) (by omega) (by omega)).mono ?_; rintro e wN ⟨V, rfl, hbx⟩; have hball := (by first | exact hball.trans (hbx.mono hball.size) | exact hball.drew.trans (Below.mono hbx hball.size) | exact (hball.alloc hball.size _).trans (Below.mono hbx (hball.alloc hball.size _).size) | exact (hball.drew.alloc hball.size _).trans (Below.mono hbx (hball.drew.alloc hball.size _).size)); clear hbx; have k58a := (HK.out _ (hball.alloc hball.size (.cells #[.int .i64 V, .int .i64 0] 59))).1; obtain ⟨k58, k39, k40, hne⟩ := HK.out _ hball))
                  all_goals go_wp2
                  all_goals exact ⟨⟨k + 1, by go_num, by omega, g3, m + 1, cp, _, (HSn.out.inR ((ButBelow.refl _ _).setCell 58 _) (HSn.out.r.store (Nat.le_trans hd19 (by decide)) (by decide) rfl)).reR _ (by (repeat (refine List.forall_mem_cons.2 ⟨rfl, ?_⟩)); exact List.forall_mem_nil _), hown3.kept ((ButBelow.refl rb _).setCell 58 _).grownBy (own_ne hown3 HRB.out), by omega, fun u hu => by simp at hu; rcases hu with h | rfl | rfl; exact HA.out _ h; exact ⟨_, rfl⟩; exact ⟨_, rfl⟩⟩, by simp [intOf]; omega⟩
                · obtain rfl : k = ss.length := by omega
                  go_wp2
                  exact ⟨⟨j + 1, by go_num, by omega, HT.out.mono (by omega)⟩, by simp [intOf]; omega⟩
            · obtain rfl : j = ms.length := by omega
              go_wp2
              exact ⟨⟨i + 1, by go_num, by omega, HT.out.mono (by omega)⟩, by simp [intOf]; omega⟩
        · obtain rfl : i = hs.length := by omega
          have HTM := Lib.hid (times_of_owns HO.out HA.out)
          go_wp2_with (first | ((with_reducible refine atld ?_); (first | refine bs_load1A HS.out rfl _ _ rfl _ _ rfl rfl (by first | exact Tryz.isAgg3 | exact Tryz.isAgg57 | exact Tryz.isAgg23 | exact Tryz.isAgg62 | exact Tryz.isAgg65) ?_ | refine bs_load1R HS.out rfl _ _ rfl _ _ rfl rfl (by first | exact Tryz.isAgg3 | exact Tryz.isAgg57 | exact Tryz.isAgg23 | exact Tryz.isAgg62 | exact Tryz.isAgg65) ?_ | refine bs_load2A HS.out rfl 59 _ rfl _ _ _ rfl rfl rfl _ Tryz.underlying59 rfl (by kernel_rfl) ?_ | refine bs_load2R HS.out rfl 59 _ rfl _ _ _ rfl rfl rfl _ Tryz.underlying59 rfl (by kernel_rfl) ?_); go_simp) | (go_at_call 89; refine (Sort_times g m cap _ HTM.out (by omega)).mono ?_; rintro e wn ⟨rfl, hT2, hbb2⟩; have HSn := Lib.hid (HS.out.grown hbb2.grownBy (fun k hk => (HO.out.lt k hk).1)); clear HS; have HS := HSn; clear HSn))
          go_meet
          case rel => exact ⟨_, HS.out.base, HS.out.bel HBL.out HGE.out⟩
    · have hfz : ¬ (r.freq : Int) < 4 := by omega
      go_wp2_with fail
      go_meet
      case rel => exact ⟨_, HS.out.base, HS.out.bel HBL.out HGE.out⟩
  case rest => as_aux_lemma =>
    clear HS HBL HXh HXm HXs
    obtain ⟨lr, hS, HBL⟩ := hcut
    have HS := Lib.hid hS; clear hS
    go_wp2_with (first | ((with_reducible refine atld ?_); refine bs_loadAllA HS.out rfl 64 _ rfl rfl _ Tryz.underlying64 rfl (by kernel_rfl) ?_; intro c19 hs19 ho19; go_simp) | ((with_reducible refine atst ?_); refine bs_store19 HS.out rfl 64 _ _ rfl c19 rfl rfl hs19 ho19 hd19 (by kernel_rfl) ?_; intro wz hz; have HSn := Lib.hid hz; clear hz; clear HS; have HS := HSn; clear HSn; go_simp) | ((with_reducible refine atld ?_); refine bs_loadAllR HS.out rfl 67 _ rfl rfl _ Tryz.underlying67 rfl (by kernel_rfl) ?_; intro c60 hs60 ho60 hh60; have HH := Lib.hid hh60; clear hh60; go_simp) | ((with_reducible refine atst ?_); refine bs_storeZ HS.out rfl 67 _ _ rfl c60 rfl rfl hs60 ho60 (by kernel_rfl) ?_; intro wf hBf hbf; have HBF := Lib.hid hBf; clear hBf; go_simp))
    have hbel : Below w.heap.size w wf := (HS.out.bel HBL.out HGE.out).trans (hbf.own HGE.out.2.1 (HS.out.bel HBL.out HGE.out).size)
    refine bodyPost_ret (v := .agg c60) (results_block Tryz.results54 _ _ tb c60 _ rfl HBF.out Tryz.underlying67 rfl (by rw [hs60]; kernel_rfl)) rfl ⟨c60, rfl, hs60, ho60, ?_, hbel⟩
    rw [HIC.out]; exact HH.out
end Go.Proofs.YthkgjhnckakliaaGreatDoorR

/- rrule.StrToROption. -/
import Derived.Test.YthkgjhnckakliaaGreatDoorRV27
namespace Go.Proofs.YthkgjhnckakliaaGreatDoorR
open Go.RowKit
theorem IOptRes.from {s : Bs} {w w1 w' : World} {e : Ending} (hb : Below w.heap.size w w1) (h : IOptRes s w1 e w') : IOptRes s w e w' := by
  rcases h with ⟨rb, h1, h2, h3, h4, h5⟩ | ⟨t, u, h1, h2, h3⟩
  · exact Or.inl ⟨rb, h1, h2, h3, Nat.le_trans hb.size h4, hb.trans (h5.mono hb.size)⟩
  · exact Or.inr ⟨t, u, h1, h2, hb.trans (h3.mono hb.size)⟩

set_option maxHeartbeats 1000000 in
theorem StrToROption_any (s : Bs) (w : World) (he : Env w) (hw : 20 ≤ w.heap.size) (hs : s.length ≤ 999999) (h2 : (Pl.option s).2 ≠ 2) :
    Calls Tryz.prog 30 #[.string (bs s)] w (IOptRes s w) := by
  go_enter Tryz.func30, Tryz.ntmps30
  go_wp2_with (go_at_call 50; refine (UTCfn_any _).mono ?_; rintro e w1 ⟨rfl, hb1⟩)
  refine (StrToROptionIn_any s w1 (he.below hb1) (Nat.le_trans hw hb1.size) hs h2).mono ?_
  intro e w' h
  have h := h.from hb1
  rcases h with ⟨rb, h1, rfl, h3, h4, h5⟩ | ⟨t, u, h1, rfl, h3⟩
  · go_wp2
    go_ret2
    exact Or.inl ⟨rb, h1, rfl, h3, h4, h5⟩
  · go_wp2
    go_ret2
    exact Or.inr ⟨t, u, h1, rfl, h3⟩
end Go.Proofs.YthkgjhnckakliaaGreatDoorR

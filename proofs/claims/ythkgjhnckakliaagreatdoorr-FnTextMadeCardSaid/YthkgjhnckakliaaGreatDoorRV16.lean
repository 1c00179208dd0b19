/- sort.Sort over a timeSlice: it returns, and the times stay times (no order is told). -/
import Derived.Test.YthkgjhnckakliaaGreatDoorRV05
import Derived.Test.YthkgjhnckakliaaGreatDoorRV01
import Derived.Test.YthkgjhnckakliaaGreatDoorRV11
namespace Go.Proofs.YthkgjhnckakliaaGreatDoorR
open Go.RowKit Go.Shelf
theorem Kp.but {g : Nat} {w w' : World} (h : Kp g w w') : ButBelow g w w' := ⟨h.os, h.tape, h.output, h.size, h.block⟩
theorem ButBelow.kp {g : Nat} {w w' : World} (h : ButBelow g w w') : Kp g w w' := ⟨h.os, h.tape, h.output, h.size, h.block⟩
theorem timesLess_rch (rv : Value) : Rch Tryz.prog 144 rv "Less" 202 := ⟨fun w => by kernel_rfl, enters_of Tryz.func202 (by kernel_rfl) rfl⟩
theorem timesSwap_rch (rv : Value) : Rch Tryz.prog 144 rv "Swap" 203 := ⟨fun w => by kernel_rfl, enters_of Tryz.func203 (by kernel_rfl) rfl⟩
theorem timesLen_rch (rv : Value) : Rch Tryz.prog 144 rv "Len" 201 := ⟨fun w => by kernel_rfl, enters_of Tryz.func201 (by kernel_rfl) rfl⟩
theorem times_meth (g N cap : Nat) : Meth Tryz.prog 202 203 (.slice (some ⟨g, 0, none⟩) N cap) g N (fun w => Times w g N) where
  old := fun _ ⟨_, h, _⟩ => h.lt
  keep := fun _ _ ⟨cs, ⟨t, h⟩, h2⟩ he => ⟨cs, ⟨t, he.trans h⟩, h2⟩
  less := fun i j w h hi0 hi hj0 hj => by
    obtain ⟨i, rfl⟩ : ∃ k : Nat, i = k := ⟨i.toNat, by omega⟩
    obtain ⟨j, rfl⟩ : ∃ k : Nat, j = k := ⟨j.toNat, by omega⟩
    exact (TimesLess_any g N cap i j w h (by omega) (by omega)).mono fun _ _ h => h
  swap := fun i j w h hi0 hi hj0 hj => by
    obtain ⟨i, rfl⟩ : ∃ k : Nat, i = k := ⟨i.toNat, by omega⟩
    obtain ⟨j, rfl⟩ : ∃ k : Nat, j = k := ⟨j.toNat, by omega⟩
    exact (TimesSwap_any g N cap i j w h (by omega) (by omega)).mono fun _ _ ⟨h1, h2, h3⟩ => ⟨h1, h2, h3.kp⟩
/-- Behind a sort: the times are times; nothing else has turned. -/
def Sorted (g N : Nat) (w : World) (e : Ending) (w' : World) : Prop := e = .returned (.tuple #[]) ∧ Times w' g N ∧ ButBelow g w w'
theorem Sort_times (g N cap : Nat) (w : World) (hT : Times w g N) (hN : N ≤ 1000000000000) : Calls Tryz.prog 89 #[.iface 144 (.slice (some ⟨g, 0, none⟩) N cap)] w (Sorted g N w) := by
  have h := sort_st (P := Tryz.prog) (ρ := Tryz.so11_ren) Tryz.so11 144 (.slice (some ⟨g, 0, none⟩) N cap) _ _ _ (timesLen_rch _) (timesLess_rch _) (timesSwap_rch _) g N (fun w => Times w g N) (times_meth g N cap) (by omega) (fun w => TimesLen_any _ N cap w) w hT
  change Calls Tryz.prog 89 _ w _ at h
  exact h.mono fun _ _ ⟨he, hs⟩ => ⟨he, hs.inv, hs.kp.but⟩
end Go.Proofs.YthkgjhnckakliaaGreatDoorR

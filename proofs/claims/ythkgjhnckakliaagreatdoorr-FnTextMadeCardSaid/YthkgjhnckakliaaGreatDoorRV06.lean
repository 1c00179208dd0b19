/- What the package-level variables hold that the calls read, and that it stays so while memory grows. -/
import Derived.Test.YthkgjhnckakliaaGreatDoorRV02
import Derived.Lib.LaidTab
import Derived.Lib.Space
import Derived.Lib.ItoaNum
import Derived.WalkSmall
namespace Go.Proofs.YthkgjhnckakliaaGreatDoorR
open Go.RowKit

namespace Pl
/-- The names of the frequencies. -/
def freqs : List Bs := [[89, 69, 65, 82, 76, 89], [77, 79, 78, 84, 72, 76, 89], [87, 69, 69, 75, 76, 89], [68, 65, 73, 76, 89], [72, 79, 85, 82, 76, 89], [77, 73, 78, 85, 84, 69, 76, 89], [83, 69, 67, 79, 78, 68, 76, 89]]
/-- The names of the days of the week. -/
def days : List Bs := [[77, 79], [84, 85], [87, 69], [84, 72], [70, 82], [83, 65], [83, 85]]
end Pl

/-- A variable's block holds these cells. -/
def Holds (w : World) (g : Nat) (cs : Array Value) : Prop := ∃ t fr, w.heap[g]? = some (.cells cs t fr)
theorem Holds.below {w w' : World} {g : Nat} {cs : Array Value} (h : Holds w g cs) (hb : Below w.heap.size w w') : Holds w' g cs := by
  obtain ⟨t, fr, h⟩ := h
  have hlt : g < w.heap.size := by
    rcases Nat.lt_or_ge g w.heap.size with h' | h'
    · exact h'
    · rw [Array.getElem?_eq_none h'] at h; cases h
  exact ⟨t, fr, by rw [hb.block g hlt]; exact h⟩
theorem Holds.lt {w : World} {g : Nat} {cs : Array Value} (h : Holds w g cs) : g < w.heap.size := by
  obtain ⟨t, fr, h⟩ := h
  rcases Nat.lt_or_ge g w.heap.size with h' | h'
  · exact h'
  · rw [Array.getElem?_eq_none h'] at h; cases h
theorem Holds.cell {w : World} {g : Nat} {cs : Array Value} (h : Holds w g cs) {i : Nat} {v : Value} (hi : cs[i]? = some v) : w.cell? ⟨g, i, none⟩ = some v := by
  obtain ⟨t, fr, h⟩ := h
  simp [World.cell?, h, hi]

def strArr (l : List Bs) : Array Value := (l.map fun x => Value.string ⟨x.toArray⟩).toArray

structure Env (w : World) : Prop where
  freqs : Holds w 0 #[.string ⟨#[89, 69, 65, 82, 76, 89]⟩, .string ⟨#[77, 79, 78, 84, 72, 76, 89]⟩, .string ⟨#[87, 69, 69, 75, 76, 89]⟩, .string ⟨#[68, 65, 73, 76, 89]⟩, .string ⟨#[72, 79, 85, 82, 76, 89]⟩, .string ⟨#[77, 73, 78, 85, 84, 69, 76, 89]⟩, .string ⟨#[83, 69, 67, 79, 78, 68, 76, 89]⟩]
  days : Holds w 1 #[.string ⟨#[77, 79]⟩, .string ⟨#[84, 85]⟩, .string ⟨#[87, 69]⟩, .string ⟨#[84, 72]⟩, .string ⟨#[70, 82]⟩, .string ⟨#[83, 65]⟩, .string ⟨#[83, 85]⟩]
  mo : Holds w 2 #[.int .i64 0, .int .i64 0]
  tu : Holds w 4 #[.int .i64 1, .int .i64 0]
  we : Holds w 5 #[.int .i64 2, .int .i64 0]
  th : Holds w 6 #[.int .i64 3, .int .i64 0]
  fr : Holds w 7 #[.int .i64 4, .int .i64 0]
  sa : Holds w 8 #[.int .i64 5, .int .i64 0]
  su : Holds w 9 #[.int .i64 6, .int .i64 0]
  space : Lib.TabIs Tryz.prog w "strings.asciiSpace" .u8 Lib.asciiSpaceTab
  pow10 : Lib.TabIs Tryz.prog w "internal/strconv.uint64pow10" .u64 Lib.pow10Tab
  syn : ∃ t p, w.var? Tryz.prog "strconv.ErrSyntax" = some #[.iface t p]
  rng : ∃ t p, w.var? Tryz.prog "strconv.ErrRange" = some #[.iface t p]

theorem Env.below {w w' : World} (h : Env w) (hb : Below w.heap.size w w') : Env w' := by
  have hv : ∀ n cs, w.var? Tryz.prog n = some cs → w'.var? Tryz.prog n = some cs := by
    intro n cs hn
    unfold World.var? at hn ⊢
    cases hg : Tryz.prog.globalNamed n with
    | none => rw [hg] at hn; cases hn
    | some g =>
      rw [hg] at hn
      simp only [Option.bind_some] at hn ⊢
      have hlt : g < w.heap.size := by
        rcases Nat.lt_or_ge g w.heap.size with h' | h'
        · exact h'
        · rw [Array.getElem?_eq_none h'] at hn; cases hn
      rw [hb.block g hlt]; exact hn
  exact ⟨h.freqs.below hb, h.days.below hb, h.mo.below hb, h.tu.below hb, h.we.below hb, h.th.below hb, h.fr.below hb, h.sa.below hb, h.su.below hb,
    hv _ _ h.space, hv _ _ h.pow10, let ⟨t, p, q⟩ := h.syn; ⟨t, p, hv _ _ q⟩, let ⟨t, p, q⟩ := h.rng; ⟨t, p, hv _ _ q⟩⟩

end Go.Proofs.YthkgjhnckakliaaGreatDoorR

/- The package's option: its cells; what its reader hands back. -/
import Derived.Test.YthkgjhnckakliaaGreatDoorRV13
import Derived.Test.YthkgjhnckakliaaGreatDoorRV22
import Derived.Test.YthkgjhnckakliaaGreatDoorRV20
namespace Go.Proofs.YthkgjhnckakliaaGreatDoorR
open Go.RowKit
/-- An option's cells. -/
def PR.icells (r : PR) (v : PV) : Array Value := #[.int .i64 (r.freq : Nat), .int .i64 r.start, .int .i64 0, .int .i64 r.interval, .int .i64 r.wkst, .int .i64 0, .int .i64 r.count, .int .i64 r.until_, .int .i64 0,
  v.setPos, v.month, v.monthDay, v.yearDay, v.weekNo, v.day, v.hour, v.minute, v.second, v.easter]
def IRuleAt (w : World) (rb : Nat) (r : PR) : Prop := ∃ v, Block w rb (r.icells v) ∧ PRows rb w r v
theorem IRuleAt.below {w w' : World} {rb : Nat} {r : PR} (h : IRuleAt w rb r) (hb : Below w.heap.size w w') : IRuleAt w' rb r := by
  obtain ⟨v, hB, hP⟩ := h; exact ⟨v, hB.below hb, hP.but (ButBelow.of_below hb)⟩
def zOpt : Array Value := #[.int .i64 0, .int .i64 0, .int .i64 0, .int .i64 0, .int .i64 0, .int .i64 0, .int .i64 0, .int .i64 0, .int .i64 0, .slice none 0 0, .slice none 0 0, .slice none 0 0, .slice none 0 0, .slice none 0 0, .slice none 0 0, .slice none 0 0, .slice none 0 0, .slice none 0 0, .slice none 0 0]
theorem zOpt_eq : zOpt = ({} : PR).icells PV.nil := rfl
theorem zOpt_one : zOpt.all (·.oneCell') = true := by simp [zOpt, Value.oneCell']
/-- An option behind a pointer and no error; or none and an error. -/
def IOptRes (s : Bs) (w : World) (e : Ending) (w' : World) : Prop :=
  (∃ rb, (Pl.option s).2 = 0 ∧ e = .returned (.tuple #[.pointer (some ⟨rb, 0, none⟩), .nilIface]) ∧ IRuleAt w' rb (Pl.option s).1 ∧ w.heap.size ≤ rb ∧ Below w.heap.size w w') ∨
  (∃ t u, (Pl.option s).2 = 1 ∧ e = .returned (.tuple #[.pointer none, .iface t u]) ∧ Below w.heap.size w w')
/-- No cell of an option holds a text. -/
theorem PRows.no_istring {rb : Nat} {w : World} {r : PR} {v : PV} (h : PRows rb w r v) (o : Nat) (x : ByteArray) : (r.icells v)[o]? ≠ some (.string x) := by
  obtain ⟨_, _, _, e0⟩ := h.setPos.form; obtain ⟨_, _, _, e1⟩ := h.month.form; obtain ⟨_, _, _, e2⟩ := h.monthDay.form; obtain ⟨_, _, _, e3⟩ := h.yearDay.form; obtain ⟨_, _, _, e4⟩ := h.weekNo.form
  obtain ⟨_, _, _, e5⟩ := h.day.form; obtain ⟨_, _, _, e6⟩ := h.hour.form; obtain ⟨_, _, _, e7⟩ := h.minute.form; obtain ⟨_, _, _, e8⟩ := h.second.form; obtain ⟨_, _, _, e9⟩ := h.easter.form
  intro hc
  unfold PR.icells at hc
  rw [e0, e1, e2, e3, e4, e5, e6, e7, e8, e9] at hc
  rcases Nat.lt_or_ge o 19 with h | h
  · match o, h with
    | 0, _ | 1, _ | 2, _ | 3, _ | 4, _ | 5, _ | 6, _ | 7, _ | 8, _ | 9, _ | 10, _ | 11, _ | 12, _ | 13, _ | 14, _ | 15, _ | 16, _ | 17, _ | 18, _ => simp at hc
  · rw [Array.getElem?_eq_none (by simpa using h)] at hc; cases hc
theorem PRows.istart (rb : Nat) (w : World) (t : Int) (h : Bool) : PRows rb w { start := t, hasStart := h } PV.nil := ⟨SlI.nil _ _, SlI.nil _ _, SlI.nil _ _, SlI.nil _ _, SlI.nil _ _, SlP.nil _ _, SlI.nil _ _, SlI.nil _ _, SlI.nil _ _, SlI.nil _ _⟩
theorem PRows.inil (rb : Nat) (w : World) : PRows rb w {} PV.nil := PRows.nil rb w
namespace Pl
theorem trim_head {l r : Bs} {c : UInt8} (h : Lib.trimSpace l = c :: r) : Lib.isSp c = false := by
  unfold Lib.trimSpace at h
  generalize hd : l.dropWhile Lib.isSp = d at h
  have hpre : (d.reverse.dropWhile Lib.isSp).reverse <+: d := by
    have := List.dropWhile_suffix (p := Lib.isSp) (l := d.reverse)
    have := List.reverse_prefix.2 this
    rwa [List.reverse_reverse] at this
  rw [h] at hpre
  obtain ⟨x, hx⟩ := hpre
  have hne : l.dropWhile Lib.isSp ≠ [] := by rw [hd, ← hx]; simp
  have hh := List.head_dropWhile_not Lib.isSp hne
  have he : (l.dropWhile Lib.isSp).head hne = c := by
    have : l.dropWhile Lib.isSp = c :: (r ++ x) := by rw [hd, ← hx]; rfl
    simp [this]
  rw [he] at hh
  simpa using hh
theorem split_first {l a : Bs} {r : List Bs} (h : split 10 (Lib.trimSpace l) = a :: r) (hr : r ≠ []) : a ≠ [] := by
  rintro rfl
  cases hT : Lib.trimSpace l with
  | nil => rw [hT] at h; simp [split] at h; exact hr h
  | cons c q =>
    have hc := trim_head hT
    rw [hT] at h
    by_cases hcb : c = 10
    · subst hcb; revert hc; decide
    · simp only [split] at h
      split at h
      · rename_i hq; exact hcb (by simpa using hq)
      · cases hs : split 10 q with
        | nil => exact split_ne _ _ hs
        | cons x y => rw [hs] at h; simp at h
end Pl
end Go.Proofs.YthkgjhnckakliaaGreatDoorR

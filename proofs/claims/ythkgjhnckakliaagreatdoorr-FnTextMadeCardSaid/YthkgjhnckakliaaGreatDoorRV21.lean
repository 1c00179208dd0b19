/- The lists that a text gives are no longer than the text.
  What a text is read as: a frequency of 0 to 6; a start and an until are there just where they are not 0.
  The lists of hours, minutes and seconds that a text of 2000 bytes gives are no longer than 2001; a start that is read lies within 1e14. -/
import Derived.Test.YthkgjhnckakliaaGreatDoorRV20
import Derived.Test.YthkgjhnckakliaaGreatDoorRV15
import Derived.Test.YthkgjhnckakliaaGreatDoorRV08
namespace Go.Proofs.YthkgjhnckakliaaGreatDoorR
open Go.RowKit
namespace Pl
theorem allInts_length2 : ∀ (L : List Bs) (l : List Int), allInts L = some l → l.length = L.length
  | [], l, h => by simp [allInts] at h; subst h; rfl
  | x :: L, l, h => by
    unfold allInts at h
    cases hx : intOf x with
    | none => rw [hx] at h; cases h
    | some n =>
      cases hL : allInts L with
      | none => rw [hx, hL] at h; cases h
      | some m => rw [hx, hL] at h; cases h; simp [allInts_length2 L m hL]
theorem allDays_length : ∀ (L : List Bs) (l : List (Int × Int)), allDays L = some l → l.length = L.length
  | [], l, h => by simp [allDays] at h; subst h; rfl
  | x :: L, l, h => by
    unfold allDays at h
    cases hx : dayOf x with
    | none => rw [hx] at h; cases h
    | some n =>
      cases hL : allDays L with
      | none => rw [hx, hL] at h; cases h
      | some m => rw [hx, hL] at h; cases h; simp [allDays_length L m hL]
theorem intsOf_length {v : Bs} {l : List Int} (h : intsOf v = some l) : l.length ≤ v.length + 1 := by
  rw [allInts_length2 _ _ h]; exact split_length 44 v
theorem withInts_small {r : PR} {v : Bs} {f : PR → List Int → PR} (hr : r.small) (hv : v.length ≤ 999999) (hf : ∀ l, l.length ≤ 1000000 → (f r l).small) : (withInts r v f).1.small := by
  unfold withInts
  cases h : intsOf v with
  | none => exact hr
  | some l => exact hf l (by have := intsOf_length h; omega)
theorem partOf_small (r : PR) (k v : Bs) (hr : r.small) (hv : v.length ≤ 999999) : (partOf r k v).1.small := by
  obtain ⟨h1, h2, h3, h4, h5, h6, h7, h8, h9, h10⟩ := hr
  have hr : r.small := ⟨h1, h2, h3, h4, h5, h6, h7, h8, h9, h10⟩
  unfold partOf
  by_cases e : k = kFREQ
  · rw [if_pos e]
    exact ⟨h1, h2, h3, h4, h5, h6, h7, h8, h9, h10⟩
  rw [if_neg e]; clear e
  by_cases e : k = kDTSTART
  · rw [if_pos e]
    exact ⟨h1, h2, h3, h4, h5, h6, h7, h8, h9, h10⟩
  rw [if_neg e]; clear e
  by_cases e : k = kUNTIL
  · rw [if_pos e]
    exact ⟨h1, h2, h3, h4, h5, h6, h7, h8, h9, h10⟩
  rw [if_neg e]; clear e
  by_cases e : k = kINTERVAL
  · rw [if_pos e]
    exact ⟨h1, h2, h3, h4, h5, h6, h7, h8, h9, h10⟩
  rw [if_neg e]; clear e
  by_cases e : k = kCOUNT
  · rw [if_pos e]
    exact ⟨h1, h2, h3, h4, h5, h6, h7, h8, h9, h10⟩
  rw [if_neg e]; clear e
  by_cases e : k = kWKST
  · rw [if_pos e]
    cases dayOf v with
    | none => exact hr
    | some d =>
      by_cases e2 : (d.2 != 0) = true
      · simp only [if_pos e2]; exact hr
      · simp only [if_neg e2]; exact ⟨h1, h2, h3, h4, h5, h6, h7, h8, h9, h10⟩
  rw [if_neg e]; clear e
  by_cases e : k = kBYDAY
  · rw [if_pos e]
    cases h : allDays (split 44 v) with
    | none => exact hr
    | some l => exact ⟨h1, h2, h3, h4, h5, (by have := allDays_length _ _ h; have := split_length 44 v; show l.length ≤ _; omega), h7, h8, h9, h10⟩
  rw [if_neg e]; clear e
  by_cases e : k = kBYSETPOS
  · rw [if_pos e]
    exact withInts_small hr hv fun l hl => ⟨hl, h2, h3, h4, h5, h6, h7, h8, h9, h10⟩
  rw [if_neg e]; clear e
  by_cases e : k = kBYMONTH
  · rw [if_pos e]
    exact withInts_small hr hv fun l hl => ⟨h1, hl, h3, h4, h5, h6, h7, h8, h9, h10⟩
  rw [if_neg e]; clear e
  by_cases e : k = kBYMONTHDAY
  · rw [if_pos e]
    exact withInts_small hr hv fun l hl => ⟨h1, h2, hl, h4, h5, h6, h7, h8, h9, h10⟩
  rw [if_neg e]; clear e
  by_cases e : k = kBYYEARDAY
  · rw [if_pos e]
    exact withInts_small hr hv fun l hl => ⟨h1, h2, h3, hl, h5, h6, h7, h8, h9, h10⟩
  rw [if_neg e]; clear e
  by_cases e : k = kBYWEEKNO
  · rw [if_pos e]
    exact withInts_small hr hv fun l hl => ⟨h1, h2, h3, h4, hl, h6, h7, h8, h9, h10⟩
  rw [if_neg e]; clear e
  by_cases e : k = kBYHOUR
  · rw [if_pos e]
    exact withInts_small hr hv fun l hl => ⟨h1, h2, h3, h4, h5, h6, hl, h8, h9, h10⟩
  rw [if_neg e]; clear e
  by_cases e : k = kBYMINUTE
  · rw [if_pos e]
    exact withInts_small hr hv fun l hl => ⟨h1, h2, h3, h4, h5, h6, h7, hl, h9, h10⟩
  rw [if_neg e]; clear e
  by_cases e : k = kBYSECOND
  · rw [if_pos e]
    exact withInts_small hr hv fun l hl => ⟨h1, h2, h3, h4, h5, h6, h7, h8, hl, h10⟩
  rw [if_neg e]; clear e
  by_cases e : k = kBYEASTER
  · rw [if_pos e]
    exact withInts_small hr hv fun l hl => ⟨h1, h2, h3, h4, h5, h6, h7, h8, h9, hl⟩
  rw [if_neg e]; clear e
  exact hr
end Pl
theorem PR.small_zero : ({} : PR).small := ⟨by decide, by decide, by decide, by decide, by decide, by decide, by decide, by decide, by decide, by decide⟩
namespace Pl
theorem partsOf_small : ∀ (L : List Bs) (r : PR) (fq : Bool), r.small → (∀ x ∈ L, x.length ≤ 999999) → (partsOf L r fq).1.small
  | [], r, fq, hr, _ => by unfold partsOf; split; exact hr; exact PR.small_zero
  | p :: L, r, fq, hr, hL => by
    show (partStep (split 61 p) L r fq).1.small
    have hm := split_mem_length 61 p
    have hp := hL p (by simp)
    unfold partStep
    split
    · rename_i k v e
      have hv := hm v (by rw [e]; simp)
      split
      · exact PR.small_zero
      · split
        · exact partsOf_small L _ _ (partOf_small r k v hr (by omega)) fun x hx => hL x (by simp [hx])
        · exact PR.small_zero
    · exact PR.small_zero
theorem trimPrefix_length (t q : Bs) : (Lib.trimPrefix t q).length ≤ t.length := by
  unfold Lib.trimPrefix; split
  · simp
  · exact Nat.le_refl _
theorem option_small (s : Bs) (hs : s.length ≤ 999999) : (option s).1.small := by
  have hr : ∀ (t : Bs) (r : PR), t.length ≤ s.length → r.small → (partsOf (split 59 (Lib.trimPrefix t rrule)) r false).1.small := fun t r ht hr =>
    partsOf_small _ _ _ hr fun x hx => by have := split_mem_length 59 _ x hx; have := trimPrefix_length t rrule; omega
  have hm := split_mem_length 10 (Lib.trimSpace s)
  have ht := trim_length s
  unfold option
  cases ascii s with
  | false => exact PR.small_zero
  | true =>
    simp only [if_true]
    split
    · rename_i t e
      exact hr t _ (by have := hm t (by rw [e]; simp); omega) PR.small_zero
    · rename_i l t e
      cases isStart l with
      | false => exact PR.small_zero
      | true =>
        simp only [if_true]
        by_cases h : (tstart (l.drop 8)).2 = 0
        · rw [if_pos h]; exact hr t _ (by have := hm t (by rw [e]; simp); omega) ⟨by simp, by simp, by simp, by simp, by simp, by simp, by simp, by simp, by simp, by simp⟩
        · rw [if_neg h]; exact PR.small_zero
    · exact PR.small_zero
end Pl
end Go.Proofs.YthkgjhnckakliaaGreatDoorR
namespace Go.Proofs.YthkgjhnckakliaaGreatDoorR
open Go.RowKit
namespace Pl
structure Good (r : PR) : Prop where
  freq : r.freq ≤ 6
  start : r.hasStart = (r.start != 0)
  until_ : r.hasUntil = (r.until_ != 0)
theorem freqOf_le {s : Bs} {n : Nat} (h : freqOf s = some n) : n ≤ 6 := by
  unfold freqOf at h
  repeat' split at h
  all_goals first | (injection h with h; omega) | cases h
theorem partOf_good {r : PR} (h : Good r) (k v : Bs) : Good (partOf r k v).1 := by
  have hw : ∀ (f : PR → List Int → PR), (∀ l, Good (f r l)) → Good (withInts r v f).1 := fun f hf => by
    unfold withInts; split
    · exact h
    · exact hf _
  unfold partOf
  by_cases h0 : k = kFREQ
  · rw [if_pos h0]
    refine ⟨?_, h.start, h.until_⟩
    show (freqOf v).getD 0 ≤ 6
    cases hf : freqOf v with
    | none => simp
    | some n => exact freqOf_le hf
  rw [if_neg h0]
  by_cases h1 : k = kDTSTART
  · rw [if_pos h1]; exact ⟨h.freq, rfl, h.until_⟩
  rw [if_neg h1]
  by_cases h2 : k = kUNTIL
  · rw [if_pos h2]; exact ⟨h.freq, h.start, rfl⟩
  rw [if_neg h2]
  by_cases h3 : k = kINTERVAL
  · rw [if_pos h3]; exact ⟨h.freq, h.start, h.until_⟩
  rw [if_neg h3]
  by_cases h4 : k = kCOUNT
  · rw [if_pos h4]; exact ⟨h.freq, h.start, h.until_⟩
  rw [if_neg h4]
  by_cases h5 : k = kWKST
  · rw [if_pos h5]
    cases dayOf v with
    | none => exact h
    | some d =>
      show Good (if d.2 != 0 then (r, 2) else ({ r with wkst := d.1 }, 0)).1
      by_cases hd : (d.2 != 0) = true
      · rw [if_pos hd]; exact h
      · rw [if_neg hd]; exact ⟨h.freq, h.start, h.until_⟩
  rw [if_neg h5]
  by_cases h6 : k = kBYDAY
  · rw [if_pos h6]
    cases allDays (split 44 v) with
    | none => exact h
    | some l => exact ⟨h.freq, h.start, h.until_⟩
  rw [if_neg h6]
  by_cases h7 : k = kBYSETPOS
  · rw [if_pos h7]; exact hw _ fun l => ⟨h.freq, h.start, h.until_⟩
  rw [if_neg h7]
  by_cases h8 : k = kBYMONTH
  · rw [if_pos h8]; exact hw _ fun l => ⟨h.freq, h.start, h.until_⟩
  rw [if_neg h8]
  by_cases h9 : k = kBYMONTHDAY
  · rw [if_pos h9]; exact hw _ fun l => ⟨h.freq, h.start, h.until_⟩
  rw [if_neg h9]
  by_cases h10 : k = kBYYEARDAY
  · rw [if_pos h10]; exact hw _ fun l => ⟨h.freq, h.start, h.until_⟩
  rw [if_neg h10]
  by_cases h11 : k = kBYWEEKNO
  · rw [if_pos h11]; exact hw _ fun l => ⟨h.freq, h.start, h.until_⟩
  rw [if_neg h11]
  by_cases h12 : k = kBYHOUR
  · rw [if_pos h12]; exact hw _ fun l => ⟨h.freq, h.start, h.until_⟩
  rw [if_neg h12]
  by_cases h13 : k = kBYMINUTE
  · rw [if_pos h13]; exact hw _ fun l => ⟨h.freq, h.start, h.until_⟩
  rw [if_neg h13]
  by_cases h14 : k = kBYSECOND
  · rw [if_pos h14]; exact hw _ fun l => ⟨h.freq, h.start, h.until_⟩
  rw [if_neg h14]
  by_cases h15 : k = kBYEASTER
  · rw [if_pos h15]; exact hw _ fun l => ⟨h.freq, h.start, h.until_⟩
  rw [if_neg h15]
  exact h
theorem Good.zero : Good {} := ⟨by decide, rfl, rfl⟩
theorem partsOf_good : ∀ (ps : List Bs) (r : PR) (f : Bool), Good r → Good (partsOf ps r f).1
  | [], r, f, h => by unfold partsOf; split; exact h; exact Good.zero
  | p :: ps, r, f, h => by
    unfold partsOf
    split
    · split
      · exact Good.zero
      · split
        · exact partsOf_good ps _ _ (partOf_good h _ _)
        · exact Good.zero
    · exact Good.zero
theorem option_good (s : Bs) : Good (option s).1 := by
  unfold option
  split
  · split
    · exact partsOf_good _ _ _ Good.zero
    · split
      · split
        · exact partsOf_good _ _ _ ⟨Nat.zero_le _, rfl, rfl⟩
        · exact Good.zero
      · exact Good.zero
    · exact Good.zero
  · exact Good.zero
end Pl
end Go.Proofs.YthkgjhnckakliaaGreatDoorR
namespace Go.Proofs.YthkgjhnckakliaaGreatDoorR
open Go.RowKit
namespace Pl
theorem moment_bd (s : Bs) : -100000000000000 ≤ (moment s).1 ∧ (moment s).1 ≤ 100000000000000 := by
  have key : ∀ y m d : Nat, y < 10000 → m < 100 → d < 100 → -366001000 ≤ daysOf y m d ∧ daysOf y m d ≤ 366001000 := fun y m d hy hm hd => by
    have h1 := daysTo_bd ((y : Int) + ((m : Int) - 1) / 12) (by omega) (by omega)
    have h2 := cum_bd ((y : Int) + ((m : Int) - 1) / 12) (((m : Int) - 1) % 12).toNat
    have h3 : ((((m : Int) - 1) % 12).toNat : Int) ≤ 11 := by omega
    unfold daysOf
    omega
  unfold moment
  split
  · rename_i y m d e1 e2 e3
    have b1 := digitsAt_bd e1; have b2 := digitsAt_bd e2; have b3 := digitsAt_bd e3
    have hk := key y m d (by simpa using b1) (by simpa using b2) (by simpa using b3)
    split
    · split
      · show _ ≤ daysOf y m d * 86400 ∧ daysOf y m d * 86400 ≤ _
        omega
      · split
        · rename_i h n x f1 f2 f3
          have c1 := digitsAt_bd f1; have c2 := digitsAt_bd f2; have c3 := digitsAt_bd f3
          split
          · split
            · show _ ≤ daysOf y m d * 86400 + ((h : Int) * 3600 + n * 60 + x) ∧ daysOf y m d * 86400 + ((h : Int) * 3600 + n * 60 + x) ≤ _
              have c1 : h < 100 := by simpa using c1
              have c2 : n < 100 := by simpa using c2
              have c3 : x < 100 := by simpa using c3
              omega
            · split <;> (constructor <;> decide)
          · constructor <;> decide
        · constructor <;> decide
    · constructor <;> decide
  · constructor <;> decide
theorem tstart_bd (s : Bs) : -100000000000000 ≤ (tstart s).1 ∧ (tstart s).1 ≤ 100000000000000 := by
  unfold tstart
  split
  · split
    · exact moment_bd _
    · split
      · split
        · exact moment_bd _
        · constructor <;> decide
      · constructor <;> decide
    · constructor <;> decide
  · constructor <;> decide
end Pl
/-- What buildRRule wants of a rule besides. -/
structure PR.tight (r : PR) : Prop where
  hour : r.hour.length ≤ 2001
  minute : r.minute.length ≤ 2001
  second : r.second.length ≤ 2001
  lo : -100000000000000 ≤ r.start
  hi : r.start ≤ 100000000000000
namespace Pl
theorem withInts_tight {r : PR} {v : Bs} {f : PR → List Int → PR} (hr : r.tight) (hv : v.length ≤ 2000) (hf : ∀ l, l.length ≤ 2001 → (f r l).tight) : (withInts r v f).1.tight := by
  unfold withInts
  cases h : intsOf v with
  | none => exact hr
  | some l => exact hf l (by have := intsOf_length h; omega)
theorem partOf_tight (r : PR) (k v : Bs) (hr : r.tight) (hv : v.length ≤ 2000) : (partOf r k v).1.tight := by
  obtain ⟨h1, h2, h3, h4, h5⟩ := hr
  have hr : r.tight := ⟨h1, h2, h3, h4, h5⟩
  unfold partOf
  by_cases e : k = kFREQ
  · rw [if_pos e]
    exact ⟨h1, h2, h3, h4, h5⟩
  rw [if_neg e]; clear e
  by_cases e : k = kDTSTART
  · rw [if_pos e]
    exact ⟨h1, h2, h3, (moment_bd v).1, (moment_bd v).2⟩
  rw [if_neg e]; clear e
  by_cases e : k = kUNTIL
  · rw [if_pos e]
    exact ⟨h1, h2, h3, h4, h5⟩
  rw [if_neg e]; clear e
  by_cases e : k = kINTERVAL
  · rw [if_pos e]
    exact ⟨h1, h2, h3, h4, h5⟩
  rw [if_neg e]; clear e
  by_cases e : k = kCOUNT
  · rw [if_pos e]
    exact ⟨h1, h2, h3, h4, h5⟩
  rw [if_neg e]; clear e
  by_cases e : k = kWKST
  · rw [if_pos e]
    cases dayOf v with
    | none => exact hr
    | some d =>
      by_cases e2 : (d.2 != 0) = true
      · simp only [if_pos e2]; exact hr
      · simp only [if_neg e2]; exact ⟨h1, h2, h3, h4, h5⟩
  rw [if_neg e]; clear e
  by_cases e : k = kBYDAY
  · rw [if_pos e]
    cases h : allDays (split 44 v) with
    | none => exact hr
    | some l => exact ⟨h1, h2, h3, h4, h5⟩
  rw [if_neg e]; clear e
  by_cases e : k = kBYSETPOS
  · rw [if_pos e]
    exact withInts_tight hr hv fun l hl => ⟨h1, h2, h3, h4, h5⟩
  rw [if_neg e]; clear e
  by_cases e : k = kBYMONTH
  · rw [if_pos e]
    exact withInts_tight hr hv fun l hl => ⟨h1, h2, h3, h4, h5⟩
  rw [if_neg e]; clear e
  by_cases e : k = kBYMONTHDAY
  · rw [if_pos e]
    exact withInts_tight hr hv fun l hl => ⟨h1, h2, h3, h4, h5⟩
  rw [if_neg e]; clear e
  by_cases e : k = kBYYEARDAY
  · rw [if_pos e]
    exact withInts_tight hr hv fun l hl => ⟨h1, h2, h3, h4, h5⟩
  rw [if_neg e]; clear e
  by_cases e : k = kBYWEEKNO
  · rw [if_pos e]
    exact withInts_tight hr hv fun l hl => ⟨h1, h2, h3, h4, h5⟩
  rw [if_neg e]; clear e
  by_cases e : k = kBYHOUR
  · rw [if_pos e]
    exact withInts_tight hr hv fun l hl => ⟨hl, h2, h3, h4, h5⟩
  rw [if_neg e]; clear e
  by_cases e : k = kBYMINUTE
  · rw [if_pos e]
    exact withInts_tight hr hv fun l hl => ⟨h1, hl, h3, h4, h5⟩
  rw [if_neg e]; clear e
  by_cases e : k = kBYSECOND
  · rw [if_pos e]
    exact withInts_tight hr hv fun l hl => ⟨h1, h2, hl, h4, h5⟩
  rw [if_neg e]; clear e
  by_cases e : k = kBYEASTER
  · rw [if_pos e]
    exact withInts_tight hr hv fun l hl => ⟨h1, h2, h3, h4, h5⟩
  rw [if_neg e]; clear e
  exact hr
end Pl
theorem PR.tight_zero : ({} : PR).tight := ⟨by decide, by decide, by decide, by decide, by decide⟩
namespace Pl
theorem partsOf_tight : ∀ (L : List Bs) (r : PR) (fq : Bool), r.tight → (∀ x ∈ L, x.length ≤ 2000) → (partsOf L r fq).1.tight
  | [], r, fq, hr, _ => by unfold partsOf; split; exact hr; exact PR.tight_zero
  | p :: L, r, fq, hr, hL => by
    show (partStep (split 61 p) L r fq).1.tight
    have hm := split_mem_length 61 p
    have hp := hL p (by simp)
    unfold partStep
    split
    · rename_i k v e
      have hv := hm v (by rw [e]; simp)
      split
      · exact PR.tight_zero
      · split
        · exact partsOf_tight L _ _ (partOf_tight r k v hr (by omega)) fun x hx => hL x (by simp [hx])
        · exact PR.tight_zero
    · exact PR.tight_zero
theorem option_tight (s : Bs) (hs : s.length ≤ 2000) : (option s).1.tight := by
  have hr : ∀ (t : Bs) (r : PR), t.length ≤ s.length → r.tight → (partsOf (split 59 (Lib.trimPrefix t rrule)) r false).1.tight := fun t r ht hr =>
    partsOf_tight _ _ _ hr fun x hx => by have := split_mem_length 59 _ x hx; have := trimPrefix_length t rrule; omega
  have hm := split_mem_length 10 (Lib.trimSpace s)
  have ht := trim_length s
  unfold option
  cases ascii s with
  | false => exact PR.tight_zero
  | true =>
    simp only [if_true]
    split
    · rename_i t e
      exact hr t _ (by have := hm t (by rw [e]; simp); omega) PR.tight_zero
    · rename_i l t e
      cases isStart l with
      | false => exact PR.tight_zero
      | true =>
        simp only [if_true]
        by_cases h : (tstart (l.drop 8)).2 = 0
        · rw [if_pos h]; exact hr t _ (by have := hm t (by rw [e]; simp); omega) ⟨by simp, by simp, by simp, (tstart_bd _).1, (tstart_bd _).2⟩
        · rw [if_neg h]; exact PR.tight_zero
    · exact PR.tight_zero
end Pl
end Go.Proofs.YthkgjhnckakliaaGreatDoorR

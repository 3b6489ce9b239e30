import Derived.Test.Qxb6600338aCanon
namespace Go.Proofs.Qxb6600338a
open Go.ChangeShapes Go.WideShapes Go.ChangeAt Go.RowKit

namespace Plain
def lim (neg : Bool) : Nat := if neg = true then 9223372036854775808 else 9223372036854775807
/-- zzFitsDigits. -/
def fits (neg : Bool) (d : List UInt8) : Bool := decide (0 < d.length ∧ d.length ≤ 19 ∧ d.head? ≠ some 48 ∧ allD d = true ∧ val d ≤ lim neg)
/-- zzCanonicalModel. -/
def model (s : List UInt8) : Bool := if s = [48] then true else if s.head? = some 45 then fits true s.tail else fits false s

theorem less_val (l m : List UInt8) (hl : allD l = true) (hm : allD m = true) (hlen : l.length = m.length) : Op.bytesLess l m = decide (val l < val m) := by
  induction l generalizing m with
  | nil => cases m with | nil => simp [Op.bytesLess] | cons _ _ => simp at hlen
  | cons c t ih =>
    cases m with
    | nil => simp at hlen
    | cons d s =>
      simp only [List.length_cons, Nat.add_right_cancel_iff] at hlen
      rw [allD_cons, isD_iff] at hl hm
      have h1 := val_lt t hl.2
      have h2 := val_lt s hm.2
      rw [hlen] at h1
      rw [Op.bytesLess, ih s hl.2 hm.2 hlen, val_cons, val_cons, hlen]
      rcases Nat.lt_trichotomy c.toNat d.toNat with h | h | h
      · have := Nat.mul_le_mul_right (10 ^ s.length) (show c.toNat - 48 + 1 ≤ d.toNat - 48 by omega)
        rw [Nat.add_mul] at this
        have hc : c < d := UInt8.lt_iff_toNat_lt.2 h
        simp [hc]; omega
      · have hc : c = d := UInt8.toNat_inj.1 h
        subst hc
        have : ¬ c < c := by rw [UInt8.lt_iff_toNat_lt]; omega
        simp
      · have := Nat.mul_le_mul_right (10 ^ s.length) (show d.toNat - 48 + 1 ≤ c.toNat - 48 by omega)
        rw [Nat.add_mul] at this
        have hc : ¬ c < d := by rw [UInt8.lt_iff_toNat_lt]; omega
        have hc2 : c ≠ d := by intro e; rw [e] at h; omega
        have e1 : decide (c < d) = false := by simpa using hc
        have e2 : (c == d) = false := by simpa using hc2
        rw [e1, e2, Bool.false_and, Bool.or_false, eq_comm, decide_eq_false_iff_not]
        omega

theorem leq_val (l m : List UInt8) (hl : allD l = true) (hm : allD m = true) (hlen : l.length = m.length) : (Op.bytesLess l m || l == m) = decide (val l ≤ val m) := by
  rw [less_val l m hl hm hlen]
  by_cases h : val l = val m
  · have := val_cmp l m hl hm hlen h
    subst this
    simp
  · have h2 : l ≠ m := fun e => h (by rw [e])
    have e2 : (l == m) = false := by simpa using h2
    rw [e2, Bool.or_false, decide_eq_decide]
    omega

theorem read_ok (neg : Bool) (d : List UInt8) : (readD neg d).2 = (fits neg d || (!neg && d == [48])) := by
  unfold readD
  by_cases h1 : d.length = 0 ∨ 19 < d.length ∨ (d.head? = some 48 ∧ (1 < d.length ∨ neg = true))
  · rw [if_pos h1]
    have hf : fits neg d = false := by
      unfold fits
      rw [decide_eq_false_iff_not]
      rintro ⟨a, b, c, _⟩
      rcases h1 with h | h | h
      · omega
      · omega
      · exact c h.1
    rw [hf]
    have : (!neg && d == [48]) = false := by
      cases neg
      · simp
        rintro rfl
        simp at h1
      · rfl
    rw [this]; rfl
  · rw [if_neg h1]
    have a1 : 0 < d.length := by omega
    have a2 : d.length ≤ 19 := by omega
    cases ha : allD d with
    | false =>
      rw [if_pos rfl]
      have hf : fits neg d = false := by unfold fits; simp [ha]
      have : (d == [48]) = false := by
        rw [beq_eq_false_iff_ne]; rintro rfl; simp [allD, isD] at ha
      rw [hf, this]; simp
    | true =>
      rw [if_neg (by simp)]
      by_cases h48 : d.head? = some 48
      · have hn : neg = false := by
          cases neg
          · rfl
          · exact absurd (Or.inr (Or.inr ⟨h48, Or.inr rfl⟩)) h1
        have hl : d.length = 1 := by
          have : ¬ 1 < d.length := fun g => h1 (Or.inr (Or.inr ⟨h48, Or.inl g⟩))
          omega
        have hd : d = [48] := by
          match d, hl, h48 with
          | [c], _, h => simp at h; rw [h]
        subst hn hd
        simp [val]
      · have hne : (d == [48]) = false := by
          rw [beq_eq_false_iff_ne]; rintro rfl; simp at h48
        rw [hne]
        cases neg
        · simp only [Bool.false_eq_true, if_false]
          by_cases hv : val d < 9223372036854775808
          · simp [hv, fits, a1, a2, h48, ha, lim]; omega
          · simp [hv, fits, lim]; intros; omega
        · simp only [if_true]
          by_cases hv : val d ≤ 9223372036854775808
          · simp [hv, fits, a1, a2, h48, ha, lim]
          · simp [hv, fits, lim]

theorem canon_ok (s : List UInt8) : (canon s).2 = model s := by
  unfold canon model
  by_cases h : s.head? = some 45
  · have h2 : s ≠ [48] := by rintro rfl; simp at h
    rw [if_pos h, if_neg h2, if_pos h, read_ok]; simp
  · rw [if_neg h, if_neg h, read_ok]
    by_cases h2 : s = [48]
    · subst h2; simp
    · have : (s == [48]) = false := by simpa using h2
      rw [if_neg h2, this]; simp

theorem read_no (neg : Bool) (d : List UInt8) (h : (readD neg d).2 = false) : (readD neg d).1 = 0 := by
  unfold readD at h ⊢
  split
  · rfl
  · split
    · rfl
    · rename_i h1 h2
      rw [if_neg h1, if_neg h2] at h
      split
      · rename_i h3
        rw [if_pos h3] at h
        split
        · rename_i h4; rw [if_pos h4] at h; simp at h
        · rfl
      · rename_i h3
        rw [if_neg h3] at h
        split
        · rename_i h4; rw [if_pos h4] at h; simp at h
        · rfl
theorem canon_no (s : List UInt8) (h : (canon s).2 = false) : (canon s).1 = 0 := by
  unfold canon at h ⊢
  split
  · rename_i h1; rw [if_pos h1] at h; exact read_no _ _ h
  · rename_i h1; rw [if_neg h1] at h; exact read_no _ _ h

theorem read_yes (neg : Bool) (d : List UInt8) (h : (readD neg d).2 = true) :
    canD d ∧ val d ≤ lim neg ∧ (neg = true → 0 < val d) ∧ (readD neg d).1 = if neg = true then -(val d : Int) else (val d : Int) := by
  unfold readD at h ⊢
  by_cases h1 : d.length = 0 ∨ 19 < d.length ∨ (d.head? = some 48 ∧ (1 < d.length ∨ neg = true))
  · rw [if_pos h1] at h; simp at h
  · rw [if_neg h1] at h ⊢
    by_cases h2 : allD d = false
    · rw [if_pos h2] at h; simp at h
    · rw [if_neg h2] at h ⊢
      have ha : allD d = true := by simpa using h2
      have hc : canD d := ⟨ha, by omega, fun g e => h1 (Or.inr (Or.inr ⟨e, Or.inl g⟩))⟩
      cases neg
      · simp only [Bool.false_eq_true, if_false] at h ⊢
        by_cases h3 : val d < 9223372036854775808
        · rw [if_pos h3]; exact ⟨hc, by simp [lim]; omega, by simp, rfl⟩
        · rw [if_neg h3] at h; simp at h
      · simp only [if_true] at h ⊢
        by_cases h3 : val d ≤ 9223372036854775808
        · rw [if_pos h3]
          refine ⟨hc, by simp [lim]; omega, fun _ => ?_, rfl⟩
          match d, hc with
          | [], hc => exact absurd hc.2.1 (by simp)
          | c :: t, hc =>
            have h48 : c ≠ 48 := fun e => h1 (Or.inr (Or.inr ⟨by rw [e]; rfl, Or.inr rfl⟩))
            have hD := ((allD_cons c t).1 ha).1
            rw [isD_iff] at hD
            have h49 : c.toNat ≠ 48 := fun e => h48 (UInt8.toNat_inj.1 (by simpa using e))
            have := val_ge c t (by omega)
            have := Nat.pow_pos (n := t.length) (show 0 < 10 by omega)
            omega
        · rw [if_neg h3] at h; simp at h

/-- What the reader takes is the one text of its value. -/
theorem canon_yes (s : List UInt8) (h : (canon s).2 = true) : itoa (canon s).1 = s ∧ -9223372036854775808 ≤ (canon s).1 ∧ (canon s).1 < 9223372036854775808 := by
  unfold canon at h ⊢
  by_cases h45 : s.head? = some 45
  · rw [if_pos h45] at h ⊢
    obtain ⟨hc, hv, hp, hr⟩ := read_yes true s.tail h
    have hp := hp rfl
    rw [hr, if_pos rfl]
    have hlim : lim true = 9223372036854775808 := rfl
    rw [hlim] at hv
    refine ⟨?_, by omega, by omega⟩
    unfold itoa
    rw [if_pos (by omega)]
    have e : (-(val s.tail : Int)).natAbs = val s.tail := by omega
    rw [e]
    have h20 : val s.tail < 10 ^ 20 := by omega
    have := canD_inj (dec (val s.tail)) s.tail (dec_can _ h20) hc (dec_val _ h20)
    rw [this]
    match s, h45 with
    | c :: t, h => simp at h; rw [h]; rfl
  · rw [if_neg h45] at h ⊢
    obtain ⟨hc, hv, hp, hr⟩ := read_yes false s h
    rw [hr]
    have hlim : lim false = 9223372036854775807 := rfl
    rw [hlim] at hv
    simp only [Bool.false_eq_true, if_false]
    refine ⟨?_, by omega, by omega⟩
    unfold itoa
    rw [if_neg (by omega)]
    have e : ((val s : Int)).natAbs = val s := by omega
    rw [e]
    have h20 : val s < 10 ^ 20 := by omega
    exact canD_inj (dec (val s)) s (dec_can _ h20) hc (dec_val _ h20)
end Plain
end Go.Proofs.Qxb6600338a

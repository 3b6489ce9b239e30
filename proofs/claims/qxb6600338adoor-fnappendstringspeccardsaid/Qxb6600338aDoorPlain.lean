/-
  THE PLAIN PART: decimal digit strings as lists of bytes. No Go in sight.
-/
namespace Go.Proofs.Qxb6600338aDoor.Plain

/-- The value of a digit string. -/
def val (l : List UInt8) : Nat := l.foldl (fun a c => a * 10 + (c.toNat - 48)) 0
/-- A decimal digit. -/
def isD (c : UInt8) : Bool := decide (48 ≤ c.toNat ∧ c.toNat ≤ 57)
def allD (l : List UInt8) : Bool := l.all isD

theorem val_nil : val [] = 0 := rfl
theorem val_snoc (l : List UInt8) (c : UInt8) : val (l ++ [c]) = val l * 10 + (c.toNat - 48) := by
  simp [val, List.foldl_append]

theorem foldl_shift (l : List UInt8) (a : Nat) : l.foldl (fun a c => a * 10 + (c.toNat - 48)) a = a * 10 ^ l.length + val l := by
  induction l generalizing a with
  | nil => simp [val]
  | cons c t ih =>
    have h0 : val (c :: t) = t.foldl (fun a c => a * 10 + (c.toNat - 48)) (0 * 10 + (c.toNat - 48)) := rfl
    rw [h0, ih, List.foldl_cons, ih]
    simp only [List.length_cons, Nat.pow_succ, Nat.zero_mul, Nat.zero_add, Nat.add_mul]
    have h1 : a * 10 * 10 ^ t.length = a * (10 ^ t.length * 10) := by rw [Nat.mul_assoc, Nat.mul_comm 10]
    omega

theorem val_cons (c : UInt8) (t : List UInt8) : val (c :: t) = (c.toNat - 48) * 10 ^ t.length + val t := by
  have h0 : val (c :: t) = t.foldl (fun a c => a * 10 + (c.toNat - 48)) (0 * 10 + (c.toNat - 48)) := rfl
  rw [h0, foldl_shift]; simp

theorem isD_iff (c : UInt8) : isD c = true ↔ 48 ≤ c.toNat ∧ c.toNat ≤ 57 := by simp [isD]
theorem allD_cons (c : UInt8) (t : List UInt8) : allD (c :: t) = true ↔ isD c = true ∧ allD t = true := by simp [allD]
theorem allD_snoc (l : List UInt8) (c : UInt8) : allD (l ++ [c]) = true ↔ allD l = true ∧ isD c = true := by simp [allD, List.all_append]
theorem allD_append (l m : List UInt8) : allD (l ++ m) = true ↔ allD l = true ∧ allD m = true := by simp [allD, List.all_append]

theorem val_lt (l : List UInt8) (h : allD l = true) : val l < 10 ^ l.length := by
  induction l with
  | nil => simp [val]
  | cons c t ih =>
    rw [allD_cons, isD_iff] at h
    have := ih h.2
    rw [val_cons, List.length_cons, Nat.pow_succ]
    have h9 : (c.toNat - 48) * 10 ^ t.length ≤ 9 * 10 ^ t.length := Nat.mul_le_mul_right _ (by omega)
    omega

theorem val_ge (c : UInt8) (t : List UInt8) (h : 48 < c.toNat) : 10 ^ t.length ≤ val (c :: t) := by
  rw [val_cons]
  have h9 : 1 * 10 ^ t.length ≤ (c.toNat - 48) * 10 ^ t.length := Nat.mul_le_mul_right _ (by omega)
  omega

/-- The order of two digit strings of one length is that of their values. -/
theorem val_cmp (l m : List UInt8) (hl : allD l = true) (hm : allD m = true) (hlen : l.length = m.length) :
    (val l = val m → l = m) := by
  induction l generalizing m with
  | nil => intro _; cases m with | nil => rfl | cons _ _ => simp at hlen
  | cons c t ih =>
    cases m with
    | nil => simp at hlen
    | cons d s =>
      simp only [List.length_cons, Nat.add_right_cancel_iff] at hlen
      rw [allD_cons, isD_iff] at hl hm
      intro hv
      rw [val_cons, val_cons, hlen] at hv
      have h1 := val_lt t hl.2
      have h2 := val_lt s hm.2
      rw [hlen] at h1
      have hcd : c.toNat - 48 = d.toNat - 48 := by
        rcases Nat.lt_trichotomy (c.toNat - 48) (d.toNat - 48) with h | h | h
        · have := Nat.mul_le_mul_right (10 ^ s.length) (show c.toNat - 48 + 1 ≤ d.toNat - 48 from h)
          rw [Nat.add_mul] at this; omega
        · exact h
        · have := Nat.mul_le_mul_right (10 ^ s.length) (show d.toNat - 48 + 1 ≤ c.toNat - 48 from h)
          rw [Nat.add_mul] at this; omega
      have hc : c = d := UInt8.toNat_inj.1 (by omega)
      have ht := ih s hl.2 hm.2 hlen (by rw [hcd] at hv; omega)
      rw [hc, ht]

/-- The canonical digits: one or more, no leading zero but for the one digit 0. -/
def canD (l : List UInt8) : Prop := allD l = true ∧ 0 < l.length ∧ (1 < l.length → l.head? ≠ some 48)

theorem canD_ge (c : UInt8) (t : List UInt8) (h : canD (c :: t)) (h1 : 0 < t.length) : 10 ^ t.length ≤ val (c :: t) := by
  obtain ⟨ha, _, hh⟩ := h
  rw [allD_cons, isD_iff] at ha
  have : c ≠ 48 := by have := hh (by simp; omega); simpa using this
  have h2 : c.toNat ≠ 48 := fun e => this (UInt8.toNat_inj.1 (by simpa using e))
  exact val_ge c t (by omega)

theorem canD_len (l : List UInt8) (h : canD l) (k : Nat) (hv : val l < 10 ^ k) (hk : 0 < k) : l.length ≤ k := by
  cases l with
  | nil => simp
  | cons c t =>
    by_cases h1 : 0 < t.length
    · have := canD_ge c t h h1
      have h3 : 10 ^ t.length < 10 ^ k := Nat.lt_of_le_of_lt this hv
      have := (Nat.pow_lt_pow_iff_right (by omega)).1 h3
      simp; omega
    · simp; omega

/-- Each value has one canonical form. -/
theorem canD_inj (l m : List UInt8) (hl : canD l) (hm : canD m) (hv : val l = val m) : l = m := by
  have h1 : l.length ≤ m.length := canD_len l hl _ (by rw [hv]; exact val_lt m hm.1) hm.2.1
  have h2 : m.length ≤ l.length := canD_len m hm _ (by rw [← hv]; exact val_lt l hl.1) hl.2.1
  exact val_cmp l m hl.1 hm.1 (by omega) hv

/-! ### The writer: the last digit first -/
/-- What the loop has written after it has met the digits of u: 'acc' behind them. -/
def put : Nat → Nat → List UInt8 → List UInt8
  | 0, _, acc => acc
  | f + 1, u, acc => if u / 10 = 0 then UInt8.ofNat (48 + u % 10) :: acc else put f (u / 10) (UInt8.ofNat (48 + u % 10) :: acc)

theorem digit_toNat (u : Nat) : (UInt8.ofNat (48 + u % 10)).toNat = 48 + u % 10 := by
  simp [UInt8.toNat_ofNat']; omega

theorem put_spec (f u : Nat) (acc : List UInt8) (ha : allD acc = true) (hu : u < 10 ^ f) (hf : 0 < f) (h0 : acc ≠ [] → u ≠ 0) :
    canD (put f u acc) ∧ val (put f u acc) = u * 10 ^ acc.length + val acc := by
  induction f generalizing u acc with
  | zero => omega
  | succ f ih =>
    have hd := digit_toNat u
    have hD : isD (UInt8.ofNat (48 + u % 10)) = true := by rw [isD_iff, hd]; omega
    have hA : allD (UInt8.ofNat (48 + u % 10) :: acc) = true := by rw [allD_cons]; exact ⟨hD, ha⟩
    unfold put
    by_cases h : u / 10 = 0
    · rw [if_pos h]
      refine ⟨⟨hA, by simp, ?_⟩, ?_⟩
      · intro hl
        have : acc ≠ [] := by intro e; simp [e] at hl
        have := h0 this
        simp only [List.head?_cons, ne_eq, Option.some.injEq]
        intro e
        have e2 : (UInt8.ofNat (48 + u % 10)).toNat = (48 : UInt8).toNat := congrArg UInt8.toNat e
        rw [hd] at e2
        simp at e2
        omega
      · rw [val_cons, hd]
        have : 48 + u % 10 - 48 = u := by omega
        rw [this]
    · rw [if_neg h]
      have h10 : u / 10 < 10 ^ f := by rw [Nat.pow_succ] at hu; omega
      have hf : 0 < f := by
        rcases Nat.eq_zero_or_pos f with e | e
        · subst e; simp at hu; omega
        · exact e
      obtain ⟨h1, h2⟩ := ih (u / 10) _ hA h10 hf (fun _ => h)
      refine ⟨h1, ?_⟩
      rw [h2, val_cons, hd, List.length_cons, Nat.pow_succ]
      have e1 : 48 + u % 10 - 48 = u % 10 := by omega
      have e2 : u = u / 10 * 10 + u % 10 := by omega
      have e3 : u / 10 * (10 ^ acc.length * 10) = (u / 10 * 10) * 10 ^ acc.length := by rw [Nat.mul_comm (10 ^ _) 10, ← Nat.mul_assoc]
      rw [e1, e3, ← Nat.add_assoc, ← Nat.add_mul, ← e2]

/-- The decimal form of a natural number below 10^20. -/
def dec (u : Nat) : List UInt8 := put 20 u []

theorem dec_can (u : Nat) (h : u < 10 ^ 20) : canD (dec u) := (put_spec 20 u [] rfl h (by omega) (by simp)).1
theorem dec_val (u : Nat) (h : u < 10 ^ 20) : val (dec u) = u := by
  have := (put_spec 20 u [] rfl h (by omega) (by simp)).2
  rw [List.length_nil, Nat.pow_zero, Nat.mul_one, val_nil, Nat.add_zero] at this
  exact this
theorem dec_len (u : Nat) (k : Nat) (h : u < 10 ^ k) (hk : 0 < k) (h2 : k ≤ 20) : (dec u).length ≤ k := by
  have h20 : u < 10 ^ 20 := Nat.lt_of_lt_of_le h (Nat.pow_le_pow_right (by omega) h2)
  exact canD_len _ (dec_can u h20) k (by rw [dec_val u h20]; exact h) hk

/-- The decimal form of an int64. -/
def itoa (v : Int) : List UInt8 := if v < 0 then 45 :: dec v.natAbs else dec v.natAbs

/-! ### The reader -/
/-- canonicalInt behind the sign. -/
def readD (neg : Bool) (d : List UInt8) : Int × Bool :=
  if d.length = 0 ∨ 19 < d.length ∨ (d.head? = some 48 ∧ (1 < d.length ∨ neg = true)) then (0, false)
  else if allD d = false then (0, false)
  else if neg = true then (if val d ≤ 9223372036854775808 then (-(val d : Int), true) else (0, false))
  else (if val d < 9223372036854775808 then ((val d : Int), true) else (0, false))

def canon (s : List UInt8) : Int × Bool := if s.head? = some 45 then readD true s.tail else readD false s

theorem dec_head (u : Nat) (h : u < 10 ^ 20) : ∃ c t, dec u = c :: t ∧ isD c = true := by
  have hc := dec_can u h
  match hd : dec u with
  | [] => rw [hd] at hc; exact absurd hc.2.1 (by simp)
  | c :: t => rw [hd] at hc; exact ⟨c, t, rfl, ((allD_cons c t).1 hc.1).1⟩

theorem canon_itoa (v : Int) (h1 : -9223372036854775808 ≤ v) (h2 : v < 9223372036854775808) : canon (itoa v) = (v, true) := by
  have hb : v.natAbs < 10 ^ 19 := by omega
  have hb2 : v.natAbs < 10 ^ 20 := by omega
  have hc := dec_can _ hb2
  have hv := dec_val _ hb2
  have hl := dec_len v.natAbs 19 hb (by omega) (by omega)
  obtain ⟨c, t, hd, hD⟩ := dec_head _ hb2
  by_cases hn : v < 0
  · have e : itoa v = 45 :: dec v.natAbs := by simp [itoa, hn]
    have e3 : canon (45 :: dec v.natAbs) = readD true (dec v.natAbs) := by unfold canon; rw [if_pos (by rfl)]; rfl
    rw [e, e3]
    unfold readD
    have h48 : (dec v.natAbs).head? ≠ some 48 := by
      by_cases h1 : 1 < (dec v.natAbs).length
      · exact hc.2.2 h1
      · intro h
        have hl1 : t = [] := by rw [hd] at h1; simp at h1; exact h1
        rw [hd, hl1] at h hv
        simp at h
        subst h
        simp [val] at hv
        omega
    rw [if_neg (by have := hc.2.1; simp [h48]; exact ⟨fun e => by rw [e] at this; simp at this, hl⟩), if_neg (by simp [hc.1]), if_pos rfl, hv, if_pos (by omega)]
    simp; omega
  · have e : itoa v = dec v.natAbs := by simp [itoa, hn]
    rw [e]
    have h45 : (dec v.natAbs).head? ≠ some 45 := by
      rw [hd]; simp
      intro h; subst h; simp [isD] at hD
    simp only [canon, if_neg h45, readD]
    rw [if_neg (by
      have := hc.2.1; simp
      refine ⟨fun e => by rw [e] at this; simp at this, hl, fun h => ?_⟩
      rcases Nat.lt_or_ge 1 (dec v.natAbs).length with g | g
      · exact absurd h (hc.2.2 g)
      · exact g), if_neg (by simp [hc.1]), if_neg (by simp), hv, if_pos (by omega)]
    simp; omega

end Go.Proofs.Qxb6600338aDoor.Plain

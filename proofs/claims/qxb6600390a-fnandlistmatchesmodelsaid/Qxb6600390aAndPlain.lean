import Derived.Lib.Join
namespace Go.Proofs.Qxb6600390a

def comma : List UInt8 := [44, 32]
def conj : List UInt8 := [32, 97, 110, 100, 32]
/-- What andList writes. -/
def andL (l : List (List UInt8)) : List UInt8 :=
  if l.length = 1 then l.headD [] else Lib.join (l.take (l.length - 1)) comma ++ conj ++ l.getD (l.length - 1) []
/-- What andListModel has written behind k names of n. -/
def modelTo (l : List (List UInt8)) : Nat → List UInt8
  | 0 => []
  | k + 1 => modelTo l k ++ (if k = 0 then [] else if k = l.length - 1 then conj else comma) ++ l.getD k []

theorem join_snoc (xs : List (List UInt8)) (x sep : List UInt8) (h : xs ≠ []) : Lib.join (xs ++ [x]) sep = Lib.join xs sep ++ sep ++ x := by
  match xs, h with
  | a :: r, _ =>
    rw [List.cons_append, Lib.join_cons, Lib.join_cons]
    simp [Lib.joinTail, List.append_assoc]
theorem model_join (l : List (List UInt8)) (k : Nat) (h0 : 0 < k) (hk : k ≤ l.length - 1) : modelTo l k = Lib.join (l.take k) comma := by
  induction k with
  | zero => omega
  | succ k ih =>
    have hlt : k < l.length := by omega
    have e : l.getD k [] = l[k] := by simp [List.getD, hlt]
    rw [modelTo, List.take_succ_eq_append_getElem hlt, e]
    by_cases hz : k = 0
    · subst hz
      simp [modelTo, Lib.join_one]
    · rw [ih (by omega) (by omega), if_neg hz, if_neg (by omega), join_snoc _ _ _ (by
        intro e; have := congrArg List.length e; rw [List.length_take, List.length_nil] at this; omega)]
/-- The model writes what andList writes. -/
theorem model_is (l : List (List UInt8)) (h : 0 < l.length) : modelTo l l.length = andL l := by
  unfold andL
  by_cases h1 : l.length = 1
  · rw [if_pos h1, h1]
    match l, h1 with
    | [a], _ => simp [modelTo]
  · rw [if_neg h1]
    obtain ⟨k, hk⟩ : ∃ k, l.length = k + 1 := ⟨l.length - 1, by omega⟩
    have : modelTo l l.length = modelTo l (l.length - 1) ++ conj ++ l.getD (l.length - 1) [] := by
      rw [hk, modelTo, if_neg (by omega), if_pos (by omega)]
      rfl
    rw [this, model_join l _ (by omega) (Nat.le_refl _)]
theorem andL_one (a : List UInt8) : andL [a] = a := by simp [andL]
theorem andL_two (a b : List UInt8) : andL [a, b] = a ++ conj ++ b := by simp [andL, Lib.join_one]
theorem andL_cons (a : List UInt8) (r : List (List UInt8)) (h : 2 ≤ r.length) : andL (a :: r) = a ++ comma ++ andL r := by
  unfold andL
  rw [if_neg (by rw [List.length_cons]; omega), if_neg (by omega)]
  have e1 : (a :: r).take ((a :: r).length - 1) = a :: r.take (r.length - 1) := by
    have : (a :: r).length - 1 = (r.length - 1) + 1 := by simp; omega
    rw [this, List.take_succ_cons]
  have e2 : (a :: r).getD ((a :: r).length - 1) [] = r.getD (r.length - 1) [] := by
    have : (a :: r).length - 1 = (r.length - 1) + 1 := by simp; omega
    rw [this]; simp
  rw [e1, e2]
  match hr : r.take (r.length - 1) with
  | [] => have := congrArg List.length hr; rw [List.length_take, List.length_nil] at this; omega
  | y :: t =>
    rw [Lib.join_cons, Lib.join_cons]
    simp [Lib.joinTail, List.append_assoc]

/-- All the bytes, and a header for each name. -/
def wt : List (List UInt8) → Nat
  | [] => 0
  | s :: r => 16 + s.length + wt r
theorem modelTo_len (l : List (List UInt8)) (k : Nat) (hk : k ≤ l.length) : (modelTo l k).length ≤ wt (l.take k) := by
  induction k with
  | zero => simp [modelTo]
  | succ k ih =>
    have hlt : k < l.length := by omega
    have e : l.getD k [] = l[k] := by simp [List.getD, hlt]
    have h2 := ih (by omega)
    have hw : ∀ a b : List (List UInt8), wt (a ++ b) = wt a + wt b := by
      intro a b
      induction a with
      | nil => simp [wt]
      | cons s r ih => simp only [List.cons_append, wt, ih]; omega
    rw [List.take_succ_eq_append_getElem hlt, hw, modelTo, e]
    simp only [List.length_append, wt]
    have : (if k = 0 then ([] : List UInt8) else if k = l.length - 1 then conj else comma).length ≤ 5 := by
      split
      · simp
      · split <;> simp [conj, comma]
    omega
theorem wt_take (l : List (List UInt8)) (k : Nat) : wt (l.take k) ≤ wt l := by
  induction l generalizing k with
  | nil => simp
  | cons s r ih =>
    cases k with
    | zero => simp [wt]
    | succ k => simp only [List.take_succ_cons, wt]; have := ih k; omega
end Go.Proofs.Qxb6600390a

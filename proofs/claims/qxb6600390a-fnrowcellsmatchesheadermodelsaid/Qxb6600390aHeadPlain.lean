import Derived.Test.Qxb6600390aCells
namespace Go.Proofs.Qxb6600390a
open Go.RowKit Go.Maps Go.WideShapes Go.WideMaps Go.WideElems

theorem nodup_le {α : Type} : ∀ (l m : List α), l.Nodup → (∀ x ∈ l, x ∈ m) → l.length ≤ m.length
  | [], _, _, _ => by simp
  | a :: r, m, h, hs => by
    obtain ⟨h1, h2⟩ := List.nodup_cons.1 h
    have ham : a ∈ m := hs a (by simp)
    obtain ⟨m1, m2, rfl⟩ := List.append_of_mem ham
    have := nodup_le r (m1 ++ m2) h2 (fun x hx => by
      have hx2 := hs x (by simp [hx])
      have hne : x ≠ a := fun e => h1 (e ▸ hx)
      simp only [List.mem_append, List.mem_cons] at hx2 ⊢
      rcases hx2 with q | q | q
      · exact Or.inl q
      · exact absurd q hne
      · exact Or.inr q)
    simp only [List.length_append, List.length_cons] at this ⊢
    omega
theorem nodup_eq {α : Type} (l m : List α) (hl : l.Nodup) (hm : m.Nodup) (h : ∀ x, x ∈ l ↔ x ∈ m) : l.length = m.length :=
  Nat.le_antisymm (nodup_le l m hl (fun x hx => (h x).1 hx)) (nodup_le m l hm (fun x hx => (h x).2 hx))

theorem nodup_map_on {α β : Type} (f : α → β) : ∀ (l : List α), l.Nodup → (∀ a ∈ l, ∀ b ∈ l, f a = f b → a = b) → (l.map f).Nodup
  | [], _, _ => by simp
  | x :: r, h, hi => by
    obtain ⟨h1, h2⟩ := List.nodup_cons.1 h
    rw [List.map_cons, List.nodup_cons]
    refine ⟨fun hm => ?_, nodup_map_on f r h2 (fun a ha b hb e => hi a (by simp [ha]) b (by simp [hb]) e)⟩
    obtain ⟨y, hy, e⟩ := List.mem_map.1 hm
    have := hi y (by simp [hy]) x (by simp) e
    exact h1 (this ▸ hy)
theorem lastB_key (ks : List ByteArray) (k : Nat) (c : List UInt8) (j : Nat) (h : lastB ks k c = some j) : (ks.getD j ByteArray.empty).data.toList = c := by
  induction k with
  | zero => simp [lastB] at h
  | succ k ih =>
    unfold lastB at h
    split at h
    · rename_i e; obtain rfl := Option.some.inj h; exact e
    · exact ih h
/-- The name at place j. -/
def kb (ks : List ByteArray) (j : Nat) : List UInt8 := (ks.getD j ByteArray.empty).data.toList
/-- Place j counts: it is its name's last mention, and the field is not empty. -/
def good (ks : List ByteArray) (zs : List Int) (fs : List ByteArray) (j : Nat) : Bool :=
  decide (lastB ks ks.length (kb ks j) = some j) && !(field ks zs fs (kb ks j)).data.toList.isEmpty
def cnt (ks : List ByteArray) (zs : List Int) (fs : List ByteArray) (k : Nat) : Nat := ((List.range k).filter (good ks zs fs)).length
theorem cnt_succ (ks : List ByteArray) (zs : List Int) (fs : List ByteArray) (k : Nat) : cnt ks zs fs (k + 1) = cnt ks zs fs k + if good ks zs fs k = true then 1 else 0 := by
  unfold cnt
  rw [List.range_succ, List.filter_append, List.length_append]
  cases h : good ks zs fs k <;> simp [h]
theorem cnt_le (ks : List ByteArray) (zs : List Int) (fs : List ByteArray) (k : Nat) : cnt ks zs fs k ≤ k := by
  unfold cnt
  exact Nat.le_trans (List.length_filter_le _ _) (by simp)
theorem isEmpty_iff (f : ByteArray) : f.data.toList.isEmpty = true ↔ f = ByteArray.empty := by
  constructor
  · intro h
    exact ByteArray.size_eq_zero_iff.1 (by show f.data.size = 0; rw [← Array.length_toList]; rw [List.isEmpty_iff] at h; rw [h]; rfl)
  · rintro rfl; rfl
theorem good_iff (ks : List ByteArray) (zs : List Int) (fs : List ByteArray) (j : Nat) : good ks zs fs j = true ↔ lastB ks ks.length (kb ks j) = some j ∧ field ks zs fs (kb ks j) ≠ ByteArray.empty := by
  unfold good
  rw [Bool.and_eq_true, decide_eq_true_iff, Bool.not_eq_true', ← Bool.not_eq_true, isEmpty_iff]

/-- THE COUNT: the cells' map has as many entries as places count. -/
theorem size_cells {ks : List ByteArray} {zs : List Int} {fs : List ByteArray} {D : DataW Unit} (hc : CellsOk ks zs fs (fun _ => false) D) (he : ∃ es, D = .map es ∧ es.Pairwise (fun p q => p.1 ≠ q.1) ∧ ∀ p ∈ es, WideAt.IsKeyLit p.1) :
    Maps.size D = cnt ks zs fs ks.length := by
  obtain ⟨es, rfl, hp, hk⟩ := he
  have h1 : (es.map (·.1)).length = (((List.range ks.length).filter (good ks zs fs)).map fun j => Lit.string (kb ks j)).length := by
    refine nodup_eq _ _ ?_ ?_ ?_
    · unfold List.Nodup
      rw [List.pairwise_map]
      exact hp
    · refine nodup_map_on _ _ ((List.nodup_range).filter _) (fun a ha b hb e => ?_)
      have ga := (good_iff ks zs fs a).1 (List.mem_filter.1 ha).2
      have gb := (good_iff ks zs fs b).1 (List.mem_filter.1 hb).2
      have e2 : kb ks a = kb ks b := Lit.string.inj e
      rw [e2, gb.1] at ga
      exact (Option.some.inj ga.1).symm
    · intro kl
      constructor
      · intro h
        obtain ⟨p, hp2, rfl⟩ := List.mem_map.1 h
        have hh : Maps.has (.map es : DataW Unit) p.1 = true := List.any_eq_true.2 ⟨p, hp2, WideAt.sameKey_self (hk p hp2)⟩
        obtain ⟨c, hcl⟩ := hc.2.2 _ hh
        rw [hcl] at hh ⊢
        have hf := hc.2.1 c rfl
        have hne : field ks zs fs c ≠ ByteArray.empty := fun q => by rw [hf.1 q] at hh; cases hh
        cases hL : lastB ks ks.length c with
        | none => exact absurd (field_none hL) hne
        | some j =>
          have hkey : kb ks j = c := lastB_key ks _ c j hL
          refine List.mem_map.2 ⟨j, List.mem_filter.2 ⟨List.mem_range.2 (lastB_lt _ _ _ _ hL), ?_⟩, by rw [hkey]⟩
          rw [good_iff, hkey]
          exact ⟨hL, hne⟩
      · intro h
        obtain ⟨j, hj, rfl⟩ := List.mem_map.1 h
        have g := (good_iff ks zs fs j).1 (List.mem_filter.1 hj).2
        have hat := (hc.2.1 (kb ks j) rfl).2 g.2
        have hh := Maps.has_true_of_atKey hat
        obtain ⟨p, hp2, hs⟩ := List.any_eq_true.1 hh
        exact List.mem_map.2 ⟨p, hp2, WideAt.sameKey_eq hs⟩
  simp only [List.length_map] at h1
  exact h1
end Go.Proofs.Qxb6600390a

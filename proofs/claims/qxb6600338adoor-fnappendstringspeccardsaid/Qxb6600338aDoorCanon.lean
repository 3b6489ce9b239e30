import Derived.Test.Qxb6600338aDoorRows
import Derived.Test.Qxb6600338aDoorPlain
import Derived.WalkKit
import Derived.ProofKit
import Derived.WalkLawsBesides
namespace Go.Proofs.Qxb6600338aDoor
open Go.ChangeShapes Go.WideShapes Go.ChangeAt Go.RowKit

theorem take_snoc (s : ByteArray) (k : Nat) (h : k < s.size) : s.data.toList.take (k + 1) = s.data.toList.take k ++ [s[k]] := by
  rw [List.take_succ_eq_append_getElem (by simpa using h)]; rfl
theorem val_take_lt (s : ByteArray) (k : Nat) (hk : k < 19) (ha : Plain.allD (s.data.toList.take k) = true) :
    Plain.val (s.data.toList.take k) < 1000000000000000000 := by
  have h := Plain.val_lt _ ha
  have h2 : 10 ^ (s.data.toList.take k).length ≤ 10 ^ 18 := Nat.pow_le_pow_right (by omega) (by have := List.length_take_le k s.data.toList; omega)
  have h3 : (10 : Nat) ^ 18 = 1000000000000000000 := by decide
  omega
theorem step_val (s : ByteArray) (k : Nat) (h : k < s.size) (h1 : 48 ≤ s[k].toNat) : (Plain.val (s.data.toList.take (k + 1)) : Int) = (Plain.val (s.data.toList.take k) : Int) * 10 + ((s[k].toNat : Int) - 48) := by
  rw [take_snoc s k h, Plain.val_snoc]; omega
theorem step_allD (s : ByteArray) (k : Nat) (h : k < s.size) (ha : Plain.allD (s.data.toList.take k) = true) (h1 : 48 ≤ s[k].toNat) (h2 : s[k].toNat ≤ 57) : Plain.allD (s.data.toList.take (k + 1)) = true := by
  rw [take_snoc s k h, Plain.allD_snoc]; exact ⟨ha, by rw [Plain.isD_iff]; omega⟩
theorem bad_allD (s : ByteArray) (k : Nat) (h : k < s.size) (h1 : s[k].toNat < 48 ∨ 57 < s[k].toNat) : Plain.allD s.data.toList = false := by
  have hm : s[k] ∈ s.data.toList := by
    have := List.getElem_mem (l := s.data.toList) (n := k) (by simpa using h)
    exact this
  cases he : Plain.allD s.data.toList with
  | false => rfl
  | true =>
    have := List.all_eq_true.1 he _ hm
    rw [Plain.isD_iff] at this
    omega


theorem read_good (neg : Bool) (d : List UInt8) (h1 : 0 < d.length) (h2 : d.length ≤ 19) (h3 : d.head? = some 48 → d.length ≤ 1 ∧ neg = false) (ha : Plain.allD d = true) :
    Plain.readD neg d = if neg = true then (if Plain.val d ≤ 9223372036854775808 then (-(Plain.val d : Int), true) else (0, false))
      else (if Plain.val d < 9223372036854775808 then ((Plain.val d : Int), true) else (0, false)) := by
  unfold Plain.readD
  rw [if_neg, if_neg (by simp [ha])]
  rintro (h | h | ⟨h, h'⟩)
  · omega
  · omega
  · have := h3 h
    rcases h' with g | g
    · omega
    · rw [this.2] at g; cases g
theorem read_bad (neg : Bool) (d : List UInt8) (ha : Plain.allD d = false) : Plain.readD neg d = (0, false) := by
  unfold Plain.readD
  split
  · rfl
  · rfl
theorem ret_pair {a b : Int} {p q : Bool} (h : (a, p) = (b, q)) : Ending.returned (.tuple #[.int .i64 a, .bool p]) = Ending.returned (.tuple #[.int .i64 b, .bool q]) := by
  rw [Prod.mk.injEq] at h; rw [h.1, h.2]


theorem end_bad (neg : Bool) (d : ByteArray) (k : Nat) (hlt : k < d.size) (h1 : (d[k].toNat : Int) < 48 ∨ 57 < (d[k].toNat : Int)) (r : Int × Bool) (hr : Hid (Plain.readD neg d.data.toList = r)) :
    Ending.returned (.tuple #[.int .i64 0, .bool false]) = Ending.returned (.tuple #[.int .i64 r.1, .bool r.2]) := by
  have hb := bad_allD d k hlt (by omega)
  have h2 := hr.out
  rw [read_bad neg _ hb] at h2
  rw [← h2]
theorem step_hid (d : ByteArray) (k : Nat) (h : k < d.size) {v : Int} (hv : Hid (v = (Plain.val (d.data.toList.take k) : Int))) (h1 : 48 ≤ d[k].toNat) :
    Hid (v * 10 + ((d[k].toNat : Int) - 48) = (Plain.val (d.data.toList.take (k + 1)) : Int)) := by
  show _ = _
  rw [step_val d k h h1, ← hv.out]
theorem take_all (d : ByteArray) (k : Nat) (h : k = d.size) : d.data.toList.take k = d.data.toList :=
  List.take_of_length_le (by simp; rw [h]; exact Nat.le_refl _)
theorem end_bound (d : ByteArray) (k : Nat) (hk : k = d.size) (hs : d.size ≤ 19) (ha : Plain.allD (d.data.toList.take k) = true) {v : Int} (hv : Hid (v = (Plain.val (d.data.toList.take k) : Int))) : v ≤ 9999999999999999999 := by
  have h := Plain.val_lt _ ha
  have h2 : 10 ^ (d.data.toList.take k).length ≤ 10 ^ 19 := Nat.pow_le_pow_right (by omega) (by have := List.length_take_le k d.data.toList; omega)
  have h3 : (10 : Nat) ^ 19 = 10000000000000000000 := by decide
  rw [hv.out]; omega
def HeadOk (neg : Bool) (d : ByteArray) : Prop := d.data.toList.head? = some 48 → d.size ≤ 1 ∧ neg = false
/-- What the reader answers behind the loop. -/
theorem end_read (neg : Bool) (d : ByteArray) (k : Nat) (hk : k = d.size) (h0 : 0 < d.size) (hs : d.size ≤ 19) (hz : HeadOk neg d) (ha : Plain.allD (d.data.toList.take k) = true) {v : Int}
    (hv : Hid (v = (Plain.val (d.data.toList.take k) : Int))) (r : Int × Bool) (hr : Hid (Plain.readD neg d.data.toList = r)) :
    r = if neg = true then (if v ≤ 9223372036854775808 then (-v, true) else (0, false)) else (if v < 9223372036854775808 then (v, true) else (0, false)) := by
  have h2 := hr.out
  have hv2 := hv.out
  rw [take_all d k hk] at ha hv2
  have hl : d.data.toList.length = d.size := by simp
  rw [read_good neg _ (by omega) (by omega) (by rw [hl]; exact hz) ha] at h2
  rw [← h2, hv2]
  cases neg
  · simp only [Bool.false_eq_true, if_false]
    by_cases h : Plain.val d.data.toList < 9223372036854775808
    · rw [if_pos h, if_pos (by omega)]
    · rw [if_neg h, if_neg (by omega)]
  · simp only [if_true]
    by_cases h : Plain.val d.data.toList ≤ 9223372036854775808
    · rw [if_pos h, if_pos (by omega)]
    · rw [if_neg h, if_neg (by omega)]
section
variable (d : ByteArray) (k : Nat) (hk : k = d.size) (h0 : 0 < d.size) (hs : d.size ≤ 19)
theorem pos_yes (hk : k = d.size) (h0 : 0 < d.size) (hs : d.size ≤ 19) (hz : HeadOk false d) (ha : Plain.allD (d.data.toList.take k) = true) {v : Int}
    (hv : Hid (v = (Plain.val (d.data.toList.take k) : Int))) (h : 0 ≤ v ∧ v < 9223372036854775808) (r : Int × Bool) (hr : Hid (Plain.readD false d.data.toList = r)) :
    Ending.returned (.tuple #[.int .i64 v, .bool true]) = Ending.returned (.tuple #[.int .i64 r.1, .bool r.2]) := by
  rw [end_read false d k hk h0 hs hz ha hv r hr]
  simp [h.2]
theorem pos_no (hk : k = d.size) (h0 : 0 < d.size) (hs : d.size ≤ 19) (hz : HeadOk false d) (ha : Plain.allD (d.data.toList.take k) = true) {v : Int}
    (hv : Hid (v = (Plain.val (d.data.toList.take k) : Int))) (h : 9223372036854775808 ≤ v) (r : Int × Bool) (hr : Hid (Plain.readD false d.data.toList = r)) :
    Ending.returned (.tuple #[.int .i64 0, .bool false]) = Ending.returned (.tuple #[.int .i64 r.1, .bool r.2]) := by
  rw [end_read false d k hk h0 hs hz ha hv r hr]
  simp [show ¬ v < 9223372036854775808 from by omega]
theorem neg_yes (hk : k = d.size) (h0 : 0 < d.size) (hs : d.size ≤ 19) (hz : HeadOk true d) (ha : Plain.allD (d.data.toList.take k) = true) {v : Int}
    (hv : Hid (v = (Plain.val (d.data.toList.take k) : Int))) (h : 0 ≤ v ∧ v ≤ 9223372036854775808) (r : Int × Bool) (hr : Hid (Plain.readD true d.data.toList = r)) :
    Ending.returned (.tuple #[.int .i64 (wrap64 (-wrap64 v)), .bool true]) = Ending.returned (.tuple #[.int .i64 r.1, .bool r.2]) := by
  rw [end_read true d k hk h0 hs hz ha hv r hr]
  have : wrap64 (-wrap64 v) = -v := by unfold wrap64; omega
  simp [h.2, this]
theorem neg_no (hk : k = d.size) (h0 : 0 < d.size) (hs : d.size ≤ 19) (hz : HeadOk true d) (ha : Plain.allD (d.data.toList.take k) = true) {v : Int}
    (hv : Hid (v = (Plain.val (d.data.toList.take k) : Int))) (h : 9223372036854775808 < v) (r : Int × Bool) (hr : Hid (Plain.readD true d.data.toList = r)) :
    Ending.returned (.tuple #[.int .i64 0, .bool false]) = Ending.returned (.tuple #[.int .i64 r.1, .bool r.2]) := by
  rw [end_read true d k hk h0 hs hz ha hv r hr]
  simp [show ¬ v ≤ 9223372036854775808 from by omega]
end
theorem head_at (d : ByteArray) (h : 0 < d.size) : d.data.toList.head? = some d[0] := by
  have h' : 0 < d.data.toList.length := by simpa using h
  rw [List.head?_eq_getElem?, List.getElem?_eq_getElem h']; rfl

set_option maxHeartbeats 400000 in
theorem canon_pos (d : ByteArray) (hs : d.size ≤ 19) (h0 : 0 < d.size) (hn : (((d[0]).toNat : Int) == 45) = false) (hz : ((d[0]).toNat : Int) = 48 → (d.size : Int) ≤ 1) (r : Int × Bool) (hr : Hid (Plain.readD false d.data.toList = r)) (w : World) :
    Calls Tryd.prog 28 #[.string d] w fun e w' => e = .returned (.tuple #[.int .i64 r.1, .bool r.2]) ∧ w' = w := by
  have hne : ¬ d = ByteArray.empty := by intro e; subst e; simp at h0
  have hne2 : ((d.size : Int) == 0) = false := by simp; omega
  have hz0 : HeadOk false d := fun h => ⟨by
    rw [head_at d h0] at h
    have h2 := congrArg UInt8.toNat (Option.some.inj h)
    have := hz (by rw [h2]; rfl)
    omega, rfl⟩
  go_enter Tryd.func28, Tryd.ntmps28
  go_wp2
  all_goals
    go_loop [5, 6] (fun u i => ∃ (k : Nat) (v : Int), k ≤ d.size ∧ i = .int .i64 k ∧ u = .int .u64 v ∧ Plain.allD (d.data.toList.take k) = true ∧ Hid (v = (Plain.val (d.data.toList.take k) : Int))) (fun _ i => d.size - (intOf i).toNat)
    case atStart => exact ⟨0, 0, Nat.zero_le _, rfl, rfl, rfl, rfl⟩
    case round =>
      obtain ⟨k, v, hk, rfl, rfl, ha, hv⟩ := hrel
      have hA : Hid (Plain.allD (d.data.toList.take k) = true) := ha
      clear ha
      have hv0 : 0 ≤ v := by rw [hv.out]; omega
      by_cases hlt : k < d.size
      · have hv1 : v ≤ 999999999999999999 := by have hb := val_take_lt d k (by omega) hA.out; rw [hv.out]; omega
        go_wp2
        all_goals first
          | (go_ret2; exact ⟨end_bad false d k hlt (by first | assumption | exact Or.inl (by assumption)) r hr, rfl⟩)
          | skip
        go_round
        case rel =>
          have hc : (48 : Int) ≤ (d[k].toNat : Int) ∧ (d[k].toNat : Int) ≤ 57 := by assumption
          exact ⟨k + 1, _, by omega, by go_num, rfl, step_allD d k hlt hA.out (by omega) (by omega), step_hid d k hlt hv (by omega)⟩
        case measure => simp [intOf]; omega
      · have hkd : k = d.size := by omega
        have hv1 : v ≤ 9999999999999999999 := end_bound d k hkd hs hA.out hv
        clear hkd
        go_wp2
        all_goals
          go_ret2
          first
            | exact ⟨pos_yes d k (by omega) h0 hs hz0 hA.out hv (by omega) r hr, rfl⟩
            | exact ⟨pos_no d k (by omega) h0 hs hz0 hA.out hv (by omega) r hr, rfl⟩

set_option maxHeartbeats 400000 in
theorem canon_neg (s d : ByteArray) (hS : s.size ≤ maxLen) (hs0 : 0 < s.size) (h45 : (((s[0]).toNat : Int) == 45) = true) (hd : s.extract 1 s.size = d) (hs : d.size ≤ 19) (h0 : 0 < d.size)
    (hz : (((d[0]).toNat : Int) == 48) = false) (r : Int × Bool) (hr : Hid (Plain.readD true d.data.toList = r)) (w : World) :
    Calls Tryd.prog 28 #[.string s] w fun e w' => e = .returned (.tuple #[.int .i64 r.1, .bool r.2]) ∧ w' = w := by
  unfold maxLen at hS
  have hne : ¬ d = ByteArray.empty := by intro e; subst e; simp at h0
  have hne2 : ((d.size : Int) == 0) = false := by simp; omega
  have hz0 : HeadOk true d := fun h => absurd h (by
    rw [head_at d h0]; intro h
    have h2 := congrArg UInt8.toNat (Option.some.inj h)
    rw [h2] at hz; simp at hz)
  go_enter Tryd.func28, Tryd.ntmps28
  go_wp2
  all_goals
    go_loop [5, 6] (fun u i => ∃ (k : Nat) (v : Int), k ≤ d.size ∧ i = .int .i64 k ∧ u = .int .u64 v ∧ Plain.allD (d.data.toList.take k) = true ∧ Hid (v = (Plain.val (d.data.toList.take k) : Int))) (fun _ i => d.size - (intOf i).toNat)
    case atStart => exact ⟨0, 0, Nat.zero_le _, rfl, rfl, rfl, rfl⟩
    case round =>
      obtain ⟨k, v, hk, rfl, rfl, ha, hv⟩ := hrel
      have hA : Hid (Plain.allD (d.data.toList.take k) = true) := ha
      clear ha
      have hv0 : 0 ≤ v := by rw [hv.out]; omega
      by_cases hlt : k < d.size
      · have hv1 : v ≤ 999999999999999999 := by have hb := val_take_lt d k (by omega) hA.out; rw [hv.out]; omega
        go_wp2
        all_goals first
          | (go_ret2; exact ⟨end_bad true d k hlt (by first | assumption | exact Or.inl (by assumption)) r hr, rfl⟩)
          | skip
        go_round
        case rel =>
          have hc : (48 : Int) ≤ (d[k].toNat : Int) ∧ (d[k].toNat : Int) ≤ 57 := by assumption
          exact ⟨k + 1, _, by omega, by go_num, rfl, step_allD d k hlt hA.out (by omega) (by omega), step_hid d k hlt hv (by omega)⟩
        case measure => simp [intOf]; omega
      · have hkd : k = d.size := by omega
        have hv1 : v ≤ 9999999999999999999 := end_bound d k hkd hs hA.out hv
        clear hkd
        go_wp2
        all_goals
          go_ret2
          first
            | exact ⟨neg_yes d k (by omega) h0 hs hz0 hA.out hv (by omega) r hr, rfl⟩
            | exact ⟨neg_no d k (by omega) h0 hs hz0 hA.out hv (by omega) r hr, rfl⟩

/-! ### The ways on which the length or a leading zero refuses -/
theorem canon_of_neg (s d : ByteArray) (hs0 : 0 < s.size) (h45 : s[0] = 45) (hd : s.extract 1 s.size = d) : Plain.canon s.data.toList = Plain.readD true d.data.toList := by
  have h1 := head_at s hs0
  unfold Plain.canon
  rw [if_pos (by rw [h1, h45])]
  congr 1
  rw [← hd, ByteArray.data_extract]
  simp
  exact (List.take_of_length_le (by simp)).symm
theorem canon_of_pos (s : ByteArray) (h : ∀ h0 : 0 < s.size, s[0] ≠ 45) : Plain.canon s.data.toList = Plain.readD false s.data.toList := by
  unfold Plain.canon
  rw [if_neg]
  intro h2
  by_cases h0 : 0 < s.size
  · rw [head_at s h0] at h2; exact h h0 (Option.some.inj h2)
  · have : s.data.toList.length = 0 := by rw [Array.length_toList]; show s.size = 0; omega
    rw [List.length_eq_zero_iff.1 this] at h2; simp at h2
theorem len_list (d : ByteArray) : d.data.toList.length = d.size := by simp
theorem read_refuses (neg : Bool) (d : ByteArray) (h : d.size = 0 ∨ 19 < d.size ∨ (∃ h0 : 0 < d.size, d[0] = 48 ∧ (1 < d.size ∨ neg = true))) : Plain.readD neg d.data.toList = (0, false) := by
  unfold Plain.readD
  rw [if_pos]
  rw [len_list]
  rcases h with h | h | ⟨h0, h1, h2⟩
  · exact Or.inl h
  · exact Or.inr (Or.inl h)
  · exact Or.inr (Or.inr ⟨by rw [head_at d h0, h1], h2⟩)
theorem ret_zero (r : Int × Bool) (hr : Hid (r = (0, false))) : Ending.returned (.tuple #[.int .i64 0, .bool false]) = Ending.returned (.tuple #[.int .i64 r.1, .bool r.2]) := by
  rw [hr.out]
set_option maxHeartbeats 400000 in
theorem canon_empty (r : Int × Bool) (hr : Hid (r = (0, false))) (w : World) :
    Calls Tryd.prog 28 #[.string ByteArray.empty] w fun e w' => e = .returned (.tuple #[.int .i64 r.1, .bool r.2]) ∧ w' = w := by
  go_enter Tryd.func28, Tryd.ntmps28
  go_wp2
  go_ret2
  exact ⟨ret_zero r hr, rfl⟩
set_option maxHeartbeats 400000 in
theorem canon_pos_long (d : ByteArray) (hS : d.size ≤ maxLen) (hs : 19 < (d.size : Int)) (h0 : 0 < d.size) (hn : (((d[0]).toNat : Int) == 45) = false) (r : Int × Bool) (hr : Hid (r = (0, false))) (w : World) :
    Calls Tryd.prog 28 #[.string d] w fun e w' => e = .returned (.tuple #[.int .i64 r.1, .bool r.2]) ∧ w' = w := by
  unfold maxLen at hS
  have hne : ¬ d = ByteArray.empty := by intro e; subst e; simp at h0
  have hne2 : ((d.size : Int) == 0) = false := by simp; omega
  go_enter Tryd.func28, Tryd.ntmps28
  go_wp2
  go_ret2
  exact ⟨ret_zero r hr, rfl⟩
set_option maxHeartbeats 400000 in
theorem canon_pos_zero (d : ByteArray) (hs : d.size ≤ 19) (h1 : 1 < (d.size : Int)) (h0 : 0 < d.size) (hn : (((d[0]).toNat : Int) == 45) = false) (hz : (((d[0]).toNat : Int) == 48) = true) (r : Int × Bool) (hr : Hid (r = (0, false))) (w : World) :
    Calls Tryd.prog 28 #[.string d] w fun e w' => e = .returned (.tuple #[.int .i64 r.1, .bool r.2]) ∧ w' = w := by
  have hne : ¬ d = ByteArray.empty := by intro e; subst e; simp at h0
  have hne2 : ((d.size : Int) == 0) = false := by simp; omega
  go_enter Tryd.func28, Tryd.ntmps28
  go_wp2
  go_ret2
  exact ⟨ret_zero r hr, rfl⟩
set_option maxHeartbeats 400000 in
theorem canon_neg_nil (s d : ByteArray) (hS : s.size ≤ maxLen) (hs0 : 0 < s.size) (h45 : (((s[0]).toNat : Int) == 45) = true) (hd : s.extract 1 s.size = d) (hs : d = ByteArray.empty)
    (r : Int × Bool) (hr : Hid (r = (0, false))) (w : World) :
    Calls Tryd.prog 28 #[.string s] w fun e w' => e = .returned (.tuple #[.int .i64 r.1, .bool r.2]) ∧ w' = w := by
  unfold maxLen at hS
  subst hs
  go_enter Tryd.func28, Tryd.ntmps28
  go_wp2
  go_ret2
  exact ⟨ret_zero r hr, rfl⟩
set_option maxHeartbeats 400000 in
theorem canon_neg_long (s d : ByteArray) (hS : s.size ≤ maxLen) (hs0 : 0 < s.size) (h45 : (((s[0]).toNat : Int) == 45) = true) (hd : s.extract 1 s.size = d) (hs : 19 < (d.size : Int)) (hm : d.size ≤ 9223372036854775807)
    (r : Int × Bool) (hr : Hid (r = (0, false))) (w : World) :
    Calls Tryd.prog 28 #[.string s] w fun e w' => e = .returned (.tuple #[.int .i64 r.1, .bool r.2]) ∧ w' = w := by
  unfold maxLen at hS
  have hne : ¬ d = ByteArray.empty := by intro e; subst e; simp at hs
  have hne2 : ((d.size : Int) == 0) = false := by simp; omega
  go_enter Tryd.func28, Tryd.ntmps28
  go_wp2
  go_ret2
  exact ⟨ret_zero r hr, rfl⟩
set_option maxHeartbeats 400000 in
theorem canon_neg_zero (s d : ByteArray) (hS : s.size ≤ maxLen) (hs0 : 0 < s.size) (h45 : (((s[0]).toNat : Int) == 45) = true) (hd : s.extract 1 s.size = d) (hs : d.size ≤ 19) (h0 : 0 < d.size)
    (hz : (((d[0]).toNat : Int) == 48) = true) (r : Int × Bool) (hr : Hid (r = (0, false))) (w : World) :
    Calls Tryd.prog 28 #[.string s] w fun e w' => e = .returned (.tuple #[.int .i64 r.1, .bool r.2]) ∧ w' = w := by
  unfold maxLen at hS
  have hne : ¬ d = ByteArray.empty := by intro e; subst e; simp at h0
  have hne2 : ((d.size : Int) == 0) = false := by simp; omega
  by_cases h1 : 1 < (d.size : Int)
  · go_enter Tryd.func28, Tryd.ntmps28
    go_wp2
    go_ret2
    exact ⟨ret_zero r hr, rfl⟩
  · go_enter Tryd.func28, Tryd.ntmps28
    go_wp2
    go_ret2
    exact ⟨ret_zero r hr, rfl⟩

theorem beq_toNat (c : UInt8) (n : Nat) (hn : n < 256) (h : c = UInt8.ofNat n) : (((c.toNat : Int)) == (n : Int)) = true := by
  subst h; simp [UInt8.toNat_ofNat']; omega
theorem bne_toNat (c : UInt8) (n : Nat) (hn : n < 256) (h : c ≠ UInt8.ofNat n) : (((c.toNat : Int)) == (n : Int)) = false := by
  rw [beq_eq_false_iff_ne]
  intro e
  exact h (UInt8.toNat_inj.1 (by rw [UInt8.toNat_ofNat']; omega))

/-- canonicalInt, for every string. -/
theorem canon_calls (s : ByteArray) (hS : s.size ≤ maxLen) (w : World) :
    Calls Tryd.prog 28 #[.string s] w fun e w' => e = .returned (.tuple #[.int .i64 (Plain.canon s.data.toList).1, .bool (Plain.canon s.data.toList).2]) ∧ w' = w := by
  by_cases h0 : 0 < s.size
  · by_cases h45 : s[0] = 45
    · obtain ⟨d, hd⟩ : ∃ d, s.extract 1 s.size = d := ⟨_, rfl⟩
      have hc := canon_of_neg s d h0 h45 hd
      have hb := beq_toNat s[0] 45 (by omega) h45
      have hsz : d.size ≤ s.size := by rw [← hd]; simp
      have hm : d.size ≤ 9223372036854775807 := by unfold maxLen at hS; omega
      by_cases hz : d.size = 0
      · exact canon_neg_nil s d hS h0 hb hd (ByteArray.size_eq_zero_iff.1 hz) _ (by show _ = _; rw [hc]; exact read_refuses true d (Or.inl hz)) w
      · by_cases h19 : 19 < d.size
        · exact canon_neg_long s d hS h0 hb hd (by omega) hm _ (by show _ = _; rw [hc]; exact read_refuses true d (Or.inr (Or.inl h19))) w
        · by_cases h48 : d[0]'(by omega) = 48
          · exact canon_neg_zero s d hS h0 hb hd (by omega) (by omega) (beq_toNat _ 48 (by omega) h48) _ (by show _ = _; rw [hc]; exact read_refuses true d (Or.inr (Or.inr ⟨by omega, h48, Or.inr rfl⟩))) w
          · exact canon_neg s d hS h0 hb hd (by omega) (by omega) (bne_toNat _ 48 (by omega) h48) _ hc.symm w
    · have hc := canon_of_pos s (fun _ => h45)
      have hb := bne_toNat s[0] 45 (by omega) h45
      by_cases h19 : 19 < s.size
      · exact canon_pos_long s hS (by omega) h0 hb _ (by show _ = _; rw [hc]; exact read_refuses false s (Or.inr (Or.inl h19))) w
      · by_cases h48 : s[0] = 48 ∧ 1 < s.size
        · exact canon_pos_zero s (by omega) (by omega) h0 hb (beq_toNat _ 48 (by omega) h48.1) _ (by show _ = _; rw [hc]; exact read_refuses false s (Or.inr (Or.inr ⟨h0, h48.1, Or.inl h48.2⟩))) w
        · refine canon_pos s (by omega) h0 hb (fun h => ?_) _ hc.symm w
          have : s[0] = 48 := UInt8.toNat_inj.1 (by show _ = 48; omega)
          have : ¬ 1 < s.size := fun g => h48 ⟨this, g⟩
          omega
  · have hz : s.size = 0 := by omega
    have he : s = ByteArray.empty := ByteArray.size_eq_zero_iff.1 hz
    subst he
    exact canon_empty _ rfl w

/-- ZZcanonicalInt. -/
theorem zzcanon_calls (s : ByteArray) (hS : s.size ≤ maxLen) (w : World) :
    Calls Tryd.prog 17 #[.string s] w fun e w' => e = .returned (.tuple #[.int .i64 (Plain.canon s.data.toList).1, .bool (Plain.canon s.data.toList).2]) ∧ w' = w := by
  go_enter Tryd.func17, Tryd.ntmps17
  go_wp2_with (go_at_call 28; refine (canon_calls s hS _).mono ?_; rintro e w' ⟨rfl, rfl⟩)
  go_ret2
  exact ⟨rfl, rfl⟩
end Go.Proofs.Qxb6600338aDoor

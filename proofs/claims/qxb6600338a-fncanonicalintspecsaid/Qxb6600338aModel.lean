import Derived.Test.Qxb6600338aFits
namespace Go.Proofs.Qxb6600338a
open Go.ChangeShapes Go.WideShapes Go.ChangeAt Go.RowKit

theorem ret_bool {a b : Bool} (h : a = b) : Ending.returned (.bool a) = Ending.returned (.bool b) := by rw [h]
def top8 : List UInt8 := [57, 50, 50, 51, 51, 55, 50, 48, 51, 54, 56, 53, 52, 55, 55, 53, 56, 48, 56]
def top7 : List UInt8 := [57, 50, 50, 51, 51, 55, 50, 48, 51, 54, 56, 53, 52, 55, 55, 53, 56, 48, 55]
theorem top8_is : Plain.allD top8 = true ∧ Plain.val top8 = Plain.lim true ∧ top8.length = 19 := by decide +kernel
theorem top7_is : Plain.allD top7 = true ∧ Plain.val top7 = Plain.lim false ∧ top7.length = 19 := by decide +kernel

theorem fits_refuses (neg : Bool) (d : ByteArray) (h : d.size = 0 ∨ 19 < d.size ∨ (∃ h0 : 0 < d.size, d[0] = 48)) : Plain.fits neg d.data.toList = false := by
  unfold Plain.fits
  rw [decide_eq_false_iff_not, len_list]
  rintro ⟨a, b, c, _⟩
  rcases h with h | h | ⟨h0, h1⟩
  · omega
  · omega
  · exact c (by rw [head_at d h0, h1])
theorem fits_bad (neg : Bool) (d : ByteArray) (k : Nat) (hlt : k < d.size) (h1 : (d[k].toNat : Int) < 48 ∨ 57 < (d[k].toNat : Int)) (r : Bool) (hr : Hid (r = Plain.fits neg d.data.toList)) : Ending.returned (.bool false) = Ending.returned (.bool r) := by
  have hb := bad_allD d k hlt (by omega)
  rw [hr.out]
  exact ret_bool (by simp [Plain.fits, hb])
theorem val_small (d : ByteArray) (ha : Plain.allD d.data.toList = true) (h : d.size < 19) (neg : Bool) : Plain.val d.data.toList ≤ Plain.lim neg := by
  have h1 := Plain.val_lt _ ha
  have h2 : 10 ^ d.data.toList.length ≤ 10 ^ 18 := Nat.pow_le_pow_right (by omega) (by rw [len_list]; omega)
  unfold Plain.lim
  split <;> omega
section
variable {neg : Bool} (d : ByteArray) (k : Nat)
theorem fits_short (hk : k = d.size) (h0 : 0 < d.size) (h48 : d[0] ≠ 48) (ha : Plain.allD (d.data.toList.take k) = true) (h : d.size < 19) (r : Bool) (hr : Hid (r = Plain.fits neg d.data.toList)) :
    Ending.returned (.bool true) = Ending.returned (.bool r) := by
  rw [take_all d k hk] at ha
  rw [hr.out]
  refine ret_bool ?_
  unfold Plain.fits
  rw [eq_comm, decide_eq_true_iff, len_list, head_at d h0]
  exact ⟨h0, by omega, by simpa using h48, ha, val_small d ha h neg⟩
theorem fits_long (hk : k = d.size) (h0 : 0 < d.size) (h48 : d[0] ≠ 48) (ha : Plain.allD (d.data.toList.take k) = true) (h : d.size = 19) (top : List UInt8) (ht : Plain.allD top = true ∧ Plain.val top = Plain.lim neg ∧ top.length = 19) (r : Bool) (hr : Hid (r = Plain.fits neg d.data.toList)) :
    (Op.bytesLess d.toList top || d.toList == top) = r := by
  rw [take_all d k hk] at ha
  rw [hr.out, ByteArray.toList_eq, Plain.leq_val _ _ ha ht.1 (by rw [len_list, h, ht.2.2]), ht.2.1]
  unfold Plain.fits
  rw [decide_eq_decide, len_list, head_at d h0]
  exact ⟨fun g => ⟨h0, by omega, by simpa using h48, ha, g⟩, fun g => g.2.2.2.2⟩
end

set_option maxHeartbeats 400000 in
theorem fits_empty (neg : Bool) (w : World) : Calls Try.prog 12 #[.string ByteArray.empty, .bool neg] w fun e w' => e = .returned (.bool false) ∧ w' = w := by
  go_enter Try.func12, Try.ntmps12
  go_wp2
  go_ret
  exact ⟨rfl, rfl⟩
set_option maxHeartbeats 400000 in
theorem fits_great (neg : Bool) (d : ByteArray) (hS : d.size ≤ maxLen) (h : 19 < (d.size : Int)) (w : World) : Calls Try.prog 12 #[.string d, .bool neg] w fun e w' => e = .returned (.bool false) ∧ w' = w := by
  unfold maxLen at hS
  have hne : ¬ d = ByteArray.empty := by intro e; subst e; simp at h
  have hne2 : ((d.size : Int) == 0) = false := by simp; omega
  go_enter Try.func12, Try.ntmps12
  go_wp2
  go_ret
  exact ⟨rfl, rfl⟩
set_option maxHeartbeats 400000 in
theorem fits_zero (neg : Bool) (d : ByteArray) (h : d.size ≤ 19) (h0 : 0 < d.size) (h48 : (((d[0]).toNat : Int) == 48) = true) (w : World) : Calls Try.prog 12 #[.string d, .bool neg] w fun e w' => e = .returned (.bool false) ∧ w' = w := by
  have hne : ¬ d = ByteArray.empty := by intro e; subst e; simp at h0
  have hne2 : ((d.size : Int) == 0) = false := by simp; omega
  go_enter Try.func12, Try.ntmps12
  go_wp2
  go_ret
  exact ⟨rfl, rfl⟩
set_option maxHeartbeats 400000 in
theorem fits_walk (neg : Bool) (d : ByteArray) (hs : d.size ≤ 19) (h0 : 0 < d.size) (h48 : (((d[0]).toNat : Int) == 48) = false) (h48' : Hid (d[0] ≠ 48)) (r : Bool) (hr : Hid (r = Plain.fits neg d.data.toList)) (w : World) :
    Calls Try.prog 12 #[.string d, .bool neg] w fun e w' => e = .returned (.bool r) ∧ w' = w := by
  have hne : ¬ d = ByteArray.empty := by intro e; subst e; simp at h0
  have hne2 : ((d.size : Int) == 0) = false := by simp; omega
  go_enter Try.func12, Try.ntmps12
  go_wp2
  go_loop [5] (fun i => ∃ (k : Nat), k ≤ d.size ∧ i = .int .i64 k ∧ Hid (Plain.allD (d.data.toList.take k) = true)) (fun i => d.size - (intOf i).toNat)
  case atStart => exact ⟨0, Nat.zero_le _, rfl, rfl⟩
  case round =>
    obtain ⟨k, hk, rfl, hA⟩ := hrel
    by_cases hlt : k < d.size
    · go_wp2
      all_goals first
        | (go_ret; exact ⟨fits_bad neg d k hlt (by first | assumption | exact Or.inl (by assumption)) r hr, rfl⟩)
        | skip
      go_round
      case rel =>
        have hc : (48 : Int) ≤ (d[k].toNat : Int) ∧ (d[k].toNat : Int) ≤ 57 := by assumption
        exact ⟨k + 1, by omega, by go_num, step_allD d k hlt hA.out (by omega) (by omega)⟩
      case measure => simp [intOf]; omega
    · by_cases h19 : (d.size : Int) < 19
      · go_wp2
        go_ret
        exact ⟨fits_short d k (by omega) h0 h48'.out hA.out (by omega) r hr, rfl⟩
      · cases neg
        · go_wp2
          go_ret
          exact ⟨ret_bool (fits_long d k (by omega) h0 h48'.out hA.out (by omega) top7 top7_is r hr), rfl⟩
        · go_wp2
          go_ret
          exact ⟨ret_bool (fits_long d k (by omega) h0 h48'.out hA.out (by omega) top8 top8_is r hr), rfl⟩

/-- zzFitsDigits, for every string. -/
theorem fits_calls (neg : Bool) (d : ByteArray) (hS : d.size ≤ maxLen) (w : World) : Calls Try.prog 12 #[.string d, .bool neg] w fun e w' => e = .returned (.bool (Plain.fits neg d.data.toList)) ∧ w' = w := by
  by_cases hz : d.size = 0
  · rw [fits_refuses neg d (Or.inl hz), ByteArray.size_eq_zero_iff.1 hz]
    exact fits_empty neg w
  · by_cases h19 : 19 < d.size
    · rw [fits_refuses neg d (Or.inr (Or.inl h19))]
      exact fits_great neg d hS (by omega) w
    · by_cases h48 : d[0]'(by omega) = 48
      · rw [fits_refuses neg d (Or.inr (Or.inr ⟨by omega, h48⟩))]
        exact fits_zero neg d (by omega) (by omega) (beq_toNat _ 48 (by omega) h48) w
      · exact fits_walk neg d (by omega) (by omega) (bne_toNat _ 48 (by omega) h48) h48 _ rfl w

theorem model_neg (s d : ByteArray) (h0 : 0 < s.size) (h45 : s[0] = 45) (hd : s.extract 1 s.size = d) : Plain.model s.data.toList = Plain.fits true d.data.toList := by
  have h1 := head_at s h0
  have h2 : s.data.toList ≠ [48] := by intro e; rw [e] at h1; simp at h1; rw [h45] at h1; simp at h1
  unfold Plain.model
  rw [if_neg h2, if_pos (by rw [h1, h45])]
  congr 1
  rw [← hd, ByteArray.data_extract]
  simp
  exact (List.take_of_length_le (by simp)).symm
theorem model_pos (s : ByteArray) (h : ∀ h0 : 0 < s.size, s[0] ≠ 45) (h2 : s.data.toList ≠ [48]) : Plain.model s.data.toList = Plain.fits false s.data.toList := by
  unfold Plain.model
  rw [if_neg h2, if_neg]
  intro h2
  by_cases h0 : 0 < s.size
  · rw [head_at s h0] at h2; exact h h0 (Option.some.inj h2)
  · have : s.data.toList.length = 0 := by rw [len_list]; omega
    rw [List.length_eq_zero_iff.1 this] at h2; simp at h2

set_option maxHeartbeats 400000 in
/-- zzCanonicalModel, for every string. -/
theorem model_calls (s : ByteArray) (hS : s.size ≤ maxLen) (w : World) : Calls Try.prog 8 #[.string s] w fun e w' => e = .returned (.bool (Plain.model s.data.toList)) ∧ w' = w := by
  have hm : s.size ≤ 9223372036854775807 := by unfold maxLen at hS; omega
  by_cases h48 : s.data.toList = [48]
  · have e : Plain.model s.data.toList = true := by unfold Plain.model; rw [if_pos h48]
    rw [e]
    clear e
    have hb : (s.toList == [48]) = true := by rw [ByteArray.toList_eq, h48]; rfl
    clear h48
    go_enter Try.func8, Try.ntmps8
    go_wp2
    go_ret
    exact ⟨rfl, rfl⟩
  · have hb : (s.toList == [48]) = false := by rw [ByteArray.toList_eq]; simpa using h48
    by_cases h0 : 0 < s.size
    · by_cases h45 : s[0] = 45
      · obtain ⟨d, hd⟩ : ∃ d, s.extract 1 s.size = d := ⟨_, rfl⟩
        rw [model_neg s d h0 h45 hd]
        have hb2 := beq_toNat s[0] 45 (by omega) h45
        have hsz : d.size ≤ maxLen := by rw [← hd]; simp; omega
        clear h45 h48
        go_enter Try.func8, Try.ntmps8
        go_wp2_with (go_at_call 12; refine (fits_calls true d hsz _).mono ?_; rintro e w' ⟨rfl, rfl⟩)
        go_ret
        exact ⟨rfl, rfl⟩
      · rw [model_pos s (fun _ => h45) h48]
        have hb2 := bne_toNat s[0] 45 (by omega) h45
        clear h45 h48
        go_enter Try.func8, Try.ntmps8
        go_wp2_with (go_at_call 12; refine (fits_calls false s hS _).mono ?_; rintro e w' ⟨rfl, rfl⟩)
        go_ret
        exact ⟨rfl, rfl⟩
    · rw [model_pos s (fun h => absurd h h0) h48]
      have he : s = ByteArray.empty := ByteArray.size_eq_zero_iff.1 (by omega)
      subst he
      clear h48 h0
      go_enter Try.func8, Try.ntmps8
      go_wp2_with (go_at_call 12; refine (fits_calls false ByteArray.empty hS _).mono ?_; rintro e w' ⟨rfl, rfl⟩)
      go_ret
      exact ⟨rfl, rfl⟩
end Go.Proofs.Qxb6600338a

import Derived.Test.Qxb6600390aBase
namespace Go.Proofs.Qxb6600390a
open Go.RowKit

theorem Try.info9 : (Try.prog.info? 9).map (fun i => (i.zero, i.size, i.bytes)) = some (some (.string ByteArray.empty), 1, 16) := by kernel_rfl
theorem Try.info3 : (Try.prog.info? 3).map (fun i => (i.zero, i.size, i.bytes)) = some (some (.int .i64 0), 1, 8) := by kernel_rfl

theorem StrsAt.later {w w' : World} {v : Value} {ss : List ByteArray} (h : StrsAt w v ss) (hb : Below w.heap.size w w') : StrsAt w' v ss := by
  obtain ⟨ao, cap, h1, h2, h3, h4⟩ := h
  exact ⟨ao, cap, h1, h2, h3, fun j hj => by obtain ⟨b, o, h5, h6⟩ := h4 j hj; exact ⟨b, o, h5, cell_later hb h6⟩⟩
theorem IntsAt.later {w w' : World} {v : Value} {ss : List Int} (h : IntsAt w v ss) (hb : Below w.heap.size w w') : IntsAt w' v ss := by
  obtain ⟨ao, cap, h1, h2, h3, h4⟩ := h
  exact ⟨ao, cap, h1, h2, h3, fun j hj => by obtain ⟨b, o, h5, h6⟩ := h4 j hj; exact ⟨b, o, h5, cell_later hb h6⟩⟩

/-- A copy, the first k elements done. -/
def partCopy {α : Type} (f : α → Value) (z : Value) (xs : List α) (k : Nat) : Array Value := ((xs.take k).map f ++ List.replicate (xs.length - k) z).toArray
theorem partCopy_zero {α : Type} (f : α → Value) (z : Value) (xs : List α) : partCopy f z xs 0 = (List.replicate xs.length z).toArray := by simp [partCopy]
theorem partCopy_step {α : Type} (f : α → Value) (z : Value) (xs : List α) (k : Nat) (h : k < xs.length) : (partCopy f z xs k).setIfInBounds k (f xs[k]) = partCopy f z xs (k + 1) := by
  unfold partCopy
  rw [List.setIfInBounds_toArray]
  congr 1
  have e1 : xs.length - k = (xs.length - (k + 1)) + 1 := by omega
  rw [e1, List.replicate_succ, List.set_append_right _ _ (by simp; omega)]
  have e2 : k - ((xs.take k).map f).length = 0 := by simp; omega
  rw [e2, List.set_cons_zero, List.take_succ_eq_append_getElem h, List.map_append, List.append_assoc]
  rfl
theorem partCopy_size {α : Type} (f : α → Value) (z : Value) (xs : List α) (k : Nat) (h : k ≤ xs.length) : (partCopy f z xs k).size = xs.length := by
  simp [partCopy]; omega
theorem partCopy_cell {α : Type} (f : α → Value) (z : Value) (xs : List α) (k j : Nat) (h : k ≤ xs.length) (hj : j < xs.length) : ∃ x, (partCopy f z xs k)[j]? = some x :=
  ⟨_, Array.getElem?_eq_getElem (by rw [partCopy_size f z xs k h]; exact hj)⟩
theorem partCopy_done {α : Type} (f : α → Value) (z : Value) (xs : List α) (j : Nat) (hj : j < xs.length) : (partCopy f z xs xs.length)[j]? = some (f xs[j]) := by
  simp [partCopy, hj]

set_option maxHeartbeats 800000 in
theorem cloneS_some (a : Addr) (cap : Nat) (ss : List ByteArray) (w : World) (hn : ss.length ≤ 1048576) (hsz : ∀ j (hj : j < ss.length), ss[j].size ≤ 9223372036854775807)
    (hc : ∀ j (hj : j < ss.length), ∃ b o, (some a : Option Addr) = some ⟨b, o, none⟩ ∧ w.cell? ⟨b, o + j, none⟩ = some (.string ss[j])) :
    Calls Try.prog 9 #[.slice (some a) ss.length cap] w fun e w' => ∃ v', e = .returned v' ∧ StrsAt w' v' ss ∧ Below w.heap.size w w' := by
  obtain ⟨i0, hi, hz0, hz1, hz2⟩ := info_parts Try.info9
  have hq := fun wx => Lib.run_eql_slice_nil (P := Try.prog) wx 22 9 (some a) ss.length cap 0 0 Try.underlying22
  have hmk := run_make (P := Try.prog) w 22 9 i0 (.string ByteArray.empty) Try.underlying22 hi hz0 .i64 .i64 (ss.length : Int) (ss.length : Int) (by omega) (by omega) (by rw [hz2]; omega) (by omega)
  have hM : madeCells (Value.string ByteArray.empty).cells ((ss.length : Int).toNat * i0.size) = partCopy Value.string (.string ByteArray.empty) ss 0 := by
    rw [hz1, partCopy_zero]
    apply Array.ext'
    rw [show (Value.string ByteArray.empty).cells = #[Value.string ByteArray.empty] from rfl, toList_madeCells_one]
    simp
  rw [hM, Int.toNat_natCast] at hmk
  clear hM hi hz0 hz1 hz2
  have HC := Lib.hid hc
  have HS := Lib.hid hsz
  clear hc hsz
  obtain ⟨n, hN⟩ : ∃ n, n = ss.length := ⟨_, rfl⟩
  rw [← hN] at hn hmk hq ⊢
  have HN := Lib.hid hN
  clear hN
  go_enter Try.func9, Try.ntmps9
  go_wp2
  go_loopw [4] (fun i wr => ∃ k : Nat, k ≤ n ∧ i = .int .i64 k ∧ wr = w.alloc (.cells (partCopy Value.string (.string ByteArray.empty) ss k) 9)) (fun i _ => n - (intOf i).toNat)
  case atStart => exact ⟨0, Nat.zero_le _, rfl, rfl⟩
  case round =>
    obtain ⟨k, hk, rfl, rfl⟩ := hrel
    by_cases hlt : k < n
    · have hlt' : k < ss.length := by rw [← HN.out]; exact hlt
      obtain ⟨b, o, ha, hcell⟩ := HC.out k hlt'
      obtain rfl := Option.some.inj ha
      have hold : (w.alloc (.cells (partCopy Value.string (.string ByteArray.empty) ss k) 9)).cell? ⟨b, o + k, none⟩ = some (.string ss[k]) := cell_later ((Below.refl _ _).alloc (Nat.le_refl _) _) hcell
      obtain ⟨y, hy⟩ := partCopy_cell Value.string (.string ByteArray.empty) ss k k (by omega) hlt'
      have hst := partCopy_step Value.string (.string ByteArray.empty) ss k hlt'
      obtain ⟨x, hx⟩ : ∃ x, x = ss[k] := ⟨_, rfl⟩
      rw [← hx] at hold hst
      have HST := Lib.hid hst
      clear hx hst hcell hlt' ha
      go_wp2
      go_roundw
      case rel => exact ⟨k + 1, by omega, by go_num, by rw [HST.out]⟩
      case measure => simp [intOf]; omega
    · obtain rfl : k = n := by omega
      go_wp2
      go_ret
      refine ⟨.slice (some ⟨w.heap.size, 0, none⟩) k k, rfl, ⟨some ⟨w.heap.size, 0, none⟩, k, by rw [← HN.out], by rw [← HN.out]; omega, HS.out, fun j hj => ⟨w.heap.size, 0, rfl, ?_⟩⟩, (Below.refl _ _).alloc (Nat.le_refl _) _⟩
      rw [HN.out, Nat.zero_add]
      rw [← partCopy_done Value.string (.string ByteArray.empty) ss j hj]
      simp
set_option maxHeartbeats 800000 in
theorem cloneI_some (a : Addr) (cap : Nat) (ss : List Int) (w : World) (hn : ss.length ≤ 1048576) (hsz : ∀ j (hj : j < ss.length), -9223372036854775808 ≤ ss[j] ∧ ss[j] ≤ 9223372036854775807)
    (hc : ∀ j (hj : j < ss.length), ∃ b o, (some a : Option Addr) = some ⟨b, o, none⟩ ∧ w.cell? ⟨b, o + j, none⟩ = some (.int .i64 ss[j])) :
    Calls Try.prog 16 #[.slice (some a) ss.length cap] w fun e w' => ∃ v', e = .returned v' ∧ IntsAt w' v' ss ∧ Below w.heap.size w w' := by
  obtain ⟨i0, hi, hz0, hz1, hz2⟩ := info_parts Try.info3
  have hq := fun wx => Lib.run_eql_slice_nil (P := Try.prog) wx 27 3 (some a) ss.length cap 0 0 Try.underlying27
  have hmk := run_make (P := Try.prog) w 27 3 i0 (.int .i64 0) Try.underlying27 hi hz0 .i64 .i64 (ss.length : Int) (ss.length : Int) (by omega) (by omega) (by rw [hz2]; omega) (by omega)
  have hM : madeCells (Value.int .i64 0).cells ((ss.length : Int).toNat * i0.size) = partCopy (Value.int .i64) (.int .i64 0) ss 0 := by
    rw [hz1, partCopy_zero]
    apply Array.ext'
    rw [show (Value.int .i64 0).cells = #[Value.int .i64 0] from rfl, toList_madeCells_one]
    simp
  rw [hM, Int.toNat_natCast] at hmk
  clear hM hi hz0 hz1 hz2
  have HC := Lib.hid hc
  have HS := Lib.hid hsz
  clear hc hsz
  obtain ⟨n, hN⟩ : ∃ n, n = ss.length := ⟨_, rfl⟩
  rw [← hN] at hn hmk hq ⊢
  have HN := Lib.hid hN
  clear hN
  go_enter Try.func16, Try.ntmps16
  go_wp2
  go_loopw [4] (fun i wr => ∃ k : Nat, k ≤ n ∧ i = .int .i64 k ∧ wr = w.alloc (.cells (partCopy (Value.int .i64) (.int .i64 0) ss k) 3)) (fun i _ => n - (intOf i).toNat)
  case atStart => exact ⟨0, Nat.zero_le _, rfl, rfl⟩
  case round =>
    obtain ⟨k, hk, rfl, rfl⟩ := hrel
    by_cases hlt : k < n
    · have hlt' : k < ss.length := by rw [← HN.out]; exact hlt
      obtain ⟨b, o, ha, hcell⟩ := HC.out k hlt'
      obtain rfl := Option.some.inj ha
      have hold : (w.alloc (.cells (partCopy (Value.int .i64) (.int .i64 0) ss k) 3)).cell? ⟨b, o + k, none⟩ = some (.int .i64 ss[k]) := cell_later ((Below.refl _ _).alloc (Nat.le_refl _) _) hcell
      obtain ⟨y, hy⟩ := partCopy_cell (Value.int .i64) (.int .i64 0) ss k k (by omega) hlt'
      have hst := partCopy_step (Value.int .i64) (.int .i64 0) ss k hlt'
      obtain ⟨x, hx⟩ : ∃ x, x = ss[k] := ⟨_, rfl⟩
      rw [← hx] at hold hst
      have HST := Lib.hid hst
      clear hx hst hcell hlt' ha
      go_wp2
      go_roundw
      case rel => exact ⟨k + 1, by omega, by go_num, by rw [HST.out]⟩
      case measure => simp [intOf]; omega
    · obtain rfl : k = n := by omega
      go_wp2
      go_ret
      refine ⟨.slice (some ⟨w.heap.size, 0, none⟩) k k, rfl, ⟨some ⟨w.heap.size, 0, none⟩, k, by rw [← HN.out], by rw [← HN.out]; omega, HS.out, fun j hj => ⟨w.heap.size, 0, rfl, ?_⟩⟩, (Below.refl _ _).alloc (Nat.le_refl _) _⟩
      rw [HN.out, Nat.zero_add]
      rw [← partCopy_done (Value.int .i64) (.int .i64 0) ss j hj]
      simp

theorem cloneS_nil (w : World) : Calls Try.prog 9 #[.slice none 0 0] w fun e w' => e = .returned (.slice none 0 0) ∧ w' = w := by
  have hq := fun wx => Lib.run_eql_slice_nil (P := Try.prog) wx 22 9 none 0 0 0 0 Try.underlying22
  go_enter Try.func9, Try.ntmps9
  go_wp2
  go_ret
  exact ⟨rfl, rfl⟩
theorem cloneI_nil (w : World) : Calls Try.prog 16 #[.slice none 0 0] w fun e w' => e = .returned (.slice none 0 0) ∧ w' = w := by
  have hq := fun wx => Lib.run_eql_slice_nil (P := Try.prog) wx 27 3 none 0 0 0 0 Try.underlying27
  go_enter Try.func16, Try.ntmps16
  go_wp2
  go_ret
  exact ⟨rfl, rfl⟩
/-- A nil slice bears no capacity. -/
def NilOk (v : Value) : Prop := ∀ n c, v = .slice none n c → n = 0 ∧ c = 0
theorem cloneS_calls (v : Value) (ss : List ByteArray) (w : World) (hn : ss.length ≤ 1048576) (h : StrsAt w v ss) (h0 : NilOk v) :
    Calls Try.prog 9 #[v] w fun e w' => ∃ v', e = .returned v' ∧ StrsAt w' v' ss ∧ Below w.heap.size w w' := by
  obtain ⟨ao, cap, rfl, h2, h3, h4⟩ := h
  cases ao with
  | none =>
    obtain ⟨e1, e2⟩ := h0 _ _ rfl
    have e3 : ss = [] := List.eq_nil_of_length_eq_zero e1
    subst e3 e2
    exact (cloneS_nil w).mono fun e w' ⟨he, hw⟩ => ⟨_, he, ⟨none, 0, rfl, by simp, fun j hj => by simp at hj, fun j hj => by simp at hj⟩, by rw [hw]; exact Below.refl _ _⟩
  | some a => exact cloneS_some a cap ss w hn h3 h4
theorem cloneI_calls (v : Value) (ss : List Int) (w : World) (hn : ss.length ≤ 1048576) (h : IntsAt w v ss) (h0 : NilOk v) :
    Calls Try.prog 16 #[v] w fun e w' => ∃ v', e = .returned v' ∧ IntsAt w' v' ss ∧ Below w.heap.size w w' := by
  obtain ⟨ao, cap, rfl, h2, h3, h4⟩ := h
  cases ao with
  | none =>
    obtain ⟨e1, e2⟩ := h0 _ _ rfl
    have e3 : ss = [] := List.eq_nil_of_length_eq_zero e1
    subst e3 e2
    exact (cloneI_nil w).mono fun e w' ⟨he, hw⟩ => ⟨_, he, ⟨none, 0, rfl, by simp, fun j hj => by simp at hj, fun j hj => by simp at hj⟩, by rw [hw]; exact Below.refl _ _⟩
  | some a => exact cloneI_some a cap ss w hn h3 h4

theorem len_of_tot (ss : List ByteArray) : 16 * ss.length ≤ tot ss := by
  induction ss with
  | nil => simp [tot]
  | cons s r ih => simp only [tot, List.length_cons]; omega
theorem size_of_tot (ss : List ByteArray) (j : Nat) (hj : j < ss.length) : ss[j].size ≤ tot ss := by
  induction ss generalizing j with
  | nil => simp at hj
  | cons s r ih =>
    cases j with
    | zero => simp [tot]; omega
    | succ j =>
      have := ih j (by simpa using hj)
      simp only [tot, List.getElem_cons_succ]; omega

/-- rowBytes. -/
def RowB (ks : List ByteArray) (zs : List Int) (fs : List ByteArray) (r : Int) : Prop := r ≤ 1048576 → tot ks ≤ 1048576 ∧ tot fs ≤ 1048576 ∧ zs.length ≤ 131072
set_option maxHeartbeats 800000 in
theorem rowBytes_calls (v u x : Value) (ks : List ByteArray) (zs : List Int) (fs : List ByteArray) (s : ByteArray) (hs4 : s.size ≤ 9223372036854775807) (w : World) (h1 : StrsAt w v ks) (h2 : IntsAt w u zs) (h3 : StrsAt w x fs) :
    Calls Try.prog 14 #[v, u, x, .string s] w fun e w' => ∃ r : Int, e = .returned (.int .i64 r) ∧ w' = w ∧ RowB ks zs fs r := by
  obtain ⟨ao2, cap2, rfl, hn2, -, -⟩ := h2
  by_cases hd1 : 131072 < (zs.length : Int)
  · go_enter Try.func14, Try.ntmps14
    go_wp2
    go_ret
    exact ⟨1048577, rfl, rfl, fun h => by omega⟩
  · by_cases hd2 : 1048576 < (s.size : Int)
    · go_enter Try.func14, Try.ntmps14
      go_wp2
      go_ret
      exact ⟨1048577, rfl, rfl, fun h => by omega⟩
    · go_enter Try.func14, Try.ntmps14
      go_wp2_with fail
      refine (strBytes_calls v ks _ h1).mono ?_
      rintro e w1 ⟨r1, rfl, rfl, ha0, ha1, ha2⟩
      have HA := Lib.hid ha2
      clear ha2
      by_cases hd3 : 1048576 < r1
      · go_wp2
        go_ret
        exact ⟨1048577, rfl, rfl, fun h => by omega⟩
      · go_wp2_with fail
        refine (strBytes_calls x fs _ h3).mono ?_
        rintro e w2 ⟨r2, rfl, rfl, hb0, hb1, hb2⟩
        have HB := Lib.hid hb2
        clear hb2
        by_cases hd4 : 1048576 < r2
        · go_wp2
          go_ret
          exact ⟨1048577, rfl, rfl, fun h => by omega⟩
        · go_wp2
          go_ret
          refine ⟨_, rfl, rfl, fun h => ⟨HA.out (by omega), HB.out (by omega), by omega⟩⟩

/-- rowPremise. -/
def Prem (ks : List ByteArray) (zs : List Int) (fs : List ByteArray) : Prop := ks.length = zs.length ∧ ∀ j (hj : j < zs.length), 0 ≤ zs[j] ∧ zs[j] < (fs.length : Int)
def PremOk (e : Ending) (p : Prop) : Prop := ∃ b : Bool, e = .returned (.bool b) ∧ (b = true → p)
theorem premNo (p : Prop) : PremOk (.returned (.bool false)) p := ⟨false, rfl, by simp⟩
theorem premYes {p : Prop} (h : p) : PremOk (.returned (.bool true)) p := ⟨true, rfl, fun _ => h⟩
set_option maxHeartbeats 800000 in
theorem premise_calls (v u x : Value) (ks : List ByteArray) (zs : List Int) (fs : List ByteArray) (w : World) (h1 : StrsAt w v ks) (h2 : IntsAt w u zs) (h3 : StrsAt w x fs) :
    Calls Try.prog 15 #[v, u, x] w fun e w' => PremOk e (Prem ks zs fs) ∧ w' = w := by
  obtain ⟨ao1, cap1, rfl, hn1, -, -⟩ := h1
  obtain ⟨ao2, cap2, rfl, hn2, hsz, hc⟩ := h2
  obtain ⟨ao3, cap3, rfl, hn3, -, -⟩ := h3
  by_cases hne : ks.length = zs.length
  · have HC := Lib.hid hc
    have HS := Lib.hid hsz
    have HE := Lib.hid hne
    clear hc hsz hne hn1
    obtain ⟨n, hN⟩ : ∃ n, n = zs.length := ⟨_, rfl⟩
    obtain ⟨m, hM⟩ : ∃ m, m = fs.length := ⟨_, rfl⟩
    have e1 : ks.length = n := HE.out.trans hN.symm
    rw [e1, ← hN, ← hM]
    rw [← hN] at hn2
    rw [← hM] at hn3
    have HN := Lib.hid hN
    have HM := Lib.hid hM
    clear hN hM e1
    go_enter Try.func15, Try.ntmps15
    go_wp2
    go_loop [7] (fun i => ∃ k : Nat, k ≤ n ∧ i = .int .i64 k ∧ Hid (∀ j (hj : j < zs.length), j < k → 0 ≤ zs[j] ∧ zs[j] < (m : Int))) (fun i => n - (intOf i).toNat)
    case atStart => exact ⟨0, Nat.zero_le _, rfl, fun j hj h => by omega⟩
    case round =>
      obtain ⟨k, hk, rfl, hA⟩ := hrel
      by_cases hlt : k < n
      · have hlt' : k < zs.length := by rw [← HN.out]; exact hlt
        obtain ⟨b, o, rfl, hcell⟩ := HC.out k hlt'
        have hs := HS.out k hlt'
        obtain ⟨z, hz⟩ : ∃ z, z = zs[k] := ⟨_, rfl⟩
        rw [← hz] at hcell hs
        have HZ := Lib.hid hz
        clear hz
        by_cases hz0 : z < 0
        · go_wp2
          go_ret
          exact ⟨premNo _, rfl⟩
        · by_cases hz1 : (m : Int) ≤ z
          · go_wp2
            go_ret
            exact ⟨premNo _, rfl⟩
          · go_wp2
            go_round
            case rel =>
              refine ⟨k + 1, by omega, by go_num, fun j hj h => ?_⟩
              by_cases hjk : j = k
              · subst hjk; rw [← HZ.out]; omega
              · exact hA.out j hj (by omega)
            case measure => simp [intOf]; omega
      · go_wp2
        go_ret
        refine ⟨premYes ⟨HE.out, fun j hj => ?_⟩, rfl⟩
        have := hA.out j hj (by have := HN.out; omega)
        rw [← HM.out]
        exact this
  · have hd : ((ks.length : Int) != (zs.length : Int)) = true := by rw [bne_iff_ne]; omega
    go_enter Try.func15, Try.ntmps15
    go_wp2
    go_ret
    exact ⟨premNo _, rfl⟩
end Go.Proofs.Qxb6600390a

import Derived.Test.Qxb6600338aRows
import Derived.Test.Qxb6600338aPlain
import Derived.WalkKit
import Derived.ProofKit
import Derived.WalkLawsBesides
import Derived.Outline
import Derived.Laws.IdiomStrings
namespace Go.Proofs.Qxb6600338a
open Go.ChangeShapes Go.WideShapes Go.ChangeAt Go.RowKit

/-- The buffer: zeros, then what has been written. -/
def bufL (acc : List UInt8) : List Value := List.replicate (20 - acc.length) (.int .u8 0) ++ acc.map (fun c => .int .u8 (c.toNat : Int))
def buf (acc : List UInt8) : Array Value := (bufL acc).toArray
theorem buf_size (acc : List UInt8) (h : acc.length ≤ 20) : (buf acc).size = 20 := by simp [buf, bufL]; omega
theorem buf_put (acc : List UInt8) (m : Nat) (h : acc.length + (m + 1) = 20) (c : UInt8) : (buf acc).setIfInBounds m (.int .u8 (c.toNat : Int)) = buf (c :: acc) := by
  unfold buf bufL
  rw [List.setIfInBounds_toArray]
  congr 1
  have h1 : 20 - acc.length = m + 1 := by omega
  have h2 : 20 - (c :: acc).length = m := by simp; omega
  rw [h1, h2, List.replicate_succ', List.append_assoc, List.set_append_right _ _ (by simp)]
  simp
theorem buf_at (acc : List UInt8) (m j : Nat) (h : acc.length + m = 20) (hj : j < acc.length) : (buf acc)[m + j]? = some (.int .u8 (acc[j].toNat : Int)) := by
  unfold buf bufL
  have h1 : 20 - acc.length = m := by omega
  rw [h1, List.getElem?_toArray, List.getElem?_append_right (by simp)]
  simp [hj]
theorem buf_cell (acc : List UInt8) (m : Nat) (h : m < 20) (ha : acc.length ≤ 20) : ∃ x, (buf acc)[m]? = some x := by
  have := buf_size acc ha
  exact ⟨_, Array.getElem?_eq_getElem (by omega)⟩


theorem Try.arrayLen30 : Try.prog.arrayLen 30 = 20 := by kernel_rfl
theorem Try.elem30 : Try.prog.elem 30 = 5 := by kernel_rfl
theorem Try.size5 (w : World) : (sizeOf 5).run Try.prog w = .ok 1 w := by kernel_rfl
theorem slice_buf (w : World) (b m : Nat) (hm : m ≤ 19) :
    (Instr.sliceAt 30 (.pointer (some ⟨b, 0, none⟩)) (some (.int .i64 (m : Int))) none none).run Try.prog w = .ok (.slice (some ⟨b, m, none⟩) (20 - m) (20 - m)) w := by
  rw [run_sliceAt_array_l (P := Try.prog) w 30 ⟨b, 0, none⟩ (by rw [Try.arrayLen30, Try.elem30]; exact Try.underlying30) .i64 m (by omega) (by rw [Try.arrayLen30]; omega), Try.elem30, Try.size5, Try.arrayLen30]
  simp only [Result.andThen, slicedAt, Int.toNat_natCast]
  rw [if_neg (by omega)]
  simp [Addr.add]
  omega
theorem alloc_cell (w : World) (cs : Array Value) (j : Nat) : (w.alloc (.cells cs 30)).cell? ⟨w.heap.size, j, none⟩ = cs[j]? := by
  simp
theorem text_buf (w : World) (acc : List UInt8) (m : Nat) (h : acc.length + m = 20) (cs : Array Value) (hcs : cs = buf acc) :
    (convert 31 9 (.slice (some ⟨w.heap.size, m, none⟩) (20 - m) (20 - m))).run Try.prog (w.alloc (.cells cs 30)) = .ok (.string ⟨acc.toArray⟩) (w.alloc (.cells cs 30)) := by
  subst hcs
  have e : 20 - m = acc.length := by omega
  rw [e]
  refine run_convert_bytes_back _ 31 9 5 _ _ acc Try.underlying31 Try.underlying5 Try.underlying9 (fun j hj => ?_)
  have e2 : (⟨w.heap.size, m, none⟩ : Addr).add j = ⟨w.heap.size, m + j, none⟩ := by simp [Addr.add]
  rw [e2, alloc_cell, buf_at acc m j h hj]
def stepD (u : Nat) : UInt8 := UInt8.ofNat (48 + u % 10)
theorem stepD_int (u : Nat) : ((stepD u).toNat : Int) = 48 + (u : Int) % 10 := by
  unfold stepD; rw [Plain.digit_toNat]; omega
theorem put_step (acc : List UInt8) (m u : Nat) (h : acc.length + (m + 1) = 20) : (buf acc).setIfInBounds m (.int .u8 (48 + (u : Int) % 10)) = buf (stepD u :: acc) := by
  rw [← buf_put acc m h, stepD_int]
theorem put_last (m u : Nat) (acc r : List UInt8) (hp : Hid (Plain.put (m + 1) u acc = r)) (hz : u / 10 = 0) : r = stepD u :: acc := by
  rw [← hp.out, Plain.put, if_pos hz]; rfl
theorem put_more (m u : Nat) (acc r : List UInt8) (hp : Hid (Plain.put (m + 1) u acc = r)) (hz : u / 10 ≠ 0) : Hid (Plain.put m (u / 10) (stepD u :: acc) = r) := by
  have := hp.out
  rw [Plain.put, if_neg hz] at this
  exact this
theorem small_more (m u : Nat) (h : Hid (u < 10 ^ (m + 1))) : Hid (u / 10 < 10 ^ m) := by
  have h2 := h.out
  rw [Nat.pow_succ] at h2
  show _ < _
  omega
theorem no_room (u : Nat) (acc : List UInt8) (hu2 : Hid (u < 10 ^ 0)) (hn : Hid (acc ≠ [] → u ≠ 0)) (hl : Hid (acc.length + 0 = 20)) : False := by
  have h1 := hu2.out
  have h2 := hl.out
  have h3 : acc ≠ [] := by intro e; rw [e] at h2; simp at h2
  have := hn.out h3
  simp at h1; omega
theorem ret_str {a b : List UInt8} (h : b = a) : Ending.returned (.string ⟨a.toArray⟩) = Ending.returned (.string ⟨b.toArray⟩) := by rw [h]

set_option maxHeartbeats 400000 in
theorem itoa_pos (v : Nat) (h2 : v < 9223372036854775808) (r : List UInt8) (hr : Hid (Plain.put 20 v [] = r)) (w : World) :
    Calls Try.prog 9 #[.int .i64 v] w fun e w' => e = .returned (.string ⟨r.toArray⟩) ∧ Grown w w' := by
  have hv0 : decide ((v : Int) < 0) = false := by simp
  go_enter Try.func9, Try.ntmps9
  go_wp2
  go_loopw [4, 6] (fun us is wr => ∃ (i u : Nat) (acc : List UInt8), us = .int .u64 u ∧ is = .int .i64 i ∧ wr = w.alloc (.cells (buf acc) 30) ∧ i ≤ 20 ∧ u ≤ 9223372036854775808 ∧ Hid (acc.length + i = 20) ∧ Hid (Plain.put i u acc = r) ∧ Hid (u < 10 ^ i) ∧ Hid (acc ≠ [] → u ≠ 0)) (fun _ is _ => (intOf is).toNat)
  case atStart => exact ⟨20, v, [], rfl, rfl, rfl, Nat.le_refl _, by omega, rfl, hr, by show _ < _; omega, by show _ → _; simp⟩
  case round =>
    obtain ⟨i, u, acc, rfl, rfl, rfl, hi, hu, hl, hp, hu2, hn⟩ := hrel
    cases i with
    | zero => exact (no_room u acc hu2 hn hl).elim
    | succ m =>
      obtain ⟨x, hx⟩ := buf_cell acc m (by omega) (by have := hl.out; omega)
      have hsl := fun wx => slice_buf wx w.heap.size m (by omega)
      have htx := text_buf w (stepD u :: acc) m (by have := hl.out; simp; omega) _ (put_step acc m u hl.out)
      go_wp2
      · go_ret
        exact ⟨ret_str (put_last m u acc r hp (by have hz : (((u : Int) / 10) == 0) = true := by assumption
                                                  simp at hz; omega)), by repeat (first | exact Grown.refl _ | apply Grown.drew | apply Grown.alloc)⟩
      · go_roundw
        case rel =>
          have hz : (((u : Int) / 10) == 0) = false := by assumption
          have hz2 : u / 10 ≠ 0 := by rw [beq_eq_false_iff_ne] at hz; omega
          refine ⟨m, u / 10, stepD u :: acc, by go_num, rfl, by rw [put_step acc m u hl.out], by omega, by omega, ?_, put_more m u acc r hp hz2, small_more m u hu2, fun _ => hz2⟩
          have := hl.out
          show _ = _
          simp; omega
        case measure => simp [intOf]
theorem wrap_neg (v : Int) (n : Nat) (hn1 : v < 0) (hn2 : -9223372036854775808 ≤ v) (hvn : Hid ((n : Int) = -v)) : IntKind.u64.wrap (-IntKind.u64.wrap v) = (n : Int) := by
  have := hvn.out
  rw [IntKind.wrap_u64, IntKind.wrap_u64]
  omega
theorem sign_step (acc : List UInt8) (j u : Nat) (h : acc.length + (j + 2) = 20) :
    ((buf acc).setIfInBounds (j + 1) (.int .u8 (48 + (u : Int) % 10))).setIfInBounds j (.int .u8 45) = buf (45 :: stepD u :: acc) := by
  rw [put_step acc (j + 1) u (by omega)]
  exact buf_put (stepD u :: acc) j (by simp; omega) 45

set_option maxHeartbeats 400000 in
theorem itoa_neg (v : Int) (n : Nat) (hn1 : v < 0) (hn2 : -9223372036854775808 ≤ v) (hvn : Hid ((n : Int) = -v)) (r : List UInt8) (hr : Hid (Plain.put 20 n [] = r)) (hrl : r.length ≤ 19) (w : World) :
    Calls Try.prog 9 #[.int .i64 v] w fun e w' => e = .returned (.string ⟨(45 :: r).toArray⟩) ∧ Grown w w' := by
  have hv0 : decide (v < 0) = true := by simpa using hn1
  go_enter Try.func9, Try.ntmps9
  go_wp2
  go_loopw [4, 6] (fun us is wr => ∃ (i u : Nat) (acc : List UInt8), us = .int .u64 u ∧ is = .int .i64 i ∧ wr = w.alloc (.cells (buf acc) 30) ∧ i ≤ 20 ∧ u ≤ 9223372036854775808 ∧ Hid (acc.length + i = 20) ∧ Hid (Plain.put i u acc = r) ∧ Hid (u < 10 ^ i) ∧ Hid (acc ≠ [] → u ≠ 0)) (fun _ is _ => (intOf is).toNat)
  case atStart => exact ⟨20, n, [], congrArg (Value.int .u64) (wrap_neg v n hn1 hn2 hvn), rfl, rfl, Nat.le_refl _, by have := hvn.out; omega, rfl, hr, by have := hvn.out; show _ < _; omega, by show _ → _; simp⟩
  case round =>
    obtain ⟨i, u, acc, rfl, rfl, rfl, hi, hu, hl, hp, hu2, hn⟩ := hrel
    cases i with
    | zero => exact (no_room u acc hu2 hn hl).elim
    | succ m =>
      obtain ⟨x, hx⟩ := buf_cell acc m (by omega) (by have := hl.out; omega)
      by_cases hz : u / 10 = 0
      · have hz1 : (((u : Int) / 10) == 0) = true := by simp; omega
        have hre := put_last m u acc r hp hz
        have hlen : Hid (r.length = acc.length + 1) := by show _ = _; rw [hre]; simp
        have hRE : Hid (r = stepD u :: acc) := hre
        have hm : m ≠ 0 := by have := hl.out; have := hlen.out; omega
        clear hre hz
        cases m with
        | zero => exact absurd rfl hm
        | succ j =>
          clear hm
          obtain ⟨y, hy⟩ : ∃ y, ((buf acc).setIfInBounds (j + 1) (.int .u8 (48 + (u : Int) % 10)))[j]? = some y := by
            rw [put_step acc (j + 1) u hl.out]
            exact buf_cell _ j (by omega) (by have := hl.out; simp; omega)
          have hsl := fun wx => slice_buf wx w.heap.size j (by omega)
          have htx := text_buf w (45 :: stepD u :: acc) j (by have := hl.out; simp; omega) _ (sign_step acc j u (by have := hl.out; omega))
          go_wp2
          go_ret
          exact ⟨ret_str (congrArg (45 :: ·) hRE.out), by repeat (first | exact Grown.refl _ | apply Grown.drew | apply Grown.alloc)⟩
      · have hz1 : (((u : Int) / 10) == 0) = false := by rw [beq_eq_false_iff_ne]; omega
        go_wp2
        go_roundw
        case rel =>
          refine ⟨m, u / 10, stepD u :: acc, by go_num, rfl, by rw [put_step acc m u hl.out], by omega, by omega, ?_, put_more m u acc r hp hz, small_more m u hu2, fun _ => hz⟩
          have := hl.out
          show _ = _
          simp; omega
        case measure => simp [intOf]
/-- zzItoa, for every int64. -/
theorem itoa_calls (v : Int) (h1 : -9223372036854775808 ≤ v) (h2 : v < 9223372036854775808) (w : World) :
    Calls Try.prog 9 #[.int .i64 v] w fun e w' => e = .returned (.string ⟨(Plain.itoa v).toArray⟩) ∧ Grown w w' := by
  have hb : v.natAbs < 10 ^ 19 := by omega
  have hl : (Plain.put 20 v.natAbs []).length ≤ 19 := Plain.dec_len v.natAbs 19 hb (by omega) (by omega)
  by_cases h : v < 0
  · have e : Plain.itoa v = 45 :: Plain.put 20 v.natAbs [] := by simp [Plain.itoa, h, Plain.dec]
    rw [e]
    exact itoa_neg v v.natAbs h h1 (by show _ = _; omega) _ rfl hl w
  · obtain ⟨n, rfl⟩ := Int.eq_ofNat_of_zero_le (show 0 ≤ v by omega)
    have e : Plain.itoa (n : Int) = Plain.put 20 n [] := by simp [Plain.itoa, Plain.dec]
    rw [e]
    exact itoa_pos n (by omega) _ rfl w
end Go.Proofs.Qxb6600338a

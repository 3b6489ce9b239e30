import Derived.Test.Qxb6600338aDoorClone
import Derived.Test.Qxb6600338aDoorHeader
import Derived.Deep.QuietTactic
import Derived.BigQuiet
namespace Go.Proofs.Qxb6600338aDoor
open Go.Shelf Go.RowKit

namespace Plain
theorem val_append (l m : List UInt8) : val (l ++ m) = val l * 10 ^ m.length + val m := by
  unfold val
  rw [List.foldl_append, foldl_shift]
  rfl
theorem val_take_le (l : List UInt8) (k : Nat) : val (l.take k) ≤ val l := by
  have h : val l = val (l.take k ++ l.drop k) := by rw [List.take_append_drop]
  rw [val_append] at h
  have := Nat.pow_pos (n := (l.drop k).length) (show 0 < 10 by omega)
  have := Nat.le_mul_of_pos_right (val (l.take k)) this
  omega
theorem val_take_snoc (l : List UInt8) (k : Nat) (h : k < l.length) : val (l.take (k + 1)) = val (l.take k) * 10 + ((l[k]).toNat - 48) := by
  rw [List.take_succ_eq_append_getElem h, val_snoc]
theorem hd_val (n : Nat) : val (hd n) = n := by rw [hd_is]; exact (decDigits_spec n).2.2.1
theorem hd_lead (n : Nat) (h : 1 < (hd n).length) : ((hd n)[0]'(by omega)).toNat ≠ 48 := by
  have hc := (decDigits_can n).2.2
  rw [← hd_is] at hc
  have := hc h
  intro e
  apply this
  rw [List.head?_eq_getElem?, List.getElem?_eq_getElem (by omega)]
  exact congrArg some (UInt8.toNat_inj.1 (by simpa using e))
end Plain
theorem step_hd (n k : Nat) (h : k < (Plain.hd n).length) {v : Int} (hv : Hid (v = (Plain.val ((Plain.hd n).take k) : Int))) (hn : n ≤ 1048576) :
    Hid (v * 10 + ((((Plain.hd n)[k]).toNat : Int) - 48) = (Plain.val ((Plain.hd n).take (k + 1)) : Int)) ∧ v * 10 + ((((Plain.hd n)[k]).toNat : Int) - 48) ≤ 1048576 := by
  have hd := Plain.hd_digit n k h
  have h1 := Plain.val_take_snoc (Plain.hd n) k h
  have h2 := Plain.val_take_le (Plain.hd n) (k + 1)
  rw [Plain.hd_val] at h2
  have e : v * 10 + ((((Plain.hd n)[k]).toNat : Int) - 48) = (Plain.val ((Plain.hd n).take (k + 1)) : Int) := by rw [hv.out, h1]; omega
  exact ⟨e, by rw [e]; omega⟩

set_option maxHeartbeats 1600000 in
set_option maxRecDepth 100000 in
/-- zzIsEncodingAfter says yes. -/
theorem enc_walk (g N cap n cap2 m : Nat) (ao : Option Addr) (D : List UInt8) (s : ByteArray) (w : World)
    (hn : n ≤ 1048576) (hs : s.size ≤ 1048576) (hm0 : 0 < m) (hm : m ≤ 21) (hN : N ≤ cap) (hcap : cap ≤ 9223372036854775807) (hN1 : n + m + 1 + s.size ≤ N) (hN2 : N ≤ n + m + 1 + s.size)
    (HM : Hid (m = (Plain.hd s.size).length)) (HND : Hid (n = D.length))
    (hcD : Hid (∀ j (hj : j < D.length), w.cell? ⟨g, j, none⟩ = some (.int .u8 (D[j].toNat : Int)) ∧ ∃ b, ao = some ⟨b, 0, none⟩ ∧ w.cell? ⟨b, j, none⟩ = some (.int .u8 (D[j].toNat : Int))))
    (hcH : Hid (∀ j (hj : j < (Plain.hd s.size).length), w.cell? ⟨g, n + j, none⟩ = some (.int .u8 (((Plain.hd s.size)[j]).toNat : Int))))
    (hcC : w.cell? ⟨g, n + m, none⟩ = some (.int .u8 58))
    (hcS : Hid (∀ j (hj : j < s.size), w.cell? ⟨g, n + m + 1 + j, none⟩ = some (.int .u8 (s[j].toNat : Int)))) :
    Calls Tryd.prog 21 #[.slice (some ⟨g, 0, none⟩) N cap, .slice ao n cap2, .string s] w fun e w' => e = .returned (.bool true) ∧ ∃ q, w' = w.drewN q := by
  have hNn : decide (N < n) = false := by simp; omega
  go_enter Tryd.func21, Tryd.ntmps21
  go_wp2
  go_loopw [7] (fun i wr => ∃ k q : Nat, k ≤ n ∧ i = .int .i64 k ∧ wr = w.drewN q) (fun i _ => n - (intOf i).toNat)
  case atStart => exact ⟨0, 0, Nat.zero_le _, rfl, rfl⟩
  case round =>
    obtain ⟨k, q, hk, rfl, rfl⟩ := hrel
    by_cases hlt : k < n
    · obtain ⟨h1, b, rfl, h2⟩ := hcD.out k (by rw [← HND.out]; exact hlt)
      obtain ⟨x, hx⟩ : ∃ x : Nat, x = (D[k]'(by rw [← HND.out]; exact hlt)).toNat := ⟨_, rfl⟩
      rw [← hx] at h1 h2
      clear hx
      go_wp2
      go_quiet (fail)
      go_wp2
      go_roundw
      case rel => exact ⟨k + 1, q + nq, by omega, by go_num, rfl⟩
      case measure => simp [intOf]; omega
    · have hcn : ¬ cap = n := by omega
      go_wp2
      go_loop [9, 10] (fun i nn => ∃ (k2 : Nat) (v : Int), k2 ≤ m ∧ i = .int .i64 k2 ∧ nn = .int .i64 v ∧ 0 ≤ v ∧ v ≤ 1048576 ∧ Hid (v = (Plain.val ((Plain.hd s.size).take k2) : Int))) (fun i _ => m - (intOf i).toNat)
      case atStart => exact ⟨0, 0, Nat.zero_le _, rfl, rfl, by omega, by omega, rfl⟩
      case round =>
        obtain ⟨k2, v, hk2, rfl, rfl, hv0, hv1, hv⟩ := hrel
        by_cases hlt2 : k2 < m
        · have hk2' : k2 < (Plain.hd s.size).length := by rw [← HM.out]; exact hlt2
          have h1 := hcH.out k2 hk2'
          have hdg := Plain.hd_digit s.size k2 hk2'
          have hst := step_hd s.size k2 hk2' hv (by omega)
          obtain ⟨x, hx⟩ : ∃ x : Nat, x = ((Plain.hd s.size)[k2]).toNat := ⟨_, rfl⟩
          rw [← hx] at h1 hdg hst
          clear hx hk2'
          have hst2 := hst.2
          have hst1 : Hid _ := hst.1
          clear hst
          go_wp2
          go_round
          case rel => exact ⟨k2 + 1, _, by omega, by go_num, rfl, by omega, by omega, hst1⟩
          case measure => simp [intOf]; omega
        · obtain rfl : k2 = m := by omega
          have hve : v = (s.size : Int) := by
            rw [hv.out, HM.out, List.take_of_length_le (Nat.le_refl _), Plain.hd_val]
          subst hve
          have hc0 := hcH.out 0 (by rw [← HM.out]; exact hm0)
          rw [Nat.add_zero] at hc0
          have hl0 := Plain.hd_lead s.size
          have hm1 : ((k2 : Int) == 0) = false := by rw [beq_eq_false_iff_ne]; omega
          obtain ⟨x0, hx0⟩ : ∃ x : Nat, x = ((Plain.hd s.size)[0]'(by rw [← HM.out]; exact hm0)).toNat := ⟨_, rfl⟩
          rw [← hx0] at hc0
          have hlead : x0 = 48 → ¬ 1 < k2 := by
            intro e h
            exact hl0 (by rw [← HM.out]; exact h) (by rw [← hx0]; exact e)
          have HL := Lib.hid hlead
          clear hlead hl0 hx0
          by_cases hz : x0 = 48
          · have hz1 : ((x0 : Int) == 48) = true := by rw [beq_iff_eq]; omega
            have hm2 : decide (1 < (k2 : Int)) = false := by have := HL.out hz; simp; omega
            clear hz
            go_wp2
            all_goals
              go_loopw [12] (fun j wr => ∃ k3 q3 : Nat, k3 ≤ s.size ∧ j = .int .i64 k3 ∧ wr = w.drewN q3) (fun j _ => s.size - (intOf j).toNat)
              case atStart => exact ⟨0, q, Nat.zero_le _, rfl, rfl⟩
              case round =>
                obtain ⟨k3, q3, hk3, rfl, rfl⟩ := hrel
                by_cases hlt3 : k3 < s.size
                · rcases Nat.lt_or_ge (k2 + 1) (cap - n) with hgt | hle
                  · have h1 := hcS.out k3 hlt3
                    rw [Nat.add_assoc n k2 1] at h1
                    have hb1 : (k3 : Int) < ((N - n - (k2 + 1) : Nat) : Int) := by omega
                    have hb2 : (k3 : Int) < (s.size : Int) := by omega
                    clear hgt
                    first
                    | (exfalso; have : cap - n = k2 + 1 := by assumption
                       omega)
                    | (go_wp2
                       go_quiet (fail)
                       go_wp2
                       go_roundw
                       case rel => exact ⟨k3 + 1, q3 + nq, by omega, by go_num, rfl⟩
                       case measure => simp [intOf]; omega)
                  · exfalso; omega
                · go_wp2
                  go_ret
                  exact ⟨rfl, q3, rfl⟩
          · have hz1 : ((x0 : Int) == 48) = false := by rw [beq_eq_false_iff_ne]; omega
            go_wp2
            all_goals
              go_loopw [12] (fun j wr => ∃ k3 q3 : Nat, k3 ≤ s.size ∧ j = .int .i64 k3 ∧ wr = w.drewN q3) (fun j _ => s.size - (intOf j).toNat)
              case atStart => exact ⟨0, q, Nat.zero_le _, rfl, rfl⟩
              case round =>
                obtain ⟨k3, q3, hk3, rfl, rfl⟩ := hrel
                by_cases hlt3 : k3 < s.size
                · rcases Nat.lt_or_ge (k2 + 1) (cap - n) with hgt | hle
                  · have h1 := hcS.out k3 hlt3
                    rw [Nat.add_assoc n k2 1] at h1
                    have hb1 : (k3 : Int) < ((N - n - (k2 + 1) : Nat) : Int) := by omega
                    have hb2 : (k3 : Int) < (s.size : Int) := by omega
                    clear hgt
                    first
                    | (exfalso; have : cap - n = k2 + 1 := by assumption
                       omega)
                    | (go_wp2
                       go_quiet (fail)
                       go_wp2
                       go_roundw
                       case rel => exact ⟨k3 + 1, q3 + nq, by omega, by go_num, rfl⟩
                       case measure => simp [intOf]; omega)
                  · exfalso; omega
                · go_wp2
                  go_ret
                  exact ⟨rfl, q3, rfl⟩

theorem cells_split {w : World} {g : Nat} {l : List UInt8} (h : ∀ j u, (Lib.byteCells l)[j]? = some u → w.cell? ((⟨g, 0, none⟩ : Addr).add j) = some u) (j : Nat) (hj : j < l.length) : w.cell? ⟨g, j, none⟩ = some (.int .u8 (l[j].toNat : Int)) := by
  have := h j (.int .u8 (l[j].toNat : Int)) (by simp [Lib.byteCells, hj])
  simpa [Addr.add_lit] using this

/-- zzIsEncodingAfter says yes: out owns D and the encoding, dst owns D. -/
theorem enc_calls (B1 B2 : Nat) (vo vd : Value) (D : List UInt8) (s : ByteArray) (w : World) (hD : D.length ≤ 1048576) (hs : s.size ≤ 1048576)
    (ho : w.ownsRow B1 5 1 vo (D.length + (enc s.data.toList).length) (Lib.byteCells D ++ Lib.byteCells (enc s.data.toList))) (hd : w.ownsRow B2 5 1 vd D.length (Lib.byteCells D)) :
    Calls Tryd.prog 21 #[vo, vd, .string s] w fun e w' => e = .returned (.bool true) ∧ ∃ q, w' = w.drewN q := by
  have el := enc_len s
  have ei := enc_is s
  have hm21 : (Plain.hd s.size).length ≤ 21 := Lib.itoa_length_le (s.size : Int) (by omega) (by omega)
  have hm0 := Plain.hd_pos s.size
  rcases ho.2 with ⟨-, h0⟩ | ⟨g, cap, cur, rfl, -, -, hcap, hcapm, -, -⟩
  · omega
  have hcells := ho.cells (g := g) rfl
  rw [← Lib.byteCells_append] at hcells
  have hall := cells_split hcells
  obtain ⟨ao, cap2, rfl, hdc⟩ : ∃ ao cap2, vd = .slice ao D.length cap2 ∧ ∀ j (hj : j < D.length), ∃ b, ao = some ⟨b, 0, none⟩ ∧ w.cell? ⟨b, j, none⟩ = some (.int .u8 (D[j].toNat : Int)) := by
    rcases hd.2 with ⟨rfl, h0⟩ | ⟨g2, cap2, cur2, rfl, -, -, -, -, -, -⟩
    · exact ⟨none, 0, by rw [h0], fun j hj => by omega⟩
    · exact ⟨_, _, rfl, fun j hj => ⟨g2, rfl, cells_split (hd.cells (g := g2) rfl) j hj⟩⟩
  have hlt : ∀ j, j < D.length + (enc s.data.toList).length → j < (D ++ enc s.data.toList).length := fun j h => by rw [List.length_append]; exact h
  refine enc_walk g _ cap D.length cap2 (Plain.hd s.size).length ao D s w hD hs hm0 hm21 hcap (by unfold maxLen at hcapm; omega) (by omega) (by omega) rfl rfl ?_ ?_ ?_ ?_
  · intro j hj
    refine ⟨?_, hdc j hj⟩
    have := hall j (hlt j (by omega))
    rwa [List.getElem_append_left hj] at this
  · intro j hj
    have := hall (D.length + j) (hlt _ (by omega))
    rw [this]
    congr 3
    rw [List.getElem_append_right (by omega)]
    simp only [ei, Nat.add_sub_cancel_left]
    rw [List.getElem_append_left hj]
  · have := hall (D.length + (Plain.hd s.size).length) (hlt _ (by omega))
    rw [this, List.getElem_append_right (by omega)]
    simp [ei]
  · intro j hj
    have := hall (D.length + (Plain.hd s.size).length + 1 + j) (hlt _ (by omega))
    rw [this, List.getElem_append_right (by omega)]
    congr 3
    simp only [ei]
    rw [List.getElem_append_right (by omega), List.getElem_cons]
    rw [dif_neg (by omega)]
    have e : D.length + (Plain.hd s.size).length + 1 + j - D.length - (Plain.hd s.size).length - 1 = j := by omega
    simp only [e]
    rfl

/-- What is owned stays owned where nothing below a bound has turned. -/
theorem owns_below {w w' : World} {B B' : Nat} {v : Value} {n : Nat} {xs : List Value} (h : w.ownsRow B 5 1 v n xs) (hb : Below B' w w') (hlt : w.heap.size ≤ B') : w'.ownsRow B 5 1 v n xs := by
  refine ⟨h.1, ?_⟩
  rcases h.2 with h1 | ⟨g, cap, cur, h1, h2, h3, h4⟩
  · exact Or.inl h1
  · refine Or.inr ⟨g, cap, cur, h1, h2, ?_, h4⟩
    have hg : g < w.heap.size := by
      rcases Nat.lt_or_ge g w.heap.size with q | q
      · exact q
      · rw [Array.getElem?_eq_none q] at h3; cases h3
    rw [← h3]
    exact hb.block g (by omega)
end Go.Proofs.Qxb6600338aDoor

import Derived.Test.Qxb6600338aDoorApp
import Derived.Test.Qxb6600338aDoorCanon
namespace Go.Proofs.Qxb6600338aDoor
open Go.Shelf Go.RowKit

theorem enc_len (s : ByteArray) : (enc s.data.toList).length = (Plain.hd s.size).length + 1 + s.size := by
  unfold enc Plain.hd; simp; omega
theorem enc_is (s : ByteArray) : enc s.data.toList = Plain.hd s.size ++ 58 :: s.data.toList := by
  unfold enc Plain.hd; simp

set_option maxHeartbeats 1600000 in
set_option maxRecDepth 100000 in
theorem header_walk (s : ByteArray) (hs : s.size ≤ maxLen) (w : World) (htab : Lib.TabIs Tryd.prog w powName .u64 Lib.pow10Tab) :
    Calls Tryd.prog 8 #[.string s] w fun e w' => e = .returned (.bool true) ∧ Below w.heap.size w w' := by
  have hS : s.size ≤ 9223372036854775807 := by unfold maxLen at hs; omega
  by_cases hbig : 1048576 < (s.size : Int)
  · go_enter Tryd.func8, Tryd.ntmps8
    go_wp2
    go_ret
    exact ⟨rfl, Below.refl _ _⟩
  · have hT := Lib.tabBelow_of_tabIs htab
    go_enter Tryd.func8, Tryd.ntmps8
    go_wp2_with (first | (go_at_call 20; refine (zzapp_calls w.heap.size 0 (.slice none 0 0) [] s (by omega) (by omega) w (World.ownsRow_nil _ _ _ _) (Nat.le_refl _) hT).mono ?_; rintro e w1 ⟨v1, rfl, hown1, hnx1⟩; refine Hid.out ?_) | go_in)
    refine Lib.hid ?_
    rw [Nat.zero_add, List.nil_append, enc_len, enc_is] at hown1
    obtain ⟨m, hm⟩ : ∃ m, m = (Plain.hd s.size).length := ⟨_, rfl⟩
    rw [← hm] at hown1
    have hM : Hid (m = (Plain.hd s.size).length) := hm
    clear hm
    have hml : m ≤ 21 := by have := Lib.itoa_length_le (s.size : Int) (by omega) (by omega); have := hM.out; unfold Plain.hd at this; omega
    rcases hown1.2 with ⟨-, h0⟩ | ⟨g, cap, cur, rfl, -, -, hcap, hcapm, -, -⟩
    · omega
    · have hcells := hown1.cells (g := g) rfl
      have hcD : ∀ k (h : k < (Plain.hd s.size).length), w1.cell? ⟨g, k, none⟩ = some (.int .u8 (((Plain.hd s.size)[k]).toNat : Int)) := fun k h => by
        have := hcells k (.int .u8 (((Plain.hd s.size)[k]).toNat : Int)) (by simp [Lib.byteCells, List.getElem?_append_left, h])
        simpa [Addr.add_lit] using this
      have hcC : w1.cell? ⟨g, m, none⟩ = some (.int .u8 58) := by
        have := hcells m (.int .u8 58) (by rw [hM.out]; simp [Lib.byteCells])
        simpa [Addr.add_lit] using this
      have hcS : ∀ k (h : k < s.data.toList.length), w1.cell? ⟨g, m + 1 + k, none⟩ = some (.int .u8 ((s.data.toList[k]).toNat : Int)) := fun k h => by
        have := hcells (m + 1 + k) (.int .u8 ((s.data.toList[k]).toNat : Int)) (by
          rw [hM.out]; simp only [Lib.byteCells, List.map_append, List.map_cons]
          rw [List.getElem?_append_right (by simp; omega)]
          have : (Plain.hd s.size).length + 1 + k - (List.map (fun b : UInt8 => Value.int .u8 (b.toNat : Int)) (Plain.hd s.size)).length = k + 1 := by simp; omega
          rw [this, List.getElem?_cons_succ, List.getElem?_map, List.getElem?_eq_getElem h]; rfl)
        simpa [Addr.add_lit] using this
      have HD := Lib.hid hcD
      have HS := Lib.hid hcS
      have HO := Lib.hid hown1
      unfold maxLen at hcapm
      clear hcD hcS hown1 hcells
      go_wp2
      go_loop [4, 5] (fun c i => ∃ k : Nat, k ≤ m ∧ i = .int .i64 k ∧ c = .int .i64 (-1)) (fun _ i => m - (intOf i).toNat)
      case atStart => exact ⟨0, Nat.zero_le _, rfl, rfl⟩
      case round =>
        obtain ⟨k, hk, rfl, rfl⟩ := hrel
        by_cases hlt : k < m
        · have hc := HD.out k (by rw [← hM.out]; exact hlt)
          have hdg := Plain.hd_digit s.size k (by rw [← hM.out]; exact hlt)
          obtain ⟨x, hx⟩ : ∃ x : Nat, x = ((Plain.hd s.size)[k]'(by rw [← hM.out]; exact hlt)).toNat := ⟨_, rfl⟩
          rw [← hx] at hc hdg
          clear hx
          have hne : ((x : Int) == 58) = false := by rw [beq_eq_false_iff_ne]; omega
          go_wp2
          go_round
          case rel => exact ⟨k + 1, by omega, by go_num, rfl⟩
          case measure => simp [intOf]; omega
        · obtain rfl : k = m := by omega
          have hcv1 := run_convert_bytes_back (P := Tryd.prog) w1 29 9 5 ⟨g, 0, none⟩ cap (Plain.hd s.size) Tryd.underlying29 Tryd.underlying5 Tryd.underlying9 (fun j hj => by
            have := HD.out j hj
            simpa [Addr.add_lit] using this)
          rw [← hM.out] at hcv1
          have hcan : Hid (Plain.canon (Plain.hd s.size) = ((s.size : Int), true)) := Plain.hd_canon s.size (by omega)
          have heq : (s.data.toList == s.toList) = true := by rw [ByteArray.toList_eq]; simp
          go_wp2_with fail
          refine (zzcanon_calls _ ?hsz _).mono ?_
          case hsz => show (Plain.hd s.size).toArray.size ≤ maxLen; rw [List.size_toArray, ← hM.out]; unfold maxLen; omega
          rintro e w2 ⟨rfl, rfl⟩
          have e1 : (Plain.canon (ByteArray.mk (Plain.hd s.size).toArray).data.toList) = ((s.size : Int), true) := hcan.out
          rw [e1]
          clear e1 hcv1
          by_cases hce : cap = k + 1
          · subst hce
            have hcv2 : (convert 29 9 (.slice (some ⟨g, 0, none⟩) 0 0)).run Tryd.prog w2 = .ok (.string s) w2 := by
              rw [show s = ⟨([] : List UInt8).toArray⟩ from ByteArray.size_eq_zero_iff.1 (by omega)]
              exact run_convert_bytes_back (P := Tryd.prog) w2 29 9 5 ⟨g, 0, none⟩ 0 [] Tryd.underlying29 Tryd.underlying5 Tryd.underlying9 (fun j hj => by simp at hj)
            go_wp2
            go_ret
            exact ⟨rfl, hnx1⟩
          · have hcv2 := fun cp => run_convert_bytes_back (P := Tryd.prog) w2 29 9 5 ⟨g, k + 1, none⟩ cp s.data.toList Tryd.underlying29 Tryd.underlying5 Tryd.underlying9 (fun j hj => by
              have := HS.out j hj
              simpa [Addr.add_lit] using this)
            rw [len_list] at hcv2
            go_wp2
            go_ret
            exact ⟨rfl, hnx1⟩
end Go.Proofs.Qxb6600338aDoor

import Derived.Test.Qxb6600390aRows
import Derived.WalkKit
import Derived.ProofKit
import Derived.WalkLawsBesides
import Derived.Lib.Hide
import Derived.Laws.MakeOwn
import Derived.Laws.OwnMore
import Derived.Lib.SliceRun
import Derived.WalkSpells
namespace Go.Proofs.Qxb6600390a
open Go.RowKit

/-- A slice of strings as the walks know it: its elements lie one behind the other. -/
def StrsAt (w : World) (v : Value) (ss : List ByteArray) : Prop :=
  ∃ ao cap, v = .slice ao ss.length cap ∧ ss.length ≤ 9223372036854775807 ∧ (∀ j (hj : j < ss.length), ss[j].size ≤ 9223372036854775807) ∧
    ∀ j (hj : j < ss.length), ∃ b o, ao = some ⟨b, o, none⟩ ∧ w.cell? ⟨b, o + j, none⟩ = some (.string ss[j])
def IntsAt (w : World) (v : Value) (zs : List Int) : Prop :=
  ∃ ao cap, v = .slice ao zs.length cap ∧ zs.length ≤ 9223372036854775807 ∧ (∀ j (hj : j < zs.length), -9223372036854775808 ≤ zs[j] ∧ zs[j] ≤ 9223372036854775807) ∧
    ∀ j (hj : j < zs.length), ∃ b o, ao = some ⟨b, o, none⟩ ∧ w.cell? ⟨b, o + j, none⟩ = some (.int .i64 zs[j])

/-- It returned a bool, whichever. -/
def SomeBool (e : Ending) : Prop := ∃ b : Bool, e = .returned (.bool b)
theorem someBool (b : Bool) : SomeBool (.returned (.bool b)) := ⟨b, rfl⟩
/-- Sixteen a header, and the text. -/
def tot : List ByteArray → Nat
  | [] => 0
  | s :: r => 16 + s.size + tot r
theorem tot_append (a b : List ByteArray) : tot (a ++ b) = tot a + tot b := by
  induction a with
  | nil => simp [tot]
  | cons s r ih => simp only [List.cons_append, tot, ih]; omega
theorem tot_take (ss : List ByteArray) (k : Nat) (h : k < ss.length) : tot (ss.take (k + 1)) = tot (ss.take k) + (16 + ss[k].size) := by
  rw [List.take_succ_eq_append_getElem h, tot_append]; simp [tot]
theorem ret_i64 {a b : Int} (h : a = b) : Ending.returned (.int .i64 a) = Ending.returned (.int .i64 b) := by rw [h]

set_option maxHeartbeats 400000 in
theorem strBytes_calls (v : Value) (ss : List ByteArray) (w : World) (h : StrsAt w v ss) :
    Calls Try.prog 8 #[v] w fun e w' => ∃ r : Int, e = .returned (.int .i64 r) ∧ w' = w ∧ 0 ≤ r ∧ r ≤ 1048577 ∧ (r ≤ 1048576 → tot ss ≤ 1048576) := by
  obtain ⟨ao, cap, rfl, hn, hsz, hc⟩ := h
  have HC := Lib.hid hc
  have HS := Lib.hid hsz
  clear hc hsz
  obtain ⟨n, hN⟩ : ∃ n, n = ss.length := ⟨_, rfl⟩
  rw [← hN] at hn ⊢
  have HN := Lib.hid hN
  clear hN
  go_enter Try.func8, Try.ntmps8
  go_wp2
  go_loop [3, 4] (fun t i => ∃ (k : Nat) (t' : Int), k ≤ n ∧ i = .int .i64 k ∧ t = .int .i64 t' ∧ 0 ≤ t' ∧ t' ≤ 1048576 ∧ Hid (t' = (tot (ss.take k) : Int))) (fun _ i => n - (intOf i).toNat)
  case atStart => exact ⟨0, 0, Nat.zero_le _, rfl, rfl, by omega, by omega, rfl⟩
  case round =>
    obtain ⟨k, t, hk, rfl, rfl, ht0, ht1, ht⟩ := hrel
    by_cases hlt : k < n
    · have hlt' : k < ss.length := by rw [← HN.out]; exact hlt
      obtain ⟨b, o, rfl, hcell⟩ := HC.out k hlt'
      have hs := HS.out k hlt'
      have hst := tot_take ss k hlt'
      obtain ⟨x, hx⟩ : ∃ x, x = ss[k] := ⟨_, rfl⟩
      rw [← hx] at hcell hs hst
      have HST := Lib.hid hst
      clear hx hst hlt'
      go_wp2
      · go_ret
        exact ⟨1048577, rfl, rfl, by omega, by omega, by omega⟩
      · go_ret
        exact ⟨1048577, rfl, rfl, by omega, by omega, by omega⟩
      · go_round
        case rel =>
          refine ⟨k + 1, _, by omega, by go_num, rfl, by omega, by omega, ?_⟩
          show _ = _
          rw [HST.out, ht.out]; omega
        case measure => simp [intOf]; omega
    · go_wp2
      go_ret
      refine ⟨t, rfl, rfl, ht0, by omega, fun _ => ?_⟩
      have := ht.out
      have hkn : k = n := by omega
      rw [hkn, HN.out, List.take_of_length_le (Nat.le_refl _)] at this
      omega

set_option maxHeartbeats 400000 in
theorem zz7_calls (v : Value) (ss : List ByteArray) (w : World) (h1 : StrsAt w v ss) : Calls Try.prog 7 #[v] w fun e w' => SomeBool e ∧ w' = w := by
  obtain ⟨ao1, cap1, rfl, hn1, hsz1, hc1⟩ := h1
  have HC1 := Lib.hid hc1
  have HS1 := Lib.hid hsz1
  clear hc1 hsz1
  obtain ⟨n, hN1⟩ : ∃ n, n = ss.length := ⟨_, rfl⟩
  rw [← hN1] at hn1 ⊢
  have HN1 := Lib.hid hN1
  clear hN1
  by_cases hd1' : 1048576 < (n : Int)
  · have hd1 : decide (1048576 < (n : Int)) = true := by simpa using hd1'
    go_enter Try.func7, Try.ntmps7
    go_wp2
    go_ret
    exact ⟨someBool _, rfl⟩
  · have hd1 : decide (1048576 < (n : Int)) = false := by simpa using hd1'
    go_enter Try.func7, Try.ntmps7
    go_wp2
    go_loop [3, 4] (fun t i => ∃ (k : Nat) (z : Int), k ≤ n ∧ i = .int .i64 k ∧ t = .int .i64 z ∧ 0 ≤ z ∧ z ≤ 1048576) (fun _ i => n - (intOf i).toNat)
    case atStart => exact ⟨0, _, Nat.zero_le _, rfl, rfl, by omega, by omega⟩
    case round =>
      obtain ⟨k1, z1, hk1, rfl, rfl, hz01, hz11⟩ := hrel
      by_cases hlt1 : k1 < n
      · obtain ⟨b, o, rfl, hcell⟩ := HC1.out k1 (by rw [← HN1.out]; exact hlt1)
        have hs := HS1.out k1 (by rw [← HN1.out]; exact hlt1)
        obtain ⟨x, hx⟩ : ∃ x, x = ss[k1]'(by rw [← HN1.out]; exact hlt1) := ⟨_, rfl⟩
        rw [← hx] at hcell hs
        clear hx
        go_wp2
        · go_ret
          exact ⟨someBool _, rfl⟩
        · go_ret
          exact ⟨someBool _, rfl⟩
        · go_round
          case rel => exact ⟨k1 + 1, _, by omega, by go_num, rfl, by omega, by omega⟩
          case measure => simp [intOf]; omega
      · skip
        go_wp2
        go_ret
        exact ⟨someBool _, rfl⟩

set_option maxHeartbeats 400000 in
theorem zz12_calls (v : Value) (ss : List ByteArray) (w : World) (h1 : StrsAt w v ss) : Calls Try.prog 12 #[v] w fun e w' => SomeBool e ∧ w' = w := by
  obtain ⟨ao1, cap1, rfl, hn1, hsz1, hc1⟩ := h1
  have HC1 := Lib.hid hc1
  have HS1 := Lib.hid hsz1
  clear hc1 hsz1
  obtain ⟨n, hN1⟩ : ∃ n, n = ss.length := ⟨_, rfl⟩
  rw [← hN1] at hn1 ⊢
  have HN1 := Lib.hid hN1
  clear hN1
  by_cases hd1' : 1048576 < (n : Int)
  · have hd1 : decide (1048576 < (n : Int)) = true := by simpa using hd1'
    go_enter Try.func12, Try.ntmps12
    go_wp2
    go_ret
    exact ⟨someBool _, rfl⟩
  · have hd1 : decide (1048576 < (n : Int)) = false := by simpa using hd1'
    go_enter Try.func12, Try.ntmps12
    go_wp2
    go_loop [3, 4] (fun t i => ∃ (k : Nat) (z : Int), k ≤ n ∧ i = .int .i64 k ∧ t = .int .i64 z ∧ 0 ≤ z ∧ z ≤ 1048576) (fun _ i => n - (intOf i).toNat)
    case atStart => exact ⟨0, _, Nat.zero_le _, rfl, rfl, by omega, by omega⟩
    case round =>
      obtain ⟨k1, z1, hk1, rfl, rfl, hz01, hz11⟩ := hrel
      by_cases hlt1 : k1 < n
      · obtain ⟨b, o, rfl, hcell⟩ := HC1.out k1 (by rw [← HN1.out]; exact hlt1)
        have hs := HS1.out k1 (by rw [← HN1.out]; exact hlt1)
        obtain ⟨x, hx⟩ : ∃ x, x = ss[k1]'(by rw [← HN1.out]; exact hlt1) := ⟨_, rfl⟩
        rw [← hx] at hcell hs
        clear hx
        go_wp2
        · go_ret
          exact ⟨someBool _, rfl⟩
        · go_ret
          exact ⟨someBool _, rfl⟩
        · go_round
          case rel => exact ⟨k1 + 1, _, by omega, by go_num, rfl, by omega, by omega⟩
          case measure => simp [intOf]; omega
      · skip
        go_wp2
        go_ret
        exact ⟨someBool _, rfl⟩

set_option maxHeartbeats 1600000 in
theorem zz13_calls (v u x : Value) (ks : List ByteArray) (zs : List Int) (fs : List ByteArray) (w : World) (h1 : StrsAt w v ks) (h2 : IntsAt w u zs) (h3 : StrsAt w x fs) : Calls Try.prog 13 #[v, u, x] w fun e w' => SomeBool e ∧ w' = w := by
  obtain ⟨ao1, cap1, rfl, hn1, hsz1, hc1⟩ := h1
  have HC1 := Lib.hid hc1
  have HS1 := Lib.hid hsz1
  clear hc1 hsz1
  obtain ⟨n, hN1⟩ : ∃ n, n = ks.length := ⟨_, rfl⟩
  rw [← hN1] at hn1 ⊢
  have HN1 := Lib.hid hN1
  clear hN1
  obtain ⟨ao2, cap2, rfl, hn2, -, -⟩ := h2
  obtain ⟨m, hN2⟩ : ∃ n, n = zs.length := ⟨_, rfl⟩
  rw [← hN2] at hn2 ⊢
  clear hN2
  obtain ⟨ao3, cap3, rfl, hn3, hsz3, hc3⟩ := h3
  have HC3 := Lib.hid hc3
  have HS3 := Lib.hid hsz3
  clear hc3 hsz3
  obtain ⟨p, hN3⟩ : ∃ n, n = fs.length := ⟨_, rfl⟩
  rw [← hN3] at hn3 ⊢
  have HN3 := Lib.hid hN3
  clear hN3
  by_cases hd1' : 1048576 < (n : Int)
  · have hd1 : decide (1048576 < (n : Int)) = true := by simpa using hd1'
    go_enter Try.func13, Try.ntmps13
    go_wp2
    go_ret
    exact ⟨someBool _, rfl⟩
  · have hd1 : decide (1048576 < (n : Int)) = false := by simpa using hd1'
    go_enter Try.func13, Try.ntmps13
    go_wp2
    go_loop [7, 8] (fun t i => ∃ (k : Nat) (z : Int), k ≤ n ∧ i = .int .i64 k ∧ t = .int .i64 z ∧ 0 ≤ z ∧ z ≤ 1048576) (fun _ i => n - (intOf i).toNat)
    case atStart => exact ⟨0, _, Nat.zero_le _, rfl, rfl, by omega, by omega⟩
    case round =>
      obtain ⟨k1, z1, hk1, rfl, rfl, hz01, hz11⟩ := hrel
      by_cases hlt1 : k1 < n
      · obtain ⟨b, o, rfl, hcell⟩ := HC1.out k1 (by rw [← HN1.out]; exact hlt1)
        have hs := HS1.out k1 (by rw [← HN1.out]; exact hlt1)
        obtain ⟨x, hx⟩ : ∃ x, x = ks[k1]'(by rw [← HN1.out]; exact hlt1) := ⟨_, rfl⟩
        rw [← hx] at hcell hs
        clear hx
        go_wp2
        · go_ret
          exact ⟨someBool _, rfl⟩
        · go_ret
          exact ⟨someBool _, rfl⟩
        · go_round
          case rel => exact ⟨k1 + 1, _, by omega, by go_num, rfl, by omega, by omega⟩
          case measure => simp [intOf]; omega
      · skip
        by_cases hd2' : 1048576 < (m : Int)
        · have hd2 : decide (1048576 < (m : Int)) = true := by simpa using hd2'
          go_wp2
          go_ret
          exact ⟨someBool _, rfl⟩
        · have hd2 : decide (1048576 < (m : Int)) = false := by simpa using hd2'
          by_cases hd3' : 1048576 < z1 + (m : Int)
          · have hd3 : decide (1048576 < z1 + (m : Int)) = true := by simpa using hd3'
            go_wp2
            go_ret
            exact ⟨someBool _, rfl⟩
          · have hd3 : decide (1048576 < z1 + (m : Int)) = false := by simpa using hd3'
            by_cases hd4' : 1048576 < (p : Int)
            · have hd4 : decide (1048576 < (p : Int)) = true := by simpa using hd4'
              go_wp2
              go_ret
              exact ⟨someBool _, rfl⟩
            · have hd4 : decide (1048576 < (p : Int)) = false := by simpa using hd4'
              by_cases hd5' : 1048576 < z1 + (m : Int) + (p : Int)
              · have hd5 : decide (1048576 < z1 + (m : Int) + (p : Int)) = true := by simpa using hd5'
                go_wp2
                go_ret
                exact ⟨someBool _, rfl⟩
              · have hd5 : decide (1048576 < z1 + (m : Int) + (p : Int)) = false := by simpa using hd5'
                go_wp2
                go_loop [7, 9] (fun t i => ∃ (k : Nat) (z : Int), k ≤ p ∧ i = .int .i64 k ∧ t = .int .i64 z ∧ 0 ≤ z ∧ z ≤ 1048576) (fun _ i => p - (intOf i).toNat)
                case atStart => exact ⟨0, _, Nat.zero_le _, rfl, rfl, by omega, by omega⟩
                case round =>
                  obtain ⟨k3, z3, hk3, rfl, rfl, hz03, hz13⟩ := hrel
                  by_cases hlt3 : k3 < p
                  · obtain ⟨b, o, rfl, hcell⟩ := HC3.out k3 (by rw [← HN3.out]; exact hlt3)
                    have hs := HS3.out k3 (by rw [← HN3.out]; exact hlt3)
                    obtain ⟨x, hx⟩ : ∃ x, x = fs[k3]'(by rw [← HN3.out]; exact hlt3) := ⟨_, rfl⟩
                    rw [← hx] at hcell hs
                    clear hx
                    go_wp2
                    · go_ret
                      exact ⟨someBool _, rfl⟩
                    · go_ret
                      exact ⟨someBool _, rfl⟩
                    · go_round
                      case rel => exact ⟨k3 + 1, _, by omega, by go_num, rfl, by omega, by omega⟩
                      case measure => simp [intOf]; omega
                  · skip
                    go_wp2
                    go_ret
                    exact ⟨someBool _, rfl⟩

set_option maxHeartbeats 1600000 in
theorem zz20_calls (v u x : Value) (ks : List ByteArray) (zs : List Int) (fs : List ByteArray) (s : ByteArray) (hs4 : s.size ≤ 9223372036854775807) (w : World) (h1 : StrsAt w v ks) (h2 : IntsAt w u zs) (h3 : StrsAt w x fs) : Calls Try.prog 20 #[v, u, x, .string s] w fun e w' => SomeBool e ∧ w' = w := by
  obtain ⟨ao1, cap1, rfl, hn1, hsz1, hc1⟩ := h1
  have HC1 := Lib.hid hc1
  have HS1 := Lib.hid hsz1
  clear hc1 hsz1
  obtain ⟨n, hN1⟩ : ∃ n, n = ks.length := ⟨_, rfl⟩
  rw [← hN1] at hn1 ⊢
  have HN1 := Lib.hid hN1
  clear hN1
  obtain ⟨ao2, cap2, rfl, hn2, -, -⟩ := h2
  obtain ⟨m, hN2⟩ : ∃ n, n = zs.length := ⟨_, rfl⟩
  rw [← hN2] at hn2 ⊢
  clear hN2
  obtain ⟨ao3, cap3, rfl, hn3, hsz3, hc3⟩ := h3
  have HC3 := Lib.hid hc3
  have HS3 := Lib.hid hsz3
  clear hc3 hsz3
  obtain ⟨p, hN3⟩ : ∃ n, n = fs.length := ⟨_, rfl⟩
  rw [← hN3] at hn3 ⊢
  have HN3 := Lib.hid hN3
  clear hN3
  by_cases hd1' : 1048576 < (n : Int)
  · have hd1 : decide (1048576 < (n : Int)) = true := by simpa using hd1'
    go_enter Try.func20, Try.ntmps20
    go_wp2
    go_ret
    exact ⟨someBool _, rfl⟩
  · have hd1 : decide (1048576 < (n : Int)) = false := by simpa using hd1'
    go_enter Try.func20, Try.ntmps20
    go_wp2
    go_loop [9, 10] (fun t i => ∃ (k : Nat) (z : Int), k ≤ n ∧ i = .int .i64 k ∧ t = .int .i64 z ∧ 0 ≤ z ∧ z ≤ 1048576) (fun _ i => n - (intOf i).toNat)
    case atStart => exact ⟨0, _, Nat.zero_le _, rfl, rfl, by omega, by omega⟩
    case round =>
      obtain ⟨k1, z1, hk1, rfl, rfl, hz01, hz11⟩ := hrel
      by_cases hlt1 : k1 < n
      · obtain ⟨b, o, rfl, hcell⟩ := HC1.out k1 (by rw [← HN1.out]; exact hlt1)
        have hs := HS1.out k1 (by rw [← HN1.out]; exact hlt1)
        obtain ⟨x, hx⟩ : ∃ x, x = ks[k1]'(by rw [← HN1.out]; exact hlt1) := ⟨_, rfl⟩
        rw [← hx] at hcell hs
        clear hx
        go_wp2
        · go_ret
          exact ⟨someBool _, rfl⟩
        · go_ret
          exact ⟨someBool _, rfl⟩
        · go_round
          case rel => exact ⟨k1 + 1, _, by omega, by go_num, rfl, by omega, by omega⟩
          case measure => simp [intOf]; omega
      · skip
        by_cases hd2' : 1048576 < (m : Int)
        · have hd2 : decide (1048576 < (m : Int)) = true := by simpa using hd2'
          go_wp2
          go_ret
          exact ⟨someBool _, rfl⟩
        · have hd2 : decide (1048576 < (m : Int)) = false := by simpa using hd2'
          by_cases hd3' : 1048576 < z1 + (m : Int)
          · have hd3 : decide (1048576 < z1 + (m : Int)) = true := by simpa using hd3'
            go_wp2
            go_ret
            exact ⟨someBool _, rfl⟩
          · have hd3 : decide (1048576 < z1 + (m : Int)) = false := by simpa using hd3'
            by_cases hd4' : 1048576 < (p : Int)
            · have hd4 : decide (1048576 < (p : Int)) = true := by simpa using hd4'
              go_wp2
              go_ret
              exact ⟨someBool _, rfl⟩
            · have hd4 : decide (1048576 < (p : Int)) = false := by simpa using hd4'
              by_cases hd5' : 1048576 < z1 + (m : Int) + (p : Int)
              · have hd5 : decide (1048576 < z1 + (m : Int) + (p : Int)) = true := by simpa using hd5'
                go_wp2
                go_ret
                exact ⟨someBool _, rfl⟩
              · have hd5 : decide (1048576 < z1 + (m : Int) + (p : Int)) = false := by simpa using hd5'
                go_wp2
                go_loop [9, 11] (fun t i => ∃ (k : Nat) (z : Int), k ≤ p ∧ i = .int .i64 k ∧ t = .int .i64 z ∧ 0 ≤ z ∧ z ≤ 1048576) (fun _ i => p - (intOf i).toNat)
                case atStart => exact ⟨0, _, Nat.zero_le _, rfl, rfl, by omega, by omega⟩
                case round =>
                  obtain ⟨k3, z3, hk3, rfl, rfl, hz03, hz13⟩ := hrel
                  by_cases hlt3 : k3 < p
                  · obtain ⟨b, o, rfl, hcell⟩ := HC3.out k3 (by rw [← HN3.out]; exact hlt3)
                    have hs := HS3.out k3 (by rw [← HN3.out]; exact hlt3)
                    obtain ⟨x, hx⟩ : ∃ x, x = fs[k3]'(by rw [← HN3.out]; exact hlt3) := ⟨_, rfl⟩
                    rw [← hx] at hcell hs
                    clear hx
                    go_wp2
                    · go_ret
                      exact ⟨someBool _, rfl⟩
                    · go_ret
                      exact ⟨someBool _, rfl⟩
                    · go_round
                      case rel => exact ⟨k3 + 1, _, by omega, by go_num, rfl, by omega, by omega⟩
                      case measure => simp [intOf]; omega
                  · skip
                    by_cases hd6' : 1048576 < (s.size : Int)
                    · have hd6 : decide (1048576 < (s.size : Int)) = true := by simpa using hd6'
                      go_wp2
                      go_ret
                      exact ⟨someBool _, rfl⟩
                    · have hd6 : decide (1048576 < (s.size : Int)) = false := by simpa using hd6'
                      by_cases hd7' : 1048576 < z3 + (s.size : Int)
                      · have hd7 : decide (1048576 < z3 + (s.size : Int)) = true := by simpa using hd7'
                        go_wp2
                        go_ret
                        exact ⟨someBool _, rfl⟩
                      · have hd7 : decide (1048576 < z3 + (s.size : Int)) = false := by simpa using hd7'
                        go_wp2
                        go_ret
                        exact ⟨someBool _, rfl⟩
end Go.Proofs.Qxb6600390a

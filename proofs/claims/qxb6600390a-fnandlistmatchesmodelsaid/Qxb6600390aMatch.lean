import Derived.Test.Qxb6600390aModel
namespace Go.Proofs.Qxb6600390a
open Go.RowKit

set_option maxHeartbeats 3200000 in
set_option maxRecDepth 100000 in
theorem match_walk (v : Value) (ss : List ByteArray) (w : World) (h : StrsAt w v ss) :
    Calls Try.prog 3 #[v] w fun e w' => e = .returned (.bool true) ∧ Below w.heap.size w w' := by
  have hv := h
  obtain ⟨ao, cap, rfl, hlen, -, -⟩ := hv
  go_enter Try.func3, Try.ntmps3
  go_wp2_with fail
  refine (zz7_calls _ ss _ h).mono ?_
  rintro e w' ⟨⟨b, rfl⟩, rfl⟩
  cases b with
  | false =>
    go_wp2
    go_ret
    exact ⟨rfl, Below.refl _ _⟩
  | true =>
    go_wp2_with fail
    refine (strBytes_calls _ ss _ h).mono ?_
    rintro e w1 ⟨r, rfl, rfl, -, -, hr⟩
    by_cases hbig : 1048576 < r
    · clear hr
      go_wp2
      go_ret
      exact ⟨rfl, Below.refl _ _⟩
    · have ht := hr (by omega)
      have hl := len_of_tot ss
      have HT := Lib.hid ht
      have hn : ss.length ≤ 65536 := by omega
      clear hr ht hl
      by_cases hz : ss.length = 0
      · have hz1 : ((ss.length : Int) == 0) = true := by rw [beq_iff_eq]; omega
        clear hz
        go_wp2
        go_ret
        exact ⟨rfl, Below.refl _ _⟩
      · have hz1 : ((ss.length : Int) == 0) = false := by rw [beq_eq_false_iff_ne]; omega
        have h0 : 0 < ss.length := by omega
        go_wp2_with fail
        refine (cloneN_calls _ ss _ (by omega) h h0).mono ?_
        rintro e w2 ⟨rfl, hN, hb2⟩
        go_wp2_with fail
        refine (zzand_calls _ _ _ ss _ hN HT.out h0 (by omega)).mono ?_
        rintro e w3 ⟨g, rfl, hg, hb3⟩
        have hN3 := hN.later hb3
        have hb13 : Below w1.heap.size w1 w3 := hb2.trans (hb3.mono hb2.size)
        go_wp2_with fail
        refine (model_calls _ _ _ ss _ hN3 HT.out).mono ?_
        rintro e w4 ⟨rfl, hb4⟩
        have HB := Lib.hid (hb13.trans (hb4.mono hb13.size))
        have heq : g.data.toList = (⟨(modelTo (bl ss) ss.length).toArray⟩ : ByteArray).data.toList := by
          have := model_is (bl ss) (by rw [bl_len]; exact h0)
          rw [bl_len] at this
          rw [hg, this]
        obtain rfl := WideShapes.bytes_inj heq
        clear hN hb2 hb3 hN3 hb13 hb4 hg h heq
        go_wp2
        go_ret
        exact ⟨rfl, HB.out⟩
end Go.Proofs.Qxb6600390a

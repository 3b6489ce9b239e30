import Derived.Test.Qxb6600390aAnd
namespace Go.Proofs.Qxb6600390a
open Go.RowKit

theorem drewN_below (B : Nat) (w : World) (q : Nat) : Below B w (w.drewN q) := ⟨rfl, rfl, rfl, Nat.le_refl _, fun _ _ => rfl⟩
theorem peel_rest (B o k : Nat) (rest : List ByteArray) (w : World) (h : NamesAt w B o k rest) (ht : tot rest ≤ 1048576) (hk : rest.length = k) (h2 : 2 ≤ k) (G2 : ByteArray) (hG : Hid (G2 = ⟨(andL (bl rest)).toArray⟩)) :
    Calls Try.prog 10 #[.slice (some ⟨B, o, none⟩) k k] w fun e w' => e = .returned (.string G2) ∧ Below w.heap.size w w' := by
  have hl := len_of_tot rest
  have := zzand_calls B o k rest w h ht (by omega) (by omega)
  rw [hk] at this
  refine this.mono fun e w' ⟨r, he, hr, hb⟩ => ⟨?_, hb⟩
  rw [he, hG.out]
  exact congrArg (fun b => Ending.returned (.string b)) (WideShapes.bytes_inj hr)

set_option maxHeartbeats 3200000 in
set_option maxRecDepth 100000 in
theorem peel_walk (v : Value) (ss : List ByteArray) (w : World) (h : StrsAt w v ss) :
    Calls Try.prog 4 #[v] w fun e w' => e = .returned (.bool true) ∧ Below w.heap.size w w' := by
  have hv := h
  obtain ⟨ao, cap, rfl, hlen, -, -⟩ := hv
  go_enter Try.func4, Try.ntmps4
  go_wp2_with fail
  refine (zz12_calls _ ss _ h).mono ?_
  rintro e w' ⟨⟨b, rfl⟩, rfl⟩
  cases b with
  | false =>
    go_wp2
    go_ret
    exact ⟨rfl, Below.refl _ _⟩
  | true =>
    go_wp2_with fail
    refine (strBytes_calls _ ss _ h).mono ?_
    rintro e w1 ⟨r, rfl, rfl, -, -, hr⟩
    by_cases hbig : 1048576 < r
    · clear hr
      go_wp2
      go_ret
      exact ⟨rfl, Below.refl _ _⟩
    · have ht := hr (by omega)
      have hl := len_of_tot ss
      have HT := Lib.hid ht
      have hn : ss.length ≤ 65536 := by omega
      clear hr ht hl
      by_cases hz : ss.length = 0
      · have hz1 : ((ss.length : Int) == 0) = true := by rw [beq_iff_eq]; omega
        clear hz
        go_wp2
        go_ret
        exact ⟨rfl, Below.refl _ _⟩
      · have hz1 : ((ss.length : Int) == 0) = false := by rw [beq_eq_false_iff_ne]; omega
        have h0 : 0 < ss.length := by omega
        go_wp2_with fail
        refine (cloneN_calls _ ss _ (by omega) h h0).mono ?_
        rintro e w2 ⟨rfl, hN, hb2⟩
        go_wp2_with fail
        refine (zzand_calls _ _ _ ss _ hN HT.out h0 (by omega)).mono ?_
        rintro e w3 ⟨g, rfl, hg, hb3⟩
        have hN3 := hN.later hb3
        have hb13 : Below w1.heap.size w1 w3 := hb2.trans (hb3.mono hb2.size)
        have HB := Lib.hid hb13
        have HG := Lib.hid hg
        have HN := Lib.hid hN3
        clear hN hb2 hb3 hN3 hb13 hg h
        by_cases h1 : ss.length = 1
        · match ss, h1 with
          | [x], _ =>
            have hc0 := HN.out.cell 0 (by simp)
            simp only [List.getElem_cons_zero, Nat.add_zero] at hc0
            have heq : (g.toList == x.toList) = true := by
              have := HG.out
              rw [ByteArray.toList_eq, ByteArray.toList_eq, this]
              simp [bl, andL_one]
            go_wp2
            go_ret
            exact ⟨rfl, HB.out⟩
        · by_cases h2 : ss.length = 2
          · match ss, h2 with
            | [x, y], _ =>
              have hc0 := HN.out.cell 0 (by simp)
              have hc1 := HN.out.cell 1 (by simp)
              simp only [List.getElem_cons_zero, List.getElem_cons_succ, Nat.add_zero, Nat.zero_add] at hc0 hc1
              have heq : g.data.toList = (x ++ ⟨#[32, 97, 110, 100, 32]⟩ ++ y : ByteArray).data.toList := by
                rw [HG.out, app_data, app_data]
                simp [bl, andL_two]
                rfl
              obtain rfl := WideShapes.bytes_inj heq
              have hs := HT.out
              simp only [tot] at hs
              have hx : x.size ≤ 1048576 := by omega
              have hy : y.size ≤ 1048576 := by omega
              clear heq
              go_wp2
              go_quiet (fail)
              go_wp2
              go_ret
              exact ⟨rfl, HB.out.trans (drewN_below _ _ _)⟩
          · obtain ⟨k, hk⟩ : ∃ k, ss.length = k + 1 := ⟨ss.length - 1, by omega⟩
            match ss, hk with
            | x :: rest, hk =>
              have hk2 : rest.length = k := by simpa using hk
              have hk3 : 2 ≤ k := by rw [List.length_cons] at h1 h2; omega
              have hc0 := HN.out.cell 0 (by simp)
              simp only [List.getElem_cons_zero, Nat.add_zero] at hc0
              have hs := HT.out
              simp only [tot] at hs
              have hx : x.size ≤ 1048576 := by omega
              have htr : tot rest ≤ 1048576 := by omega
              obtain ⟨G2, hG2⟩ : ∃ G2 : ByteArray, G2 = ⟨(andL (bl rest)).toArray⟩ := ⟨_, rfl⟩
              have hGs : G2.size ≤ 1048576 := by
                have := andL_len rest (by omega)
                rw [hG2]; show (andL (bl rest)).toArray.size ≤ _
                rw [List.size_toArray]; omega
              have heq : g.data.toList = (x ++ ⟨#[44, 32]⟩ ++ G2 : ByteArray).data.toList := by
                rw [HG.out, app_data, app_data, hG2]
                exact andL_cons x.data.toList (bl rest) (by rw [bl_len]; omega)
              obtain rfl := WideShapes.bytes_inj heq
              have hNt : NamesAt w3 w1.heap.size 1 k rest := by
                have := HN.out.tail
                rw [List.length_cons, hk2] at this
                simpa using this
              have HNT := Lib.hid hNt
              have HTR := Lib.hid htr
              have HG2 := Lib.hid hG2
              have HK := Lib.hid hk2
              have hx2 : (x ++ ⟨#[44, 32]⟩ : ByteArray).size ≤ 1048578 := by rw [ByteArray.size_append]; show x.size + 2 ≤ _; omega
              have hkI : ¬ k = 0 := by omega
              have hd1 : (((k : Int) + 1) == 1) = false := by rw [beq_eq_false_iff_ne]; omega
              have hd2 : (((k : Int) + 1) == 2) = false := by rw [beq_eq_false_iff_ne]; omega
              have hkn : k ≤ 65536 := by rw [List.length_cons] at hn; omega
              rw [hk]
              clear heq hNt htr hG2 hs hk2 h1 h2 hz hz1 h0 hn hlen hk HG
              go_wp2
              go_region_with (go_at_call 10; refine (peel_rest _ 1 k rest _ (HNT.out.drew) HTR.out HK.out hk3 G2 HG2).mono ?_; rintro e w4 ⟨rfl, hb4⟩; have hc4 := cell_later hb4 hc0)
              all_goals
                go_wp2
                go_ret
                exact ⟨rfl, HB.out.trans ((below_drew hb4).mono HB.out.size)⟩
end Go.Proofs.Qxb6600390a

import Derived.Test.Qxb6600338aDoorEnc
import Derived.Laws.OwnMore
namespace Go.Proofs.Qxb6600338aDoor
open Go.Shelf Go.RowKit

theorem gPow : Tryd.prog.globalNamed powName = some 2 := by kernel_rfl

/-- The early ways out: a bound on the lengths. -/
theorem spec_early (ao : Option Addr) (n cap : Nat) (s : ByteArray) (hn : n ≤ 9223372036854775807) (hs : s.size ≤ 9223372036854775807) (w : World) (h : 524288 < (n : Int) ∨ 524288 < (s.size : Int)) :
    Calls Tryd.prog 6 #[.slice ao n cap, .string s] w fun e w' => e = .returned (.bool true) ∧ w' = w := by
  by_cases h1 : 1048576 < (n : Int)
  · go_enter Tryd.func6, Tryd.ntmps6
    go_wp2
    go_ret
    exact ⟨rfl, rfl⟩
  · by_cases h2 : 1048576 < (s.size : Int)
    · go_enter Tryd.func6, Tryd.ntmps6
      go_wp2
      go_ret
      exact ⟨rfl, rfl⟩
    · by_cases h3 : 1048576 < (n : Int) + (s.size : Int)
      · go_enter Tryd.func6, Tryd.ntmps6
        go_wp2
        go_ret
        exact ⟨rfl, rfl⟩
      · by_cases h4 : 524288 < (n : Int)
        · go_enter Tryd.func6, Tryd.ntmps6
          go_wp2
          go_ret
          exact ⟨rfl, rfl⟩
        · have h5 : 524288 < (s.size : Int) := by omega
          clear h
          go_enter Tryd.func6, Tryd.ntmps6
          go_wp2
          go_ret
          exact ⟨rfl, rfl⟩

theorem owns_shape {w : World} {B : Nat} {v : Value} {n : Nat} {xs : List Value} (h : w.ownsRow B 5 1 v n xs) : ∃ ao cap, v = .slice ao n cap := by
  rcases h.2 with ⟨h1, h2⟩ | ⟨g, cap, cur, h1, -⟩
  · exact ⟨none, 0, by rw [h1, h2]⟩
  · exact ⟨_, _, h1⟩

theorem drewN_below (B : Nat) (w : World) (q : Nat) : Below B w (w.drewN q) := ⟨rfl, rfl, rfl, Nat.le_refl _, fun _ _ => rfl⟩
theorem below_mono {B B' : Nat} {w w' : World} (h : Below B w w') (hB : B' ≤ B) : Below B' w w' := h.mono hB
theorem make_room (w : World) (n k : Nat) (hn : n ≤ 1048576) (hk : k ≤ 1048576) : ∃ w5, (Instr.makeSlice 29 (.int .i64 (n : Int)) (.int .i64 ((n : Int) + (k : Int) + 16))).run Tryd.prog w = .ok (.slice (some ⟨w.heap.size, 0, none⟩) n (n + k + 16)) w5 ∧
    w5.heap[w.heap.size]? = some (.cells (List.replicate (n + k + 16) (Value.int .u8 0)).toArray 5 (0, 0)) ∧ Below w.heap.size w w5 := by
  obtain ⟨i0, hi, hz0, hz1, hz2⟩ := info_parts Tryd.info5
  have hmk := run_make (P := Tryd.prog) w 29 5 i0 (.int .u8 0) Tryd.underlying29 hi hz0 .i64 .i64 (n : Int) ((n : Int) + (k : Int) + 16) (by omega) (by omega) (by rw [hz2]; omega) (by omega)
  have e : ((n : Int) + (k : Int) + 16).toNat = n + k + 16 := by omega
  rw [e, Int.toNat_natCast, hz1, Nat.mul_one] at hmk
  refine ⟨_, hmk, ?_, (Below.refl _ _).alloc (Nat.le_refl _) _⟩
  have h := heap_alloc_new w (.cells (madeCells (Value.int .u8 0).cells (n + k + 16)) 5)
  rw [h]
  congr 2
  apply Array.ext'
  rw [show (Value.int .u8 0).cells = #[Value.int .u8 0] from rfl, toList_madeCells_one]

set_option maxHeartbeats 1600000 in
set_option maxRecDepth 100000 in
theorem spec_main (ao : Option Addr) (cap : Nat) (l : List UInt8) (s : ByteArray) (w : World) (hn : (l.length : Int) ≤ 524288) (hs : (s.size : Int) ≤ 524288) (hR : Reads w (.slice ao l.length cap) l)
    (htab : Lib.TabIs Tryd.prog w powName .u64 Lib.pow10Tab) :
    Calls Tryd.prog 6 #[.slice ao l.length cap, .string s] w fun e w' => e = .returned (.bool true) ∧ Below w.heap.size w w' := by
  obtain ⟨i0, hi, hz0, hz1, hz2⟩ := info_parts Tryd.info5
  have hn' : l.length ≤ 1048576 := by omega
  have hs' : s.size ≤ 1048576 := by omega
  go_enter Tryd.func6, Tryd.ntmps6
  go_wp2_with (first | (go_at_call 19; refine (clone_calls _ l hn' w hR).mono ?_; rintro e w1 ⟨v1, rfl, ho1, hb1⟩; refine Hid.out ?_) | (go_at_call 18; go_in))
  refine Lib.hid ?_
  obtain ⟨ao1, cap1, rfl⟩ := owns_shape ho1
  have HO1 := Lib.hid ho1
  clear ho1 hR
  go_wp2_with (go_at_call 19; refine (clone_calls _ l hn' w1 (Reads.of_owns HO1.out)).mono ?_; rintro e w2 ⟨v2, rfl, ho2, hb2⟩; refine Hid.out ?_)
  refine Lib.hid ?_
  have hT1 : Lib.TabIs Tryd.prog w1 powName .u64 Lib.pow10Tab := Joins.tab_stays gPow htab hb1 (Nat.le_refl _)
  have hT2 := (Lib.tabBelow_of_tabIs hT1).on hb2
  go_wp2_with (go_at_call 20; refine (zzapp_calls w1.heap.size l.length v2 _ s hs' hn' w2 ho2 hb2.size hT2).mono ?_; rintro e w3 ⟨v3, rfl, ho3, hb3⟩; refine Hid.out ?_)
  refine Lib.hid ?_
  have hb13 := hb2.trans hb3
  have ho1b := owns_below HO1.out hb13 (Nat.le_refl _)
  go_wp2_with (go_at_call 21; refine (enc_calls _ _ _ _ l s w3 hn' hs' ho3 ho1b).mono ?_; rintro e w4 ⟨rfl, q, rfl⟩; refine Hid.out ?_)
  refine Lib.hid ?_
  clear ho2 ho3 hb2 hb3 hT2 ho1b
  have hb14 : Below w1.heap.size w1 (w3.drewN q) := hb13.trans (drewN_below _ _ _)
  obtain ⟨w5, hmk, hg5, hb5⟩ := make_room (w3.drewN q) l.length s.size (by omega) (by omega)
  rw [World.heap_drewN] at hmk hg5 hb5
  have hb35 : Below w3.heap.size w3 w5 := (drewN_below _ _ _).trans hb5
  have hb15 : Below w1.heap.size w1 w5 := hb14.trans (below_mono hb5 hb13.size)
  have ho1c := owns_below HO1.out hb15 (Nat.le_refl _)
  obtain ⟨w6, hcp, hg6, hb6⟩ := copy_run (W := w5) (g := w3.heap.size) _ l (l.length + s.size + 16) ao1 cap1 hg5 (by simp; omega) (fun h0 => by
    rcases (Reads.of_owns ho1c).is with ⟨h1, h2⟩ | ⟨ad, cp, h1, h2⟩
    · rw [h2] at h0; simp at h0
    · simp only [Value.slice.injEq] at h1
      exact ⟨ad, h1.1, h2⟩)
  have hb36 : Below w3.heap.size w3 w6 := hb35.trans (hb6 _ (Nat.le_refl _))
  have ho6 : w6.ownsRow w3.heap.size 5 1 (.slice (some ⟨w3.heap.size, 0, none⟩) l.length (l.length + s.size + 16)) l.length (Lib.byteCells l) := owns_of_row (by simp) (Lib.byteCells_length l) (by omega) (by unfold maxLen; omega) hg6 (Nat.le_refl _)
  have hT3 : Lib.TabIs Tryd.prog w3 powName .u64 Lib.pow10Tab := Joins.tab_stays gPow hT1 hb13 (Nat.le_refl _)
  have hT6 := (Lib.tabBelow_of_tabIs hT3).on hb36
  have H6 := Lib.hid ho6
  clear ho6 hg5 hg6 hb5 hb35 hb15 ho1c hb6 hT3 hi hz0 hz1 hz2
  go_wp2_with (go_at_call 20; refine (zzapp_calls w3.heap.size l.length _ _ s hs' hn' w6 H6.out hb36.size hT6).mono ?_; rintro e w7 ⟨v7, rfl, ho7, hb7⟩; refine Hid.out ?_)
  refine Lib.hid ?_
  have hb37 := hb36.trans hb7
  have hb17 : Below w1.heap.size w1 w7 := hb13.trans (below_mono hb37 hb13.size)
  have ho1d := owns_below HO1.out hb17 (Nat.le_refl _)
  clear hcp hmk
  go_wp2_with (go_at_call 21; refine (enc_calls _ _ _ _ l s w7 hn' hs' ho7 ho1d).mono ?_; rintro e w8 ⟨rfl, q2, rfl⟩)
  go_ret
  exact ⟨rfl, (hb1.trans (below_mono hb17 hb1.size)).trans (drewN_below _ _ _)⟩
end Go.Proofs.Qxb6600338aDoor

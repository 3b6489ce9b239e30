import Derived.Test.Qxb6600390aClone
import Derived.Test.Qxb6600390aShelf
import Derived.Test.Qxb6600390aAndPlain
import Derived.Deep.QuietTactic
import Derived.BigQuiet
import Derived.Deep.RegionWith
import Derived.BigCall
namespace Go.Proofs.Qxb6600390a
open Go.RowKit

/-- Names that lie one behind the other in block B from o on. -/
structure NamesAt (w : World) (B o c : Nat) (ss : List ByteArray) : Prop where
  lt : B < w.heap.size
  cap : ss.length ≤ c
  cell : ∀ j (hj : j < ss.length), w.cell? ⟨B, o + j, none⟩ = some (.string ss[j])
theorem NamesAt.drewN {w : World} {B o c : Nat} {ss : List ByteArray} (h : NamesAt w B o c ss) (q : Nat) : NamesAt (w.drewN q) B o c ss := ⟨h.lt, h.cap, h.cell⟩
theorem NamesAt.drew {w : World} {B o c : Nat} {ss : List ByteArray} (h : NamesAt w B o c ss) : NamesAt w.drew B o c ss := ⟨h.lt, h.cap, h.cell⟩
theorem NamesAt.later {w w' : World} {B o c : Nat} {ss : List ByteArray} (h : NamesAt w B o c ss) (hb : Below w.heap.size w w') : NamesAt w' B o c ss :=
  ⟨Nat.lt_of_lt_of_le h.lt hb.size, h.cap, fun j hj => cell_later hb (h.cell j hj)⟩
theorem NamesAt.tail {w : World} {B o c : Nat} {s : ByteArray} {ss : List ByteArray} (h : NamesAt w B o c (s :: ss)) : NamesAt w B (o + 1) (c - 1) ss :=
  ⟨h.lt, by have := h.cap; simp at this; omega, fun j hj => by
    have := h.cell (j + 1) (by simpa using hj)
    rw [show o + (j + 1) = o + 1 + j by omega] at this
    simpa using this⟩

/-- The names' bytes. -/
def bl (ss : List ByteArray) : List (List UInt8) := ss.map (·.data.toList)
theorem bl_len (ss : List ByteArray) : (bl ss).length = ss.length := by simp [bl]
theorem wt_bl (ss : List ByteArray) : wt (bl ss) = tot ss := by
  induction ss with
  | nil => rfl
  | cons s r ih =>
    have : s.data.toList.length = s.size := by simp
    simp only [bl, List.map_cons, wt, tot] at ih ⊢
    rw [ih, this]
theorem model_len (ss : List ByteArray) (k : Nat) (hk : k ≤ ss.length) : (modelTo (bl ss) k).length ≤ tot ss := by
  have h1 := modelTo_len (bl ss) k (by rw [bl_len]; exact hk)
  have h2 := wt_take (bl ss) k
  rw [wt_bl] at h2
  omega
theorem andL_len (ss : List ByteArray) (h : 0 < ss.length) : (andL (bl ss)).length ≤ tot ss := by
  rw [← model_is (bl ss) (by rw [bl_len]; exact h)]
  exact model_len ss _ (by rw [bl_len]; exact Nat.le_refl _)
theorem join_len (ss : List ByteArray) (m : Nat) (h0 : 0 < m) (hm : ss.length = m + 1) : (Lib.join (bl (ss.take m)) comma).length ≤ tot ss := by
  have e : bl (ss.take m) = (bl ss).take m := by simp [bl]
  rw [e, ← model_join (bl ss) m h0 (by rw [bl_len]; omega)]
  exact model_len ss m (by omega)

def commaB : ByteArray := ⟨#[44, 32]⟩
def conjB : ByteArray := ⟨#[32, 97, 110, 100, 32]⟩

/-- strings.Join of all names but the last. -/
theorem join_names (B o c m : Nat) (ss : List ByteArray) (w : World) (h : NamesAt w B o c ss) (ht : tot ss ≤ 1048576) (h0 : 0 < m) (hm : ss.length = m + 1) (J : ByteArray) (hJ : Hid (J = ⟨(Lib.join (bl (ss.take m)) comma).toArray⟩)) :
    Calls Try.prog 25 #[.slice (some ⟨B, o, none⟩) m c, .string commaB] w fun e w' => e = .returned (.string J) ∧ Below w.heap.size w w' := by
  have hl : (ss.take m).length = m := by simp; omega
  have hjl := join_len ss m h0 hm
  have := join_calls B o c (ss.take m) commaB w (fun j x hx => by
    obtain ⟨hj, rfl⟩ := List.getElem?_eq_some_iff.1 hx
    rw [hl] at hj
    have := h.cell j (by omega)
    rw [this]
    simp) h.lt (by rw [hl]; have := len_of_tot ss; omega) (by rw [hl]; have := h.cap; omega) (by show (Lib.join (bl (ss.take m)) comma).length ≤ _; omega)
  rw [hl] at this
  rw [hJ.out]
  exact this

theorem below_drew {w w1 : World} (h : Below w.drew.heap.size w.drew w1) : Below w.heap.size w w1 := ⟨h.os, h.tape, h.output, h.size, h.block⟩
theorem app_data (a b : ByteArray) : (a ++ b).data.toList = a.data.toList ++ b.data.toList := by simp [ByteArray.data_append]
theorem and_text (ss : List ByteArray) (m : Nat) (h0 : 0 < m) (hm : ss.length = m + 1) (J x : ByteArray) (hJ : Hid (J = ⟨(Lib.join (bl (ss.take m)) comma).toArray⟩)) (hx : Hid (x = ss.getD m ByteArray.empty)) :
    (J ++ ⟨#[32, 97, 110, 100, 32]⟩ ++ x : ByteArray).data.toList = andL (bl ss) := by
  have hb : (bl ss).length = m + 1 := by rw [bl_len, hm]
  have e1 : bl (ss.take m) = (bl ss).take m := by simp [bl]
  have e2 : (bl ss).getD m [] = x.data.toList := by
    rw [hx.out]; simp [bl, List.getD, hm]
  unfold andL
  rw [if_neg (by omega), hb, show m + 1 - 1 = m by omega, e2, ← e1, app_data, app_data, hJ.out]
  rfl

set_option maxHeartbeats 1600000 in
set_option maxRecDepth 100000 in
theorem and_many (B o c m : Nat) (ss : List ByteArray) (w : World) (h : NamesAt w B o c ss) (ht : tot ss ≤ 1048576) (h0 : 0 < m) (hm : ss.length = m + 1) (_hc : c ≤ 9223372036854775807) :
    Calls Try.prog 22 #[.slice (some ⟨B, o, none⟩) (m + 1) c] w fun e w' => ∃ r : ByteArray, e = .returned (.string r) ∧ r.data.toList = andL (bl ss) ∧ Below w.heap.size w w' := by
  have hmc : m + 1 ≤ c := by rw [← hm]; exact h.cap
  have hmt : m ≤ 65536 := by have := len_of_tot ss; omega
  have hlast := h.cell m (by omega)
  have hlsz := size_of_tot ss m (by omega)
  have hge : ss.getD m ByteArray.empty = ss[m] := by simp [List.getD, hm]
  rw [← hge] at hlast hlsz
  obtain ⟨x, hx⟩ : ∃ x, x = ss.getD m ByteArray.empty := ⟨_, rfl⟩
  rw [← hx] at hlast hlsz
  clear hge
  obtain ⟨J, hJ⟩ : ∃ J : ByteArray, J = ⟨(Lib.join (bl (ss.take m)) comma).toArray⟩ := ⟨_, rfl⟩
  have hJs : J.size ≤ 1048576 := by
    have := join_len ss m h0 hm
    rw [hJ]; show (Lib.join (bl (ss.take m)) comma).toArray.size ≤ _
    rw [List.size_toArray]; omega
  have HJ := Lib.hid hJ
  have HX := Lib.hid hx
  have HN := Lib.hid h
  have HM := Lib.hid hm
  have HT := Lib.hid ht
  have hd1 : (((m : Int) + 1) == 1) = false := by rw [beq_eq_false_iff_ne]; omega
  have hxs : x.size ≤ 1048576 := by omega
  have hJ5 : (J ++ ⟨#[32, 97, 110, 100, 32]⟩ : ByteArray).size ≤ 1048581 := by rw [ByteArray.size_append]; show J.size + 5 ≤ _; omega
  have hmI : (m : Int) ≤ (c : Int) := by omega
  have hc0 : ¬ c = 0 := by omega
  have hwm : IntKind.i64.wrap (m : Int) = (m : Int) := by rw [IntKind.wrap_i64]; omega
  clear hJ hx h hm ht hlsz
  go_enter Try.func22, Try.ntmps22
  go_wp2
  go_region_with (go_at_call 25; refine (join_names B o c m ss _ (HN.out.drew) HT.out h0 HM.out J HJ).mono ?_; rintro e w1 ⟨rfl, hb1⟩; have hl1 := cell_later hb1 hlast)
  all_goals
    go_wp2
    go_ret
    exact ⟨_, rfl, and_text ss m h0 HM.out J x HJ HX, below_drew hb1⟩

set_option maxHeartbeats 400000 in
theorem and_one (B o c : Nat) (x : ByteArray) (w : World) (h : w.cell? ⟨B, o, none⟩ = some (.string x)) :
    Calls Try.prog 22 #[.slice (some ⟨B, o, none⟩) 1 c] w fun e w' => e = .returned (.string x) ∧ w' = w := by
  go_enter Try.func22, Try.ntmps22
  go_wp2
  go_ret
  exact ⟨rfl, rfl⟩

/-- andList, for one name or more. -/
theorem and_calls (B o c : Nat) (ss : List ByteArray) (w : World) (h : NamesAt w B o c ss) (ht : tot ss ≤ 1048576) (h0 : 0 < ss.length) (hc : c ≤ 9223372036854775807) :
    Calls Try.prog 22 #[.slice (some ⟨B, o, none⟩) ss.length c] w fun e w' => ∃ r : ByteArray, e = .returned (.string r) ∧ r.data.toList = andL (bl ss) ∧ Below w.heap.size w w' := by
  obtain ⟨m, hm⟩ : ∃ m, ss.length = m + 1 := ⟨ss.length - 1, by omega⟩
  by_cases hz : m = 0
  · subst hz
    match ss, hm, h with
    | [x], _, h =>
      have hcell := h.cell 0 (by simp)
      refine (and_one B o c x w (by simpa using hcell)).mono fun e w' ⟨he, hw⟩ => ⟨x, he, ?_, by rw [hw]; exact Below.refl _ _⟩
      simp [bl, andL]
  · rw [hm]
    exact and_many B o c m ss w h ht (by omega) hm hc
set_option maxHeartbeats 400000 in
/-- ZZAndList. -/
theorem zzand_calls (B o c : Nat) (ss : List ByteArray) (w : World) (h : NamesAt w B o c ss) (ht : tot ss ≤ 1048576) (h0 : 0 < ss.length) (hc : c ≤ 9223372036854775807) :
    Calls Try.prog 10 #[.slice (some ⟨B, o, none⟩) ss.length c] w fun e w' => ∃ r : ByteArray, e = .returned (.string r) ∧ r.data.toList = andL (bl ss) ∧ Below w.heap.size w w' := by
  go_enter Try.func10, Try.ntmps10
  go_wp2_with (go_at_call 22; refine (and_calls B o c ss w h ht h0 hc).mono ?_; rintro e w1 ⟨r, rfl, hr, hb⟩)
  go_ret
  exact ⟨r, rfl, hr, hb⟩

set_option maxHeartbeats 800000 in
/-- cloneStrings of one name or more: where the copy lies. -/
theorem cloneN_calls (v : Value) (ss : List ByteArray) (w : World) (hn : ss.length ≤ 1048576) (h : StrsAt w v ss) (h0 : 0 < ss.length) :
    Calls Try.prog 9 #[v] w fun e w' => e = .returned (.slice (some ⟨w.heap.size, 0, none⟩) ss.length ss.length) ∧ NamesAt w' w.heap.size 0 ss.length ss ∧ Below w.heap.size w w' := by
  obtain ⟨ao, cap, rfl, h2, hsz, hc⟩ := h
  obtain ⟨b0, o0, rfl, -⟩ := hc 0 h0
  obtain ⟨i0, hi, hz0, hz1, hz2⟩ := info_parts Try.info9
  have hq := fun wx => Lib.run_eql_slice_nil (P := Try.prog) wx 22 9 (some ⟨b0, o0, none⟩) ss.length cap 0 0 Try.underlying22
  have hmk := run_make (P := Try.prog) w 22 9 i0 (.string ByteArray.empty) Try.underlying22 hi hz0 .i64 .i64 (ss.length : Int) (ss.length : Int) (by omega) (by omega) (by rw [hz2]; omega) (by omega)
  have hM : madeCells (Value.string ByteArray.empty).cells ((ss.length : Int).toNat * i0.size) = partCopy Value.string (.string ByteArray.empty) ss 0 := by
    rw [hz1, partCopy_zero]
    apply Array.ext'
    rw [show (Value.string ByteArray.empty).cells = #[Value.string ByteArray.empty] from rfl, toList_madeCells_one]
    simp
  rw [hM, Int.toNat_natCast] at hmk
  clear hM hi hz0 hz1 hz2
  have HC := Lib.hid hc
  clear hc hsz
  obtain ⟨n, hN⟩ : ∃ n, n = ss.length := ⟨_, rfl⟩
  rw [← hN] at hn hmk hq h0 ⊢
  have HN := Lib.hid hN
  clear hN
  go_enter Try.func9, Try.ntmps9
  go_wp2
  go_loopw [4] (fun i wr => ∃ k : Nat, k ≤ n ∧ i = .int .i64 k ∧ wr = w.alloc (.cells (partCopy Value.string (.string ByteArray.empty) ss k) 9)) (fun i _ => n - (intOf i).toNat)
  case atStart => exact ⟨0, Nat.zero_le _, rfl, rfl⟩
  case round =>
    obtain ⟨k, hk, rfl, rfl⟩ := hrel
    by_cases hlt : k < n
    · have hlt' : k < ss.length := by rw [← HN.out]; exact hlt
      obtain ⟨b, o, ha, hcell⟩ := HC.out k hlt'
      have ha2 := Option.some.inj ha
      simp only [Addr.mk.injEq] at ha2
      obtain ⟨rfl, rfl, -⟩ := ha2
      have hold : (w.alloc (.cells (partCopy Value.string (.string ByteArray.empty) ss k) 9)).cell? ⟨b0, o0 + k, none⟩ = some (.string ss[k]) := cell_later ((Below.refl _ _).alloc (Nat.le_refl _) _) hcell
      obtain ⟨y, hy⟩ := partCopy_cell Value.string (.string ByteArray.empty) ss k k (by omega) hlt'
      have hst := partCopy_step Value.string (.string ByteArray.empty) ss k hlt'
      obtain ⟨x, hx⟩ : ∃ x, x = ss[k] := ⟨_, rfl⟩
      rw [← hx] at hold hst
      have HST := Lib.hid hst
      clear hx hst hcell hlt' ha
      go_wp2
      go_roundw
      case rel => exact ⟨k + 1, by omega, by go_num, by rw [HST.out]⟩
      case measure => simp [intOf]; omega
    · obtain rfl : k = n := by omega
      go_wp2
      go_ret
      refine ⟨rfl, ⟨by simp, by rw [← HN.out]; exact Nat.le_refl _, fun j hj => ?_⟩, (Below.refl _ _).alloc (Nat.le_refl _) _⟩
      rw [HN.out, Nat.zero_add]
      rw [← partCopy_done Value.string (.string ByteArray.empty) ss j hj]
      simp
end Go.Proofs.Qxb6600390a

import Derived.Test.Qxb6600390aClone
import Derived.Maps.OwnSet
import Derived.Maps.RangeWalk
import Derived.Maps.Ext
import Derived.Maps.StringElems
import Derived.BigRegion
namespace Go.Proofs.Qxb6600390a
open Go.RowKit Go.Maps Go.WideShapes Go.WideMaps Go.WideElems

/-- The last place below k at which the header names c. -/
def lastB (ks : List ByteArray) : Nat → List UInt8 → Option Nat
  | 0, _ => none
  | k + 1, c => if (ks.getD k ByteArray.empty).data.toList = c then some k else lastB ks k c
/-- What the header's map reads as when k names have been laid. -/
def ColsOk (ks : List ByteArray) (zs : List Int) (k : Nat) (D : DataW Unit) : Prop :=
  ∀ c, (lastB ks k c = none → Maps.has D (.string c) = false) ∧ (∀ j, lastB ks k c = some j → ∀ z, D.atKey (.string c) z = .lit (.int .i64 (zs.getD j 0)))
theorem cols_start (ks : List ByteArray) (zs : List Int) : ColsOk ks zs 0 (.map []) := fun c => ⟨fun _ => rfl, fun j h => by simp [lastB] at h⟩
theorem cols_step {ks : List ByteArray} {zs : List Int} {k : Nat} {D : DataW Unit} (h : ColsOk ks zs k D) (hD : IsMap D) :
    ColsOk ks zs (k + 1) (D.put (.string (ks.getD k ByteArray.empty).data.toList) (.lit (.int .i64 (zs.getD k 0)))) := by
  intro c
  unfold lastB
  by_cases e : (ks.getD k ByteArray.empty).data.toList = c
  · rw [if_pos e]
    refine ⟨fun h => by simp at h, fun j hj z => ?_⟩
    obtain rfl := Option.some.inj hj
    rw [e]
    exact atKey_put_same hD (by trivial) _ _
  · rw [if_neg e]
    have hne : Lit.string c ≠ Lit.string (ks.getD k ByteArray.empty).data.toList := fun h => e (by cases h; rfl)
    refine ⟨fun h1 => ?_, fun j hj z => ?_⟩
    · rw [has_put_other hne]; exact (h c).1 h1
    · rw [atKey_put_other hne]; exact (h c).2 j hj z

theorem keyed : Keyed Try.prog 9 := string_keyed Try.underlying9
theorem run_makeMap31 (w : World) (n : Int) : (Instr.makeMap 31 (some (.int .i64 n))).run Try.prog w = .ok (.map (some w.heap.size)) (w.alloc (.map #[] 0)) := by
  simp [Instr.makeMap, run_underlying Try.underlying31, asInt, asIntOf, newObj]
  rfl
theorem run_makeMap33 (w : World) (n : Int) : (Instr.makeMap 33 (some (.int .i64 n))).run Try.prog w = .ok (.map (some w.heap.size)) (w.alloc (.map #[] 0)) := by
  simp [Instr.makeMap, run_underlying Try.underlying33, asInt, asIntOf, newObj]
  rfl

set_option maxHeartbeats 1600000 in
theorem cols_calls (v u : Value) (ks : List ByteArray) (zs : List Int) (w : World) (h1 : StrsAt w v ks) (h2 : IntsAt w u zs) (hl : ks.length = zs.length) (hn : ks.length ≤ 1048576) :
    Calls Try.prog 17 #[v, u] w fun e w' => e = .returned (.map (some w.heap.size)) ∧ ∃ D : DataW Unit, w'.ownsMap Try.prog 9 (plainElem Try.prog 3) w.heap.size ks.length D ∧ ColsOk ks zs ks.length D ∧ Below w.heap.size w w' := by
  obtain ⟨ao1, cap1, rfl, -, hs1, hc1⟩ := h1
  obtain ⟨ao2, cap2, rfl, -, hs2, hc2⟩ := h2
  have HC1 := Lib.hid hc1
  have HC2 := Lib.hid hc2
  have HS1 := Lib.hid hs1
  have HS2 := Lib.hid hs2
  have HL := Lib.hid hl
  rw [← hl]
  clear hc1 hc2 hs1 hs2 hl
  obtain ⟨n, hN⟩ : ∃ n, n = ks.length := ⟨_, rfl⟩
  rw [← hN] at hn ⊢
  have HN := Lib.hid hN
  clear hN
  have hmm := run_makeMap31 w (n : Int)
  go_enter Try.func17, Try.ntmps17
  go_wp2
  go_loopw [6] (fun i wr => ∃ (k : Nat) (D : DataW Unit), k ≤ n ∧ i = .int .i64 k ∧ wr.ownsMap Try.prog 9 (plainElem Try.prog 3) w.heap.size k D ∧ ColsOk ks zs k D ∧ Below w.heap.size w wr) (fun i _ => n - (intOf i).toNat)
  case atStart => exact ⟨0, .map [], Nat.zero_le _, rfl, World.ownsMap_made _ _ _ _, cols_start ks zs, (Below.refl _ _).alloc (Nat.le_refl _) _⟩
  case round =>
    obtain ⟨k, D, hk, rfl, hown, hok, hb⟩ := hrel
    have HO := Lib.hid hown
    have HK := Lib.hid hok
    clear hown hok
    by_cases hlt : k < n
    · have hlt1 : k < ks.length := by rw [← HN.out]; exact hlt
      have hlt2 : k < zs.length := by rw [← HL.out]; exact hlt1
      obtain ⟨b1, o1, rfl, hcell1⟩ := HC1.out k hlt1
      obtain ⟨b2, o2, rfl, hcell2⟩ := HC2.out k hlt2
      have hc1 := cell_later hb hcell1
      have hc2 := cell_later hb hcell2
      have hkey := keyOf_string_mk (P := Try.prog) (s := ks[k]) Try.underlying9 (by have := HS1.out k hlt1; unfold maxLen; omega)
      have hwf : (Lit.int .i64 zs[k]).wf = true := WalkArith.wf_i64 (HS2.out k hlt2)
      obtain ⟨w2, hrun, hown2, hgrow2⟩ := HO.out.drew.update keyed Try.underlying31 (by unfold maxLen; omega) hkey (plainElem_int Try.underlying3 hwf)
      have hok2 := cols_step HK.out HO.out.isMap
      have e1 : ks.getD k ByteArray.empty = ks[k] := by simp [List.getD, hlt1]
      have e2 : zs.getD k 0 = zs[k] := by simp [List.getD, hlt2]
      rw [e1, e2] at hok2
      have H2 := Lib.hid hown2
      have HK2 := Lib.hid hok2
      have hb2 : Below w.heap.size w w2 := (hb.drew).grown hgrow2 hb.size (fun j hj => by cases hj; exact Nat.le_refl _)
      obtain ⟨x, hx⟩ : ∃ x, x = ks[k] := ⟨_, rfl⟩
      obtain ⟨z, hz⟩ : ∃ z, z = zs[k] := ⟨_, rfl⟩
      rw [← hx] at hc1 hrun H2 HK2
      rw [← hz] at hc2 hrun H2 HK2
      clear hx hz e1 e2 hok2 hown2 hwf hkey hcell1 hcell2 hgrow2
      go_wp2
      go_region
      go_wp2
      go_roundw
      case rel => exact ⟨k + 1, _, by omega, by go_num, H2.out, HK2.out, hb2⟩
      case measure => simp [intOf]; omega
    · obtain rfl : k = n := by omega
      go_wp2
      go_ret
      exact ⟨rfl, D, HO.out, HK.out, hb⟩

/-- The row's field under the header's name c; empty where there is none. -/
def field (ks : List ByteArray) (zs : List Int) (fs : List ByteArray) (c : List UInt8) : ByteArray :=
  match lastB ks ks.length c with
  | none => ByteArray.empty
  | some j => fs.getD (zs.getD j 0).toNat ByteArray.empty
theorem lastB_lt (ks : List ByteArray) (k : Nat) (c : List UInt8) (j : Nat) (h : lastB ks k c = some j) : j < k := by
  induction k with
  | zero => simp [lastB] at h
  | succ k ih =>
    unfold lastB at h
    split at h
    · obtain rfl := Option.some.inj h; omega
    · have := ih h; omega
theorem field_none {ks : List ByteArray} {zs : List Int} {fs : List ByteArray} {c : List UInt8} (h : lastB ks ks.length c = none) : field ks zs fs c = ByteArray.empty := by
  unfold field; rw [h]
theorem field_some {ks : List ByteArray} {zs : List Int} {fs : List ByteArray} {c : List UInt8} {j : Nat} (h : lastB ks ks.length c = some j) : field ks zs fs c = fs.getD (zs.getD j 0).toNat ByteArray.empty := by
  unfold field; rw [h]
theorem int_of_at {D : DataW Unit} {kl : Lit} {z c : Int} {d : DataW Unit} (h : ∀ z', D.atKey kl z' = .lit (.int .i64 z)) (h2 : D.atKey kl d = .lit (.int .i64 c)) : z = c := by
  rw [h d] at h2
  simpa using h2
theorem zeroInt (w : World) : (zeroValue 3).run Try.prog w = .ok (.int .i64 0) w := by kernel_rfl
theorem zeroStr (w : World) : (zeroValue 9).run Try.prog w = .ok (.string ByteArray.empty) w := by kernel_rfl
theorem ret_string {a b : ByteArray} (h : a = b) : Ending.returned (.string a) = Ending.returned (.string b) := by rw [h]

set_option maxHeartbeats 1600000 in
/-- (row).get. -/
theorem rowget_calls (ao : Option Addr) (cap : Nat) (ks : List ByteArray) (zs : List Int) (fs : List ByteArray) (B n : Nat) (D : DataW Unit) (s : ByteArray) (hs : s.size ≤ maxLen) (w : World)
    (hf : StrsAt w (.slice ao fs.length cap) fs) (hP : Prem ks zs fs) (hown : w.ownsMap Try.prog 9 (plainElem Try.prog 3) B n D) (hok : ColsOk ks zs ks.length D) :
    Calls Try.prog 24 #[.agg #[.int .i64 0, .slice ao fs.length cap, .map (some B)], .string s] w fun e w' => e = .returned (.string (field ks zs fs s.data.toList)) ∧ Below w.heap.size w w' := by
  have hkey := keyOf_string_mk (P := Try.prog) (s := s) Try.underlying9 hs
  obtain ⟨ao', cap', e0, hn, hsz, hc⟩ := hf
  simp only [Value.slice.injEq] at e0
  obtain ⟨rfl, -, rfl⟩ := e0
  cases hL : lastB ks ks.length s.data.toList with
  | none =>
    have hh := (hok s.data.toList).1 hL
    rw [field_none hL]
    clear hL hok hc hsz hP
    go_enter Try.func24, Try.ntmps24
    go_wp2_with (at_lookup; refine wpList_lookup_own_ok_int _ rfl _ _ 31 rfl 9 3 .i64 keyed Try.underlying31 Try.underlying3 (zeroInt _) B n D rfl (hown.alloc _) _ _ rfl hkey ?_; intro c hat hwc; rw [hh]; clear hat)
    go_ret
    exact ⟨rfl, (Below.refl _ _).alloc (Nat.le_refl _) _⟩
  | some j =>
    have hat0 := (hok s.data.toList).2 j hL
    have hh := Maps.has_true_of_atKey hat0
    have hj := lastB_lt _ _ _ _ hL
    have hj2 : j < zs.length := by rw [← hP.1]; exact hj
    have hz : zs.getD j 0 = zs[j] := by simp [List.getD, hj2]
    have hb := hP.2 j hj2
    rw [field_some hL]
    rw [hz] at hat0 ⊢
    obtain ⟨z, hze⟩ : ∃ z, z = zs[j] := ⟨_, rfl⟩
    rw [← hze] at hat0 hb ⊢
    have hm : z.toNat < fs.length := by omega
    obtain ⟨b, o, rfl, hcell⟩ := hc z.toNat hm
    have hfe : fs.getD z.toNat ByteArray.empty = fs[z.toNat] := by simp [List.getD, hm]
    rw [hfe]
    obtain ⟨x, hx⟩ : ∃ x, x = fs[z.toNat] := ⟨_, rfl⟩
    rw [← hx] at hcell ⊢
    have hcl := fun ob => cell_later (wx := w.alloc ob) ((Below.refl _ _).alloc (Nat.le_refl _) _) hcell
    have HA := Lib.hid hat0
    obtain ⟨m, hM⟩ : ∃ m, m = fs.length := ⟨_, rfl⟩
    rw [← hM] at hb hm hn ⊢
    clear hL hok hc hsz hP hx hfe hze hz hat0 hcell hM
    go_enter Try.func24, Try.ntmps24
    go_wp2_with (at_lookup; refine wpList_lookup_own_ok_int _ rfl _ _ 31 rfl 9 3 .i64 keyed Try.underlying31 Try.underlying3 (zeroInt _) B n D rfl (hown.alloc _) _ _ rfl hkey ?_; intro c hat hwc; rw [hh]; obtain rfl : z = c := int_of_at HA.out hat; clear hat)
    go_ret
    exact ⟨rfl, (Below.refl _ _).alloc (Nat.le_refl _) _⟩
end Go.Proofs.Qxb6600390a

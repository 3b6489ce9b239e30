import Derived.Test.Qxb6600338aDoorShelf
import Derived.Test.Qxb6600338aDoorPlain
import Derived.Lib.AppendIntMem
import Derived.Lib.ItoaLen
import Derived.Lib.AppendStr
import Derived.Lib.Hide
import Derived.Lib.SmallJoins
import Derived.Laws.IdiomStrings
import Derived.OwnWalk
import Derived.WalkKit
import Derived.WalkLawsBesides
import Derived.BigCall
namespace Go.Proofs.Qxb6600338aDoor
open Go.Shelf Go.RowKit

theorem Tryd.info5 : (Tryd.prog.info? 5).map (fun i => (i.zero, i.size, i.bytes)) = some (some (.int .u8 0), 1, 1) := by kernel_rfl

theorem wpList_append_run {P : Program} {w : World} {ops : Array Oper} {rest : List Oper} {o : Oper} {a : Act} {Q : Exit → Act → World → Prop} (hgd : o.guard = none) (s x : Operand) (t u : TypeId)
    (ho : o.op = .call { callee := .builtin .append, args := #[s, x], argTypes := #[t, u] }) (v y : Value) (hs : a.eval s = v) (hx : a.eval x = y) {v' : Value} {w' : World}
    (hrun : (Builtin.append_ #[t, u] o.type #[v, y]).run P w = .ok v' w') (h : wpList P ops Q rest (a.put o.dst v') w') : wpList P ops Q (o :: rest) a w := by
  refine wpList_plain hgd fun K hK => ?_
  unfold Oper.wp
  simp [execOp, ho, resolve, invoke, builtin, hs, hx, hrun, Result.andThen]
  exact hK _ _ h

/-- The encoding of one byte string. -/
def enc (s : List UInt8) : List UInt8 := Lib.itoa (s.length : Int) ++ 58 :: s

set_option maxHeartbeats 1600000 in
set_option maxRecDepth 100000 in
/-- appendString onto a slice that the call owns. -/
theorem app_calls (B n : Nat) (sv : Value) (xs : List Value) (s : ByteArray) (hs : s.size ≤ 1048576) (hn : n ≤ 1048576) (w : World) (hown : w.ownsRow B 5 1 sv n xs) (hBw : B ≤ w.heap.size)
    (htab : Lib.TabBelow Tryd.prog B w powName .u64 Lib.pow10Tab) :
    Calls Tryd.prog 29 #[sv, .string s] w fun e w' => ∃ v', e = .returned v' ∧ w'.ownsRow B 5 1 v' (n + (enc s.data.toList).length) (xs ++ Lib.byteCells (enc s.data.toList)) ∧ Below B w w' := by
  obtain ⟨i0, hi, hz0, hz1, hz2⟩ := info_parts Tryd.info5
  have la := Lib.itoa_length_le (s.size : Int) (by omega) (by omega)
  have hS : (s.size : Int) ≤ 9223372036854775807 := by omega
  go_enter Tryd.func29, Tryd.ntmps29
  go_wp2_with (go_at_call 31; refine (Tryd.strconv_AppendInt_10_laid B n (s.size : Int) (by omega) (by omega) sv xs w hown hBw (by omega) htab).mono ?_; rintro e w1 ⟨v1, rfl, hown1, hnx1, -⟩; refine Hid.out ?_)
  refine Lib.hid ?_
  go_wp2_with (at_builtin; refine wpList_append_own _ rfl _ _ 29 rfl B 5 i0 (.int .u8 0) 1 1 Tryd.underlying29 hi hz0 hz1 hz2 rfl (by decide) _ _ _ rfl (hown1.alloc _) ⟨w1.heap.size, 0, none⟩ 1 1 [Value.int .u8 58] rfl rfl (by intro j u' hj; match j, hj with | 0, hj => simp at hj; subst hj; simp [Addr.add]) (by intro u' hu'; simp at hu'; subst hu'; rfl) (by unfold maxLen; omega) (by omega) (by have := hnx1.size; simp; omega) ?_)
  intro v2 w2 hown2 hgrow _
  have hnx2 : Below B w w2 := (hnx1.alloc (by have := hnx1.size; omega) _).grown hgrow (by have := hnx1.size; simp; omega) (fun k hk => (hown1.lt k hk).1)
  obtain ⟨v3, w3, hr3, hown3, hgrow3, _⟩ := Lib.run_append_own_string (P := Tryd.prog) w2 B 29 9 29 5 i0 Tryd.underlying29 Tryd.underlying9 hi hz0 hz1 hz2 v2 _ _ hown2 s (by unfold maxLen; omega) (by omega) (by have := hnx2.size; omega)
  have hnx3 : Below B w w3 := hnx2.grown hgrow3 (by have := hnx2.size; omega) (fun k hk => (hown2.lt k hk).1)
  clear hown1 hnx1 hown2 hgrow hgrow3
  go_wp2_with (at_builtin; refine wpList_append_run rfl (.tmp 12) (.tmp 13) 29 9 rfl v2 (.string s) rfl rfl hr3 ?_)
  go_wp2
  go_ret
  refine ⟨v3, rfl, ?_, hnx3⟩
  have e1 : n + (enc s.data.toList).length = n + (Lib.itoa (s.size : Int)).length + 1 + s.size := by
    unfold enc; simp; omega
  have e2 : xs ++ Lib.byteCells (enc s.data.toList) = xs ++ (Lib.byteCells (Lib.itoa (s.size : Int)) ++ [Value.int .u8 58]) ++ Lib.strCells s := by
    unfold enc; rw [Lib.strCells_eq]; simp [Lib.byteCells]
  rw [e1, e2]
  exact hown3

/-- ZZappendString. -/
theorem zzapp_calls (B n : Nat) (sv : Value) (xs : List Value) (s : ByteArray) (hs : s.size ≤ 1048576) (hn : n ≤ 1048576) (w : World) (hown : w.ownsRow B 5 1 sv n xs) (hBw : B ≤ w.heap.size)
    (htab : Lib.TabBelow Tryd.prog B w powName .u64 Lib.pow10Tab) :
    Calls Tryd.prog 20 #[sv, .string s] w fun e w' => ∃ v', e = .returned v' ∧ w'.ownsRow B 5 1 v' (n + (enc s.data.toList).length) (xs ++ Lib.byteCells (enc s.data.toList)) ∧ Below B w w' := by
  go_enter Tryd.func20, Tryd.ntmps20
  go_wp2_with (go_at_call 29; refine (app_calls B n sv xs s hs hn w hown hBw htab).mono ?_; rintro e w1 ⟨v1, rfl, hown1, hnx1⟩)
  go_ret
  exact ⟨v1, rfl, hown1, hnx1⟩

/-! ### The shelf's digits are ours -/
namespace Plain
theorem decDigits_spec (u : Nat) : allD (Lib.decDigits u) = true ∧ 0 < (Lib.decDigits u).length ∧ val (Lib.decDigits u) = u ∧ (u ≠ 0 → (Lib.decDigits u).head? ≠ some 48) := by
  induction u using Nat.strongRecOn with
  | ind u ih =>
    rw [Lib.decDigits]
    by_cases h : u < 10
    · rw [dif_pos h]
      have h1 : (UInt8.ofNat (48 + u)).toNat = 48 + u := by simp [UInt8.toNat_ofNat']; omega
      refine ⟨?_, by simp, ?_, ?_⟩
      · rw [allD_cons, isD_iff, h1]; exact ⟨by omega, rfl⟩
      · rw [val_cons, h1]; simp [val]
      · intro hu e
        have e1 : UInt8.ofNat (48 + u) = 48 := by simpa using e
        have e2 := congrArg UInt8.toNat e1
        rw [h1] at e2
        simp at e2
        exact hu e2
    · rw [dif_neg h]
      obtain ⟨a, b, c, d⟩ := ih (u / 10) (by omega)
      have h1 := digit_toNat u
      refine ⟨?_, by simp, ?_, ?_⟩
      · rw [allD_snoc, isD_iff, h1]; exact ⟨a, by omega⟩
      · rw [val_snoc, c, h1]; omega
      · intro _
        have hd := d (by omega)
        match hl : Lib.decDigits (u / 10) with
        | [] => rw [hl] at b; simp at b
        | x :: t => rw [hl] at hd; simpa using hd
theorem decDigits_can (u : Nat) : canD (Lib.decDigits u) := by
  obtain ⟨a, b, c, d⟩ := decDigits_spec u
  refine ⟨a, b, fun h => ?_⟩
  by_cases hu : u = 0
  · subst hu; rw [Lib.decDigits, dif_pos (by omega)] at h; simp at h
  · exact d hu
theorem lib_itoa (n : Nat) (h : n < 10 ^ 20) : Lib.itoa (n : Int) = itoa (n : Int) := by
  have e1 : Lib.itoa (n : Int) = Lib.decDigits n := by unfold Lib.itoa; rw [if_neg (by omega)]; simp
  have e2 : itoa (n : Int) = dec n := by unfold itoa; rw [if_neg (by omega)]; simp
  rw [e1, e2]
  exact canD_inj _ _ (decDigits_can n) (dec_can n h) (by rw [(decDigits_spec n).2.2.1, dec_val n h])
/-- The head of an encoding: the digits of the length. -/
def hd (n : Nat) : List UInt8 := Lib.itoa (n : Int)
theorem hd_is (n : Nat) : hd n = Lib.decDigits n := by unfold hd Lib.itoa; rw [if_neg (by omega)]; simp
theorem hd_digit (n : Nat) (k : Nat) (h : k < (hd n).length) : 48 ≤ ((hd n)[k]).toNat ∧ ((hd n)[k]).toNat ≤ 57 := by
  have ha : allD (hd n) = true := by rw [hd_is]; exact (decDigits_spec n).1
  have := List.all_eq_true.1 ha _ (List.getElem_mem h)
  rwa [isD_iff] at this
theorem hd_canon (n : Nat) (h : n < 9223372036854775808) : canon (hd n) = ((n : Int), true) := by
  unfold hd
  rw [lib_itoa n (by omega)]
  exact canon_itoa (n : Int) (by omega) (by omega)
theorem hd_pos (n : Nat) : 0 < (hd n).length := by rw [hd_is]; exact (decDigits_spec n).2.1
end Plain
end Go.Proofs.Qxb6600338aDoor

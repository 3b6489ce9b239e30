import Derived.Test.Qxb6600390aAnd
import Derived.Lib.AppendStr
import Derived.Lib.BufferRead
import Derived.Laws.IdiomStrings
namespace Go.Proofs.Qxb6600390a
open Go.RowKit

theorem Try.info5 : (Try.prog.info? 5).map (fun i => (i.zero, i.size, i.bytes)) = some (some (.int .u8 0), 1, 1) := by kernel_rfl

theorem wpList_append_run {P : Program} {w : World} {ops : Array Oper} {rest : List Oper} {o : Oper} {a : Act} {Q : Exit → Act → World → Prop} (hgd : o.guard = none) (s x : Operand) (t u : TypeId)
    (ho : o.op = .call { callee := .builtin .append, args := #[s, x], argTypes := #[t, u] }) (v y : Value) (hs : a.eval s = v) (hx : a.eval x = y) {v' : Value} {w' : World}
    (hrun : (Builtin.append_ #[t, u] o.type #[v, y]).run P w = .ok v' w') (h : wpList P ops Q rest (a.put o.dst v') w') : wpList P ops Q (o :: rest) a w := by
  refine wpList_plain hgd fun K hK => ?_
  unfold Oper.wp
  simp [execOp, ho, resolve, invoke, builtin, hs, hx, hrun, Result.andThen]
  exact hK _ _ h

/-- One append of a string's bytes onto a row of the call's own. -/
theorem app_str {w : World} {B n : Nat} {v : Value} {l : List UInt8} (hown : w.ownsRow B 5 1 v n (Lib.byteCells l)) (s : ByteArray) (hn : n + s.size ≤ 4194304) (hB : B ≤ w.heap.size) :
    ∃ v' w', (Builtin.append_ #[39, 9] 39 #[v, .string s]).run Try.prog w = .ok v' w' ∧ w'.ownsRow B 5 1 v' (n + s.size) (Lib.byteCells (l ++ s.data.toList)) ∧ Below B w w' := by
  obtain ⟨i0, hi, hz0, hz1, hz2⟩ := info_parts Try.info5
  obtain ⟨v3, w3, hr3, hown3, hgrow3, _⟩ := Lib.run_append_own_string (P := Try.prog) w B 39 9 39 5 i0 Try.underlying39 Try.underlying9 hi hz0 hz1 hz2 v _ _ hown s (by unfold maxLen; omega) (by omega) hB
  refine ⟨v3, w3, hr3, ?_, (Below.refl _ _).grown hgrow3 hB (fun k hk => (hown.lt k hk).1)⟩
  rw [Lib.strCells_eq, ← Lib.byteCells_append] at hown3
  exact hown3

theorem conv_own {w : World} {B n : Nat} {v : Value} {l : List UInt8} (hown : w.ownsRow B 5 1 v n (Lib.byteCells l)) : (convert 39 9 v).run Try.prog w = .ok (.string ⟨l.toArray⟩) w := by
  have hl : l.length = n := by have := hown.1; rw [Lib.byteCells_length] at this; omega
  rcases hown.2 with ⟨rfl, h0⟩ | ⟨g, cap, cur, rfl, -, -, -, -, -, -⟩
  · have : l = [] := List.eq_nil_of_length_eq_zero (by omega)
    subst this
    exact Lib.run_convert_nil_bytes (P := Try.prog) w 39 9 5 0 Try.underlying39 Try.underlying5 Try.underlying9
  · rw [← hl]
    exact run_convert_bytes_back (P := Try.prog) w 39 9 5 ⟨g, 0, none⟩ cap l Try.underlying39 Try.underlying5 Try.underlying9 (fun j hj => hown.cells (g := g) rfl j _ (by simp [Lib.byteCells, hj]))

theorem model_step0 (ss : List ByteArray) (h : 0 < ss.length) : modelTo (bl ss) (0 + 1) = modelTo (bl ss) 0 ++ (ss.getD 0 ByteArray.empty).data.toList := by
  have e : (bl ss).getD 0 [] = (ss.getD 0 ByteArray.empty).data.toList := by simp [bl, List.getD, h]
  simp only [modelTo, e]; simp
theorem model_step1 (ss : List ByteArray) (k : Nat) (h0 : k ≠ 0) (hk : k < ss.length) (h1 : k = ss.length - 1) : modelTo (bl ss) (k + 1) = modelTo (bl ss) k ++ conj ++ (ss.getD k ByteArray.empty).data.toList := by
  have e : (bl ss).getD k [] = (ss.getD k ByteArray.empty).data.toList := by simp [bl, List.getD, hk]
  rw [modelTo, e, if_neg h0, if_pos (by rw [bl_len]; exact h1)]
theorem model_step2 (ss : List ByteArray) (k : Nat) (h0 : k ≠ 0) (hk : k < ss.length) (h1 : k ≠ ss.length - 1) : modelTo (bl ss) (k + 1) = modelTo (bl ss) k ++ comma ++ (ss.getD k ByteArray.empty).data.toList := by
  have e : (bl ss).getD k [] = (ss.getD k ByteArray.empty).data.toList := by simp [bl, List.getD, hk]
  rw [modelTo, e, if_neg h0, if_neg (by rw [bl_len]; exact h1)]

set_option maxHeartbeats 3200000 in
set_option maxRecDepth 100000 in
/-- andListModel. -/
theorem model_calls (B o c : Nat) (ss : List ByteArray) (w : World) (h : NamesAt w B o c ss) (ht : tot ss ≤ 1048576) :
    Calls Try.prog 11 #[.slice (some ⟨B, o, none⟩) ss.length c] w fun e w' => e = .returned (.string ⟨(modelTo (bl ss) ss.length).toArray⟩) ∧ Below w.heap.size w w' := by
  have hl := len_of_tot ss
  have HN := Lib.hid h
  have HT := Lib.hid ht
  obtain ⟨n, hN⟩ : ∃ n, n = ss.length := ⟨_, rfl⟩
  have hn : n ≤ 65536 := by omega
  rw [← hN]
  have HL := Lib.hid hN
  clear h ht hl hN
  go_enter Try.func11, Try.ntmps11
  go_wp2
  go_loopw [3, 5] (fun v i wr => ∃ k nn : Nat, k ≤ n ∧ i = .int .i64 k ∧ wr.ownsRow w.heap.size 5 1 v nn (Lib.byteCells (modelTo (bl ss) k)) ∧ Below w.heap.size w wr) (fun _ i _ => n - (intOf i).toNat)
  case atStart => exact ⟨0, 0, Nat.zero_le _, rfl, World.ownsRow_nil _ _ _ _, Below.refl _ _⟩
  case round =>
    obtain ⟨k, nn, hk, rfl, hown, hb⟩ := hrel
    have hnn : (modelTo (bl ss) k).length = nn := by have := hown.1; rw [Lib.byteCells_length] at this; omega
    have hml := model_len ss k (by rw [← HL.out]; exact hk)
    have hBs := hb.size
    by_cases hlt : k < n
    · have hlt' : k < ss.length := by rw [← HL.out]; exact hlt
      have hcell := cell_later hb (HN.out.cell k hlt')
      have hxs := size_of_tot ss k hlt'
      have hge : ss.getD k ByteArray.empty = ss[k] := by simp [List.getD, hlt']
      rw [← hge] at hcell hxs
      obtain ⟨x, hx⟩ : ∃ x, x = ss.getD k ByteArray.empty := ⟨_, rfl⟩
      rw [← hx] at hcell hxs
      have HX := Lib.hid hx
      have htt := HT.out
      by_cases hz : k = 0
      · subst hz
        rw [Nat.add_zero] at hcell
        obtain ⟨v1, w1, hr1, ho1, hb1⟩ := app_str hown x (by omega) hBs
        have hst := model_step0 ss hlt'
        rw [← hx] at hst
        rw [← hst] at ho1
        have HO1 := Lib.hid ho1
        have HB1 := Lib.hid (hb.trans hb1)
        clear hx hge hxs htt hst ho1 hb1 hb hown hnn hml hBs hlt'
        go_wp2_with (at_builtin; refine wpList_append_run rfl (.tmp 23) (.tmp 27) 39 9 rfl _ _ rfl rfl hr1 ?_)
        go_roundw
        case rel => exact ⟨0 + 1, _, by omega, by go_num, HO1.out, HB1.out⟩
        case measure => simp [intOf]; omega
      · by_cases hlast : k = n - 1
        · obtain ⟨v1, w1, hr1, ho1, hb1⟩ := app_str hown ⟨#[32, 97, 110, 100, 32]⟩ (by show nn + 5 ≤ _; omega) hBs
          have hs1 : nn + (⟨#[32, 97, 110, 100, 32]⟩ : ByteArray).size = nn + 5 := rfl
          rw [hs1] at ho1
          obtain ⟨v2, w2, hr2, ho2, hb2⟩ := app_str ho1 x (by omega) (Nat.le_trans hBs hb1.size)
          have hst := model_step1 ss k hz hlt' (by rw [← HL.out]; exact hlast)
          rw [← hx] at hst
          have e5 : modelTo (bl ss) k ++ (⟨#[32, 97, 110, 100, 32]⟩ : ByteArray).data.toList ++ x.data.toList = modelTo (bl ss) (k + 1) := hst.symm
          rw [e5] at ho2
          have hcell1 := cell_later (hb.trans hb1) (HN.out.cell k hlt')
          rw [← hge, ← hx] at hcell1
          have HO2 := Lib.hid ho2
          have HB2 := Lib.hid ((hb.trans hb1).trans hb2)
          have hd1 : ((k : Int) == (n : Int) - 1) = true := by rw [beq_iff_eq]; omega
          clear hx hge hxs htt hst e5 ho1 ho2 hb1 hb2 hb hown hnn hml hBs hlt' hs1 hlast
          go_wp2_with (at_builtin; first | (have hq := hr1; clear hr1; refine wpList_append_run rfl (.tmp 19) _ 39 9 rfl _ _ rfl rfl hq ?_; clear hq) | refine wpList_append_run rfl (.tmp 23) (.tmp 27) 39 9 rfl _ _ rfl rfl hr2 ?_)
          go_roundw
          case rel => exact ⟨k + 1, _, by omega, by go_num, HO2.out, HB2.out⟩
          case measure => simp [intOf]; omega
        · obtain ⟨v1, w1, hr1, ho1, hb1⟩ := app_str hown ⟨#[44, 32]⟩ (by show nn + 2 ≤ _; omega) hBs
          have hs1 : nn + (⟨#[44, 32]⟩ : ByteArray).size = nn + 2 := rfl
          rw [hs1] at ho1
          obtain ⟨v2, w2, hr2, ho2, hb2⟩ := app_str ho1 x (by omega) (Nat.le_trans hBs hb1.size)
          have hst := model_step2 ss k hz hlt' (by rw [← HL.out]; exact hlast)
          rw [← hx] at hst
          have e5 : modelTo (bl ss) k ++ (⟨#[44, 32]⟩ : ByteArray).data.toList ++ x.data.toList = modelTo (bl ss) (k + 1) := hst.symm
          rw [e5] at ho2
          have hcell1 := cell_later (hb.trans hb1) (HN.out.cell k hlt')
          rw [← hge, ← hx] at hcell1
          have HO2 := Lib.hid ho2
          have HB2 := Lib.hid ((hb.trans hb1).trans hb2)
          have hd1 : ((k : Int) == (n : Int) - 1) = false := by rw [beq_eq_false_iff_ne]; omega
          clear hx hge hxs htt hst e5 ho1 ho2 hb1 hb2 hb hown hnn hml hBs hlt' hs1 hlast
          go_wp2_with (at_builtin; first | (have hq := hr1; clear hr1; refine wpList_append_run rfl (.tmp 21) _ 39 9 rfl _ _ rfl rfl hq ?_; clear hq) | refine wpList_append_run rfl (.tmp 23) (.tmp 27) 39 9 rfl _ _ rfl rfl hr2 ?_)
          go_roundw
          case rel => exact ⟨k + 1, _, by omega, by go_num, HO2.out, HB2.out⟩
          case measure => simp [intOf]; omega
    · obtain rfl : k = n := by omega
      have hcv := conv_own hown
      have HB := Lib.hid hb
      clear hb hown hnn hml hBs
      go_wp2
      go_ret
      exact ⟨rfl, HB.out⟩
end Go.Proofs.Qxb6600390a

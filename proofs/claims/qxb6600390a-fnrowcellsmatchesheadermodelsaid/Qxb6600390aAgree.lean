import Derived.Test.Qxb6600390aCells
namespace Go.Proofs.Qxb6600390a
open Go.RowKit Go.Maps Go.WideShapes Go.WideMaps Go.WideElems

theorem empty_of {f : ByteArray} (h : f ≠ ByteArray.empty) : f.toList.isEmpty = false := by
  rw [ByteArray.toList_eq]
  cases hq : f.data.toList with
  | nil => exact absurd (ByteArray.size_eq_zero_iff.1 (by show f.data.size = 0; rw [← Array.length_toList, hq]; rfl)) h
  | cons _ _ => rfl

theorem owns_later {w w' : World} {P : Program} {k : TypeId} {R : Value → Option (DataW Unit × List MemPlace)} {b n : Nat} {D : DataW Unit} (h : w.ownsMap P k R b n D) (hb : Below w.heap.size w w') : w'.ownsMap P k R b n D := by
  have hl := h.lt
  obtain ⟨es, clock, h1, h2⟩ := h
  exact ⟨es, clock, (hb.block b hl).trans h1, h2⟩

set_option maxHeartbeats 3200000 in
set_option maxRecDepth 100000 in
theorem agree_walk (v u x : Value) (ks : List ByteArray) (zs : List Int) (fs : List ByteArray) (s : ByteArray) (hs : s.size ≤ maxLen) (w : World) (h1 : StrsAt w v ks) (h2 : IntsAt w u zs) (h3 : StrsAt w x fs) (n1 : NilOk v) (n2 : NilOk u) (n3 : NilOk x) :
    Calls Try.prog 6 #[v, u, x, .string s] w fun e w' => e = .returned (.bool true) ∧ Below w.heap.size w w' := by
  have hs' : s.size ≤ 9223372036854775807 := by unfold maxLen at hs; omega
  have hkey := keyOf_string_mk (P := Try.prog) (s := s) Try.underlying9 hs
  go_enter Try.func6, Try.ntmps6
  go_wp2_with fail
  refine (zz20_calls v u x ks zs fs s hs' _ h1 h2 h3).mono ?_
  rintro e w' ⟨⟨b, rfl⟩, rfl⟩
  cases b with
  | false =>
    go_wp2
    go_ret
    exact ⟨rfl, Below.refl _ _⟩
  | true =>
    go_wp2_with fail
    refine (rowBytes_calls v u x ks zs fs s hs' _ h1 h2 h3).mono ?_
    rintro e w1 ⟨r, rfl, rfl, hr⟩
    have HR := Lib.hid hr
    clear hr
    by_cases hbig : 1048576 < r
    · go_wp2
      go_ret
      exact ⟨rfl, Below.refl _ _⟩
    · go_wp2_with fail
      refine (premise_calls v u x ks zs fs _ h1 h2 h3).mono ?_
      rintro e w2 ⟨⟨b2, rfl, hb2⟩, rfl⟩
      obtain ⟨ht1, ht2, ht3⟩ := HR.out (by omega)
      cases b2 with
      | false =>
        go_wp2
        go_ret
        exact ⟨rfl, Below.refl _ _⟩
      | true =>
        have hP := hb2 rfl
        clear hb2
        have hk1 : ks.length ≤ 1048576 := by have := len_of_tot ks; omega
        have hf1 : fs.length ≤ 1048576 := by have := len_of_tot fs; omega
        have hz1 : zs.length ≤ 1048576 := by omega
        have HP := Lib.hid hP
        clear hP ht1 ht2 ht3
        go_wp2_with fail
        refine (cloneS_calls v ks _ hk1 h1 n1).mono ?_
        rintro e w3 ⟨v3, rfl, s3, b3⟩
        have i3 := h2.later b3
        have f3 := h3.later b3
        go_wp2_with fail
        refine (cloneI_calls u zs _ hz1 i3 n2).mono ?_
        rintro e w4 ⟨u4, rfl, i4, b4⟩
        have s4 := s3.later b4
        have f4 := f3.later b4
        go_wp2_with fail
        refine (cloneS_calls x fs _ hf1 f4 n3).mono ?_
        rintro e w5 ⟨x5, rfl, f5, b5⟩
        have s5 := s4.later b5
        have i5 := i4.later b5
        go_wp2_with fail
        refine (cols_calls v3 u4 ks zs _ s5 i5 HP.out.1 hk1).mono ?_
        rintro e w6 ⟨rfl, D, ho6, hc6, b6⟩
        have f6 := f5.later b6
        go_wp2_with fail
        refine (zzcells_calls x5 ks zs fs _ _ D hk1 _ f6 HP.out ho6 hc6).mono ?_
        rintro e w7 ⟨rfl, nn, Dout, hnn, ho7, hc7, b7⟩
        have f7 := f6.later b7
        have ho6' := owns_later ho6 b7
        have HD := Lib.hid ho6'
        have HO7 := Lib.hid ho7
        have HC7 := Lib.hid hc7
        clear ho6 ho7 hc7 ho6' s3 s4 s5 i3 i4 i5 f3 f4 f5 f6 h1 h2 h3
        go_wp2_with fail
        refine (zzget_calls x5 ks zs fs _ _ D s hs _ f7 HP.out HD.out hc6).mono ?_
        rintro e w8 ⟨rfl, b8⟩
        have hbAll : Below w2.heap.size w2 w8 := (((((b3.trans (b4.mono b3.size)).trans (b5.mono (Nat.le_trans b3.size b4.size))).trans (b6.mono (Nat.le_trans b3.size (Nat.le_trans b4.size b5.size)))).trans (b7.mono (Nat.le_trans b3.size (Nat.le_trans b4.size (Nat.le_trans b5.size b6.size))))).trans (b8.mono (Nat.le_trans b3.size (Nat.le_trans b4.size (Nat.le_trans b5.size (Nat.le_trans b6.size b7.size))))))
        have HB := Lib.hid hbAll
        have ho8 := owns_later HO7.out b8
        obtain ⟨vv, ps, hlk, hvv⟩ := ho8.look_ok keyed Try.underlying33 (zeroStr _) (plainElem_string Try.underlying9 (s := ByteArray.empty) (by decide)) hkey
        obtain ⟨c, rfl, hcc, -⟩ := plainElem_string_inv Try.underlying9 hvv
        have hcell := (HC7.out.2.1 s.data.toList rfl)
        clear hvv hbAll ho8 b3 b4 b5 b6 b7 b8 f7 hc6
        by_cases hg : field ks zs fs s.data.toList = ByteArray.empty
        · have hh := hcell.1 hg
          rw [hg]
          rw [hh] at hlk
          clear hh hcell hg hcc
          go_wp2
          go_ret
          exact ⟨rfl, HB.out⟩
        · have hat := hcell.2 hg
          have hh := Maps.has_true_of_atKey hat
          have hgne := empty_of hg
          rw [hh] at hlk
          rw [hat] at hcc
          have e1 : field ks zs fs s.data.toList = c := WideShapes.bytes_inj (by simpa using congrArg Prod.fst hcc)
          rw [e1] at hgne ⊢
          clear hh hcell hg hcc hat e1
          go_wp2
          go_ret
          exact ⟨rfl, HB.out⟩
end Go.Proofs.Qxb6600390a

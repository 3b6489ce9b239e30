import Derived.Test.Qxb6600390aHeadPlain
import Derived.Test.Qxb6600390aAgree
namespace Go.Proofs.Qxb6600390a
open Go.RowKit Go.Maps Go.WideShapes Go.WideMaps Go.WideElems

/-- What lastIndexOf answers. -/
def lastZ (ks : List ByteArray) (c : List UInt8) : Int := match lastB ks ks.length c with | none => -1 | some j => (j : Int)
theorem lastZ_some {ks : List ByteArray} {c : List UInt8} {j : Nat} (h : lastB ks ks.length c = some j) : lastZ ks c = (j : Int) := by unfold lastZ; rw [h]
theorem lastZ_ne {ks : List ByteArray} {c : List UInt8} {j : Nat} (h : lastB ks ks.length c ≠ some j) : lastZ ks c ≠ (j : Int) := by
  unfold lastZ
  cases hL : lastB ks ks.length c with
  | none => simp
  | some i => simp only; intro e; apply h; rw [hL]; congr 1; omega

set_option maxHeartbeats 800000 in
theorem lastIdx_calls (v : Value) (ks : List ByteArray) (s : ByteArray) (w : World) (h : StrsAt w v ks) (hn : ks.length ≤ 1048576) :
    Calls Try.prog 19 #[v, .string s] w fun e w' => e = .returned (.int .i64 (lastZ ks s.data.toList)) ∧ w' = w := by
  obtain ⟨ao, cap, rfl, -, -, hc⟩ := h
  have HC := Lib.hid hc
  clear hc
  obtain ⟨r, hr⟩ : ∃ r, r = lastZ ks s.data.toList := ⟨_, rfl⟩
  rw [← hr]
  have HR := Lib.hid hr
  clear hr
  obtain ⟨n, hN⟩ : ∃ n, n = ks.length := ⟨_, rfl⟩
  rw [← hN] at hn ⊢
  have HN := Lib.hid hN
  clear hN
  go_enter Try.func19, Try.ntmps19
  go_wp2
  go_loop [5] (fun j => ∃ z : Int, j = .int .i64 z ∧ -1 ≤ z ∧ z < (n : Int) ∧ Hid (lastB ks (z + 1).toNat s.data.toList = lastB ks ks.length s.data.toList)) (fun j => (intOf j + 1).toNat)
  case atStart =>
    refine ⟨_, rfl, by omega, by omega, ?_⟩
    show _ = _
    rw [← HN.out]
    congr 1
    omega
  case round =>
    obtain ⟨z, rfl, hz0, hz1, hL⟩ := hrel
    by_cases hneg : z < 0
    · go_wp2
      go_ret
      refine ⟨ret_i64 ?_, rfl⟩
      rw [HR.out]
      unfold lastZ
      rw [← hL.out, show (z + 1).toNat = 0 by omega]
      rfl
    · obtain ⟨k, rfl⟩ := Int.eq_ofNat_of_zero_le (show 0 ≤ z by omega)
      have hlt : k < ks.length := by rw [← HN.out]; omega
      obtain ⟨b, o, rfl, hcell⟩ := HC.out k hlt
      have hkg : ks.getD k ByteArray.empty = ks[k] := by simp [List.getD, hlt]
      obtain ⟨x, hx⟩ : ∃ x, x = ks[k] := ⟨_, rfl⟩
      rw [← hx] at hcell hkg
      have HK := Lib.hid hkg
      clear hx hkg hlt
      by_cases heq : x.data.toList = s.data.toList
      · have hb : (x.toList == s.toList) = true := by rw [ByteArray.toList_eq, ByteArray.toList_eq, heq]; simp
        have HE := Lib.hid heq
        clear heq
        go_wp2
        go_ret
        refine ⟨ret_i64 ?_, rfl⟩
        rw [HR.out]
        unfold lastZ
        rw [← hL.out, show ((k : Int) + 1).toNat = k + 1 by omega]
        unfold lastB
        rw [HK.out, if_pos HE.out]
      · have hb : (x.toList == s.toList) = false := by rw [ByteArray.toList_eq, ByteArray.toList_eq]; simpa using heq
        have HE := Lib.hid heq
        clear heq
        go_wp2
        go_round
        case rel =>
          refine ⟨(k : Int) - 1, by go_num, by omega, by omega, ?_⟩
          show _ = _
          rw [← hL.out, show ((k : Int) + 1).toNat = k + 1 by omega, show ((k : Int) - 1 + 1).toNat = k by omega]
          conv => rhs; unfold lastB
          rw [HK.out, if_neg HE.out]
        case measure => simp [intOf]

theorem getD_of {α : Type} (l : List α) (j : Nat) (h : j < l.length) (d : α) : l.getD j d = l[j] := by simp [List.getD, h]

set_option maxHeartbeats 3200000 in
set_option maxRecDepth 100000 in
theorem head_walk (v u x : Value) (ks : List ByteArray) (zs : List Int) (fs : List ByteArray) (w : World) (h1 : StrsAt w v ks) (h2 : IntsAt w u zs) (h3 : StrsAt w x fs) (n1 : NilOk v) (n2 : NilOk u) (n3 : NilOk x) :
    Calls Try.prog 5 #[v, u, x] w fun e w' => e = .returned (.bool true) ∧ Below w.heap.size w w' := by
  have hv := h1
  obtain ⟨ao, cap, rfl, hlen, -, -⟩ := hv
  go_enter Try.func5, Try.ntmps5
  go_wp2_with fail
  refine (zz13_calls _ u x ks zs fs _ h1 h2 h3).mono ?_
  rintro e w' ⟨⟨b, rfl⟩, rfl⟩
  cases b with
  | false =>
    go_wp2
    go_ret
    exact ⟨rfl, Below.refl _ _⟩
  | true =>
    by_cases h4 : 4096 < (ks.length : Int)
    · go_wp2
      go_ret
      exact ⟨rfl, Below.refl _ _⟩
    · have hd4 : decide (4096 < (ks.length : Int)) = false := by simpa using h4
      go_wp2_with fail
      refine (rowBytes_calls _ u x ks zs fs ByteArray.empty (by decide) _ h1 h2 h3).mono ?_
      rintro e w1 ⟨r, rfl, rfl, hr⟩
      have HR := Lib.hid hr
      clear hr
      by_cases hbig : 1048576 < r
      · go_wp2
        go_ret
        exact ⟨rfl, Below.refl _ _⟩
      · have hdr : decide (1048576 < r) = false := by simpa using hbig
        go_wp2_with fail
        refine (premise_calls _ u x ks zs fs _ h1 h2 h3).mono ?_
        rintro e w2 ⟨⟨b2, rfl, hb2⟩, rfl⟩
        obtain ⟨ht1, ht2, ht3⟩ := HR.out (by omega)
        cases b2 with
        | false =>
          go_wp2
          go_ret
          exact ⟨rfl, Below.refl _ _⟩
        | true =>
          have hP := hb2 rfl
          clear hb2
          have hk1 : ks.length ≤ 1048576 := by have := len_of_tot ks; omega
          have hf1 : fs.length ≤ 1048576 := by have := len_of_tot fs; omega
          have hz1 : zs.length ≤ 1048576 := by omega
          have HP := Lib.hid hP
          clear hP ht1 ht2 ht3
          go_wp2_with fail
          refine (cloneS_calls _ ks _ hk1 h1 n1).mono ?_
          rintro e w3 ⟨v3, rfl, s3, b3⟩
          have i3 := h2.later b3
          have f3 := h3.later b3
          go_wp2_with fail
          refine (cloneI_calls u zs _ hz1 i3 n2).mono ?_
          rintro e w4 ⟨u4, rfl, i4, b4⟩
          have s4 := s3.later b4
          have f4 := f3.later b4
          go_wp2_with fail
          refine (cloneS_calls x fs _ hf1 f4 n3).mono ?_
          rintro e w5 ⟨x5, rfl, f5, b5⟩
          have s5 := s4.later b5
          have i5 := i4.later b5
          go_wp2_with fail
          refine (cols_calls v3 u4 ks zs _ s5 i5 HP.out.1 hk1).mono ?_
          rintro e w6 ⟨rfl, D, ho6, hc6, b6⟩
          have f6 := f5.later b6
          have s6 := s5.later b6
          have i6 := i5.later b6
          go_wp2_with fail
          refine (zzcells_calls x5 ks zs fs _ _ D hk1 _ f6 HP.out ho6 hc6).mono ?_
          rintro e w7 ⟨rfl, nn, Dout, hnn, ho7, hc7, b7⟩
          have f7 := f6.later b7
          have s7 := s6.later b7
          have i7 := i6.later b7
          have hbAll : Below w2.heap.size w2 w7 := (((b3.trans (b4.mono b3.size)).trans (b5.mono (Nat.le_trans b3.size b4.size))).trans (b6.mono (Nat.le_trans b3.size (Nat.le_trans b4.size b5.size)))).trans (b7.mono (Nat.le_trans b3.size (Nat.le_trans b4.size (Nat.le_trans b5.size b6.size))))
          have HB := Lib.hid hbAll
          have HO7 := Lib.hid ho7
          have HC7 := Lib.hid hc7
          have HS7 := Lib.hid s7
          clear hbAll ho6 ho7 hc7 hc6 s3 s4 s5 s6 i3 i4 i5 i6 f3 f4 f5 f6 h1 h2 h3 b3 b4 b5 b6 b7
          obtain ⟨kao, kcap, rfl, -, hksz, hkc⟩ := s7
          obtain ⟨iao, icap, rfl, -, -, hic⟩ := i7
          obtain ⟨fao, fcap, rfl, -, -, hfc⟩ := f7
          have HKC := Lib.hid hkc
          have HKS := Lib.hid hksz
          have HIC := Lib.hid hic
          have HFC := Lib.hid hfc
          have hlen7 := HO7.out.len Try.underlying33 3
          have hsize := size_cells HC7.out (HO7.out.entries keyed)
          clear hkc hic hfc hksz
          have HSZ := Lib.hid hsize
          clear hsize
          go_wp2
          go_loop [9, 10] (fun c j => ∃ k q : Nat, k ≤ ks.length ∧ q ≤ k ∧ j = .int .i64 k ∧ c = .int .i64 q ∧ Hid (q = cnt ks zs fs k)) (fun _ j => ks.length - (intOf j).toNat)
          case atStart => exact ⟨0, 0, Nat.zero_le _, Nat.le_refl _, rfl, rfl, rfl⟩
          case round =>
            obtain ⟨k, q, hk, hq, rfl, rfl, hcq⟩ := hrel
            by_cases hlt : k < ks.length
            · have hlt2 : k < zs.length := by rw [← HP.out.1]; exact hlt
              have hzb := HP.out.2 k hlt2
              have hlt3 : (zs[k]).toNat < fs.length := by omega
              obtain ⟨kb1, ko1, rfl, hkcell⟩ := HKC.out k hlt
              obtain ⟨ib1, io1, rfl, hicell⟩ := HIC.out k hlt2
              obtain ⟨fb1, fo1, rfl, hfcell⟩ := HFC.out _ hlt3
              have hkey := keyOf_string_mk (P := Try.prog) (s := ks[k]) Try.underlying9 (by have := HKS.out k hlt; unfold maxLen; omega)
              obtain ⟨vv, ps, hlk, hvv⟩ := HO7.out.look_ok keyed Try.underlying33 (zeroStr _) (plainElem_string Try.underlying9 (s := ByteArray.empty) (by decide)) hkey
              obtain ⟨c, rfl, hcc, -⟩ := plainElem_string_inv Try.underlying9 hvv
              have hcell := (HC7.out.2.1 (ks[k]).data.toList rfl)
              have hkb : kb ks k = (ks[k]).data.toList := by unfold kb; rw [getD_of ks k hlt]
              have hgood := good_iff ks zs fs k
              have hcs := cnt_succ ks zs fs k
              rw [hkb] at hgood
              have hfld : lastB ks ks.length (ks[k]).data.toList = some k → field ks zs fs (ks[k]).data.toList = fs[(zs[k]).toNat] := fun hL => by
                rw [field_some hL, getD_of zs k hlt2, getD_of fs _ hlt3]
              obtain ⟨kk, hkk⟩ : ∃ kk, kk = ks[k] := ⟨_, rfl⟩
              obtain ⟨ff, hff⟩ : ∃ ff, ff = fs[(zs[k]).toNat] := ⟨_, rfl⟩
              rw [← hff] at hfcell hfld
              rw [← hkk] at hkcell hlk hcc hcell hgood hfld
              obtain ⟨z, hz⟩ : ∃ z, z = zs[k] := ⟨_, rfl⟩
              rw [← hz] at hicell hzb hfcell
              have HCS := Lib.hid hcs
              have HG := Lib.hid hgood
              have HFLD := Lib.hid hfld
              have HCC := Lib.hid hcc
              have HCE := Lib.hid hcell
              clear hkk hff hz hcs hgood hfld hcc hcell hvv hkey hkb hlt3
              by_cases hL : lastB ks ks.length kk.data.toList = some k
              · have e1 := lastZ_some hL
                have hfe := HFLD.out hL
                have HL := Lib.hid hL
                have HE1 := Lib.hid e1
                clear hL e1
                by_cases hem : ff = ByteArray.empty
                · have hh := HCE.out.1 (hfe.trans hem)
                  rw [hh] at hlk
                  have hng : good ks zs fs k = false := by
                    cases hg : good ks zs fs k with
                    | false => rfl
                    | true => exact absurd (hfe.trans hem) (HG.out.1 hg).2
                  have HNG := Lib.hid hng
                  subst hem
                  clear hh hfe hng
                  go_wp2_with (go_at_call 19; refine (lastIdx_calls _ ks kk _ HS7.out hk1).mono ?_; rintro e w' ⟨rfl, rfl⟩; rw [HE1.out])
                  go_round
                  case rel => exact ⟨k + 1, q, by omega, by omega, by go_num, rfl, by show _ = _; rw [HCS.out, HNG.out, hcq.out]; simp⟩
                  case measure => simp [intOf]; omega
                · have hfne : field ks zs fs kk.data.toList ≠ ByteArray.empty := by rw [hfe]; exact hem
                  have hat := HCE.out.2 hfne
                  have hh := Maps.has_true_of_atKey hat
                  rw [hh] at hlk
                  have hcc := HCC.out
                  rw [hat, hfe] at hcc
                  obtain rfl : ff = c := WideShapes.bytes_inj (by simpa using congrArg Prod.fst hcc)
                  have hgood : good ks zs fs k = true := HG.out.2 ⟨HL.out, hfne⟩
                  have HGD := Lib.hid hgood
                  have hne := empty_of hem
                  clear hh hat hcc hfne hgood hfe hem
                  go_wp2_with (go_at_call 19; refine (lastIdx_calls _ ks kk _ HS7.out hk1).mono ?_; rintro e w' ⟨rfl, rfl⟩; rw [HE1.out])
                  go_round
                  case rel => exact ⟨k + 1, q + 1, by omega, by omega, by go_num, by go_num, by show _ = _; rw [HCS.out, HGD.out, hcq.out]; simp⟩
                  case measure => simp [intOf]; omega
              · have e1 := lastZ_ne hL
                obtain ⟨y, hy⟩ : ∃ y, y = lastZ ks kk.data.toList := ⟨_, rfl⟩
                rw [← hy] at e1
                have HY := Lib.hid hy
                have hyb : (y != (k : Int)) = true := by rw [bne_iff_ne]; exact e1
                have hng : good ks zs fs k = false := by
                  cases hg : good ks zs fs k with
                  | false => rfl
                  | true => exact absurd (HG.out.1 hg).1 hL
                have HNG := Lib.hid hng
                clear hL hy hng e1
                go_wp2_with (go_at_call 19; refine (lastIdx_calls _ ks kk _ HS7.out hk1).mono ?_; rintro e w' ⟨rfl, rfl⟩; rw [← HY.out])
                go_round
                case rel => exact ⟨k + 1, q, by omega, by omega, by go_num, rfl, by show _ = _; rw [HCS.out, HNG.out, hcq.out]; simp⟩
                case measure => simp [intOf]; omega
            · obtain rfl : k = ks.length := by omega
              have hfin : ((Maps.size Dout : Int) == (q : Int)) = true := by rw [beq_iff_eq, HSZ.out, hcq.out]
              go_wp2
              go_ret
              exact ⟨rfl, HB.out⟩
end Go.Proofs.Qxb6600390a

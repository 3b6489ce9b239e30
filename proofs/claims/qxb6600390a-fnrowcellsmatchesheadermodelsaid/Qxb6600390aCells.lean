import Derived.Test.Qxb6600390aCols
namespace Go.Proofs.Qxb6600390a
open Go.RowKit Go.Maps Go.WideShapes Go.WideMaps Go.WideElems

theorem keyOf_string_inv' {P : Program} {k : TypeId} (hk : P.underlying k = some .string) {key : Value} {kl : Lit} (h : keyOf P k key = some kl) : ∃ x : ByteArray, key = .string x ∧ kl = .string x.data.toList ∧ x.size ≤ maxLen := by
  cases key <;> simp [keyOf, hk, mapKey] at h
  exact ⟨_, rfl, h.2.symm, h.1⟩

/-- THE RANGE's STEP, string keys, integer elements. -/
theorem next_ranges_si {P : Program} (w : World) {ops : Array Oper} {rest : List Oper} {o : Oper} {a : Act} {Q : Exit → Act → World → Prop}
    (hg : o.guard = none) (it : Operand) (hop : o.op = Op.next it false) (k e : TypeId) (qe : IntKind) (K : Keyed P k) (hk : P.underlying k = some .string) (he : P.underlying e = some (.int qe))
    (b r n : Nat) (D : DataW Unit) (left : Lit → Bool) (cnt : Nat) (hit : a.eval it = .pointer (some ⟨r, 0, none⟩)) (h : w.ranges P k (plainElem P e) b r n D left cnt)
    (hDone : cnt = 0 → (∀ kl, left kl = false) → wpList P ops Q rest (a.put o.dst (.tuple #[.bool false])) w)
    (hMore : ∀ (x : ByteArray) (c : Int) (w' : World) (cnt' : Nat), x.size ≤ maxLen → (Lit.int qe c).wf = true → left (.string x.data.toList) = true → (∀ zd, D.atKey (.string x.data.toList) zd = .lit (.int qe c)) → w'.ranges P k (plainElem P e) b r n D (fun z => left z && !z.sameKey (.string x.data.toList)) cnt' → cnt' < cnt →
      w.grownBy w' (some r) → w'.heap.size = w.heap.size → (Instr.entry (.pointer (some ⟨r, 0, none⟩))).run P w' = .ok (.tuple #[.string x, .int qe c]) w' → wpList P ops Q rest (a.put o.dst (.tuple #[.bool true, .string x, .int qe c])) w') :
    wpList P ops Q (o :: rest) a w :=
  wpList_next_ranges w hg it hop k K (plainElem P e) Value.string (Value.int qe) (fun key kl hkey => by obtain ⟨x, rfl, _⟩ := keyOf_string_inv' hk hkey; exact ⟨x, rfl⟩) (fun v y hv => by obtain ⟨c, rfl, _⟩ := plainElem_int_inv he hv; exact ⟨c, rfl⟩)
    b r n D left cnt hit h hDone (fun x c kl y w' cnt' hkey hlk hv hat hrg hlt hgr hsz hen => by
      obtain ⟨x', ex, rfl, hwx⟩ := keyOf_string_inv' hk hkey
      cases ex
      obtain ⟨c', ec, rfl, hwc⟩ := plainElem_int_inv he hv
      cases ec
      exact hMore x c w' cnt' hwx hwc hlk hat hrg hlt hgr hsz hen)

/-- What the cells' map holds while the names in 'left' are still to come. -/
def CellsOk (ks : List ByteArray) (zs : List Int) (fs : List ByteArray) (left : Lit → Bool) (D : DataW Unit) : Prop :=
  (∀ c, left (.string c) = true → Maps.has D (.string c) = false) ∧
  (∀ c, left (.string c) = false → (field ks zs fs c = ByteArray.empty → Maps.has D (.string c) = false) ∧ (field ks zs fs c ≠ ByteArray.empty → ∀ z, D.atKey (.string c) z = .lit (.string (field ks zs fs c).data.toList))) ∧
  (∀ kl, Maps.has D kl = true → ∃ c, kl = .string c)
theorem has_cols {ks : List ByteArray} {zs : List Int} {k : Nat} {D : DataW Unit} (hok : ColsOk ks zs k D) {c : List UInt8} (h : Maps.has D (.string c) = false) : lastB ks k c = none := by
  cases hL : lastB ks k c with
  | none => rfl
  | some j =>
    have := Maps.has_true_of_atKey ((hok c).2 j hL)
    rw [this] at h; cases h
theorem cells_start {ks : List ByteArray} {zs : List Int} {fs : List ByteArray} {D : DataW Unit} (hok : ColsOk ks zs ks.length D) : CellsOk ks zs fs (Maps.has D) (.map []) := by
  refine ⟨fun _ _ => rfl, fun c h => ⟨fun _ => rfl, fun hne => ?_⟩, fun kl h => by cases h⟩
  exact absurd (field_none (has_cols hok h)) hne
theorem sameKey_string (c d : List UInt8) : (Lit.string c).sameKey (.string d) = decide (c = d) := by
  by_cases h : c = d
  · subst h
    rw [WideAt.sameKey_self (by trivial)]; simp
  · rw [sameKey_ne (fun e => h (by cases e; rfl))]; simp [h]
/-- A name has come whose field is empty: nothing is laid. -/
theorem cells_skip {ks : List ByteArray} {zs : List Int} {fs : List ByteArray} {left : Lit → Bool} {D : DataW Unit} (h : CellsOk ks zs fs left D) {c : List UInt8} (hl : left (.string c) = true) (hf : field ks zs fs c = ByteArray.empty) :
    CellsOk ks zs fs (fun z => left z && !z.sameKey (.string c)) D := by
  refine ⟨fun d hd => h.1 d ?_, fun d hd => ?_, h.2.2⟩
  · simp only [Bool.and_eq_true] at hd; exact hd.1
  · by_cases e : d = c
    · subst e
      exact ⟨fun _ => h.1 d hl, fun hne => absurd hf hne⟩
    · have hd : (left (.string d) && !(Lit.string d).sameKey (.string c)) = false := hd
      rw [sameKey_string] at hd
      exact h.2.1 d (by simpa [e] using hd)
/-- A name has come whose field is not empty: it is laid. -/
theorem cells_put {ks : List ByteArray} {zs : List Int} {fs : List ByteArray} {left : Lit → Bool} {D : DataW Unit} (h : CellsOk ks zs fs left D) (hD : IsMap D) {c : List UInt8} (hl : left (.string c) = true) (hf : field ks zs fs c ≠ ByteArray.empty) :
    CellsOk ks zs fs (fun z => left z && !z.sameKey (.string c)) (D.put (.string c) (.lit (.string (field ks zs fs c).data.toList))) := by
  refine ⟨fun d hd => ?_, fun d hd => ?_, fun kl hk => ?_⟩
  · have hd : (left (.string d) && !(Lit.string d).sameKey (.string c)) = true := hd
    rw [sameKey_string] at hd
    simp only [Bool.and_eq_true, Bool.not_eq_true', decide_eq_false_iff_not] at hd
    rw [has_put_other (fun e => hd.2 (by cases e; rfl))]
    exact h.1 d hd.1
  · by_cases e : d = c
    · subst e
      exact ⟨fun he => absurd he hf, fun _ z => atKey_put_same hD (by trivial) _ _⟩
    · have hd : (left (.string d) && !(Lit.string d).sameKey (.string c)) = false := hd
      rw [sameKey_string] at hd
      have hne : Lit.string d ≠ Lit.string c := fun q => e (by cases q; rfl)
      rw [has_put_other hne]
      have := h.2.1 d (by simpa [e] using hd)
      exact ⟨this.1, fun q z => by rw [atKey_put_other hne]; exact this.2 q z⟩
  · by_cases e : kl = .string c
    · exact ⟨c, e⟩
    · rw [has_put_other e] at hk
      exact h.2.2 kl hk

theorem field_of_at {ks : List ByteArray} {zs : List Int} {fs : List ByteArray} {D : DataW Unit} (hok : ColsOk ks zs ks.length D) (hP : Prem ks zs fs) {c : List UInt8} {z : Int} (hat : ∀ zd, D.atKey (.string c) zd = .lit (.int .i64 z)) :
    0 ≤ z ∧ z < (fs.length : Int) ∧ field ks zs fs c = fs.getD z.toNat ByteArray.empty := by
  cases hL : lastB ks ks.length c with
  | none =>
    have h1 := (hok c).1 hL
    rw [Maps.has_true_of_atKey hat] at h1; cases h1
  | some j =>
    have h1 := (hok c).2 j hL .nil
    rw [hat] at h1
    have hj := lastB_lt _ _ _ _ hL
    have hj2 : j < zs.length := by rw [← hP.1]; exact hj
    have hz : zs.getD j 0 = zs[j] := by simp [List.getD, hj2]
    have hb := hP.2 j hj2
    have e : z = zs.getD j 0 := by simpa using h1
    rw [field_some hL, ← e]
    rw [e, hz]
    exact ⟨hb.1, hb.2, rfl⟩

set_option maxHeartbeats 1600000 in
set_option maxRecDepth 100000 in
/-- (row).cells. -/
theorem cells_calls (ao : Option Addr) (cap : Nat) (ks : List ByteArray) (zs : List Int) (fs : List ByteArray) (B n : Nat) (D : DataW Unit) (hn : n ≤ 1048576) (w : World)
    (hf : StrsAt w (.slice ao fs.length cap) fs) (hP : Prem ks zs fs) (hown : w.ownsMap Try.prog 9 (plainElem Try.prog 3) B n D) (hok : ColsOk ks zs ks.length D) :
    Calls Try.prog 23 #[.agg #[.int .i64 0, .slice ao fs.length cap, .map (some B)]] w fun e w' => e = .returned (.map (some (w.heap.size + 1))) ∧ ∃ (nn : Nat) (Dout : DataW Unit), nn ≤ 1048576 ∧ w'.ownsMap Try.prog 9 (plainElem Try.prog 9) (w.heap.size + 1) nn Dout ∧ CellsOk ks zs fs (fun _ => false) Dout ∧ Below w.heap.size w w' := by
  obtain ⟨ao', cap', e0, hfn, hsz, hc⟩ := hf
  simp only [Value.slice.injEq] at e0
  obtain ⟨rfl, -, rfl⟩ := e0
  have HC := Lib.hid hc
  have HS := Lib.hid hsz
  have HP := Lib.hid hP
  have HK := Lib.hid hok
  have HO := Lib.hid hown
  clear hc hsz hP hok hown
  obtain ⟨m, hM⟩ : ∃ m, m = fs.length := ⟨_, rfl⟩
  rw [← hM] at hfn ⊢
  have HM := Lib.hid hM
  clear hM
  have hmm := fun wx => run_makeMap33 wx (m : Int)
  have hsD := HO.out.size_le
  have e1 : ((w.alloc (.cells #[.int .i64 0, .slice ao m cap, .map (some B)] 41)).alloc (.map #[] 0)).heap.size = w.heap.size + 2 := by simp
  go_enter Try.func23, Try.ntmps23
  go_wp2_with (first
    | (at_range; refine wpList_range_own _ rfl _ 31 rfl 9 3 keyed Try.underlying31 _ B n D rfl ((HO.out.alloc _).alloc _) ?_; intro w0 hrg0 hg0 hs0)
    | go_in)
  go_frame
  rw [e1] at hrg0 hs0 ⊢
  clear e1
  have hnx0 : Below (w.heap.size + 1) (w.alloc (.cells #[.int .i64 0, .slice ao m cap, .map (some B)] 41)) w0 :=
    ((Below.refl _ _).alloc (by simp) _).grown hg0 (by simp) (fun j hj => by cases hj)
  have hout0 : w0.ownsMap Try.prog 9 (plainElem Try.prog 9) (w.heap.size + 1) 0 (.map [] : DataW Unit) := by
    have h := (World.ownsMap_made (H := Unit) (w.alloc (.cells #[.int .i64 0, .slice ao m cap, .map (some B)] 41)) Try.prog 9 (plainElem Try.prog 9)).kept hg0 (by simp)
    simpa using h
  have hA0 := cells_start (fs := fs) HK.out
  go_loopw [4, 5] (fun _ _ wr => ∃ (left : Lit → Bool) (cnt nn : Nat) (Dout : DataW Unit), wr.ranges Try.prog 9 (plainElem Try.prog 3) B (w.heap.size + 2) n D left cnt ∧ nn + cnt ≤ n ∧
      wr.ownsMap Try.prog 9 (plainElem Try.prog 9) (w.heap.size + 1) nn Dout ∧ CellsOk ks zs fs left Dout ∧ Below (w.heap.size + 1) (w.alloc (.cells #[.int .i64 0, .slice ao m cap, .map (some B)] 41)) wr)
    (fun _ _ wr => wr.rangeLeft B (w.heap.size + 2))
  case atStart => exact ⟨_, _, 0, .map [], hrg0, by omega, hout0, hA0, hnx0⟩
  case round =>
    clear hrg0 hs0 hnx0 hout0 hA0 hg0
    obtain ⟨left, cnt, nn, Dout, hrg, hcs, hout, hA, hnx⟩ := hrel
    have HA := Lib.hid hA
    have hbw : Below w.heap.size w wr := ((Below.refl _ _).alloc (Nat.le_refl _) _).trans (hnx.mono (by omega))
    have HW := Lib.hid hbw
    have HX := Lib.hid hnx
    have hBlt := HO.out.lt
    clear hA hnx hbw
    go_wp2_with (first
      | (at_next; refine next_ranges_si _ rfl _ rfl 9 3 .i64 keyed Try.underlying9 Try.underlying3 B (w.heap.size + 2) n D _ _ rfl hrg ?_ ?_)
      | go_in)
    · intro hc0 hl0
      go_wp2
      go_ret
      have hl : left = fun _ => false := funext hl0
      rw [hl] at HA
      exact ⟨rfl, nn, Dout, by omega, hout, HA.out, HW.out⟩
    · intro x c w1 cnt1 hwx hwc hlx hat hrg1 hlt hg1 hs1 hen
      have hout1 := hout.kept hg1 (by simp)
      have hX1 : Below (w.heap.size + 1) (w.alloc (.cells #[.int .i64 0, .slice ao m cap, .map (some B)] 41)) w1 := HX.out.grown hg1 (by have := HX.out.size; simpa using this) (fun j hj => by cases hj; omega)
      have hbox1 : w1.cell? ⟨w.heap.size, 1, none⟩ = some (.slice ao m cap) := by rw [hX1.cell (by simp)]; simp
      obtain ⟨hz0, hz1, hfe⟩ := field_of_at HK.out HP.out hat
      rw [← HM.out] at hz1
      have hlt2 : c.toNat < fs.length := by rw [← HM.out]; omega
      obtain ⟨b, o, rfl, hcell⟩ := HC.out c.toNat hlt2
      have hbw1 : Below w.heap.size w w1 := ((Below.refl _ _).alloc (Nat.le_refl _) _).trans (hX1.mono (by omega))
      have hcell1 := cell_later hbw1 hcell
      have hfe2 : field ks zs fs x.data.toList = fs[c.toNat] := by rw [hfe]; simp [List.getD, hlt2]
      have hsf := HS.out c.toNat hlt2
      obtain ⟨f, hf⟩ : ∃ f, f = fs[c.toNat] := ⟨_, rfl⟩
      rw [← hf] at hcell1 hfe2 hsf
      have HF := Lib.hid hfe2
      have HL := Lib.hid hlx
      have HX1 := Lib.hid hX1
      have HR1 := Lib.hid hrg1
      have HR := Lib.hid hrg
      have HO1 := Lib.hid hout1
      have HT := Lib.hid hlt
      clear hf hfe2 hlx hX1 hrg1 hrg hout1 hout hlt hat hfe hcell hbw1 hlt2 hwc
      by_cases hem : f = ByteArray.empty
      · subst hem
        go_wp2
        go_roundw
        case rel => exact ⟨_, cnt1, nn, Dout, HR1.out, by have := HT.out; omega, HO1.out, cells_skip HA.out HL.out HF.out, HX1.out⟩
        case measure => rw [HR1.out.left_eq, HR.out.left_eq]; exact HT.out
      · have hne : f.toList.isEmpty = false := by
          rw [ByteArray.toList_eq]
          cases hq : f.data.toList with
          | nil => exact absurd (ByteArray.size_eq_zero_iff.1 (by show f.data.size = 0; rw [← Array.length_toList, hq]; rfl)) hem
          | cons _ _ => rfl
        obtain ⟨w2, hrun, hout2, hg2⟩ := HO1.out.update keyed Try.underlying33 (by unfold maxLen; omega) (keyOf_string_mk Try.underlying9 hwx) (plainElem_string Try.underlying9 (s := f) (by unfold maxLen; omega))
        have hrg2 := HR1.out.kept hg2 (fun e => by have := Option.some.inj e; omega) (fun e => by have := Option.some.inj e; omega)
        have hX2 := HX1.out.grown hg2 (by have := HX1.out.size; simpa using this) (fun j hj => by cases hj; omega)
        have hA2 := cells_put HA.out HO1.out.isMap HL.out (by rw [HF.out]; exact hem)
        rw [HF.out] at hA2
        have HR2 := Lib.hid hrg2
        have HX2 := Lib.hid hX2
        have HA2 := Lib.hid hA2
        have HO2 := Lib.hid hout2
        clear hrg2 hX2 hA2 hout2 hg2
        go_wp2
        go_roundw
        case rel => exact ⟨_, cnt1, nn + 1, _, HR2.out, by have := HT.out; omega, HO2.out, HA2.out, HX2.out⟩
        case measure => rw [HR2.out.left_eq, HR.out.left_eq]; exact HT.out

set_option maxHeartbeats 1600000 in
/-- ZZRowCells. -/
theorem zzcells_calls (v : Value) (ks : List ByteArray) (zs : List Int) (fs : List ByteArray) (B n : Nat) (D : DataW Unit) (hn : n ≤ 1048576) (w : World)
    (hf : StrsAt w v fs) (hP : Prem ks zs fs) (hown : w.ownsMap Try.prog 9 (plainElem Try.prog 3) B n D) (hok : ColsOk ks zs ks.length D) :
    Calls Try.prog 18 #[v, .map (some B)] w fun e w' => e = .returned (.map (some (w.heap.size + 1))) ∧ ∃ (nn : Nat) (Dout : DataW Unit), nn ≤ 1048576 ∧ w'.ownsMap Try.prog 9 (plainElem Try.prog 9) (w.heap.size + 1) nn Dout ∧ CellsOk ks zs fs (fun _ => false) Dout ∧ Below w.heap.size w w' := by
  have hf' := hf
  obtain ⟨ao, cap, rfl, -, -, -⟩ := hf'
  go_enter Try.func18, Try.ntmps18
  go_wp2_with (go_at_call 23; refine (cells_calls ao cap ks zs fs B n D hn w hf hP hown hok).mono ?_; rintro e w1 ⟨rfl, nn, Dout, h1, h2, h3, h4⟩)
  go_ret
  exact ⟨rfl, nn, Dout, h1, h2, h3, h4⟩
set_option maxHeartbeats 1600000 in
/-- ZZRowGet. -/
theorem zzget_calls (v : Value) (ks : List ByteArray) (zs : List Int) (fs : List ByteArray) (B n : Nat) (D : DataW Unit) (s : ByteArray) (hs : s.size ≤ maxLen) (w : World)
    (hf : StrsAt w v fs) (hP : Prem ks zs fs) (hown : w.ownsMap Try.prog 9 (plainElem Try.prog 3) B n D) (hok : ColsOk ks zs ks.length D) :
    Calls Try.prog 21 #[v, .map (some B), .string s] w fun e w' => e = .returned (.string (field ks zs fs s.data.toList)) ∧ Below w.heap.size w w' := by
  have hf' := hf
  obtain ⟨ao, cap, rfl, -, -, -⟩ := hf'
  go_enter Try.func21, Try.ntmps21
  go_wp2_with (go_at_call 24; refine (rowget_calls ao cap ks zs fs B n D s hs w hf hP hown hok).mono ?_; rintro e w1 ⟨rfl, h4⟩)
  go_ret
  exact ⟨rfl, h4⟩
end Go.Proofs.Qxb6600390a

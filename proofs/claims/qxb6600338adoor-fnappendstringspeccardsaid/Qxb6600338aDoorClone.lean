import Derived.Test.Qxb6600338aDoorApp
import Derived.Laws.CopyOwn
import Derived.Laws.MakeOwn
import Derived.Lib.SliceRun
import Derived.WalkSpells
namespace Go.Proofs.Qxb6600338aDoor
open Go.Shelf Go.RowKit

/-- A slice value whose elements are the bytes l: nil, or its cells lie behind its address. -/
structure Reads (w : World) (v : Value) (l : List UInt8) : Prop where
  is : (v = .slice none 0 0 ∧ l = []) ∨ ∃ ad cap, v = .slice (some ad) l.length cap ∧ ∀ j (hj : j < l.length), w.cell? (ad.add j) = some (.int .u8 (l[j].toNat : Int))

theorem one_bytes (l : List UInt8) : ∀ u ∈ Lib.byteCells l, u.oneCell' = true := by
  intro u hu
  simp only [Lib.byteCells, List.mem_map] at hu
  obtain ⟨b, _, rfl⟩ := hu
  rfl
theorem byteCells_at {l : List UInt8} {j : Nat} {u : Value} (h : (Lib.byteCells l)[j]? = some u) : ∃ hj : j < l.length, u = .int .u8 (l[j].toNat : Int) := by
  simp only [Lib.byteCells, List.getElem?_map, Option.map_eq_some_iff] at h
  obtain ⟨b, hb, rfl⟩ := h
  obtain ⟨hj, rfl⟩ := List.getElem?_eq_some_iff.1 hb
  exact ⟨hj, rfl⟩
theorem owns_of_row {w2 : World} {g n c B : Nat} {M cs : List Value} (hM : M.length = c) (hcs : cs.length = n) (hnc : n ≤ c) (hcm : c ≤ maxLen)
    (h : w2.heap[g]? = some (.cells (splice M 0 cs).toArray 5 (0, 0))) (hB : B ≤ g) : w2.ownsRow B 5 1 (.slice (some ⟨g, 0, none⟩) n c) n cs := by
  refine ⟨by omega, Or.inr ⟨g, c, _, rfl, hB, h, hnc, hcm, ?_, ?_⟩⟩
  · rw [List.size_toArray, length_splice _ _ _ (by omega)]; omega
  · simp only [splice, List.take_zero, List.nil_append]
    rw [Nat.mul_one, ← hcs]
    exact List.take_left
theorem Reads.of_owns {w : World} {B : Nat} {v : Value} {l : List UInt8} (h : w.ownsRow B 5 1 v l.length (Lib.byteCells l)) : Reads w v l := by
  refine ⟨?_⟩
  rcases h.2 with ⟨rfl, h0⟩ | ⟨g, cap, cur, rfl, -, -, -, -, -, -⟩
  · exact Or.inl ⟨rfl, List.eq_nil_of_length_eq_zero h0⟩
  · exact Or.inr ⟨⟨g, 0, none⟩, cap, rfl, fun j hj => h.cells (g := g) rfl j _ (by simp [Lib.byteCells, hj])⟩

theorem copy_run {W : World} {g : Nat} (M : List Value) (l : List UInt8) (c : Nat) (sp : Option Addr) (sc : Nat) (hg : W.heap[g]? = some (.cells M.toArray 5 (0, 0))) (hfit : l.length ≤ M.length)
    (hsrc : 0 < l.length → ∃ ad, sp = some ad ∧ ∀ j (hj : j < l.length), W.cell? (ad.add j) = some (.int .u8 (l[j].toNat : Int))) :
    ∃ w2, (Builtin.copy_ #[29, 29] 3 #[.slice (some ⟨g, 0, none⟩) l.length c, .slice sp l.length sc]).run Tryd.prog W = .ok (goInt l.length) w2 ∧ w2.heap[g]? = some (.cells (splice M 0 (Lib.byteCells l)).toArray 5 (0, 0)) ∧ ∀ B, B ≤ g → Below B W w2 := by
  by_cases h0 : l.length = 0
  · obtain rfl : l = [] := List.eq_nil_of_length_eq_zero h0
    exact ⟨W, run_copy_none (P := Tryd.prog) W 29 29 3 5 _ _ 0 c 0 sc Tryd.underlying29 (by kernel_rfl) rfl, by simpa [splice, Lib.byteCells] using hg, fun B _ => Below.refl _ _⟩
  · obtain ⟨ad, rfl, hs2⟩ := hsrc (by omega)
    have hr := run_copy_row (P := Tryd.prog) W 29 29 3 5 g 0 l.length c ad l.length sc M.toArray 5 (Lib.byteCells l) Tryd.underlying29 (by kernel_rfl) hg (by rw [Lib.byteCells_length]; simp) (fun j u hj => by
      obtain ⟨hj2, rfl⟩ := byteCells_at hj
      exact hs2 j hj2) (by rw [Lib.byteCells_length]; simp; omega) (one_bytes l)
    rw [Lib.byteCells_length] at hr
    refine ⟨_, hr, ?_, fun B hB => below_setRow (Below.refl _ _) hB _⟩
    have := setRow_heap W g M.toArray (M.toArray.toList.take 0 ++ (Lib.byteCells l ++ M.toArray.toList.drop (0 + l.length))).toArray 5 (0, 0) hg
    simpa [splice, Lib.byteCells_length] using this

set_option maxHeartbeats 1600000 in
theorem clone_some (ad : Addr) (cap : Nat) (l : List UInt8) (hl : l.length ≤ 1048576) (w : World) (hc : ∀ j (hj : j < l.length), w.cell? (ad.add j) = some (.int .u8 (l[j].toNat : Int))) :
    Calls Tryd.prog 19 #[.slice (some ad) l.length cap] w fun e w' => ∃ v', e = .returned v' ∧ w'.ownsRow w.heap.size 5 1 v' l.length (Lib.byteCells l) ∧ Below w.heap.size w w' := by
  obtain ⟨i0, hi, hz0, hz1, hz2⟩ := info_parts Tryd.info5
  have hq := fun wx => Lib.run_eql_slice_nil (P := Tryd.prog) wx 29 5 (some ad) l.length cap 0 0 Tryd.underlying29
  have hmk := run_make (P := Tryd.prog) w 29 5 i0 (.int .u8 0) Tryd.underlying29 hi hz0 .i64 .i64 (l.length : Int) (l.length : Int) (by omega) (by omega) (by rw [hz2]; omega) (by omega)
  obtain ⟨M, hM⟩ : ∃ M, M = madeCells (Value.int .u8 0).cells ((l.length : Int).toNat * i0.size) := ⟨_, rfl⟩
  have hMl : M.size = l.length := by rw [hM, size_madeCells, hz1]; simp
  rw [← hM, Int.toNat_natCast] at hmk
  clear hM
  obtain ⟨w2, hr2, hg2, hb2⟩ := copy_run (W := w.alloc (.cells M 5)) (g := w.heap.size) M.toList l l.length (some ad) cap (by simpa using heap_alloc_new w (.cells M 5)) (by simp; omega)
    (fun _ => ⟨ad, rfl, fun j hj => cell_later ((Below.refl _ _).alloc (Nat.le_refl _) _) (hc j hj)⟩)
  have hB : Below w.heap.size w w2 := ((Below.refl _ _).alloc (Nat.le_refl _) _).trans (hb2 _ (Nat.le_refl _))
  have hO : w2.ownsRow w.heap.size 5 1 (.slice (some ⟨w.heap.size, 0, none⟩) l.length l.length) l.length (Lib.byteCells l) := owns_of_row (by simpa using hMl) (Lib.byteCells_length l) (Nat.le_refl _) (by unfold maxLen; omega) hg2 (Nat.le_refl _)
  have HO := Lib.hid hO
  clear hc hO hg2 hb2 hMl hi hz0 hz1 hz2
  go_enter Tryd.func19, Tryd.ntmps19
  go_wp2
  go_ret
  exact ⟨_, rfl, HO.out, hB⟩
theorem clone_nil (w : World) : Calls Tryd.prog 19 #[.slice none 0 0] w fun e w' => e = .returned (.slice none 0 0) ∧ w' = w := by
  have hq := fun wx => Lib.run_eql_slice_nil (P := Tryd.prog) wx 29 5 none 0 0 0 0 Tryd.underlying29
  go_enter Tryd.func19, Tryd.ntmps19
  go_wp2
  go_ret
  exact ⟨rfl, rfl⟩
/-- zzCloneBytes. -/
theorem clone_calls (v : Value) (l : List UInt8) (hl : l.length ≤ 1048576) (w : World) (h : Reads w v l) :
    Calls Tryd.prog 19 #[v] w fun e w' => ∃ v', e = .returned v' ∧ w'.ownsRow w.heap.size 5 1 v' l.length (Lib.byteCells l) ∧ Below w.heap.size w w' := by
  rcases h.is with ⟨rfl, rfl⟩ | ⟨ad, cap, rfl, hc⟩
  · exact (clone_nil w).mono fun e w' ⟨he, hw⟩ => ⟨_, he, by rw [hw]; exact World.ownsRow_nil _ _ _ _, by rw [hw]; exact Below.refl _ _⟩
  · exact clone_some ad cap l hl w hc
end Go.Proofs.Qxb6600338aDoor

import Derived.Test.Qxb6600390aClone
import Derived.OpenShut
import Derived.ShutString
import Derived.ChangeOld
import Derived.Below
import Derived.SliceStrings
namespace Go.Proofs.Qxb6600390a
open Go.ChangeShapes Go.WideShapes Go.ChangeAt Go.RowKit

theorem laidOut : laidOutB Try.prog = true := by kernel_rfl
theorem own : ownKnob Try.prog.godebug = none := by kernel_rfl

/-- A slice of strings that came in, as the walks know it. -/
theorem open_strs {H : Type} {enc : TypeId × Value → H} {W : World} {a : Option Addr} {len cap : Nat} {d : DataW H} {p : List MemPlace}
    (h : DataW.Trod enc Try.prog W 0 (fun _ => true) true 22 (.slice a len cap) d p) : ∃ ss, StrsAt W (.slice a len cap) ss ∧ NilOk (.slice a len cap) := by
  obtain ⟨fuel, hf⟩ := h
  rcases open_strings Try.underlying22 Try.underlying9 (by kernel_rfl) hf with ⟨hcs, _⟩ | ⟨x, l, c, ss, hcs, _, hl, hm, hz, _, hcell, hws⟩
  · simp [Value.cells] at hcs
    obtain ⟨rfl, rfl, rfl⟩ := hcs
    exact ⟨[], ⟨none, 0, rfl, by simp, fun j hj => by simp at hj, fun j hj => by simp at hj⟩, fun n c e => by simp at e; exact ⟨e.1.symm, e.2.symm⟩⟩
  · simp [Value.cells] at hcs
    obtain ⟨rfl, rfl, rfl⟩ := hcs
    have hz : ss.length = cap := by simpa using hz
    have hlen : (ss.take len).length = len := by simp; omega
    have hml : cap ≤ 9223372036854775807 := by unfold maxLen at hm; omega
    refine ⟨ss.take len, ⟨some x, cap, by rw [hlen], by rw [hlen]; omega, fun j hj => ?_, fun j hj => ?_⟩, fun n c e => by simp at e⟩
    · have := hws (ss.take len)[j] (List.mem_of_mem_take (List.getElem_mem hj))
      unfold maxLen at this; omega
    · rw [hlen] at hj
      have hj2 : j < ss.length := by omega
      have h0 := hcell 0 (by omega)
      obtain ⟨b, off, spot⟩ := x
      have hspot : spot = none := by simpa [Addr.add] using World.cell?_spot h0
      subst hspot
      refine ⟨b, off, rfl, ?_⟩
      have := hcell j hj2
      rw [Go.WideShapes.add_plain] at this
      rw [this]
      simp [List.getD, hj2]
/-- A slice of ints that came in. -/
theorem open_nums {H : Type} {enc : TypeId × Value → H} {W : World} {a : Option Addr} {len cap : Nat} {d : DataW H} {p : List MemPlace}
    (h : DataW.Trod enc Try.prog W 0 (fun _ => true) true 27 (.slice a len cap) d p) : ∃ zs, IntsAt W (.slice a len cap) zs ∧ NilOk (.slice a len cap) := by
  obtain ⟨fuel, hf⟩ := h
  rcases open_ints Try.underlying27 Try.underlying3 (by kernel_rfl) hf with ⟨hcs, _⟩ | ⟨x, l, c, ss, hcs, _, hl, hm, hz, _, hcell, hws⟩
  · simp [Value.cells] at hcs
    obtain ⟨rfl, rfl, rfl⟩ := hcs
    exact ⟨[], ⟨none, 0, rfl, by simp, fun j hj => by simp at hj, fun j hj => by simp at hj⟩, fun n c e => by simp at e; exact ⟨e.1.symm, e.2.symm⟩⟩
  · simp [Value.cells] at hcs
    obtain ⟨rfl, rfl, rfl⟩ := hcs
    have hz : ss.length = cap := by simpa using hz
    have hlen : (ss.take len).length = len := by simp; omega
    have hml : cap ≤ 9223372036854775807 := by unfold maxLen at hm; omega
    refine ⟨ss.take len, ⟨some x, cap, by rw [hlen], by rw [hlen]; omega, fun j hj => ?_, fun j hj => ?_⟩, fun n c e => by simp at e⟩
    · exact bounds_i64 (hws (ss.take len)[j] (List.mem_of_mem_take (List.getElem_mem hj)))
    · rw [hlen] at hj
      have hj2 : j < ss.length := by omega
      have h0 := hcell 0 (by omega)
      obtain ⟨b, off, spot⟩ := x
      have hspot : spot = none := by simpa [Addr.add] using World.cell?_spot h0
      subst hspot
      refine ⟨b, off, rfl, ?_⟩
      have := hcell j hj2
      rw [Go.WideShapes.add_plain] at this
      rw [this]
      simp [List.getD, hj2]
end Go.Proofs.Qxb6600390a

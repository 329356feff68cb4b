/-
  FROM A READING OF THE ARGUMENTS TO WHAT LIES IN MEMORY.
-/
import Derived.Test.YoeeawBase
import Derived.ProofKit
import Derived.SliceStrings
namespace Go.Proofs.Yoeeaw
open Go.ChangeShapes Go.WideShapes Go.ChangeAt Go.RowKit

theorem Eeag.own : ownKnob Eeag.prog.godebug = none := by kernel_rfl
theorem Eeag.laidOut : laidOutB Eeag.prog = true := by kernel_rfl
theorem Eeag.cells9 : Eeag.prog.cellsOf 9 = 1 := by kernel_rfl
theorem Eeag.cells2 : Eeag.prog.cellsOf 2 = 1 := by kernel_rfl

theorem args_strs {H : Type} {enc : TypeId × Value → H} {W : World} {a0 : Option Addr} {len cap : Nat} {d : DataW H} {p : List MemPlace}
    (h : DataW.Trod enc Eeag.prog W 0 (fun _ => true) true 22 (.slice a0 len cap) d p) :
    ∃ ss : List ByteArray, ss.length = len ∧ SegS W a0 ss ∧ ∀ s ∈ ss, s.size ≤ maxLen := by
  obtain ⟨fuel, hf⟩ := h
  rcases open_strings Eeag.underlying22 Eeag.underlying9 Eeag.cells9 hf with ⟨hcs, _⟩ | ⟨a, len', cap', ss, hcs, _, hl, hm, hz, _, hcell, hws⟩
  · simp [Value.cells] at hcs
    obtain ⟨rfl, rfl, rfl⟩ := hcs
    exact ⟨[], rfl, fun j hj => by simp at hj, fun s hs => by simp at hs⟩
  · simp [Value.cells] at hcs
    obtain ⟨rfl, rfl, rfl⟩ := hcs
    simp only [if_true] at hz
    have hlen : (ss.take len).length = len := by simp; omega
    refine ⟨ss.take len, hlen, fun j hj => ?_, fun s hs => hws s (List.mem_of_mem_take hs)⟩
    rw [hlen] at hj
    have hc := hcell j (by omega)
    obtain ⟨b, off, spot⟩ := a
    have hspot : spot = none := by simpa [Addr.add] using World.cell?_spot (hcell 0 (by omega))
    subst hspot
    refine ⟨b, off, rfl, ?_⟩
    rw [← add_plain, hc]
    have e1 : (ss.take len).getD j ByteArray.empty = ss.getD j ByteArray.empty := by
      simp [List.getD, hj]
    rw [e1]

theorem args_ints {H : Type} {enc : TypeId × Value → H} {W : World} {a0 : Option Addr} {len cap : Nat} {d : DataW H} {p : List MemPlace}
    (h : DataW.Trod enc Eeag.prog W 0 (fun _ => true) true 23 (.slice a0 len cap) d p) :
    ∃ zs : List Int, zs.length = len ∧ SegI W a0 zs := by
  obtain ⟨fuel, hf⟩ := h
  rcases open_ints Eeag.underlying23 Eeag.underlying2 Eeag.cells2 hf with ⟨hcs, _⟩ | ⟨a, len', cap', ss, hcs, _, hl, hm, hz, _, hcell, _⟩
  · simp [Value.cells] at hcs
    obtain ⟨rfl, rfl, rfl⟩ := hcs
    exact ⟨[], rfl, fun j hj => by simp at hj⟩
  · simp [Value.cells] at hcs
    obtain ⟨rfl, rfl, rfl⟩ := hcs
    simp only [if_true] at hz
    have hlen : (ss.take len).length = len := by simp; omega
    refine ⟨ss.take len, hlen, fun j hj => ?_⟩
    rw [hlen] at hj
    have hc := hcell j (by omega)
    obtain ⟨b, off, spot⟩ := a
    have hspot : spot = none := by simpa [Addr.add] using World.cell?_spot (hcell 0 (by omega))
    subst hspot
    refine ⟨b, off, rfl, ?_⟩
    rw [← add_plain, hc]
    have e1 : (ss.take len).getD j 0 = ss.getD j 0 := by
      simp [List.getD, hj]
    rw [e1]

/-- All old memory is kept. -/
theorem below_of_grown {w w' : World} (h : w.grownBy w' none) : Below w.heap.size w w' :=
  ⟨h.os, h.tape, h.output, h.size, fun k hk => h.block k hk (by simp)⟩

end Go.Proofs.Yoeeaw

import Derived.Test.YbulkaabiRows
import Derived.WalkKit
import Derived.ProofKit
import Derived.OpenShut
import Derived.SliceStrings
import Derived.ChangeOld
import Derived.Below
namespace Go.Proofs.Ybulkaabi
open Go.ChangeShapes Go.WideShapes Go.ChangeAt Go.RowKit

theorem own : ownKnob Yba.prog.godebug = none := by kernel_rfl
theorem laidOut : laidOutB Yba.prog = true := by kernel_rfl
theorem cells9 : Yba.prog.cellsOf 9 = 1 := by kernel_rfl

/-- WHAT THE WALK IS TOLD OF A SLICE OF STRINGS THAT CAME IN. -/
def IsStrs (w : World) (a : Option Addr) (len : Nat) (ss : List ByteArray) : Prop :=
  len = 0 ∨ len ≤ maxLen ∧ ∃ b off, a = some ⟨b, off, none⟩ ∧ b < w.heap.size ∧ ∀ j, j < len → w.cell? ⟨b, off + j, none⟩ = some (.string (ss.getD j ByteArray.empty))

theorem isStrs {H : Type} {enc : TypeId × Value → H} {W : World} {a0 : Option Addr} {len cap : Nat} {d : DataW H} {p : List MemPlace} (hlt : ∀ x ∈ p, x.block < W.heap.size)
    (h : DataW.Trod enc Yba.prog W 0 (fun _ => true) true 22 (.slice a0 len cap) d p) : ∃ ss, IsStrs W a0 len ss := by
  obtain ⟨fuel, hf⟩ := h
  rcases open_strings Yba.underlying22 Yba.underlying9 cells9 hf with ⟨hcs, hx⟩ | ⟨a, len', cap', ss, hcs, _, hl, hm, hz, hx, hcell, hws⟩
  · simp [Value.cells] at hcs
    obtain ⟨rfl, rfl, rfl⟩ := hcs
    exact ⟨[], .inl rfl⟩
  · simp [Value.cells] at hcs
    obtain ⟨rfl, rfl, rfl⟩ := hcs
    simp only [Prod.mk.injEq] at hx
    obtain ⟨rfl, rfl⟩ := hx
    simp only [if_true] at hz
    by_cases hl0 : len = 0
    · exact ⟨[], .inl hl0⟩
    · obtain ⟨b, off, spot⟩ := a
      have hspot : spot = none := by simpa [Addr.add] using World.cell?_spot (hcell 0 (by omega))
      subst hspot
      have hbW : b < W.heap.size := hlt (.cell b off) (MemPlace.mem_row.2 ⟨0, by omega, by simp⟩)
      exact ⟨ss, .inr ⟨by omega, b, off, rfl, hbW, fun j hj => by rw [← add_plain]; exact hcell j (by omega)⟩⟩

end Go.Proofs.Ybulkaabi

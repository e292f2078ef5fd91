import Derived.Test.YbulkaabiSame
import Derived.WalkSmall
namespace Go.Proofs.Ybulkaabi
open Go.RowKit

/-- What the walk reads of child j. -/
theorem built_kid {B k g c j : Nat} {ss : List ByteArray} {ps : List Value} {w : World} (h : Built B ss k (.slice (some ⟨g, 0, none⟩) k c) ps w) (hj : j < k) :
    ∃ q, w.cell? ⟨g, j, none⟩ = some (.pointer (some ⟨q, 0, none⟩)) ∧ w.cell? ⟨q, 1, none⟩ = some (.string (ss.getD j ByteArray.empty)) ∧ q < w.heap.size := by
  obtain ⟨q, _, hp, hq⟩ := h.kid j hj
  refine ⟨q, ?_, by simp [World.cell?, hq, nodeCells], lt_of_block hq⟩
  have := h.own.cells (g := g) rfl j _ hp
  have hadd : (⟨g, 0, none⟩ : Addr).add j = ⟨g, j, none⟩ := by unfold Addr.add; split <;> simp_all
  rw [hadd] at this
  exact this

set_option maxHeartbeats 400000 in
theorem nil_long (a0 : Option Addr) (len cap : Nat) (d : Int) (w : World) (hm : len ≤ maxLen) (h : 1024 < len) :
    Calls Yba.prog 4 #[.slice a0 len cap, .int .i64 d] w fun e w' => e = .returned (.bool true) ∧ Below w.heap.size w w' := by
  unfold maxLen at hm
  have h1 : (1024 : Int) < (len : Int) := by omega
  go_enter Yba.func4, Yba.ntmps4
  go_wp2
  go_ret
  exact ⟨rfl, Below.refl _ _⟩

set_option maxHeartbeats 400000 in
theorem nil_none (a0 : Option Addr) (cap : Nat) (d : Int) (w : World) :
    Calls Yba.prog 4 #[.slice a0 0 cap, .int .i64 d] w fun e w' => e = .returned (.bool true) ∧ Below w.heap.size w w' := by
  go_enter Yba.func4, Yba.ntmps4
  go_wp2_with fail
  refine (build_zero a0 cap w).mono ?_
  rintro e w1 ⟨rfl, hw1⟩
  have hC : w1.cell? ⟨w.heap.size, 9, none⟩ = some (.slice none 0 0) := by rw [hw1]; simp [nodeCells]
  have hbel : Below w.heap.size w w1 := by rw [hw1]; exact (Below.refl _ _).alloc (Nat.le_refl _) _
  clear hw1
  go_wp2_with fail
  refine (walked_nil _ d _ w1 hC).mono ?_
  rintro e w2 ⟨rfl, rfl⟩
  go_wp2_with fail
  go_loopw [7] (fun i wr => i = .int .i64 0 ∧ wr = w2) (fun _ _ => 0)
  case atStart => exact ⟨rfl, rfl⟩
  case round =>
    obtain ⟨rfl, rfl⟩ := hrel
    go_wp2_with fail
    refine (same_nil _).mono ?_
    rintro e w3 ⟨rfl, n, rfl⟩
    go_wp2
    go_ret
    exact ⟨rfl, below_drewN hbel n⟩

set_option maxHeartbeats 1600000 in
theorem nil_some (nb off len cap : Nat) (ss : List ByteArray) (d : Int) (w : World) (h0 : 0 < len) (hlen : len ≤ 1024) (hnb : nb < w.heap.size)
    (hcell : ∀ j, j < len → w.cell? ⟨nb, off + j, none⟩ = some (.string (ss.getD j ByteArray.empty))) :
    Calls Yba.prog 4 #[.slice (some ⟨nb, off, none⟩) len cap, .int .i64 d] w fun e w' => e = .returned (.bool true) ∧ Below w.heap.size w w' := by
  have h1 : ¬ (1024 : Int) < (len : Int) := by omega
  go_enter Yba.func4, Yba.ntmps4
  go_wp2_with fail
  refine (build_any nb off len cap ss w hlen hnb hcell).mono ?_
  rintro e w1 ⟨rfl, ⟨v, ps, hB⟩, hbel⟩
  obtain ⟨g, c, hv, _, _⟩ := hB.own.form h0
  subst hv
  have hC := built_cell hB
  have HB : Hid (Built w.heap.size ss len (.slice (some ⟨g, 0, none⟩) len c) ps w1) := hB
  have HC : Hid (∀ j, j < len → w1.cell? ⟨nb, off + j, none⟩ = some (.string (ss.getD j ByteArray.empty))) := fun j hj => (hbel.cell (by exact hnb)).trans (hcell j hj)
  have HW : Hid (Below w.heap.size w w1) := hbel
  clear hB hbel hcell
  go_wp2_with fail
  refine (walked_nil _ d _ w1 hC).mono ?_
  rintro e w2 ⟨rfl, rfl⟩
  go_wp2_with fail
  go_loopw [7] (fun i wr => ∃ j n : Nat, j ≤ len ∧ i = .int .i64 j ∧ wr = w2.drewN n) (fun i _ => len - (intOf i).toNat)
  case atStart => exact ⟨0, 0, Nat.zero_le _, rfl, rfl⟩
  case round =>
    obtain ⟨j, n, hj, rfl, rfl⟩ := hrel
    by_cases hlt : j < len
    · obtain ⟨q, hq1, hq2, hq3⟩ := built_kid HB.out hlt
      have hn := HC.out j hlt
      obtain ⟨s, hs⟩ : ∃ s, s = ss.getD j ByteArray.empty := ⟨_, rfl⟩
      rw [← hs] at hn hq2
      clear hs
      have i0 : (0 : Int) ≤ (j : Int) := Int.natCast_nonneg _
      have i1 : (j : Int) < (len : Int) := by omega
      go_wp2_with fail
      go_quiet (fail)
      go_wp2
      go_roundw
      case rel => exact ⟨j + 1, _, by omega, by go_num, rfl⟩
      case measure => simp [intOf]; omega
    · go_wp2_with fail
      refine (same_some g len c _ hlen (fun j hj => ?_)).mono ?_
      · obtain ⟨q, hq, _⟩ := built_kid HB.out hj
        exact ⟨_, hq⟩
      rintro e w3 ⟨rfl, m, rfl⟩
      go_wp2
      go_ret
      exact ⟨rfl, below_drewN HW.out _⟩
end Go.Proofs.Ybulkaabi

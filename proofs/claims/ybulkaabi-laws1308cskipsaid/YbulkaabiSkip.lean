import Derived.Test.YbulkaabiNilSkip
namespace Go.Proofs.Ybulkaabi
open Go.RowKit

set_option maxHeartbeats 400000 in
theorem skip_long (a0 : Option Addr) (len cap : Nat) (d : Int) (b : Bool) (w : World) (hm : len ≤ maxLen) (h : 1024 < len) :
    Calls Yba.prog 3 #[.slice a0 len cap, .int .i64 d, .bool b] w fun e w' => e = .returned (.bool true) ∧ Below w.heap.size w w' := by
  unfold maxLen at hm
  have h1 : (1024 : Int) < (len : Int) := by omega
  go_enter Yba.func3, Yba.ntmps3
  go_wp2
  go_ret
  exact ⟨rfl, (Below.refl _ _).alloc (Nat.le_refl _) _⟩

theorem after_build {w w1 : World} {b : Bool} {ss : List ByteArray} {len : Nat} {v : Value} {ps : List Value} (hB : Built (w.alloc (.cells #[.bool b] 4)).heap.size ss len v ps w1)
    (hbel : Below (w.alloc (.cells #[.bool b] 4)).heap.size (w.alloc (.cells #[.bool b] 4)) w1) :
    w1.cell? ⟨w.heap.size, 0, none⟩ = some (.bool b) ∧ w1.cell? ⟨w.heap.size + 1, 9, none⟩ = some v ∧ w.heap.size < w1.heap.size ∧ w.heap.size + 1 < w1.heap.size ∧ Below w.heap.size w w1 := by
  have hs : (w.alloc (.cells #[.bool b] 4)).heap.size = w.heap.size + 1 := by simp
  have h1 := built_cell hB
  have h2 := lt_of_block hB.par
  rw [hs] at h1 h2
  refine ⟨?_, h1, by omega, h2, ((Below.refl _ _).alloc (Nat.le_refl _) _).trans (hbel.mono (by simp))⟩
  rw [hbel.cell (by simp)]
  simp

theorem past3 (w : World) (o1 o2 o3 : Obj) {b o : Nat} (h : b < w.heap.size) : (((w.alloc o1).alloc o2).alloc o3).cell? ⟨b, o, none⟩ = w.cell? ⟨b, o, none⟩ :=
  World.cell?_of_block ((Below.heap_alloc _ _ _ (by simp; omega)).trans ((Below.heap_alloc _ _ _ (by simp; omega)).trans (Below.heap_alloc w o1 b h)))
theorem below3 {w w1 : World} (h : Below w.heap.size w w1) (o1 o2 o3 : Obj) : Below w.heap.size w (((w1.alloc o1).alloc o2).alloc o3) := by
  have := h.size
  exact ((h.alloc this _).alloc (by simp; omega) _).alloc (by simp; omega) _

/-- The making's contract, at whatever slice of names, as both laws ask it. -/
def Makes (a0 : Option Addr) (len cap : Nat) (ss : List ByteArray) (w : World) : Prop :=
  Calls Yba.prog 5 #[.slice a0 len cap] w fun e w' => e = .returned (.pointer (some ⟨w.heap.size, 0, none⟩)) ∧
    (∃ v ps, Built w.heap.size ss len v ps w' ∧ (len = 0 → v = .slice none 0 0)) ∧ Below w.heap.size w w'

theorem makes_zero (a0 : Option Addr) (cap : Nat) (ss : List ByteArray) (w : World) : Makes a0 0 cap ss w := by
  refine (build_zero a0 cap w).mono ?_
  rintro e w' ⟨rfl, rfl⟩
  exact ⟨rfl, ⟨.slice none 0 0, [], ⟨heap_alloc_new w _, World.ownsRow_nil _ _ _ _, fun j hj => absurd hj (by omega)⟩, fun _ => rfl⟩, (Below.refl _ _).alloc (Nat.le_refl _) _⟩

theorem makes_some (nb off len cap : Nat) (ss : List ByteArray) (w : World) (h0 : 0 < len) (hlen : len ≤ 1024) (hnb : nb < w.heap.size)
    (hcell : ∀ j, j < len → w.cell? ⟨nb, off + j, none⟩ = some (.string (ss.getD j ByteArray.empty))) : Makes (some ⟨nb, off, none⟩) len cap ss w := by
  refine (build_any nb off len cap ss w hlen hnb hcell).mono ?_
  rintro e w' ⟨rfl, ⟨v, ps, hB⟩, hbel⟩
  exact ⟨rfl, ⟨v, ps, hB, fun h => absurd h (by omega)⟩, hbel⟩

set_option maxHeartbeats 400000 in
theorem skip_true (a0 : Option Addr) (len cap : Nat) (ss : List ByteArray) (d : Int) (w : World) (hlen : len ≤ 1024) (hM : Makes a0 len cap ss (w.alloc (.cells #[.bool true] 4))) :
    Calls Yba.prog 3 #[.slice a0 len cap, .int .i64 d, .bool true] w fun e w' => e = .returned (.bool true) ∧ Below w.heap.size w w' := by
  have h1 : ¬ (1024 : Int) < (len : Int) := by omega
  go_enter Yba.func3, Yba.ntmps3
  go_wp2_with fail
  refine Calls.mono hM ?_
  clear hM
  rintro e w1 ⟨rfl, ⟨v, ps, hB, _⟩, hbel⟩
  obtain ⟨hA, hC, z0, z1, hbel'⟩ := after_build hB hbel
  clear hB hbel
  have q25 : ∀ w cs, (binOp .neq 25 (.func (.func 6) #[] cs) .nilFunc).run Yba.prog w = .ok (.bool true) w := fun _ _ => by kernel_rfl
  have q26 := eql_slice_nil
  have q23 := neq_ptr_same
  have hA' : ∀ o1 o2 o3, (((w1.alloc o1).alloc o2).alloc o3).cell? ⟨w.heap.size, 0, none⟩ = some (.bool true) := fun o1 o2 o3 => (past3 w1 o1 o2 o3 z0).trans hA
  have hC' : ∀ o1 o2 o3, (((w1.alloc o1).alloc o2).alloc o3).cell? ⟨w.heap.size + 1, 9, none⟩ = some v := fun o1 o2 o3 => (past3 w1 o1 o2 o3 z1).trans hC
  clear hA hC
  go_wp2
  go_ret
  exact ⟨rfl, below3 hbel' _ _ _⟩

set_option maxHeartbeats 400000 in
theorem skip_false_zero (a0 : Option Addr) (cap : Nat) (ss : List ByteArray) (d : Int) (w : World) (hM : Makes a0 0 cap ss (w.alloc (.cells #[.bool false] 4))) :
    Calls Yba.prog 3 #[.slice a0 0 cap, .int .i64 d, .bool false] w fun e w' => e = .returned (.bool true) ∧ Below w.heap.size w w' := by
  go_enter Yba.func3, Yba.ntmps3
  go_wp2_with fail
  refine Calls.mono hM ?_
  clear hM
  rintro e w1 ⟨rfl, ⟨v, ps, hB, hv⟩, hbel⟩
  have hv := hv rfl
  subst hv
  obtain ⟨hA, hC, z0, z1, hbel'⟩ := after_build hB hbel
  clear hB hbel
  have q25 : ∀ w cs, (binOp .neq 25 (.func (.func 6) #[] cs) .nilFunc).run Yba.prog w = .ok (.bool true) w := fun _ _ => by kernel_rfl
  have q23 := neq_ptr_same
  have hA' : ∀ o1 o2 o3, (((w1.alloc o1).alloc o2).alloc o3).cell? ⟨w.heap.size, 0, none⟩ = some (.bool false) := fun o1 o2 o3 => (past3 w1 o1 o2 o3 z0).trans hA
  have hC' : ∀ o1 o2 o3, (((w1.alloc o1).alloc o2).alloc o3).cell? ⟨w.heap.size + 1, 9, none⟩ = some (.slice none 0 0) := fun o1 o2 o3 => (past3 w1 o1 o2 o3 z1).trans hC
  clear hA hC
  go_wp2_with (first | (go_at_call 8; refine (same_nil _).mono ?_; rintro e w3 ⟨rfl, n, rfl⟩) | go_in)
  go_ret
  exact ⟨rfl, below_drewN (below3 hbel' _ _ _) _⟩

set_option maxHeartbeats 400000 in
theorem skip_false_some (a0 : Option Addr) (len cap : Nat) (ss : List ByteArray) (d : Int) (w : World) (h0 : 0 < len) (hlen : len ≤ 1024) (hM : Makes a0 len cap ss (w.alloc (.cells #[.bool false] 4))) :
    Calls Yba.prog 3 #[.slice a0 len cap, .int .i64 d, .bool false] w fun e w' => e = .returned (.bool true) ∧ Below w.heap.size w w' := by
  have h1 : ¬ (1024 : Int) < (len : Int) := by omega
  go_enter Yba.func3, Yba.ntmps3
  go_wp2_with fail
  refine Calls.mono hM ?_
  clear hM
  rintro e w1 ⟨rfl, ⟨v, ps, hB, _⟩, hbel⟩
  obtain ⟨g, c, hv, _, hg⟩ := hB.own.form h0
  subst hv
  obtain ⟨hA, hC, z0, z1, hbel'⟩ := after_build hB hbel
  have HK : Hid (∀ o1 o2 o3 j, j < len → ∃ q, (((w1.alloc o1).alloc o2).alloc o3).cell? ⟨g, j, none⟩ = some (.pointer (some q))) := fun o1 o2 o3 j hj => by
    obtain ⟨q, hq, _⟩ := built_kid hB hj
    exact ⟨_, (past3 w1 o1 o2 o3 hg).trans hq⟩
  clear hB hbel
  have q25 : ∀ w cs, (binOp .neq 25 (.func (.func 6) #[] cs) .nilFunc).run Yba.prog w = .ok (.bool true) w := fun _ _ => by kernel_rfl
  have q23 := neq_ptr_same
  have hA' : ∀ o1 o2 o3, (((w1.alloc o1).alloc o2).alloc o3).cell? ⟨w.heap.size, 0, none⟩ = some (.bool false) := fun o1 o2 o3 => (past3 w1 o1 o2 o3 z0).trans hA
  have hC' : ∀ o1 o2 o3, (((w1.alloc o1).alloc o2).alloc o3).cell? ⟨w.heap.size + 1, 9, none⟩ = some (.slice (some ⟨g, 0, none⟩) len c) := fun o1 o2 o3 => (past3 w1 o1 o2 o3 z1).trans hC
  clear hA hC
  go_wp2_with (first | (go_at_call 8; refine (same_some g len c _ hlen (HK.out _ _ _)).mono ?_; rintro e w3 ⟨rfl, n, rfl⟩) | go_in)
  go_ret
  exact ⟨rfl, below_drewN (below3 hbel' _ _ _) _⟩
end Go.Proofs.Ybulkaabi

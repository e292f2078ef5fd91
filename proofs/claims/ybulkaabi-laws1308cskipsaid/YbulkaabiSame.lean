import Derived.Test.YbulkaabiBuild
import Derived.Deep.QuietTactic
import Derived.BigQuiet
import Derived.LaidEqlPtr
namespace Go.Proofs.Ybulkaabi
open Go.RowKit

theorem Yba.has34 : (Yba.prog.info? 34).isSome = true := by kernel_rfl
theorem neq_ptr_same (w : World) (a : Addr) : (binOp .neq 23 (.pointer (some a)) (.pointer (some a))).run Yba.prog w = .ok (.bool false) w := by
  obtain ⟨j, hj⟩ := Option.isSome_iff_exists.1 Yba.has34
  have h : ∀ d : Nat, (Op.equalIn (d + 1) 23 (.pointer (some a)) (.pointer (some a))).run Yba.prog w = .ok true w := fun d => by
    simp [Op.equalIn, run_underlying Yba.underlying23, sizeOf, typeInfo, hj, run_sameAddr_same]
  simp only [binOp]
  simp [Op.equal, Op.maxDepth, h 9999]
theorem eql_slice_nil (w : World) (a : Option Addr) (n c : Nat) : (binOp .eql 26 (.slice a n c) (.slice none 0 0)).run Yba.prog w = .ok (.bool a.isNone) w :=
  Lib.run_eql_slice_nil w 26 23 a n c 0 0 Yba.underlying26

set_option maxHeartbeats 400000 in
theorem same_nil (w : World) : Calls Yba.prog 8 #[.slice none 0 0, .slice none 0 0] w fun e w' => e = .returned (.bool true) ∧ ∃ n, w' = w.drewN n := by
  have q26 := eql_slice_nil
  go_enter Yba.func8, Yba.ntmps8
  go_wp2
  go_loopw [5] (fun i wr => i = .int .i64 0 ∧ wr = w) (fun _ _ => 0)
  case atStart => exact ⟨rfl, rfl⟩
  case round =>
    obtain ⟨rfl, rfl⟩ := hrel
    go_wp2
    go_ret
    exact ⟨rfl, 0, rfl⟩

set_option maxHeartbeats 800000 in
theorem same_some (g k cap : Nat) (w : World) (hk : k ≤ 1024) (hc : ∀ j, j < k → ∃ q, w.cell? ⟨g, j, none⟩ = some (.pointer (some q))) :
    Calls Yba.prog 8 #[.slice (some ⟨g, 0, none⟩) k cap, .slice (some ⟨g, 0, none⟩) k cap] w fun e w' => e = .returned (.bool true) ∧ ∃ n, w' = w.drewN n := by
  have q26 := eql_slice_nil
  go_enter Yba.func8, Yba.ntmps8
  go_wp2
  go_loopw [5] (fun i wr => ∃ j n : Nat, j ≤ k ∧ i = .int .i64 j ∧ wr = w.drewN n) (fun i _ => k - (intOf i).toNat)
  case atStart => exact ⟨0, 0, Nat.zero_le _, rfl, rfl⟩
  case round =>
    obtain ⟨j, n, hj, rfl, rfl⟩ := hrel
    by_cases hlt : j < k
    · obtain ⟨q, hq⟩ := hc j hlt
      clear hc
      have q23 := neq_ptr_same
      have h0 : (0 : Int) ≤ (j : Int) := Int.natCast_nonneg _
      have h1 : (j : Int) < (k : Int) := by omega
      go_wp2_with fail
      go_quiet (fail)
      go_wp2
      go_roundw
      case rel => exact ⟨j + 1, _, by omega, by go_num, rfl⟩
      case measure => simp [intOf]; omega
    · go_wp2
      go_ret
      exact ⟨rfl, n, rfl⟩

/-- walkedChildren without a skip: the node's own children. -/
theorem walked_nil (B : Nat) (d : Int) (v : Value) (w : World) (hC : w.cell? ⟨B, 9, none⟩ = some v) :
    Calls Yba.prog 7 #[.pointer (some ⟨B, 0, none⟩), .int .i64 d, .nilFunc] w fun e w' => e = .returned v ∧ w' = w := by
  have q25 : ∀ w, (binOp .neq 25 .nilFunc .nilFunc).run Yba.prog w = .ok (.bool false) w := fun _ => by kernel_rfl
  go_enter Yba.func7, Yba.ntmps7
  go_wp2
  go_ret
  exact ⟨rfl, rfl⟩
end Go.Proofs.Ybulkaabi

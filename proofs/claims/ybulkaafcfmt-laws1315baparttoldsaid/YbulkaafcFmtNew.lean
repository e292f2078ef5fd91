import Derived.Test.YbulkaafcFmtCards
import Derived.WalkKit
import Derived.WalkSpells
import Derived.OwnWalk
import Derived.OneCell
namespace Go.Proofs.YbulkaafcFmt
open Go.RowKit

theorem Ybaf.info36 : (Ybaf.prog.info? 36).map (fun i => (i.zero, i.size, i.bytes)) = some (some (.int .u64 0), 1, 8) := by kernel_rfl

/-- The block of a clock: its own index, the mutex at rest, its vector. -/
def clockCells (self : Int) (g n : Nat) : Array Value := #[.int .i64 self, .int .i32 0, .int .u32 0, .slice (some ⟨g, 0, none⟩) n n]

/-- What NewVectorClock leaves: the clock in block c, its vector of n zeros in block g. -/
structure Fresh (n : Nat) (me : Int) (g c : Nat) (w : World) : Prop where
  box : w.heap[c]? = some (.cells (clockCells me g n) 35 (0, 0))
  row : ∃ cur, w.heap[g]? = some (.cells cur 36 (0, 0)) ∧ ∀ j, j < n → cur[j]? = some (.int .u64 0)

set_option maxHeartbeats 400000 in
theorem new_any (n : Nat) (self : Int) (w : World) (hn : n ≤ 1024) (h0 : 0 ≤ self) (h1 : self < (n : Int)) :
    Calls Ybaf.prog 5 #[.int .i64 (n : Int), .int .i64 self] w fun e w' => ∃ c, e = .returned (.pointer (some ⟨c, 0, none⟩)) ∧ w.heap.size < c ∧ Fresh n self w.heap.size c w' ∧ Below w.heap.size w w' := by
  obtain ⟨i0, hi0, hz0, hz1, hz2⟩ := info_parts Ybaf.info36
  go_enter Ybaf.func5, Ybaf.ntmps5
  go_wp2_with (at_make; refine wpList_make_full _ rfl _ _ 33 rfl w.heap.size 36 i0 (.int .u64 0) 1 Ybaf.underlying33 hi0 hz0 hz1 _ _ _ _ n rfl rfl rfl rfl (by rw [hz2]; omega) (by unfold maxLen; omega) (Nat.le_refl _) ?_; intro w1 hown hgrow)
  go_ret
  have hlt : w.heap.size < w1.heap.size := by
    have := hown.lt w.heap.size rfl
    exact this.2
  refine ⟨w1.heap.size, rfl, hlt, ⟨heap_alloc_new w1 _, ?_⟩, ?_⟩
  · rcases hown.2 with ⟨h', _⟩ | ⟨g', cap', cur, h', _, hg, _, _, _, htake⟩
    · simp at h'
    · simp only [Value.slice.injEq, Option.some.injEq, Addr.mk.injEq, and_true, true_and] at h'
      obtain ⟨rfl, rfl⟩ := h'
      refine ⟨cur, (Below.heap_alloc w1 _ _ hlt).trans hg, fun j hj => ?_⟩
      have e : (madeCells (Value.int IntKind.u64 0).cells (n * 1)).toList = List.replicate n (.int .u64 0) := by
        rw [Nat.mul_one]; exact toList_madeCells_one _ n
      rw [e] at htake
      have := congrArg (fun l => l[j]?) htake
      simpa [List.getElem?_take, List.getElem?_replicate, hj] using this
  · exact (Below.grown (Below.refl _ _) hgrow (Nat.le_refl _) (fun k e => by cases e)).alloc (by omega) _

theorem new_int (n : Nat) (N self : Int) (w : World) (hN : N = (n : Int)) (hn : n ≤ 1024) (h0 : 0 ≤ self) (h1 : self < N) :
    Calls Ybaf.prog 5 #[.int .i64 N, .int .i64 self] w fun e w' => ∃ c, e = .returned (.pointer (some ⟨c, 0, none⟩)) ∧ w.heap.size < c ∧ Fresh n self w.heap.size c w' ∧ Below w.heap.size w w' := by
  subst hN
  exact new_any n self w hn h0 h1

/-- What a walk reads of a clock. -/
theorem Fresh.self {n g c : Nat} {s : Int} {w : World} (h : Fresh n s g c w) : w.cell? ⟨c, 0, none⟩ = some (.int .i64 s) := by simp [World.cell?, h.box, clockCells]
theorem Fresh.vec {n g c : Nat} {s : Int} {w : World} (h : Fresh n s g c w) : w.cell? ⟨c, 3, none⟩ = some (.slice (some ⟨g, 0, none⟩) n n) := by simp [World.cell?, h.box, clockCells]
theorem Fresh.at {n g c : Nat} {s : Int} {w : World} (h : Fresh n s g c w) {j : Nat} (hj : j < n) : w.cell? ⟨g, j, none⟩ = some (.int .u64 0) := by
  obtain ⟨cur, hg, hc⟩ := h.row
  simp [World.cell?, hg, hc j hj]
theorem Fresh.open_at {n g c : Nat} {s : Int} {w : World} (h : Fresh n s g c w) (j : Nat) : w.frozen? ⟨g, j, none⟩ = false := by
  obtain ⟨cur, hg, _⟩ := h.row
  simp [World.frozen?, hg]
theorem self_lt (un us : Int) : 0 ≤ us % (un % 1024 + 1) ∧ us % (un % 1024 + 1) < un % 1024 + 1 :=
  ⟨Int.emod_nonneg _ (by omega), Int.emod_lt_of_pos _ (by omega)⟩

set_option maxHeartbeats 400000 in
theorem fresh_walk (un us : Int) (w : World) (a0 : 0 ≤ un) (a1 : un ≤ 65535) (b0 : 0 ≤ us) (b1 : us ≤ 65535) :
    Calls Ybaf.prog 3 #[.int .u16 un, .int .u16 us] w fun e w' => e = .returned (.bool true) ∧ Below w.heap.size w w' := by
  have hs := self_lt un us
  go_enter Ybaf.func3, Ybaf.ntmps3
  go_wp2_with fail
  refine (new_int (un % 1024 + 1).toNat _ _ w (by omega) (by omega) hs.1 hs.2).mono ?_
  rintro e w1 ⟨c, rfl, hc, hF, hbel⟩
  obtain ⟨n, hn⟩ : ∃ n, n = (un % 1024 + 1).toNat := ⟨_, rfl⟩
  rw [← hn] at hF
  have hnI : (n : Int) = un % 1024 + 1 := by omega
  clear hn
  have f1 := hF.self
  have f2 := hF.vec
  have HF : Hid (Fresh n (us % (un % 1024 + 1)) w.heap.size c w1) := hF
  clear hF
  go_wp2
  go_loop [8] (fun i => ∃ k : Nat, k ≤ n ∧ i = .int .i64 k) (fun i => n - (intOf i).toNat)
  case atStart => exact ⟨0, Nat.zero_le _, rfl⟩
  case round =>
    obtain ⟨k, hk, rfl⟩ := hrel
    by_cases hlt : k < n
    · have hz := HF.out.at hlt
      have i0 : (0 : Int) ≤ (k : Int) := Int.natCast_nonneg _
      have i1 : (k : Int) < un % 1024 + 1 := by omega
      go_wp2
      go_round
      case rel => exact ⟨k + 1, by omega, by go_num⟩
      case measure => simp [intOf]; omega
    · have i1 : un % 1024 + 1 ≤ (k : Int) := by omega
      go_wp2
      go_ret
      exact ⟨rfl, hbel⟩
end Go.Proofs.YbulkaafcFmt

import Derived.Test.YbulkaabiRows
import Derived.WalkKit
import Derived.WalkSpells
import Derived.OwnWalk
import Derived.OneCell
import Derived.Deep.RegionLaw
import Derived.Deep.AppendLies
import Derived.Deep.DrawnRows
namespace Go.Proofs.Ybulkaabi
open Go.RowKit

theorem Yba.info23 : (Yba.prog.info? 23).map (fun i => (i.zero, i.size, i.bytes)) = some (some (.pointer none), 1, 8) := by kernel_rfl

/-- The cells of a node that has a name and a slice of children, all else zero. -/
def nodeCells (s : ByteArray) (v : Value) : Array Value :=
  #[.int .i64 0, .string s, .string ⟨#[]⟩, .int .i32 0, .int .i32 0, .int .i32 0, .int .i32 0, .int .i32 0, .int .i32 0, v, .pointer none]

/-- What stands behind k rounds of the making: the parent's block B, its children v own the k pointers ps, each leads to a node with its name. -/
structure Built (B : Nat) (ss : List ByteArray) (k : Nat) (v : Value) (ps : List Value) (wr : World) : Prop where
  par : wr.heap[B]? = some (.cells (nodeCells ⟨#[112]⟩ v) 34 (0, 0))
  own : wr.ownsRow (B + 1) 23 1 v k ps
  kid : ∀ j, j < k → ∃ g, B < g ∧ ps[j]? = some (.pointer (some ⟨g, 0, none⟩)) ∧ wr.heap[g]? = some (.cells (nodeCells (ss.getD j ByteArray.empty) (.slice none 0 0)) 34 (0, 0))

theorem built_cell {B k : Nat} {ss : List ByteArray} {v : Value} {ps : List Value} {wr : World} (h : Built B ss k v ps wr) : wr.cell? ⟨B, 9, none⟩ = some v := by
  simp [World.cell?, h.par, nodeCells]
theorem built_free {B k : Nat} {ss : List ByteArray} {v : Value} {ps : List Value} {wr : World} (h : Built B ss k v ps wr) : wr.frozen? ⟨B, 9, none⟩ = false := by
  simp [World.frozen?, h.par]

theorem second_new (w : World) (a b : Obj) : ((w.alloc a).alloc b).drew.heap[w.heap.size + 1]? = some b := by
  have h := heap_alloc_new (w.alloc a) b
  rw [show (w.alloc a).heap.size = w.heap.size + 1 from by simp] at h
  exact h
theorem old2_heap (w : World) (a b : Obj) (k : Nat) (h : k < w.heap.size) : ((w.alloc a).alloc b).drew.heap[k]? = w.heap[k]? :=
  (Below.heap_alloc (w.alloc a) b k (by simp <;> omega)).trans (Below.heap_alloc w a k h)
theorem old2_cell (w : World) (a b : Obj) (p : Addr) (h : p.block < w.heap.size) : ((w.alloc a).alloc b).drew.cell? p = w.cell? p :=
  World.cell?_of_block (old2_heap w a b _ h)
theorem old2_frozen (w : World) (a b : Obj) (p : Addr) (h : p.block < w.heap.size) : ((w.alloc a).alloc b).drew.frozen? p = w.frozen? p :=
  World.frozen?_of_block (old2_heap w a b _ h)

theorem grown_two_cell {w w1 : World} {a b : Obj} {row : Option Nat} {B o : Nat} (hg : ((w.alloc a).alloc b).drew.grownBy w1 row) (h : B < w.heap.size) (hne : row ≠ some B) : w1.cell? ⟨B, o, none⟩ = w.cell? ⟨B, o, none⟩ :=
  (hg.cell_far _ (by simp; omega) (Ne.symm hne)).trans (old2_cell w a b _ h)
theorem grown_two_frozen {w w1 : World} {a b : Obj} {row : Option Nat} {B o : Nat} (hg : ((w.alloc a).alloc b).drew.grownBy w1 row) (h : B < w.heap.size) (hne : row ≠ some B) : w1.frozen? ⟨B, o, none⟩ = w.frozen? ⟨B, o, none⟩ :=
  (hg.frozen_far _ (by simp; omega) (Ne.symm hne)).trans (old2_frozen w a b _ h)

theorem par_setCell {w : World} {B : Nat} {s : ByteArray} {v u : Value} (h : w.heap[B]? = some (.cells (nodeCells s v) 34 (0, 0))) : (w.setCell ⟨B, 9, none⟩ u).heap[B]? = some (.cells (nodeCells s u) 34 (0, 0)) := by
  have hlt := lt_of_block h
  have h' : w.heap[B] = .cells (nodeCells s v) 34 (0, 0) := by simpa [Array.getElem?_eq_getElem hlt] using h
  show (w.heap.modify B _)[B]? = _
  rw [Array.getElem?_eq_getElem (by simpa using hlt), Array.getElem_modify_self, h']
  rfl
theorem row_ne {w : World} {B k g : Nat} {v : Value} {ps : List Value} {cs : Array Value} (h : w.ownsRow B 23 1 v k ps) (hg : w.heap[g]? = some (.cells cs 34 (0, 0))) : v.ownBlock ≠ some g := by
  intro e
  rcases h.2 with ⟨rfl, _⟩ | ⟨g', cap, cur, rfl, _, hh, _⟩
  · simp [Value.ownBlock] at e
  · simp [Value.ownBlock] at e
    subst e
    rw [hh] at hg
    simp at hg
theorem built_step {B k gg cap : Nat} {ss : List ByteArray} {s : ByteArray} {v : Value} {ps : List Value} {wr w1 : World} (hB : Built B ss k v ps wr) (hs : s = ss.getD k ByteArray.empty)
    (hown1 : w1.ownsRow (B + 1) 23 1 (.slice (some ⟨gg, 0, none⟩) (k + 1) cap) (k + 1) (ps ++ [.pointer (some ⟨wr.heap.size, 0, none⟩)]))
    (hgrow : ((wr.alloc (.cells (nodeCells s (.slice none 0 0)) 34)).alloc (.cells #[.pointer (some ⟨wr.heap.size, 0, none⟩)] 23)).drew.grownBy w1 v.ownBlock) :
    Built B ss (k + 1) (.slice (some ⟨gg, 0, none⟩) (k + 1) cap) (ps ++ [.pointer (some ⟨wr.heap.size, 0, none⟩)]) (w1.setCell ⟨B, 9, none⟩ (.slice (some ⟨gg, 0, none⟩) (k + 1) cap)) := by
  have hBlt := lt_of_block hB.par
  have hrow : ∀ g, v.ownBlock = some g → B + 1 ≤ g ∧ g < wr.heap.size := fun g e => hB.own.lt g e
  have old : ∀ g, g < wr.heap.size → v.ownBlock ≠ some g → w1.heap[g]? = wr.heap[g]? := fun g hg hne =>
    (hgrow.block g (by simp; omega) (Ne.symm hne)).trans (old2_heap wr _ _ g hg)
  have hlen : ps.length = k := by simpa using hB.own.1
  refine ⟨par_setCell ((old B hBlt (fun e => by have := hrow B e; omega)).trans hB.par), ownsRow_setCell_other hown1 (fun e => ?_) _, fun j hj => ?_⟩
  · have := (hown1.lt B e).1
    omega
  · by_cases hjk : j < k
    · obtain ⟨g, hBg, hp, hg⟩ := hB.kid j hjk
      refine ⟨g, hBg, ?_, ?_⟩
      · rw [List.getElem?_append_left (by omega)]; exact hp
      · rw [Below.heap_setCell _ _ _ _ (by show g ≠ B; omega), old g (lt_of_block hg) (row_ne hB.own hg)]
        exact hg
    · obtain rfl : j = k := by omega
      refine ⟨wr.heap.size, hBlt, ?_, ?_⟩
      · rw [List.getElem?_append_right (by omega), hlen]; simp
      · rw [Below.heap_setCell _ _ _ _ (by show wr.heap.size ≠ B; omega), hgrow.block wr.heap.size (by simp; omega) (fun e => by have := hrow _ e.symm; omega), ← hs]
        exact (Below.heap_alloc (wr.alloc _) _ wr.heap.size (by simp)).trans (heap_alloc_new wr _)
theorem below_step {w wr w1 : World} {a b : Obj} {v u : Value} {k : Nat} {ps : List Value} (hbel : Below w.heap.size w wr) (hown : wr.ownsRow (w.heap.size + 1) 23 1 v k ps)
    (hgrow : ((wr.alloc a).alloc b).drew.grownBy w1 v.ownBlock) : Below w.heap.size w (w1.setCell ⟨w.heap.size, 9, none⟩ u) := by
  have hsz := hbel.size
  refine Below.setCell (Below.grown ((((hbel.alloc hsz _).alloc (by simp; omega) _).drew)) hgrow (by simp; omega) (fun k e => by have := (hown.lt k e).1; omega)) (Nat.le_refl _) _

attribute [local go_sem ↓] Go.wp_at_zero Go.wp_at_succ

set_option maxRecDepth 100000 in
set_option maxHeartbeats 1600000 in
theorem build_any (nb off len cap : Nat) (ss : List ByteArray) (w : World) (hlen : len ≤ 1024) (hnb : nb < w.heap.size)
    (hcell : ∀ j, j < len → w.cell? ⟨nb, off + j, none⟩ = some (.string (ss.getD j ByteArray.empty))) :
    Calls Yba.prog 5 #[.slice (some ⟨nb, off, none⟩) len cap] w fun e w' => e = .returned (.pointer (some ⟨w.heap.size, 0, none⟩)) ∧
      (∃ v ps, Built w.heap.size ss len v ps w') ∧ Below w.heap.size w w' := by
  obtain ⟨i0, hi0, hz0, hz1, hz2⟩ := info_parts Yba.info23
  go_enter Yba.func5, Yba.ntmps5
  go_wp2
  go_loopw [4] (fun i wr => ∃ k v ps, k ≤ len ∧ i = .int .i64 (k : Nat) ∧ Built w.heap.size ss k v ps wr ∧ Below w.heap.size w wr)
    (fun i _ => len - (intOf i).toNat)
  case atStart => exact ⟨0, .slice none 0 0, [], Nat.zero_le _, rfl, ⟨heap_alloc_new w _, World.ownsRow_nil _ _ _ _, fun j hj => absurd hj (by omega)⟩, (Below.refl _ _).alloc (Nat.le_refl _) _⟩
  case round =>
    obtain ⟨k, v, ps, hk, rfl, hB, hbel⟩ := hrel
    by_cases hlt : k < len
    · have hC : wr.cell? ⟨w.heap.size, 9, none⟩ = some v := built_cell hB
      have hF : wr.frozen? ⟨w.heap.size, 9, none⟩ = false := built_free hB
      have hS : wr.cell? ⟨nb, off + k, none⟩ = some (.string (ss.getD k ByteArray.empty)) := (hbel.cell (by exact hnb)).trans (hcell k hlt)
      obtain ⟨s, hs⟩ : ∃ s, s = ss.getD k ByteArray.empty := ⟨_, rfl⟩
      rw [← hs] at hS
      have HS : Hid (s = ss.getD k ByteArray.empty) := hs
      clear hs
      have hk0 : (0 : Int) ≤ (k : Int) := Int.natCast_nonneg _
      have hk1 : (k : Int) < (len : Int) := by omega
      have hsz := hbel.size
      have hlt0 : w.heap.size < wr.heap.size := lt_of_block hB.par
      have hown := hB.own
      have HB : Hid (Built w.heap.size ss k v ps wr) := hB
      have HW : Hid (Below w.heap.size w wr) := hbel
      clear hB hbel hcell
      go_wp2_with fail
      have hne : v.ownBlock ≠ some w.heap.size := fun e => absurd (hown.lt _ e).1 (by omega)
      have hnn : v.ownBlock ≠ some nb := fun e => absurd (hown.lt _ e).1 (by omega)
      go_region_law
        ((refine step_append_lies _ (by rfl) _ _ _ (by rfl) (w.heap.size + 1) 23 i0 _ 1 8 Yba.underlying26 hi0 hz0 hz1 hz2 rfl (by omega) v k ps (by rfl) (((hown.alloc _).alloc _).drew)
            ⟨wr.heap.size + 1, 0, none⟩ 1 1 [.pointer (some ⟨wr.heap.size, 0, none⟩)] (by rfl) (by rfl) (World.news_of_block (cs := #[.pointer (some ⟨wr.heap.size, 0, none⟩)]) (t := 23) (fr := (0, 0)) (second_new wr _ _)) (by simp [Value.oneCell'])
            (by omega) (by unfold maxLen; omega) (by omega) (by simp <;> omega) (wr.heap.size + 2) (by simp) ?_; intro gg cap w1 hown1 hgrow hat hlt; have hF1 : w1.frozen? ⟨w.heap.size, 9, none⟩ = false := (grown_two_frozen hgrow hlt0 hne).trans hF; have hC1 : w1.cell? ⟨w.heap.size, 9, none⟩ = some v := (grown_two_cell hgrow hlt0 hne).trans hC))
      all_goals
        go_wp2
        go_roundw
        case rel => exact ⟨k + 1, _, _, by omega, by go_num, built_step HB.out HS.out hown1 hgrow, below_step HW.out hown hgrow⟩
        case measure => simp [intOf]; omega
    · obtain rfl : k = len := by omega
      go_wp2
      go_ret
      exact ⟨rfl, ⟨v, ps, hB⟩, hbel⟩

/-- No names at all: the parent alone. -/
theorem build_zero (a0 : Option Addr) (cap : Nat) (w : World) :
    Calls Yba.prog 5 #[.slice a0 0 cap] w fun e w' => e = .returned (.pointer (some ⟨w.heap.size, 0, none⟩)) ∧ w' = w.alloc (.cells (nodeCells ⟨#[112]⟩ (.slice none 0 0)) 34) := by
  go_enter Yba.func5, Yba.ntmps5
  go_wp2
  go_loopw [4] (fun i wr => i = .int .i64 0 ∧ wr = w.alloc (.cells (nodeCells ⟨#[112]⟩ (.slice none 0 0)) 34)) (fun _ _ => 0)
  case atStart => exact ⟨rfl, rfl⟩
  case round =>
    obtain ⟨rfl, rfl⟩ := hrel
    go_wp2
    go_ret
    exact ⟨rfl, rfl⟩
end Go.Proofs.Ybulkaabi

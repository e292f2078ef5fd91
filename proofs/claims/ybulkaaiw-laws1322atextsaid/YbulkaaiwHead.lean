import Derived.Test.YbulkaaiwPairs
import Derived.Deep.RegionHeld3
import Derived.Deep.DrawnRows
namespace Go.Proofs.Ybulkaaiw
open Go.RowKit

theorem head_below {base g n cap : Nat} {bs : List Int} {w w1 : World} {o : Obj} (hbase : base ≤ w.heap.size) (hO : Own base g n cap bs w) (hg : (w.alloc o).grownBy w1 (Value.slice (some ⟨g, 0, none⟩) n cap).ownBlock) : Below base w w1 :=
  Below.grown ((Below.refl _ _).alloc hbase o) hg (by simp; omega) (fun k e => (hO.lt k e).1)
theorem head_below_drew {base g n cap : Nat} {bs : List Int} {w w1 : World} {o : Obj} (hbase : base ≤ w.heap.size) (hO : Own base g n cap bs w) (hg : (w.alloc o).drew.grownBy w1 (Value.slice (some ⟨g, 0, none⟩) n cap).ownBlock) : Below base w w1 :=
  Below.grown ((Below.refl _ _).alloc hbase o).drew hg (by simp; omega) (fun k e => (hO.lt k e).1)
theorem wrap_same (x : Int) (h0 : 0 ≤ x) (h1 : x < 1000000) : IntKind.i64.wrap x = x := by
  simp [IntKind.wrap, IntKind.bits, IntKind.signed]
  omega
attribute [local go_sem ↓] Go.wp_at_zero Go.wp_at_succ

set_option maxRecDepth 100000 in
set_option maxHeartbeats 1600000 in
theorem head_one (base g n cap : Nat) (bs : List Int) (k m : Int) (w : World) (hn : n ≤ 1024) (hO : Own base g n cap bs w) (hbase : base ≤ w.heap.size) (m0 : 0 ≤ m) (m1 : m < 10) :
    Calls Yba.prog 7 #[.slice (some ⟨g, 0, none⟩) n cap, .int .u8 k, .int .i64 m] w fun e w' => ∃ g' N c, e = .returned (.slice (some ⟨g', 0, none⟩) N c) ∧ n + (line k m).length = N ∧ Own base g' N c (bs ++ line k m) w' ∧ Below base w w' := by
  obtain ⟨i0, hi0, hz0, hz1, hz2⟩ := info_parts Yba.info5
  go_enter Yba.func7, Yba.ntmps7
  go_wp2_with (at_builtin; refine wpList_append_lies _ rfl (.tmp 17) (.tmp 22) 22 rfl base 5 i0 (.int .u8 0) 1 1 Yba.underlying22 hi0 hz0 hz1 hz2 rfl (by decide) _ n (cs bs) rfl (hO.alloc _) ⟨w.heap.size, 0, none⟩ 4 4 (cs [k, 48 + m, 13, 10]) rfl rfl (World.news_of_block (cs := #[.int .u8 k, .int .u8 (48 + m), .int .u8 13, .int .u8 10]) (t := 5) (fr := (0, 0)) (heap_alloc_new w _)) (cs_one _) (by omega) (by unfold maxLen; omega) (by omega) (by simp; omega) (w.heap.size + 1) (by simp) ?_; intro g' c' w1 hown hgrow hat hlt)
  go_ret
  have hO1 := own_next hown
  have e : line k m = [k, 48 + m, 13, 10] := by unfold line; rw [num_pos m m0, dg_small _ (by omega)]; simp; omega
  rw [← e] at hO1
  exact ⟨g', n + 4, c', rfl, by rw [e]; rfl, hO1, head_below hbase hO hgrow⟩

set_option maxRecDepth 100000 in
set_option maxHeartbeats 1600000 in
theorem head_two (base g n cap : Nat) (bs : List Int) (k m : Int) (w : World) (hn : n ≤ 1024) (hO : Own base g n cap bs w) (hbase : base ≤ w.heap.size) (m0 : 10 ≤ m) (m1 : m < 100) :
    Calls Yba.prog 7 #[.slice (some ⟨g, 0, none⟩) n cap, .int .u8 k, .int .i64 m] w fun e w' => ∃ g' N c, e = .returned (.slice (some ⟨g', 0, none⟩) N c) ∧ n + (line k m).length = N ∧ Own base g' N c (bs ++ line k m) w' ∧ Below base w w' := by
  obtain ⟨i0, hi0, hz0, hz1, hz2⟩ := info_parts Yba.info5
  have d1 : decide (0 ≤ m) = true := by rw [decide_eq_true_iff]; omega
  have d2 : decide (m < 10) = false := by rw [decide_eq_false_iff_not]; omega
  have d3 : decide (m < 100) = true := by rw [decide_eq_true_iff]; omega
  go_enter Yba.func7, Yba.ntmps7
  go_wp2_with fail
  have hI1 := hiB .i64 m (by omega) m1
  have hI2 := loB .i64 m (by omega) m1
  have hI3 := hiA .i64 m (by omega) m1
  have hI4 := loA .i64 m (by omega) m1
  have hW1 : IntKind.i64.wrap (m * 2) = m * 2 := wrap_same _ (by omega) (by omega)
  have hW2 : IntKind.i64.wrap (m * 2 + 1) = m * 2 + 1 := wrap_same _ (by omega) (by omega)
  go_region_held3 (fun _ => True) (trivial)
    ((refine step_append_lies _ (by rfl) _ _ _ (by rfl) base 5 i0 (.int .u8 0) 1 1 Yba.underlying22 hi0 hz0 hz1 hz2 rfl (by decide) _ n (cs bs) (by rfl) ((hO.alloc _).drew) ⟨w.heap.size, 0, none⟩ 5 5 (cs [k, 48 + m / 10, 48 + m % 10, 13, 10]) (by rfl) (by rfl) (World.news_of_block (cs := #[.int .u8 k, .int .u8 (48 + m / 10), .int .u8 (48 + m % 10), .int .u8 13, .int .u8 10]) (t := 5) (fr := (0, 0)) (heap_alloc_new w _)) (cs_one _) (by omega) (by unfold maxLen; omega) (by omega) (by simp; omega) (w.heap.size + 1) (by simp) ?_; intro g' c' w1 hown hgrow hat hlt))
  all_goals
    go_wp2
    go_ret
    have hO1 := own_next hown
    have e : line k m = [k, 48 + m / 10, 48 + m % 10, 13, 10] := by
      unfold line
      rw [num_pos m (by omega), dg_two _ (by omega) (by omega)]
      simp
      omega
    rw [← e] at hO1
    exact ⟨g', n + 5, c', rfl, by rw [e]; rfl, hO1, head_below_drew hbase hO hgrow⟩

set_option maxRecDepth 100000 in
set_option maxHeartbeats 3200000 in
theorem head_three (base g n cap : Nat) (bs : List Int) (k m : Int) (w : World) (hn : n ≤ 1024) (hO : Own base g n cap bs w) (hbase : base ≤ w.heap.size) (m0 : 100 ≤ m) (m1 : m < 1000) :
    Calls Yba.prog 7 #[.slice (some ⟨g, 0, none⟩) n cap, .int .u8 k, .int .i64 m] w fun e w' => ∃ g' N c, e = .returned (.slice (some ⟨g', 0, none⟩) N c) ∧ n + (line k m).length = N ∧ Own base g' N c (bs ++ line k m) w' ∧ Below base w w' := by
  obtain ⟨i0, hi0, hz0, hz1, hz2⟩ := info_parts Yba.info5
  have d1 : decide (0 ≤ m) = true := by rw [decide_eq_true_iff]; omega
  have d2 : decide (m < 10) = false := by rw [decide_eq_false_iff_not]; omega
  have d3 : decide (m < 100) = false := by rw [decide_eq_false_iff_not]; omega
  have d4 : decide (m < 1000) = true := by rw [decide_eq_true_iff]; omega
  go_enter Yba.func7, Yba.ntmps7
  go_wp2_with fail
  have hI1 := hiB .i64 (m % 100) (by omega) (by omega)
  have hI2 := loB .i64 (m % 100) (by omega) (by omega)
  have hI3 := hiA .i64 (m % 100) (by omega) (by omega)
  have hI4 := loA .i64 (m % 100) (by omega) (by omega)
  have hW1 : IntKind.i64.wrap (m % 100 * 2) = m % 100 * 2 := wrap_same _ (by omega) (by omega)
  have hW2 : IntKind.i64.wrap (m % 100 * 2 + 1) = m % 100 * 2 + 1 := wrap_same _ (by omega) (by omega)
  have hT : m.tmod 100 = m % 100 := Int.tmod_eq_emod_of_nonneg (by omega)
  have hQ : m.tdiv 100 = m / 100 := Int.tdiv_eq_ediv_of_nonneg (by omega)
  have hW3 : IntKind.i64.wrap (m / 100) = m / 100 := wrap_same _ (by omega) (by omega)
  have hW4 : IntKind.i64.wrap (48 + m / 100) = 48 + m / 100 := wrap_same _ (by omega) (by omega)
  have hW5 : IntKind.i64.wrap (m % 100) = m % 100 := wrap_same _ (by omega) (by omega)
  have hW6 : IntKind.u8.wrap (48 + m / 100) = 48 + m / 100 := by simp [IntKind.wrap, IntKind.bits, IntKind.signed]; omega
  go_region_held3 (fun _ => True) (trivial)
    ((refine step_append_lies _ (by rfl) _ _ _ (by rfl) base 5 i0 (.int .u8 0) 1 1 Yba.underlying22 hi0 hz0 hz1 hz2 rfl (by decide) _ n (cs bs) (by rfl) ((hO.alloc _).drew) ⟨w.heap.size, 0, none⟩ 6 6 (cs [k, 48 + m / 100, 48 + m % 100 / 10, 48 + m % 10, 13, 10]) (by rfl) (by rfl) (World.news_of_block (cs := #[.int .u8 k, .int .u8 (48 + m / 100), .int .u8 (48 + m % 100 / 10), .int .u8 (48 + m % 10), .int .u8 13, .int .u8 10]) (t := 5) (fr := (0, 0)) (heap_alloc_new w _)) (cs_one _) (by omega) (by unfold maxLen; omega) (by omega) (by simp; omega) (w.heap.size + 1) (by simp) ?_; intro g' c' w1 hown hgrow hat hlt))
  all_goals
    go_wp2
    go_ret
    have hO1 := own_next hown
    have e : line k m = [k, 48 + m / 100, 48 + m % 100 / 10, 48 + m % 10, 13, 10] := by
      unfold line
      rw [num_pos m (by omega), dg_three _ (by omega) (by omega)]
      simp
      omega
    rw [← e] at hO1
    exact ⟨g', n + 6, c', rfl, by rw [e]; rfl, hO1, head_below_drew hbase hO hgrow⟩
end Go.Proofs.Ybulkaaiw

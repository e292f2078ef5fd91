import Derived.Test.YbulkaafcSearch
namespace Go.Proofs.Ybulkaafc
open Go.RowKit

/-- r is the index of the last element that is not above u, or -1. -/
def Last (ts : List Int) (u : Int) (n : Nat) (r : Int) : Prop := -1 ≤ r ∧ r < (n : Int) ∧ (∀ m : Nat, (m : Int) ≤ r → ts.getD m 0 ≤ u) ∧ ∀ m : Nat, r < (m : Int) → m < n → u < ts.getD m 0

theorem Last.unique {ts : List Int} {u : Int} {n : Nat} {r q : Int} (h : Last ts u n r) (k : Last ts u n q) : r = q := by
  obtain ⟨a1, a2, a3, a4⟩ := h
  obtain ⟨b1, b2, b3, b4⟩ := k
  rcases (show r < q ∨ r = q ∨ q < r by omega) with c | c | c
  · have x := a4 q.toNat (by omega) (by omega)
    have y := b3 q.toNat (by omega)
    omega
  · exact c
  · have x := b4 r.toNat (by omega) (by omega)
    have y := a3 r.toNat (by omega)
    omega

theorem seven_keep {W w1 : World} {B c g k : Nat} {v0 v1 v2 s a1 a2 a3 : Value} (hb : Below W.drew.heap.size W.drew w1) (hB : B < W.heap.size) (hc : c < W.heap.size) (hg : g < W.heap.size)
    (h : (W.cell? ⟨B, 0, none⟩ = some v0 ∧ W.cell? ⟨B, 1, none⟩ = some v1 ∧ W.cell? ⟨B, 2, none⟩ = some v2) ∧ W.cell? ⟨c, 2, none⟩ = some s ∧ W.cell? ⟨g, k + 1, none⟩ = some a1 ∧ W.cell? ⟨g, k + 2, none⟩ = some a2 ∧ W.cell? ⟨g, k + 3, none⟩ = some a3) :
    (w1.cell? ⟨B, 0, none⟩ = some v0 ∧ w1.cell? ⟨B, 1, none⟩ = some v1 ∧ w1.cell? ⟨B, 2, none⟩ = some v2) ∧ w1.cell? ⟨c, 2, none⟩ = some s ∧ w1.cell? ⟨g, k + 1, none⟩ = some a1 ∧ w1.cell? ⟨g, k + 2, none⟩ = some a2 ∧ w1.cell? ⟨g, k + 3, none⟩ = some a3 := by
  have e1 : ∀ o, w1.cell? ⟨B, o, none⟩ = W.cell? ⟨B, o, none⟩ := fun o => hb.cell (p := ⟨B, o, none⟩) hB
  have e2 : ∀ o, w1.cell? ⟨g, o, none⟩ = W.cell? ⟨g, o, none⟩ := fun o => hb.cell (p := ⟨g, o, none⟩) hg
  have e3 : ∀ o, w1.cell? ⟨c, o, none⟩ = W.cell? ⟨c, o, none⟩ := fun o => hb.cell (p := ⟨c, o, none⟩) hc
  rw [e1, e1, e1, e2, e2, e2, e3]
  exact h

theorem four_keep {W w1 : World} {B c : Nat} {v0 v1 v2 s : Value} (hb : Below W.drew.heap.size W.drew w1) (hB : B < W.heap.size) (hc : c < W.heap.size)
    (h : (W.cell? ⟨B, 0, none⟩ = some v0 ∧ W.cell? ⟨B, 1, none⟩ = some v1 ∧ W.cell? ⟨B, 2, none⟩ = some v2) ∧ W.cell? ⟨c, 2, none⟩ = some s) :
    (w1.cell? ⟨B, 0, none⟩ = some v0 ∧ w1.cell? ⟨B, 1, none⟩ = some v1 ∧ w1.cell? ⟨B, 2, none⟩ = some v2) ∧ w1.cell? ⟨c, 2, none⟩ = some s := by
  have e1 : ∀ o, w1.cell? ⟨B, o, none⟩ = W.cell? ⟨B, o, none⟩ := fun o => hb.cell (p := ⟨B, o, none⟩) hB
  have e3 : ∀ o, w1.cell? ⟨c, o, none⟩ = W.cell? ⟨c, o, none⟩ := fun o => hb.cell (p := ⟨c, o, none⟩) hc
  rw [e1, e1, e1, e3]
  exact h

theorem before_no (t u : Int) (w : World) (h : u ≤ t) : Calls Yba.prog 5 #[tv t, tv u] w fun e w' => e = .returned (.bool false) ∧ Below w.heap.size w w' := by
  have := before_tv t u w
  rw [show decide (t < u) = false from by rw [decide_eq_false_iff_not]; omega] at this
  exact this
theorem before_yes (t u : Int) (w : World) (h : t < u) : Calls Yba.prog 5 #[tv t, tv u] w fun e w' => e = .returned (.bool true) ∧ Below w.heap.size w w' := by
  have := before_tv t u w
  rw [show decide (t < u) = true from by rw [decide_eq_true_iff]; omega] at this
  exact this

theorem at_pre {w : World} {c g k cap : Nat} {ts : List Int} {t : Int} (u : Int) (hlen : ts.length = k + 1) (hS : Segs g ts w) (hc : w.cell? ⟨c, 2, none⟩ = some (.slice (some ⟨g, 0, none⟩) (k + 1) cap)) (ht : ts.getD k 0 = t) :
    ((w.alloc (.cells #[.int .u64 (u % 1000000000), .int .i64 (u / 1000000000), .pointer none] 27)).cell? ⟨w.heap.size, 0, none⟩ = some (.int .u64 (u % 1000000000)) ∧
      (w.alloc (.cells #[.int .u64 (u % 1000000000), .int .i64 (u / 1000000000), .pointer none] 27)).cell? ⟨w.heap.size, 1, none⟩ = some (.int .i64 (u / 1000000000)) ∧
      (w.alloc (.cells #[.int .u64 (u % 1000000000), .int .i64 (u / 1000000000), .pointer none] 27)).cell? ⟨w.heap.size, 2, none⟩ = some (.pointer none)) ∧
    (w.alloc (.cells #[.int .u64 (u % 1000000000), .int .i64 (u / 1000000000), .pointer none] 27)).cell? ⟨c, 2, none⟩ = some (.slice (some ⟨g, 0, none⟩) (k + 1) cap) ∧
    (w.alloc (.cells #[.int .u64 (u % 1000000000), .int .i64 (u / 1000000000), .pointer none] 27)).cell? ⟨g, k * 7 + 1, none⟩ = some (.int .u64 (t % 1000000000)) ∧
    (w.alloc (.cells #[.int .u64 (u % 1000000000), .int .i64 (u / 1000000000), .pointer none] 27)).cell? ⟨g, k * 7 + 2, none⟩ = some (.int .i64 (t / 1000000000)) ∧
    (w.alloc (.cells #[.int .u64 (u % 1000000000), .int .i64 (u / 1000000000), .pointer none] 27)).cell? ⟨g, k * 7 + 3, none⟩ = some (.pointer none) ∧
    Segs g ts (w.alloc (.cells #[.int .u64 (u % 1000000000), .int .i64 (u / 1000000000), .pointer none] 27)) ∧ c < w.heap.size ∧ g < w.heap.size := by
  have lc : c < w.heap.size := World.block_lt_of_cell? w _ hc
  have lg := hS.lt
  have hS1 := hS.kept (Below.heap_alloc w (.cells #[.int .u64 (u % 1000000000), .int .i64 (u / 1000000000), .pointer none] 27) g lg)
  obtain ⟨y0, y1, y2, y3, y4, y5, y6⟩ := seg_cells hS1 (j := k) (by omega) ht
  exact ⟨box_cells (Below.refl _ _), (World.cell?_of_block (Below.heap_alloc w _ c lc)).trans hc, y1, y2, y3, hS1, lc, lg⟩

theorem asc_le {ts : List Int} {n : Nat} (h : ∀ a b, a < b → b < n → ts.getD a 0 < ts.getD b 0) : ∀ a b, a ≤ b → b < n → ts.getD a 0 ≤ ts.getD b 0 := fun a b hab hb => by
  rcases Nat.lt_or_eq_of_le hab with h1 | h1
  · exact Int.le_of_lt (h a b h1 hb)
  · rw [h1]; exact Int.le_refl _
theorem last_top {ts : List Int} {k : Nat} {u t : Int} (h : ∀ a b, a < b → b < k + 1 → ts.getD a 0 < ts.getD b 0) (ht : ts.getD k 0 = t) (htu : t ≤ u) : Last ts u (k + 1) k := by
  refine ⟨by omega, by omega, fun m hm => ?_, fun m h1 h2 => absurd h1 (by omega)⟩
  have := asc_le h m k (by omega) (by omega)
  omega
theorem last_found {ts : List Int} {n i : Nat} {u : Int} (h : ∀ a b, a < b → b < n → ts.getD a 0 < ts.getD b 0) (hF : Far ts u n i i) (hf : i < n ∧ ts.getD i 0 = u) : Last ts u n i := by
  obtain ⟨_, _, h3, _⟩ := hF
  obtain ⟨h5, h6⟩ := hf
  refine ⟨by omega, by omega, fun m hm => ?_, fun m h1 h2 => ?_⟩
  · rcases Nat.lt_or_eq_of_le (show m ≤ i by omega) with c | c
    · exact Int.le_of_lt (h3 m c)
    · rw [c, h6]; exact Int.le_refl _
  · have := h i m (by omega) h2
    omega
theorem last_lost {ts : List Int} {n i : Nat} {u : Int} (h : ∀ a b, a < b → b < n → ts.getD a 0 < ts.getD b 0) (hF : Far ts u n i i) (hf : ¬ (i < n ∧ ts.getD i 0 = u)) : Last ts u n ((i : Int) - 1) := by
  obtain ⟨_, h2, h3, h4⟩ := hF
  refine ⟨by omega, by omega, fun m hm => Int.le_of_lt (h3 m (by omega)), fun m h1 hm => ?_⟩
  have a := h4 m (by omega) hm
  by_cases e : m = i
  · subst e
    by_cases e2 : ts.getD m 0 = u
    · exact absurd ⟨hm, e2⟩ hf
    · omega
  · have := h i m (by omega) hm
    have := h4 i (Nat.le_refl _) (by omega)
    omega
theorem segs_drew {g : Nat} {ts : List Int} {w : World} (h : Segs g ts w) : Segs g ts w.drew := h

attribute [local go_sem ↓] Go.wp_at_zero Go.wp_at_succ

set_option maxRecDepth 100000 in
set_option maxHeartbeats 1600000 in
theorem at_any (c g k cap : Nat) (ts : List Int) (u : Int) (w : World) (hlen : ts.length = k + 1) (hk : k ≤ 1024) (hS : Segs g ts w) (hc : w.cell? ⟨c, 2, none⟩ = some (.slice (some ⟨g, 0, none⟩) (k + 1) cap))
    (hasc : ∀ a b, a < b → b < k + 1 → ts.getD a 0 < ts.getD b 0) :
    Calls Yba.prog 6 #[.pointer (some ⟨c, 0, none⟩), tv u] w fun e w' => ∃ r : Int, e = .returned (.int .i64 r) ∧ Last ts u (k + 1) r ∧ Below w.heap.size w w' := by
  rw [show tv u = .agg #[.int .u64 (u % 1000000000), .int .i64 (u / 1000000000), .pointer none] from rfl]
  obtain ⟨t, ht⟩ : ∃ t, ts.getD k 0 = t := ⟨_, rfl⟩
  obtain ⟨⟨x0, x1, x2⟩, hc1, y1, y2, y3, hS1, lc, lg⟩ := at_pre u hlen hS hc ht
  have HT : Hid (ts.getD k 0 = t) := ht
  have HS : Hid (Segs g ts (w.alloc (.cells #[.int .u64 (u % 1000000000), .int .i64 (u / 1000000000), .pointer none] 27))) := hS1
  have HA : Hid (∀ a b, a < b → b < k + 1 → ts.getD a 0 < ts.getD b 0) := hasc
  have HL : Hid (ts.length = k + 1) := hlen
  clear hlen hS hasc ht hS1 hc
  have z0 : (0 : Int) ≤ (k : Int) := Int.natCast_nonneg _
  have z1 : (k : Int) < (k : Int) + 1 := by omega
  have sB : w.heap.size < (w.alloc (.cells #[.int .u64 (u % 1000000000), .int .i64 (u / 1000000000), .pointer none] 27)).heap.size := by simp
  have sc : c < (w.alloc (.cells #[.int .u64 (u % 1000000000), .int .i64 (u / 1000000000), .pointer none] 27)).heap.size := by simp; omega
  have sg : g < (w.alloc (.cells #[.int .u64 (u % 1000000000), .int .i64 (u / 1000000000), .pointer none] 27)).heap.size := by simp; omega
  have HO : Hid (Below w.heap.size w (w.alloc (.cells #[.int .u64 (u % 1000000000), .int .i64 (u / 1000000000), .pointer none] 27))) := (Below.refl _ _).alloc (Nat.le_refl _) _
  by_cases htu : t ≤ u
  · go_enter Yba.func6, Yba.ntmps6
    go_wp2_with fail
    go_region_held3 (fun w' => (w'.cell? ⟨w.heap.size, 0, none⟩ = some (.int .u64 (u % 1000000000)) ∧ w'.cell? ⟨w.heap.size, 1, none⟩ = some (.int .i64 (u / 1000000000)) ∧ w'.cell? ⟨w.heap.size, 2, none⟩ = some (.pointer none)) ∧
          w'.cell? ⟨c, 2, none⟩ = some (.slice (some ⟨g, 0, none⟩) (k + 1) cap) ∧ w'.cell? ⟨g, k * 7 + 1, none⟩ = some (.int .u64 (t % 1000000000)) ∧ w'.cell? ⟨g, k * 7 + 2, none⟩ = some (.int .i64 (t / 1000000000)) ∧ w'.cell? ⟨g, k * 7 + 3, none⟩ = some (.pointer none))
        (first
          | (exact seven_keep hb sB sc sg ⟨⟨x0, x1, x2⟩, hc1, y1, y2, y3⟩)
          | go_keep)
        (first | (go_at_call 5; refine (before_no u t _ htu).mono ?_; rintro e w1 ⟨rfl, hb⟩))
    go_wp2
    go_ret
    exact ⟨k, rfl, last_top HA.out HT.out htu, HO.out.drew.trans (hb.mono (Nat.le_of_lt sB))⟩
  · have htu' : u < t := by omega
    clear htu
    go_enter Yba.func6, Yba.ntmps6
    go_wp2_with fail
    go_region_held3 (fun w' => (w'.cell? ⟨w.heap.size, 0, none⟩ = some (.int .u64 (u % 1000000000)) ∧ w'.cell? ⟨w.heap.size, 1, none⟩ = some (.int .i64 (u / 1000000000)) ∧ w'.cell? ⟨w.heap.size, 2, none⟩ = some (.pointer none)) ∧
          w'.cell? ⟨c, 2, none⟩ = some (.slice (some ⟨g, 0, none⟩) (k + 1) cap) ∧ w'.cell? ⟨g, k * 7 + 1, none⟩ = some (.int .u64 (t % 1000000000)) ∧ w'.cell? ⟨g, k * 7 + 2, none⟩ = some (.int .i64 (t / 1000000000)) ∧ w'.cell? ⟨g, k * 7 + 3, none⟩ = some (.pointer none))
        (first
          | (exact seven_keep hb sB sc sg ⟨⟨x0, x1, x2⟩, hc1, y1, y2, y3⟩)
          | go_keep)
        (first | (go_at_call 5; refine (before_yes u t _ htu').mono ?_; rintro e w1 ⟨rfl, hb⟩))
    have s1 : (w.alloc (.cells #[.int .u64 (u % 1000000000), .int .i64 (u / 1000000000), .pointer none] 27)).heap.size ≤ w1.heap.size := hb.size
    have s1B : w.heap.size < w1.heap.size := by omega
    have s1c : c < w1.heap.size := by omega
    obtain ⟨⟨x0', x1', x2'⟩, hc1', _⟩ := seven_keep hb sB sc sg ⟨⟨x0, x1, x2⟩, hc1, y1, y2, y3⟩
    have HS1 : Hid (Segs g ts w1) := HS.out.kept (hb.block g sg)
    have HW1 : Hid (Below w.heap.size w w1) := HO.out.drew.trans (hb.mono (Nat.le_of_lt sB))
    clear hb x0 x1 x2 hc1 y1 y2 y3 s1 sB sc sg
    go_wp2_with fail
    go_region_held3 (fun w' => (w'.cell? ⟨w.heap.size, 0, none⟩ = some (.int .u64 (u % 1000000000)) ∧ w'.cell? ⟨w.heap.size, 1, none⟩ = some (.int .i64 (u / 1000000000)) ∧ w'.cell? ⟨w.heap.size, 2, none⟩ = some (.pointer none)) ∧
          w'.cell? ⟨c, 2, none⟩ = some (.slice (some ⟨g, 0, none⟩) (k + 1) cap))
        (first
          | (exact four_keep hb2 s1B s1c ⟨⟨x0', x1', x2'⟩, hc1'⟩)
          | go_keep)
        (first | (go_at_call 12; refine (search_any g (k + 1) cap ts u _ HL.out (by omega) ?_ (asc_le HA.out)).mono ?_; (exact segs_drew HS1.out); rintro e w2 ⟨i, f, rfl, hF, hf, hb2⟩))
    have hi := hF.2.1
    cases f with
    | true =>
      go_wp2
      go_ret
      exact ⟨i, rfl, last_found HA.out hF (by simpa using hf), HW1.out.drew.trans (hb2.mono (Nat.le_of_lt s1B))⟩
    | false =>
      have HN : Hid (¬ (i < k + 1 ∧ ts.getD i 0 = u)) := fun h => absurd (hf.2 h) (by decide)
      clear hf
      go_wp2
      go_ret
      exact ⟨(i : Int) - 1, rfl, last_lost HA.out hF HN.out, HW1.out.drew.trans (hb2.mono (Nat.le_of_lt s1B))⟩
end Go.Proofs.Ybulkaafc

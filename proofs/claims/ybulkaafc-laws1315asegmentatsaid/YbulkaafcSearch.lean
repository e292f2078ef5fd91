import Derived.Test.YbulkaafcAdd
import Derived.Deep.RegionHeld3
import Derived.Deep.DrawnRows
import Derived.Deep.QuietTactic
import Derived.BigQuiet
namespace Go.Proofs.Ybulkaafc
open Go.RowKit

/-- The cells of a segment that began at t, all else zero. -/
def segCells (t : Int) : List Value := [.int .i64 0, .int .u64 (t % 1000000000), .int .i64 (t / 1000000000), .pointer none, .float .f64 0, .int .i64 0, .float .f64 0]
def segv (t : Int) : Value := .agg (segCells t).toArray

set_option maxHeartbeats 400000 in
theorem cmp_any (t u : Int) (w : World) : Calls Yba.prog 13 #[segv t, tv u] w fun e w' => e = .returned (.int .i64 (sgn t u)) ∧ Below w.heap.size w w' := by
  have hb := two_boxes w
  unfold segv segCells
  rw [show tv u = .agg #[.int .u64 (u % 1000000000), .int .i64 (u / 1000000000), .pointer none] from rfl]
  go_enter Yba.func13, Yba.ntmps13
  go_wp2_with fail
  refine (compare_tv t u _).mono ?_
  rintro e w' ⟨rfl, h⟩
  go_wp2
  go_ret
  exact ⟨rfl, (hb _ _).trans (h.mono (by simp; omega))⟩

theorem cmp_lt (t u : Int) (w : World) (h : t < u) : Calls Yba.prog 13 #[segv t, tv u] w fun e w' => e = .returned (.int .i64 (-1)) ∧ Below w.heap.size w w' := by
  have := cmp_any t u w
  rw [show sgn t u = -1 from if_pos h] at this
  exact this
theorem cmp_eq (t u : Int) (w : World) (h : t = u) : Calls Yba.prog 13 #[segv t, tv u] w fun e w' => e = .returned (.int .i64 0) ∧ Below w.heap.size w w' := by
  have := cmp_any t u w
  rw [show sgn t u = 0 from by unfold sgn; rw [if_neg (by omega), if_pos h]] at this
  exact this
theorem cmp_gt (t u : Int) (w : World) (h : u < t) : Calls Yba.prog 13 #[segv t, tv u] w fun e w' => e = .returned (.int .i64 1) ∧ Below w.heap.size w w' := by
  have := cmp_any t u w
  rw [show sgn t u = 1 from by unfold sgn; rw [if_neg (by omega), if_neg (by omega)]] at this
  exact this
theorem cmp_ge (t u : Int) (w : World) (h : u ≤ t) : Calls Yba.prog 13 #[segv t, tv u] w fun e w' => ∃ r : Int, e = .returned (.int .i64 r) ∧ 0 ≤ r ∧ Below w.heap.size w w' := by
  refine (cmp_any t u w).mono ?_
  rintro e w' ⟨rfl, hb⟩
  refine ⟨_, rfl, ?_, hb⟩
  unfold sgn
  rw [if_neg (by omega)]
  split <;> omega

/-- The row of segments in block g: seven cells each. -/
def Segs (g : Nat) (ts : List Int) (w : World) : Prop := ∃ cur, w.heap[g]? = some (.cells cur 33 (0, 0)) ∧ ∀ j, j < ts.length → ∀ c, c < 7 → cur[j * 7 + c]? = (segCells (ts.getD j 0))[c]?
theorem Segs.at {g : Nat} {ts : List Int} {w : World} (h : Segs g ts w) {j : Nat} (hj : j < ts.length) : ∀ c, c < 7 → w.cell? ⟨g, j * 7 + c, none⟩ = (segCells (ts.getD j 0))[c]? := by
  obtain ⟨cur, hg, hc⟩ := h
  intro c h7
  rw [← hc j hj c h7]
  simp [World.cell?, hg]
theorem Segs.lt {g : Nat} {ts : List Int} {w : World} (h : Segs g ts w) : g < w.heap.size := by
  obtain ⟨cur, hg, _⟩ := h
  exact lt_of_block hg
theorem Segs.kept {g : Nat} {ts : List Int} {w w' : World} (h : Segs g ts w) (hb : w'.heap[g]? = w.heap[g]?) : Segs g ts w' := by
  obtain ⟨cur, hg, hc⟩ := h
  exact ⟨cur, hb.trans hg, hc⟩

attribute [local go_sem ↓] Go.wp_at_zero Go.wp_at_succ

/-- How far the search has come. -/
def Far (ts : List Int) (u : Int) (n i j : Nat) : Prop := i ≤ j ∧ j ≤ n ∧ (∀ m, m < i → ts.getD m 0 < u) ∧ ∀ m, j ≤ m → m < n → u ≤ ts.getD m 0

/-- What the walk reads of a boxed time and of a segment. -/
theorem box_cells {w w' : World} {x y : Int} (h : Below (w.heap.size + 1) (w.alloc (.cells #[.int .u64 x, .int .i64 y, .pointer none] 27)) w') :
    w'.cell? ⟨w.heap.size, 0, none⟩ = some (.int .u64 x) ∧ w'.cell? ⟨w.heap.size, 1, none⟩ = some (.int .i64 y) ∧ w'.cell? ⟨w.heap.size, 2, none⟩ = some (.pointer none) := by
  have e := (h.block w.heap.size (by omega)).trans (heap_alloc_new w _)
  simp [World.cell?, e]

theorem seg_cells {g : Nat} {ts : List Int} {w : World} (h : Segs g ts w) {j : Nat} (hj : j < ts.length) {t : Int} (ht : ts.getD j 0 = t) :
    w.cell? ⟨g, j * 7, none⟩ = some (.int .i64 0) ∧ w.cell? ⟨g, j * 7 + 1, none⟩ = some (.int .u64 (t % 1000000000)) ∧ w.cell? ⟨g, j * 7 + 2, none⟩ = some (.int .i64 (t / 1000000000)) ∧ w.cell? ⟨g, j * 7 + 3, none⟩ = some (.pointer none) ∧
      w.cell? ⟨g, j * 7 + 4, none⟩ = some (.float .f64 0) ∧ w.cell? ⟨g, j * 7 + 5, none⟩ = some (.int .i64 0) ∧ w.cell? ⟨g, j * 7 + 6, none⟩ = some (.float .f64 0) := by
  have k := h.at hj
  rw [ht] at k
  exact ⟨k 0 (by decide), k 1 (by decide), k 2 (by decide), k 3 (by decide), k 4 (by decide), k 5 (by decide), k 6 (by decide)⟩

theorem ten_keep {W w1 : World} {B g k : Nat} {v0 v1 v2 a0 a1 a2 a3 a4 a5 a6 : Value} (hb : Below W.drew.heap.size W.drew w1) (hB : B + 1 ≤ W.heap.size) (hg : g < W.heap.size)
    (h : (W.cell? ⟨B, 0, none⟩ = some v0 ∧ W.cell? ⟨B, 1, none⟩ = some v1 ∧ W.cell? ⟨B, 2, none⟩ = some v2) ∧ W.cell? ⟨g, k, none⟩ = some a0 ∧ W.cell? ⟨g, k + 1, none⟩ = some a1 ∧ W.cell? ⟨g, k + 2, none⟩ = some a2 ∧ W.cell? ⟨g, k + 3, none⟩ = some a3 ∧
      W.cell? ⟨g, k + 4, none⟩ = some a4 ∧ W.cell? ⟨g, k + 5, none⟩ = some a5 ∧ W.cell? ⟨g, k + 6, none⟩ = some a6) :
    (w1.cell? ⟨B, 0, none⟩ = some v0 ∧ w1.cell? ⟨B, 1, none⟩ = some v1 ∧ w1.cell? ⟨B, 2, none⟩ = some v2) ∧ w1.cell? ⟨g, k, none⟩ = some a0 ∧ w1.cell? ⟨g, k + 1, none⟩ = some a1 ∧ w1.cell? ⟨g, k + 2, none⟩ = some a2 ∧ w1.cell? ⟨g, k + 3, none⟩ = some a3 ∧
      w1.cell? ⟨g, k + 4, none⟩ = some a4 ∧ w1.cell? ⟨g, k + 5, none⟩ = some a5 ∧ w1.cell? ⟨g, k + 6, none⟩ = some a6 := by
  have e1 : ∀ o, w1.cell? ⟨B, o, none⟩ = W.cell? ⟨B, o, none⟩ := fun o => hb.cell (p := ⟨B, o, none⟩) (by show B < W.heap.size; omega)
  have e2 : ∀ o, w1.cell? ⟨g, o, none⟩ = W.cell? ⟨g, o, none⟩ := fun o => hb.cell (p := ⟨g, o, none⟩) hg
  rw [e1, e1, e1, e2, e2, e2, e2, e2, e2, e2]
  exact h

theorem far_up {ts : List Int} {u t : Int} {n i j h : Nat} (hF : Far ts u n i j) (hA : ∀ a b, a ≤ b → b < n → ts.getD a 0 ≤ ts.getD b 0) (ht : ts.getD h 0 = t) (htu : t < u) (hhj : h < j) : Far ts u n (h + 1) j := by
  obtain ⟨h1, h2, h3, h4⟩ := hF
  refine ⟨by omega, h2, fun m hm => ?_, h4⟩
  have := hA m h (by omega) (by omega)
  omega
theorem far_dn {ts : List Int} {u t : Int} {n i j h : Nat} (hF : Far ts u n i j) (hA : ∀ a b, a ≤ b → b < n → ts.getD a 0 ≤ ts.getD b 0) (ht : ts.getD h 0 = t) (htu : u ≤ t) (hih : i ≤ h) (hhj : h < j) : Far ts u n i h := by
  obtain ⟨h1, h2, h3, h4⟩ := hF
  refine ⟨by omega, by omega, h3, fun m hm hn => ?_⟩
  have := hA h m hm hn
  omega
theorem below_cmp {B : Nat} {W wr w1 : World} (h : Below B W wr) (hB : B ≤ wr.heap.size) (hb : Below wr.drew.heap.size wr.drew w1) : Below B W w1 :=
  h.drew.trans (hb.mono hB)

theorem below_end {w wr w1 : World} {o : Obj} (h : Below (w.heap.size + 1) (w.alloc o) wr) (hB : w.heap.size + 1 ≤ wr.heap.size) (hb : Below wr.drew.heap.size wr.drew w1) : Below w.heap.size w w1 :=
  ((Below.refl _ _).alloc (Nat.le_refl _) o).trans ((below_cmp h hB hb).mono (by omega))
theorem below_end0 {w wr : World} {o : Obj} (h : Below (w.heap.size + 1) (w.alloc o) wr) (q : Nat) : Below w.heap.size w (wr.drewN q) :=
  ((Below.refl _ _).alloc (Nat.le_refl _) o).trans ((h.mono (by omega)).trans ⟨rfl, rfl, rfl, Nat.le_refl _, fun _ _ => rfl⟩)

set_option maxRecDepth 100000 in
set_option maxHeartbeats 1600000 in
theorem search_any (g n cap : Nat) (ts : List Int) (u : Int) (w : World) (hlen : ts.length = n) (hn : n ≤ 2000) (hS : Segs g ts w) (hasc : ∀ a b, a ≤ b → b < n → ts.getD a 0 ≤ ts.getD b 0) :
    Calls Yba.prog 12 #[.slice (some ⟨g, 0, none⟩) n cap, tv u, .func (.func 13) #[] #[]] w fun e w' => ∃ (i : Nat) (f : Bool), e = .returned (.tuple #[.int .i64 i, .bool f]) ∧ Far ts u n i i ∧
      (f = true ↔ i < n ∧ ts.getD i 0 = u) ∧ Below w.heap.size w w' := by
  rw [show tv u = .agg #[.int .u64 (u % 1000000000), .int .i64 (u / 1000000000), .pointer none] from rfl]
  have HL : Hid (ts.length = n) := hlen
  have HS : Hid (Segs g ts w) := hS
  have HA : Hid (∀ a b, a ≤ b → b < n → ts.getD a 0 ≤ ts.getD b 0) := hasc
  have hg := hS.lt
  clear hlen hS hasc
  go_enter Yba.func12, Yba.ntmps12
  go_wp2
  go_loopw [9, 10] (fun a b wr => ∃ i j : Nat, a = .int .i64 i ∧ b = .int .i64 j ∧ Far ts u n i j ∧ Below (w.heap.size + 1) (w.alloc (.cells #[.int .u64 (u % 1000000000), .int .i64 (u / 1000000000), .pointer none] 27)) wr)
    (fun a b _ => (intOf b - intOf a).toNat)
  case atStart => exact ⟨0, n, rfl, rfl, ⟨Nat.zero_le _, Nat.le_refl _, fun m hm => absurd hm (by omega), fun m h1 h2 => absurd h1 (by omega)⟩, Below.refl _ _⟩
  case round =>
    obtain ⟨i, j, rfl, rfl, hF, hbel⟩ := hrel
    have hij := hF.1
    have hjn := hF.2.1
    have hSr : Segs g ts wr := HS.out.kept ((hbel.block g (by omega)).trans (Below.heap_alloc w _ g hg))
    have hsz : w.heap.size + 1 ≤ wr.heap.size := by have := hbel.size; simpa using this
    obtain ⟨x0, x1, x2⟩ := box_cells hbel
    have HF : Hid (Far ts u n i j) := hF
    have HB : Hid (Below (w.heap.size + 1) (w.alloc (.cells #[.int .u64 (u % 1000000000), .int .i64 (u / 1000000000), .pointer none] 27)) wr) := hbel
    clear hF hbel
    by_cases hlt : i < j
    · obtain ⟨h, hh, hih, hhj⟩ : ∃ h : Nat, ((i : Int) + (j : Int)) / 2 = (h : Int) ∧ i ≤ h ∧ h < j := ⟨(i + j) / 2, by omega, by omega, by omega⟩
      obtain ⟨t, ht⟩ : ∃ t, ts.getD h 0 = t := ⟨_, rfl⟩
      obtain ⟨y0, y1, y2, y3, y4, y5, y6⟩ := seg_cells hSr (j := h) (by rw [HL.out]; omega) ht
      have HT : Hid (ts.getD h 0 = t) := ht
      have hgr := hSr.lt
      have z0 : (0 : Int) ≤ (h : Int) := Int.natCast_nonneg _
      have z1 : (h : Int) < (n : Int) := by omega
      clear ht hSr
      by_cases htu : t < u
      · go_wp2_with fail
        go_region_held3 (fun w' => (w'.cell? ⟨w.heap.size, 0, none⟩ = some (.int .u64 (u % 1000000000)) ∧ w'.cell? ⟨w.heap.size, 1, none⟩ = some (.int .i64 (u / 1000000000)) ∧ w'.cell? ⟨w.heap.size, 2, none⟩ = some (.pointer none)) ∧
            w'.cell? ⟨g, h * 7, none⟩ = some (.int .i64 0) ∧ w'.cell? ⟨g, h * 7 + 1, none⟩ = some (.int .u64 (t % 1000000000)) ∧ w'.cell? ⟨g, h * 7 + 2, none⟩ = some (.int .i64 (t / 1000000000)) ∧ w'.cell? ⟨g, h * 7 + 3, none⟩ = some (.pointer none) ∧
            w'.cell? ⟨g, h * 7 + 4, none⟩ = some (.float .f64 0) ∧ w'.cell? ⟨g, h * 7 + 5, none⟩ = some (.int .i64 0) ∧ w'.cell? ⟨g, h * 7 + 6, none⟩ = some (.float .f64 0))
          (first
            | (exact ten_keep hb hsz hgr ⟨⟨x0, x1, x2⟩, y0, y1, y2, y3, y4, y5, y6⟩)
            | go_keep)
          (first | (go_at_call 13; refine (cmp_lt t u _ htu).mono ?_; rintro e w1 ⟨rfl, hb⟩))
        go_wp2
        go_roundw
        case rel => exact ⟨h + 1, j, by go_num, rfl, far_up HF.out HA.out HT.out htu hhj, below_cmp HB.out hsz hb⟩
        case measure => simp [intOf]; omega
      · go_wp2_with fail
        go_region_held3 (fun w' => (w'.cell? ⟨w.heap.size, 0, none⟩ = some (.int .u64 (u % 1000000000)) ∧ w'.cell? ⟨w.heap.size, 1, none⟩ = some (.int .i64 (u / 1000000000)) ∧ w'.cell? ⟨w.heap.size, 2, none⟩ = some (.pointer none)) ∧
            w'.cell? ⟨g, h * 7, none⟩ = some (.int .i64 0) ∧ w'.cell? ⟨g, h * 7 + 1, none⟩ = some (.int .u64 (t % 1000000000)) ∧ w'.cell? ⟨g, h * 7 + 2, none⟩ = some (.int .i64 (t / 1000000000)) ∧ w'.cell? ⟨g, h * 7 + 3, none⟩ = some (.pointer none) ∧
            w'.cell? ⟨g, h * 7 + 4, none⟩ = some (.float .f64 0) ∧ w'.cell? ⟨g, h * 7 + 5, none⟩ = some (.int .i64 0) ∧ w'.cell? ⟨g, h * 7 + 6, none⟩ = some (.float .f64 0))
          (first
            | (exact ten_keep hb hsz hgr ⟨⟨x0, x1, x2⟩, y0, y1, y2, y3, y4, y5, y6⟩)
            | go_keep)
          (first | (go_at_call 13; refine (cmp_ge t u _ (by omega)).mono ?_; rintro e w1 ⟨r, rfl, hr, hb⟩))
        go_wp2
        go_roundw
        case rel => exact ⟨i, h, rfl, rfl, far_dn HF.out HA.out HT.out (by omega) hih hhj, below_cmp HB.out hsz hb⟩
        case measure => simp [intOf]; omega
    · obtain rfl : i = j := by omega
      by_cases hin : i < n
      · obtain ⟨t, ht⟩ : ∃ t, ts.getD i 0 = t := ⟨_, rfl⟩
        obtain ⟨y0, y1, y2, y3, y4, y5, y6⟩ := seg_cells hSr (j := i) (by rw [HL.out]; omega) ht
        have HT : Hid (ts.getD i 0 = t) := ht
        have hgr := hSr.lt
        have z0 : (0 : Int) ≤ (i : Int) := Int.natCast_nonneg _
        have z1 : (i : Int) < (n : Int) := by omega
        have htu : u ≤ t := by rw [← HT.out]; exact HF.out.2.2.2 i (Nat.le_refl _) hin
        clear ht hSr
        by_cases heq : u < t
        · go_wp2_with fail
          go_region_held3 (fun w' => (w'.cell? ⟨w.heap.size, 0, none⟩ = some (.int .u64 (u % 1000000000)) ∧ w'.cell? ⟨w.heap.size, 1, none⟩ = some (.int .i64 (u / 1000000000)) ∧ w'.cell? ⟨w.heap.size, 2, none⟩ = some (.pointer none)) ∧
            w'.cell? ⟨g, i * 7, none⟩ = some (.int .i64 0) ∧ w'.cell? ⟨g, i * 7 + 1, none⟩ = some (.int .u64 (t % 1000000000)) ∧ w'.cell? ⟨g, i * 7 + 2, none⟩ = some (.int .i64 (t / 1000000000)) ∧ w'.cell? ⟨g, i * 7 + 3, none⟩ = some (.pointer none) ∧
            w'.cell? ⟨g, i * 7 + 4, none⟩ = some (.float .f64 0) ∧ w'.cell? ⟨g, i * 7 + 5, none⟩ = some (.int .i64 0) ∧ w'.cell? ⟨g, i * 7 + 6, none⟩ = some (.float .f64 0))
          (first
            | (exact ten_keep hb hsz hgr ⟨⟨x0, x1, x2⟩, y0, y1, y2, y3, y4, y5, y6⟩)
            | go_keep)
          (first | (go_at_call 13; refine (cmp_gt t u _ heq).mono ?_; rintro e w1 ⟨rfl, hb⟩))
          go_wp2
          go_ret2
          exact ⟨i, false, rfl, HF.out, ⟨fun k => absurd k (by decide), fun ⟨_, k⟩ => by have := HT.out; omega⟩, below_end HB.out hsz hb⟩
        · go_wp2_with fail
          go_region_held3 (fun w' => (w'.cell? ⟨w.heap.size, 0, none⟩ = some (.int .u64 (u % 1000000000)) ∧ w'.cell? ⟨w.heap.size, 1, none⟩ = some (.int .i64 (u / 1000000000)) ∧ w'.cell? ⟨w.heap.size, 2, none⟩ = some (.pointer none)) ∧
            w'.cell? ⟨g, i * 7, none⟩ = some (.int .i64 0) ∧ w'.cell? ⟨g, i * 7 + 1, none⟩ = some (.int .u64 (t % 1000000000)) ∧ w'.cell? ⟨g, i * 7 + 2, none⟩ = some (.int .i64 (t / 1000000000)) ∧ w'.cell? ⟨g, i * 7 + 3, none⟩ = some (.pointer none) ∧
            w'.cell? ⟨g, i * 7 + 4, none⟩ = some (.float .f64 0) ∧ w'.cell? ⟨g, i * 7 + 5, none⟩ = some (.int .i64 0) ∧ w'.cell? ⟨g, i * 7 + 6, none⟩ = some (.float .f64 0))
          (first
            | (exact ten_keep hb hsz hgr ⟨⟨x0, x1, x2⟩, y0, y1, y2, y3, y4, y5, y6⟩)
            | go_keep)
          (first | (go_at_call 13; refine (cmp_eq t u _ (by omega)).mono ?_; rintro e w1 ⟨rfl, hb⟩))
          go_wp2
          go_ret2
          exact ⟨i, true, rfl, HF.out, ⟨fun _ => ⟨hin, by have := HT.out; omega⟩, fun _ => rfl⟩, below_end HB.out hsz hb⟩
      · have hd : decide ((i : Int) < (n : Int)) = false := by simp; omega
        go_wp2_with fail
        go_quiet (fail)
        go_wp2
        go_ret2
        exact ⟨i, false, rfl, HF.out, by simp; omega, below_end0 HB.out _⟩
end Go.Proofs.Ybulkaafc

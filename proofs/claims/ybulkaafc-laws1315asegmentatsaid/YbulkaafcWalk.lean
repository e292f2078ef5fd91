import Derived.Test.YbulkaafcParts
import Derived.Deep.AppendLies
namespace Go.Proofs.Ybulkaafc
open Go.RowKit

theorem Yba.info33 : (Yba.prog.info? 33).map (fun i => (i.zero, i.size, i.bytes)) = some (some (.agg #[.int .i64 0, .int .u64 0, .int .i64 0, .pointer none, .float .f64 0, .int .i64 0, .float .f64 0]), 7, 56) := by kernel_rfl

set_option maxHeartbeats 400000 in
theorem law_long (a0 : Int) (a1 : Option Addr) (len cap : Nat) (a2 a3 : Int) (w : World) (hm : len ≤ maxLen) (h : 1024 < len) :
    Calls Yba.prog 3 #[.int .i64 a0, .slice a1 len cap, .int .u16 a2, .int .i64 a3] w fun e w' => e = .returned (.bool true) ∧ Below w.heap.size w w' := by
  unfold maxLen at hm
  have h1 : (1024 : Int) < (len : Int) := by omega
  go_enter Yba.func3, Yba.ntmps3
  go_wp2
  go_ret
  exact ⟨rfl, Below.refl _ _⟩

theorem after_make {w w1 w2 : World} {t : Int} {n : Nat} (hb1 : Below w.heap.size w w1)
    (hown : w2.ownsRow (w1.heap.size + 1) 33 7 (.slice (some ⟨(w1.alloc (.cells #[.int .u64 (t % 1000000000), .int .i64 (t / 1000000000), .pointer none] 27)).heap.size, 0, none⟩) 0 n) 0 [])
    (hgrow : (w1.alloc (.cells #[.int .u64 (t % 1000000000), .int .i64 (t / 1000000000), .pointer none] 27)).grownBy w2 none) :
    w2.ownsRow (w1.heap.size + 1) 33 7 (.slice (some ⟨w1.heap.size + 1, 0, none⟩) 0 n) 0 [] ∧ w2.heap[w1.heap.size]? = some (tObj t) ∧ Below w.heap.size w w2 := by
  have e : (w1.alloc (.cells #[.int .u64 (t % 1000000000), .int .i64 (t / 1000000000), .pointer none] 27)).heap.size = w1.heap.size + 1 := by simp
  rw [e] at hown
  have hs := hb1.size
  refine ⟨hown, (hgrow.block _ (by rw [e]; omega) (by simp)).trans (heap_alloc_new w1 _), ?_⟩
  exact Below.grown (hb1.alloc hs _) hgrow (by rw [e]; omega) (fun k h => by cases h)
theorem seg_one (t : Int) : ∀ u ∈ segCells t, u.oneCell' = true := by simp [segCells, Value.oneCell']

/-- What stands behind k rounds of the making: t, the row of segments, old memory. -/
structure Inv (w : World) (B n : Nat) (b : Int) (zs : List Int) (k : Nat) (wr : World) : Prop where
  t : wr.heap[B]? = some (tObj (T b zs k))
  own : wr.ownsRow (B + 1) 33 7 (.slice (some ⟨B + 1, 0, none⟩) (k + 1) n) (k + 1) (rowOf (ts b zs k))
  bel : Below w.heap.size w wr
  le : w.heap.size ≤ B

theorem inv_start {w w1 w2 w3 : World} {t : Int} {n : Nat} {o : Obj} (zs : List Int) (hb1 : Below w.heap.size w w1) (hb2 : Below w.heap.size w w2) (hT : w2.heap[w1.heap.size]? = some (tObj t))
    (hown : w3.ownsRow (w1.heap.size + 1) 33 7 (.slice (some ⟨w1.heap.size + 1, 0, none⟩) (0 + 1) n) (0 + 1) ([] ++ segCells t)) (hgrow : (w2.alloc o).grownBy w3 (some (w1.heap.size + 1))) : Inv w w1.heap.size n t zs 0 w3 := by
  have hlt := lt_of_block hT
  have hs := hb1.size
  have hs2 := hb2.size
  refine ⟨(hgrow.block _ (by simp; omega) (by simp)).trans ((Below.heap_alloc w2 _ _ hlt).trans hT), ?_, Below.grown (hb2.alloc hs2 _) hgrow (by simp; omega) (fun k h => by cases h; omega), hs⟩
  rw [ts_zero]
  have e : rowOf [t] = [] ++ segCells t := by simp [rowOf]
  rw [e]
  exact hown

theorem size_setCell (w : World) (a : Addr) (x : Value) : (w.setCell a x).heap.size = w.heap.size := by simp [World.setCell]
theorem new3 (w : World) (a b c : Addr) (x y z : Value) (o : Obj) : ((((w.setCell a x).setCell b y).setCell c z).alloc o).heap[w.heap.size]? = some o := by
  have h := heap_alloc_new (((w.setCell a x).setCell b y).setCell c z) o
  rw [size_setCell, size_setCell, size_setCell] at h
  exact h
theorem own3 {w : World} {B n cap : Nat} {xs : List Value} (h : w.ownsRow (B + 1) 33 7 (.slice (some ⟨B + 1, 0, none⟩) n cap) n xs) (p q r : Nat) (x y z : Value) (o : Obj) :
    ((((w.setCell ⟨B, p, none⟩ x).setCell ⟨B, q, none⟩ y).setCell ⟨B, r, none⟩ z).alloc o).ownsRow (B + 1) 33 7 (.slice (some ⟨B + 1, 0, none⟩) n cap) n xs :=
  (ownsRow_setCell_below (ownsRow_setCell_below (ownsRow_setCell_below h (Nat.lt_succ_self B) _) (Nat.lt_succ_self B) _) (Nat.lt_succ_self B) _).alloc o

theorem set3 {w : World} {B : Nat} {t : Int} (h : w.heap[B]? = some (tObj t)) (u : Int) :
    (((w.setCell ⟨B, 0, none⟩ (.int .u64 (u % 1000000000))).setCell ⟨B, 1, none⟩ (.int .i64 (u / 1000000000))).setCell ⟨B, 2, none⟩ (.pointer none)).heap[B]? = some (tObj u) := by
  have h1 := heap_setCell_same w B 0 _ 27 (.int .u64 (u % 1000000000)) h
  have h2 := heap_setCell_same _ B 1 _ 27 (.int .i64 (u / 1000000000)) h1
  exact heap_setCell_same _ B 2 _ 27 (.pointer none) h2
theorem inv_step {w wr w4 w5 : World} {B n k : Nat} {b t z : Int} {zs : List Int} {o : Obj} (hI : Inv w B n b zs k wr) (hb4 : Below wr.heap.size wr w4) (ht : T b zs k = t) (hz : zs.getD k 0 = z)
    (hown : w5.ownsRow (B + 1) 33 7 (.slice (some ⟨B + 1, 0, none⟩) (k + 1 + 1) n) (k + 1 + 1) (rowOf (ts b zs k) ++ segCells (t + (z + 1))))
    (hgrow : ((((w4.setCell ⟨B, 0, none⟩ (.int .u64 ((t + (z + 1)) % 1000000000))).setCell ⟨B, 1, none⟩ (.int .i64 ((t + (z + 1)) / 1000000000))).setCell ⟨B, 2, none⟩ (.pointer none)).alloc o).grownBy w5 (some (B + 1))) :
    Inv w B n b zs (k + 1) w5 := by
  have hT4 : w4.heap[B]? = some (tObj (T b zs k)) := (hb4.block _ (lt_of_block hI.t)).trans hI.t
  have hlt := lt_of_block hT4
  have eT : T b zs (k + 1) = t + (z + 1) := by show T b zs k + (zs.getD k 0 + 1) = _; rw [ht, hz]
  have hle := hI.le
  have hbs := hI.bel.size
  have hb4' : Below w.heap.size w w4 := hI.bel.trans (hb4.mono hbs)
  refine ⟨?_, ?_, ?_, hle⟩
  · rw [eT, hgrow.block B (by simp [World.setCell]; omega) (by simp), Below.heap_alloc _ _ _ (by rw [size_setCell, size_setCell, size_setCell]; exact hlt)]
    exact set3 hT4 _
  · rw [ts_succ, rowOf_snoc, eT]
    exact hown
  · refine Below.grown ((((hb4'.setCell (by exact hle) _).setCell (by exact hle) _).setCell (by exact hle) _).alloc (by rw [size_setCell, size_setCell, size_setCell]; exact hb4'.size) o) hgrow (by simp [World.setCell]; have := hb4'.size; omega) (fun k h => by cases h; omega)

theorem six_keep {W w1 : World} {B g k : Nat} {v0 v1 v2 a1 a2 a3 : Value} (hb : Below W.drew.heap.size W.drew w1) (hB : B < W.heap.size) (hg : g < W.heap.size)
    (h : (W.cell? ⟨B, 0, none⟩ = some v0 ∧ W.cell? ⟨B, 1, none⟩ = some v1 ∧ W.cell? ⟨B, 2, none⟩ = some v2) ∧ W.cell? ⟨g, k + 1, none⟩ = some a1 ∧ W.cell? ⟨g, k + 2, none⟩ = some a2 ∧ W.cell? ⟨g, k + 3, none⟩ = some a3) :
    (w1.cell? ⟨B, 0, none⟩ = some v0 ∧ w1.cell? ⟨B, 1, none⟩ = some v1 ∧ w1.cell? ⟨B, 2, none⟩ = some v2) ∧ w1.cell? ⟨g, k + 1, none⟩ = some a1 ∧ w1.cell? ⟨g, k + 2, none⟩ = some a2 ∧ w1.cell? ⟨g, k + 3, none⟩ = some a3 := by
  have e1 : ∀ o, w1.cell? ⟨B, o, none⟩ = W.cell? ⟨B, o, none⟩ := fun o => hb.cell (p := ⟨B, o, none⟩) hB
  have e2 : ∀ o, w1.cell? ⟨g, o, none⟩ = W.cell? ⟨g, o, none⟩ := fun o => hb.cell (p := ⟨g, o, none⟩) hg
  rw [e1, e1, e1, e2, e2, e2]
  exact h
theorem last_yes {l : List Int} {u t : Int} {n j : Nat} (h : ∀ a c, a < c → c < n → l.getD a 0 < l.getD c 0) (ht : l.getD j 0 = t) (htu : t ≤ u) (hj : j < n) : Last l u (j + 1) j := by
  refine ⟨by omega, by omega, fun m hm => ?_, fun m h1 h2 => absurd h1 (by omega)⟩
  have := asc_le h m j (by omega) hj
  omega
theorem last_no {l : List Int} {u t r : Int} {j : Nat} (h : Last l u j r) (ht : l.getD j 0 = t) (htu : u < t) : Last l u (j + 1) r := by
  obtain ⟨a1, a2, a3, a4⟩ := h
  refine ⟨a1, by omega, a3, fun m h1 h2 => ?_⟩
  by_cases e : m = j
  · rw [e, ht]; exact htu
  · exact a4 m h1 (by omega)

theorem below_far {w w6 wr : World} {o : Obj} (h : Below w.heap.size w w6) (hq : Below (w6.heap.size + 1) (w6.alloc o) wr) : Below w.heap.size w wr :=
  (h.alloc h.size o).trans (hq.mono (by have := h.size; omega))

set_option maxRecDepth 100000 in
set_option maxHeartbeats 3200000 in
theorem law_short (a0 : Int) (a1 : Option Addr) (len cap : Nat) (zs : List Int) (a2 a3 : Int) (w : World) (hlen : len ≤ 1024) (b0 : -9223372036854775808 ≤ a0) (b1 : a0 ≤ 9223372036854775807) (p0 : 0 ≤ a2) (p1 : a2 ≤ 65535)
    (q0 : -9223372036854775808 ≤ a3) (q1 : a3 ≤ 9223372036854775807) (hz : ∀ m, 0 ≤ zs.getD m 0 ∧ zs.getD m 0 ≤ 4294967295)
    (hg : ∀ k, k < len → ∃ gb off, a1 = some ⟨gb, off, none⟩ ∧ gb < w.heap.size ∧ w.cell? ⟨gb, off + k, none⟩ = some (.int .u32 (zs.getD k 0))) :
    Calls Yba.prog 3 #[.int .i64 a0, .slice a1 len cap, .int .u16 a2, .int .i64 a3] w fun e w' => e = .returned (.bool true) ∧ Below w.heap.size w w' := by
  obtain ⟨i0, hi0, hz0, hz1, hz2⟩ := info_parts Yba.info33
  have h1 : ¬ (1024 : Int) < (len : Int) := by omega
  have HZ : Hid (∀ m, 0 ≤ zs.getD m 0 ∧ zs.getD m 0 ≤ 4294967295) := hz
  have HG : Hid (∀ k, k < len → ∃ gb off, a1 = some ⟨gb, off, none⟩ ∧ gb < w.heap.size ∧ w.cell? ⟨gb, off + k, none⟩ = some (.int .u32 (zs.getD k 0))) := hg
  clear hz hg
  go_enter Yba.func3, Yba.ntmps3
  go_wp2_with fail
  refine (add_zero a0 w b0 b1).mono ?_
  rintro e w1 ⟨rfl, hb1⟩
  go_wp2_with (first | (at_make; refine wpList_make_own _ rfl _ _ 30 rfl (w1.heap.size + 1) 33 i0 _ 7 Yba.underlying30 hi0 hz0 hz1 _ _ _ (len + 1) rfl rfl (by omega) (by rw [hz2]; omega) (by unfold maxLen; omega) (by simp) ?_; intro w2 hown2 hgrow2; obtain ⟨hown2', hT2, hb2⟩ := after_make hb1 hown2 hgrow2; obtain ⟨c0, c1, c2, _⟩ := t_cells hT2) | (at_builtin; refine wpList_append_fits _ rfl _ _ 30 rfl (w1.heap.size + 1) 33 i0 7 Yba.underlying30 hi0 hz1 (w1.heap.size + 1) 0 (len + 1) [] rfl (hown2'.alloc _) ⟨w2.heap.size, 0, none⟩ 1 1 (segCells a0) rfl rfl (World.news_of_block (cs := (segCells a0).toArray) (t := 33) (fr := (0, 0)) (heap_alloc_new w2 _)) (seg_one a0) (by omega) ?_; intro w3 hown3 hgrow3))
  have hI := inv_start zs hb1 hb2 hT2 hown3 hgrow3
  have HI : Hid (Inv w w1.heap.size (len + 1) a0 zs 0 w3) := hI
  clear hI hown3 hgrow3 c0 c1 c2 hT2 hown2 hown2' hgrow2 hb2 hb1
  go_loopw [10, 35] (fun s i wr => ∃ k : Nat, k ≤ len ∧ i = .int .i64 k ∧ s = .slice (some ⟨w1.heap.size + 1, 0, none⟩) (k + 1) (len + 1) ∧ Inv w w1.heap.size (len + 1) a0 zs k wr) (fun _ i _ => len - (intOf i).toNat)
  case atStart => exact ⟨0, Nat.zero_le _, rfl, rfl, HI.out⟩
  case round =>
    obtain ⟨k, hk, rfl, rfl, hI⟩ := hrel
    by_cases hlt : k < len
    · obtain ⟨gb, off, rfl, hgb, hz⟩ := HG.out k hlt
      obtain ⟨z, hzz⟩ : ∃ z, zs.getD k 0 = z := ⟨_, rfl⟩
      have hzb := HZ.out k
      rw [hzz] at hz hzb
      have hz' : wr.cell? ⟨gb, off + k, none⟩ = some (.int .u32 z) := (hI.bel.cell (by exact hgb)).trans hz
      obtain ⟨t, ht⟩ : ∃ t, T a0 zs k = t := ⟨_, rfl⟩
      have tb := T_bd a0 zs HZ.out k
      rw [ht] at tb
      have hTt := hI.t
      rw [ht] at hTt
      obtain ⟨c0, c1, c2, _⟩ := t_cells hTt
      have HZZ : Hid (zs.getD k 0 = z) := hzz
      have HTT : Hid (T a0 zs k = t) := ht
      have hzb0 := hzb.1
      have hzb1 := hzb.2
      have HI' : Hid (Inv w w1.heap.size (len + 1) a0 zs k wr) := hI
      have hB' : Hid (wr.heap[w1.heap.size]? = some (tObj t)) := hTt
      clear hz hzz ht hI hzb hTt
      have z0 : (0 : Int) ≤ (k : Int) := Int.natCast_nonneg _
      have z1 : (k : Int) < (len : Int) := by omega
      go_wp2_with fail
      refine (add_x t (z + 1) wr (by omega) (by omega) (by omega) (by omega)).mono ?_
      rintro e w4 ⟨rfl, hb4⟩
      obtain ⟨d0, d1, d2, e0, e1, e2⟩ := t_cells ((hb4.block _ (lt_of_block hB'.out)).trans hB'.out)
      clear c0 c1 c2
      have hO4 : Hid (w4.ownsRow (w1.heap.size + 1) 33 7 (.slice (some ⟨w1.heap.size + 1, 0, none⟩) (k + 1) (len + 1)) (k + 1) (rowOf (ts a0 zs k))) := own_of_block HI'.out.own (hb4.block _ (own_lt HI'.out.own))
      go_wp2_with (at_builtin; refine wpList_append_fits _ rfl _ _ 30 rfl (w1.heap.size + 1) 33 i0 7 Yba.underlying30 hi0 hz1 (w1.heap.size + 1) (k + 1) (len + 1) (rowOf (ts a0 zs k)) rfl (by exact own3 hO4.out _ _ _ _ _ _ _) ⟨w4.heap.size, 0, none⟩ 1 1 (segCells (t + (z + 1))) rfl rfl (World.news_of_block (cs := (segCells (t + (z + 1))).toArray) (t := 33) (fr := (0, 0)) (by exact new3 w4 _ _ _ _ _ _ _)) (seg_one _) (by omega) ?_; intro w5 hown5 hgrow5)
      go_roundw
      case rel => exact ⟨k + 1, by omega, by go_num, rfl, inv_step HI'.out hb4 HTT.out HZZ.out hown5 hgrow5⟩
      case measure => simp [intOf]; omega
    · obtain rfl : k = len := by omega
      clear HG HI
      have hS := segs_of_own hI.own (ts_length a0 zs k)
      have hgl := hS.lt
      obtain ⟨p, hp, hpk⟩ : ∃ p : Nat, a2 % ((k : Int) + 1) = (p : Int) ∧ p < k + 1 := by
        have x0 := Int.emod_nonneg a2 (show (k : Int) + 1 ≠ 0 by omega)
        have x1 := Int.emod_lt_of_pos a2 (show (0 : Int) < (k : Int) + 1 by omega)
        exact ⟨(a2 % ((k : Int) + 1)).toNat, by omega, by omega⟩
      obtain ⟨t, ht⟩ : ∃ t, (ts a0 zs k).getD p 0 = t := ⟨_, rfl⟩
      obtain ⟨y0, y1, y2, y3, y4, y5, y6⟩ := seg_cells hS (j := p) (by rw [ts_length]; exact hpk) ht
      have tb := T_bd a0 zs HZ.out p
      rw [← ts_getD a0 zs k p hpk, ht] at tb
      have z0 : (0 : Int) ≤ (p : Int) := Int.natCast_nonneg _
      have z1 : (p : Int) < (k : Int) + 1 := by omega
      have HS : Hid (Segs (w1.heap.size + 1) (ts a0 zs k) wr) := hS
      have HB : Hid (Below w.heap.size w wr) := hI.bel
      clear y0 y4 y5 y6 hI hS ht
      go_wp2_with fail
      refine (add_x t a3 wr (by omega) (by omega) q0 q1).mono ?_
      rintro e w6 ⟨rfl, hb6⟩
      obtain ⟨u, hu⟩ : ∃ u, u = t + a3 := ⟨_, rfl⟩
      rw [← hu]
      have HS6 : Hid (Segs (w1.heap.size + 1) (ts a0 zs k) w6) := HS.out.kept (hb6.block _ hgl)
      have hg6 : w1.heap.size + 1 < w6.heap.size := HS6.out.lt
      have HB6 : Hid (Below w.heap.size w w6) := HB.out.trans (hb6.mono HB.out.size)
      clear HS HB hb6 y1 y2 y3 hp tb z0 z1 hu hgl
      go_wp2_with fail
      go_loopw [14, 15, 63] (fun a _ i wq => ∃ (j : Nat) (r : Int), j ≤ k + 1 ∧ i = .int .i64 j ∧ a = .int .i64 r ∧ Last (ts a0 zs k) u j r ∧ Below (w6.heap.size + 1) (w6.alloc (.cells #[.int .u64 (u % 1000000000), .int .i64 (u / 1000000000), .pointer none] 27)) wq)
        (fun _ _ i _ => k + 1 - (intOf i).toNat)
      case atStart => exact ⟨0, -1, Nat.zero_le _, rfl, rfl, ⟨by omega, by omega, fun m hm => absurd hm (by omega), fun m h1 h2 => absurd h2 (by omega)⟩, Below.refl _ _⟩
      case round =>
        obtain ⟨j, r, hj, rfl, rfl, hL, hbq⟩ := hrel
        obtain ⟨x0, x1, x2⟩ := box_cells hbq
        have hSq : Segs (w1.heap.size + 1) (ts a0 zs k) wr := HS6.out.kept ((hbq.block _ (by omega)).trans (Below.heap_alloc w6 _ _ hg6))
        have hgq := hSq.lt
        have hYq : w6.heap.size < wr.heap.size := by have := hbq.size; simp at this; omega
        have HQ : Hid (Below (w6.heap.size + 1) (w6.alloc (.cells #[.int .u64 (u % 1000000000), .int .i64 (u / 1000000000), .pointer none] 27)) wr) := hbq
        have HL : Hid (Last (ts a0 zs k) u j r) := hL
        clear hbq hL
        by_cases hjk : j < k + 1
        · obtain ⟨t, ht⟩ : ∃ t, (ts a0 zs k).getD j 0 = t := ⟨_, rfl⟩
          obtain ⟨y0, y1, y2, y3, y4, y5, y6⟩ := seg_cells hSq (j := j) (by rw [ts_length]; exact hjk) ht
          have HT : Hid ((ts a0 zs k).getD j 0 = t) := ht
          have z0 : (0 : Int) ≤ (j : Int) := Int.natCast_nonneg _
          have z1 : (j : Int) < (k : Int) + 1 := by omega
          clear y0 y4 y5 y6 ht hSq
          by_cases htu : t ≤ u
          · go_wp2_with fail
            go_region_held3 (fun w' => (w'.cell? ⟨w6.heap.size, 0, none⟩ = some (.int .u64 (u % 1000000000)) ∧ w'.cell? ⟨w6.heap.size, 1, none⟩ = some (.int .i64 (u / 1000000000)) ∧ w'.cell? ⟨w6.heap.size, 2, none⟩ = some (.pointer none)) ∧
                w'.cell? ⟨w1.heap.size + 1, j * 7 + 1, none⟩ = some (.int .u64 (t % 1000000000)) ∧ w'.cell? ⟨w1.heap.size + 1, j * 7 + 2, none⟩ = some (.int .i64 (t / 1000000000)) ∧ w'.cell? ⟨w1.heap.size + 1, j * 7 + 3, none⟩ = some (.pointer none))
              (first
                | (exact six_keep hb hYq hgq ⟨⟨x0, x1, x2⟩, y1, y2, y3⟩)
                | go_keep)
              (first | (go_at_call 5; refine (before_no u t _ htu).mono ?_; rintro e w8 ⟨rfl, hb⟩))
            go_wp2
            go_roundw
            case rel => exact ⟨j + 1, j, by omega, by go_num, rfl, last_yes (ts_asc a0 zs k (fun m => (HZ.out m).1)) HT.out htu hjk, below_cmp HQ.out hYq hb⟩
            case measure => simp [intOf]; omega
          · have htu' : u < t := by omega
            clear htu
            go_wp2_with fail
            go_region_held3 (fun w' => (w'.cell? ⟨w6.heap.size, 0, none⟩ = some (.int .u64 (u % 1000000000)) ∧ w'.cell? ⟨w6.heap.size, 1, none⟩ = some (.int .i64 (u / 1000000000)) ∧ w'.cell? ⟨w6.heap.size, 2, none⟩ = some (.pointer none)) ∧
                w'.cell? ⟨w1.heap.size + 1, j * 7 + 1, none⟩ = some (.int .u64 (t % 1000000000)) ∧ w'.cell? ⟨w1.heap.size + 1, j * 7 + 2, none⟩ = some (.int .i64 (t / 1000000000)) ∧ w'.cell? ⟨w1.heap.size + 1, j * 7 + 3, none⟩ = some (.pointer none))
              (first
                | (exact six_keep hb hYq hgq ⟨⟨x0, x1, x2⟩, y1, y2, y3⟩)
                | go_keep)
              (first | (go_at_call 5; refine (before_yes u t _ htu').mono ?_; rintro e w8 ⟨rfl, hb⟩))
            go_wp2
            go_roundw
            case rel => exact ⟨j + 1, r, by omega, by go_num, rfl, last_no HL.out HT.out htu', below_cmp HQ.out hYq hb⟩
            case measure => simp [intOf]; omega
        · obtain rfl : j = k + 1 := by omega
          have HSo : Hid (∀ o, Segs (w1.heap.size + 1) (ts a0 zs k) (wr.alloc o)) := fun o => hSq.kept (Below.heap_alloc wr o _ hgq)
          have hx0 : ∀ o, (wr.alloc o).cell? ⟨w6.heap.size, 0, none⟩ = some (.int .u64 (u % 1000000000)) := fun o => (World.cell?_of_block (Below.heap_alloc wr o _ hYq)).trans x0
          have hx1 : ∀ o, (wr.alloc o).cell? ⟨w6.heap.size, 1, none⟩ = some (.int .i64 (u / 1000000000)) := fun o => (World.cell?_of_block (Below.heap_alloc wr o _ hYq)).trans x1
          have hx2 : ∀ o, (wr.alloc o).cell? ⟨w6.heap.size, 2, none⟩ = some (.pointer none) := fun o => (World.cell?_of_block (Below.heap_alloc wr o _ hYq)).trans x2
          clear hSq x0 x1 x2
          have HE : Hid (∀ o, Below w.heap.size w (wr.alloc o)) := fun o => (below_far HB6.out HQ.out).alloc (below_far HB6.out HQ.out).size o
          go_wp2_with fail
          refine (at_any wr.heap.size (w1.heap.size + 1) k (k + 1) (ts a0 zs k) u _ (ts_length a0 zs k) hlen (HSo.out _) ?_ (ts_asc a0 zs k (fun m => (HZ.out m).1))).mono ?_
          · simp
          rintro e w9 ⟨r', rfl, hL', hb9⟩
          obtain rfl : r' = r := hL'.unique HL.out
          have HF : Hid (Below w.heap.size w w9) := (HE.out _).trans (hb9.mono (HE.out _).size)
          clear hL' hb9
          go_wp2
          go_ret
          exact ⟨rfl, HF.out⟩
end Go.Proofs.Ybulkaafc

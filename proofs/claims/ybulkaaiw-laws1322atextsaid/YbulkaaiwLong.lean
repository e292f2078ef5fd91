import Derived.Test.YbulkaaiwHead
namespace Go.Proofs.Ybulkaaiw
open Go.RowKit

attribute [local go_sem ↓] Go.wp_at_zero Go.wp_at_succ

theorem slice32 (B k : Nat) (hk : k < 23) (w : World) : (Instr.sliceAt 32 (.pointer (some ⟨B, 0, none⟩)) (some (.int .i64 (k : Int))) none none).run Yba.prog w = .ok (.slice (some ⟨B, k, none⟩) (23 - k) (23 - k)) w := by
  have hl : Yba.prog.arrayLen 32 = 23 := by kernel_rfl
  have he : Yba.prog.elem 32 = 5 := by kernel_rfl
  have hu : Yba.prog.underlying 32 = some (.array (Yba.prog.arrayLen 32) (Yba.prog.elem 32)) := by rw [hl, he]; exact Yba.underlying32
  rw [run_sliceAt_array_l w 32 ⟨B, 0, none⟩ hu .i64 (k : Int) (by omega) (by rw [hl]; omega), hl, he]
  obtain ⟨i0, hi0, _, hz1, _⟩ := info_parts Yba.info5
  simp [sizeOf, typeInfo, hi0, hz1, slicedAt]
  rw [if_neg (by omega), Addr.add_lit]
  simp

/-- Two bytes laid ahead of the tail. -/
theorem arr_cell2 {t B k : Nat} {tl : List Int} {w : World} (h : Arr t B (k + 2) tl w) : w.cell? ⟨B, k, none⟩ = some (.int .u8 0) ∧ w.frozen? ⟨B, k, none⟩ = false ∧ w.cell? ⟨B, k + 1, none⟩ = some (.int .u8 0) ∧ w.frozen? ⟨B, k + 1, none⟩ = false := by
  have a := arr_cell (k := k + 1) h
  unfold Arr at h
  refine ⟨?_, by simp [World.frozen?, h], a.1, a.2⟩
  have e : (cs (List.replicate (k + 2) 0 ++ tl))[k]? = some (.int .u8 0) := by
    rw [cs_append, List.getElem?_append_left (by simp [cs])]
    simp [cs]
  simp [World.cell?, h, e]
theorem set_swap (w : World) (B i j : Nat) (x y : Value) (h : i ≠ j) : (w.setCell ⟨B, i, none⟩ x).setCell ⟨B, j, none⟩ y = (w.setCell ⟨B, j, none⟩ y).setCell ⟨B, i, none⟩ x := by
  unfold World.setCell
  congr 1
  apply Array.ext
  · simp
  · intro p h1 h2
    simp only [Array.getElem_modify]
    by_cases e : B = p
    · simp only [e, if_true]
      cases w.heap[p]'(by simpa using h1) with
      | cells c el fr => simp [Array.setIfInBounds_comm _ _ h]
      | _ => rfl
    · simp [e]
theorem arr_store2 {t B k : Nat} {tl : List Int} {w : World} (h : Arr t B (k + 2) tl w) (x y : Int) : Arr t B k (x :: y :: tl) ((w.setCell ⟨B, k, none⟩ (.int .u8 x)).setCell ⟨B, k + 1, none⟩ (.int .u8 y)) := by
  rw [set_swap _ _ _ _ _ _ (by omega)]
  exact arr_store (arr_store (k := k + 1) h y) x

/-- How far the pairs have come. -/
def Dig2 (U u i : Nat) (tl : List Int) : Prop := dg u ++ tl = dg U ++ [13, 10] ∧ u < 10 ^ (i - 2) ∧ i + tl.length = 23 ∧ 3 ≤ i ∧ i ≤ 21 ∧ 1 ≤ u ∧ u < 10 ^ 19
theorem dig2_room {U u i : Nat} {tl : List Int} (h : Dig2 U u i tl) (hu : 100 ≤ u) : ∃ j, i = j + 2 ∧ 3 ≤ j := by
  obtain ⟨_, h2, _, h4, _⟩ := h
  rcases (show i = 3 ∨ i = 4 ∨ 5 ≤ i by omega) with e | e | e
  · subst e; simp at h2; omega
  · subst e; simp at h2; omega
  · exact ⟨i - 2, by omega, by omega⟩
theorem dig2_next {U u j : Nat} {tl : List Int} (h : Dig2 U u (j + 2) tl) (hu : 100 ≤ u) (hj : 3 ≤ j) : Dig2 U (u / 100) j ((48 + (u : Int) % 100 / 10) :: (48 + (u : Int) % 10) :: tl) := by
  obtain ⟨h1, h2, h3, h4, h5, h6, h7⟩ := h
  have p19 : (10 : Nat) ^ 19 ≤ 10 ^ 20 := by decide
  refine ⟨?_, ?_, by simp; omega, hj, by omega, by omega, by omega⟩
  · rw [← h1, dg_pair u hu (by omega)]
    simp
  · obtain ⟨q, rfl⟩ : ∃ q, j = q + 2 := ⟨j - 2, by omega⟩
    simp only [Nat.add_sub_cancel] at h2 ⊢
    rw [Nat.pow_add] at h2
    omega
theorem dig2_two {U u i : Nat} {tl : List Int} (h : Dig2 U u i tl) (hu : 10 ≤ u) (hv : u < 100) : (48 + (u : Int) / 10) :: (48 + (u : Int) % 10) :: tl = dg U ++ [13, 10] ∧ 4 ≤ i := by
  obtain ⟨h1, h2, h3, h4, h5, h6, h7⟩ := h
  refine ⟨?_, ?_⟩
  · rw [← h1, dg_two u hu hv]; simp
  · rcases (show i = 3 ∨ 4 ≤ i by omega) with e | e
    · subst e; simp at h2; omega
    · exact e
theorem dig2_one {U u i : Nat} {tl : List Int} (h : Dig2 U u i tl) (hu : u < 10) : (48 + (u : Int)) :: tl = dg U ++ [13, 10] := by
  obtain ⟨h1, _⟩ := h
  rw [← h1, dg_small u hu]; simp

theorem arr_zero {t B k : Nat} {tl : List Int} {w : World} (h : Arr t B k tl w) : ∀ o, o < k → w.cell? ⟨B, o, none⟩ = some (.int .u8 0) ∧ w.frozen? ⟨B, o, none⟩ = false := by
  intro o ho
  unfold Arr at h
  have e : (cs (List.replicate k 0 ++ tl))[o]? = some (.int .u8 0) := by
    rw [cs_append, List.getElem?_append_left (by simp [cs]; omega)]
    simp [cs, ho]
  exact ⟨by simp [World.cell?, h, e], by simp [World.frozen?, h]⟩
theorem hD2 {U u i : Nat} {tl : List Int} (h : Dig2 U u i tl) : i + tl.length = 23 := h.2.2.1
theorem line_neg {k m : Int} {U : Nat} {l : List Int} (h : m < 0) (hU : U = m.natAbs) (hl : l = dg U ++ [13, 10]) : line k m = k :: 45 :: l := by
  unfold line
  rw [num_neg m h, ← hU, hl]
  simp
theorem line_pos {k m : Int} {U : Nat} {l : List Int} (h : 0 ≤ m) (hU : U = m.natAbs) (hl : l = dg U ++ [13, 10]) : line k m = k :: l := by
  unfold line
  rw [num_pos m h, ← hU, hl]
theorem arr_drew {t B k : Nat} {tl : List Int} {w : World} (h : Arr t B k tl w) : Arr t B k tl w.drew := h
theorem base_le_4d {base B : Nat} {w wr : World} {a b c d : Nat} {x y z v : Value} (h : base ≤ w.heap.size) (hs : w.heap.size ≤ wr.heap.size) :
    base ≤ ((((wr.setCell ⟨B, a, none⟩ x).setCell ⟨B, b, none⟩ y).setCell ⟨B, c, none⟩ z).setCell ⟨B, d, none⟩ v).drew.heap.size := by
  simp [World.setCell]; omega
theorem below_end_4d {base g n cap a b c d : Nat} {bs : List Int} {w wr w1 : World} {x y z v : Value} (hbase : base ≤ w.heap.size) (hB : Below w.heap.size w wr) (hO : Own base g n cap bs w)
    (hg : ((((wr.setCell ⟨w.heap.size, a, none⟩ x).setCell ⟨w.heap.size, b, none⟩ y).setCell ⟨w.heap.size, c, none⟩ z).setCell ⟨w.heap.size, d, none⟩ v).drew.grownBy w1 (Value.slice (some ⟨g, 0, none⟩) n cap).ownBlock) : Below base w w1 := by
  have hB' := hB.mono hbase
  have h4 := ((((hB'.setCell (p := ⟨w.heap.size, a, none⟩) hbase x).setCell (p := ⟨w.heap.size, b, none⟩) hbase y).setCell (p := ⟨w.heap.size, c, none⟩) hbase z).setCell (p := ⟨w.heap.size, d, none⟩) hbase v).drew
  exact Below.grown h4 hg (Nat.le_trans hbase h4.size) (fun k e => (hO.lt k e).1)
theorem base_le_3d {base B : Nat} {w wr : World} {a b c : Nat} {x y z : Value} (h : base ≤ w.heap.size) (hs : w.heap.size ≤ wr.heap.size) :
    base ≤ (((wr.setCell ⟨B, a, none⟩ x).setCell ⟨B, b, none⟩ y).setCell ⟨B, c, none⟩ z).drew.heap.size := by
  simp [World.setCell]; omega
theorem below_end_3d {base g n cap a b c : Nat} {bs : List Int} {w wr w1 : World} {x y z : Value} (hbase : base ≤ w.heap.size) (hB : Below w.heap.size w wr) (hO : Own base g n cap bs w)
    (hg : (((wr.setCell ⟨w.heap.size, a, none⟩ x).setCell ⟨w.heap.size, b, none⟩ y).setCell ⟨w.heap.size, c, none⟩ z).drew.grownBy w1 (Value.slice (some ⟨g, 0, none⟩) n cap).ownBlock) : Below base w w1 := by
  have hB' := hB.mono hbase
  have h4 := (((hB'.setCell (p := ⟨w.heap.size, a, none⟩) hbase x).setCell (p := ⟨w.heap.size, b, none⟩) hbase y).setCell (p := ⟨w.heap.size, c, none⟩) hbase z).drew
  exact Below.grown h4 hg (Nat.le_trans hbase h4.size) (fun k e => (hO.lt k e).1)
theorem base_le_3 {base B : Nat} {w wr : World} {a b c : Nat} {x y z : Value} (h : base ≤ w.heap.size) (hs : w.heap.size ≤ wr.heap.size) :
    base ≤ (((wr.setCell ⟨B, a, none⟩ x).setCell ⟨B, b, none⟩ y).setCell ⟨B, c, none⟩ z).heap.size := by
  simp [World.setCell]; omega
theorem below_end_3 {base g n cap a b c : Nat} {bs : List Int} {w wr w1 : World} {x y z : Value} (hbase : base ≤ w.heap.size) (hB : Below w.heap.size w wr) (hO : Own base g n cap bs w)
    (hg : (((wr.setCell ⟨w.heap.size, a, none⟩ x).setCell ⟨w.heap.size, b, none⟩ y).setCell ⟨w.heap.size, c, none⟩ z).grownBy w1 (Value.slice (some ⟨g, 0, none⟩) n cap).ownBlock) : Below base w w1 := by
  have hB' := hB.mono hbase
  have h4 := (((hB'.setCell (p := ⟨w.heap.size, a, none⟩) hbase x).setCell (p := ⟨w.heap.size, b, none⟩) hbase y).setCell (p := ⟨w.heap.size, c, none⟩) hbase z)
  exact Below.grown h4 hg (Nat.le_trans hbase h4.size) (fun k e => (hO.lt k e).1)
theorem base_le_2 {base B : Nat} {w wr : World} {a b : Nat} {x y : Value} (h : base ≤ w.heap.size) (hs : w.heap.size ≤ wr.heap.size) :
    base ≤ ((wr.setCell ⟨B, a, none⟩ x).setCell ⟨B, b, none⟩ y).heap.size := by
  simp [World.setCell]; omega
theorem below_end_2 {base g n cap a b : Nat} {bs : List Int} {w wr w1 : World} {x y : Value} (hbase : base ≤ w.heap.size) (hB : Below w.heap.size w wr) (hO : Own base g n cap bs w)
    (hg : ((wr.setCell ⟨w.heap.size, a, none⟩ x).setCell ⟨w.heap.size, b, none⟩ y).grownBy w1 (Value.slice (some ⟨g, 0, none⟩) n cap).ownBlock) : Below base w w1 := by
  have hB' := hB.mono hbase
  have h4 := ((hB'.setCell (p := ⟨w.heap.size, a, none⟩) hbase x).setCell (p := ⟨w.heap.size, b, none⟩) hbase y)
  exact Below.grown h4 hg (Nat.le_trans hbase h4.size) (fun k e => (hO.lt k e).1)
theorem own_set {base g n cap : Nat} {bs : List Int} {w : World} (h : Own base g n cap bs w) {B o : Nat} (hne : g < B) (v : Value) : Own base g n cap bs (w.setCell ⟨B, o, none⟩ v) :=
  ownsRow_setCell_other h (by simp [Value.ownBlock]; omega) v
theorem own_kept {base g n cap : Nat} {bs : List Int} {w w' : World} (h : Own base g n cap bs w) (hb : Below w.heap.size w w') : Own base g n cap bs w' := own_block h (hb.block _ (own_lt h).2)

theorem ub_of (m : Int) (h0 : -9223372036854775808 ≤ m) (h1 : m ≤ 9223372036854775807) (h : m ≠ 0) : 1 ≤ m.natAbs ∧ m.natAbs < 10 ^ 19 := by
  have p19 : (10 : Nat) ^ 19 = 10000000000000000000 := by decide
  omega
theorem wrap_big (m : Int) (h : 0 ≤ m) : m = (m.natAbs : Int) := by omega

set_option maxRecDepth 100000 in
set_option maxHeartbeats 3200000 in
theorem head_neg (base g n cap : Nat) (bs : List Int) (k m : Int) (w : World) (hn : n ≤ 1024) (hO : Own base g n cap bs w) (hbase : base ≤ w.heap.size) (m0 : -9223372036854775808 ≤ m) (m1 : m < 0) :
    Calls Yba.prog 7 #[.slice (some ⟨g, 0, none⟩) n cap, .int .u8 k, .int .i64 m] w fun e w' => ∃ g' N c, e = .returned (.slice (some ⟨g', 0, none⟩) N c) ∧ n + (line k m).length = N ∧ Own base g' N c (bs ++ line k m) w' ∧ Below base w w' := by
  obtain ⟨i0, hi0, hz0, hz1, hz2⟩ := info_parts Yba.info5
  have d1 : decide (0 ≤ m) = false := by rw [decide_eq_false_iff_not]; omega
  have hw := wrap_dec_neg m m0 m1
  obtain ⟨U, hU⟩ : ∃ U, U = m.natAbs := ⟨_, rfl⟩
  rw [← hU] at hw
  have hUb : 1 ≤ U ∧ U < 10 ^ 19 := by rw [hU]; exact ub_of m (by omega) (by omega) (by omega)
  have HU : Hid (U = m.natAbs) := hU
  have HUb : Hid (1 ≤ U ∧ U < 10 ^ 19) := hUb
  clear hU hUb
  go_enter Yba.func7, Yba.ntmps7
  go_wp2
  have HO : Hid (Own base g n cap bs w) := hO
  clear hO
  go_loopw [8, 9, 10] (fun a b _ wr => ∃ (i u : Nat) (tl : List Int), a = .int .i64 i ∧ b = .int .u64 u ∧ Dig2 U u i tl ∧ Arr 32 w.heap.size i tl wr ∧ Below w.heap.size w wr) (fun _ b _ _ => (intOf b).toNat)
  case atStart => exact ⟨21, U, [13, 10], rfl, by first | rfl | go_num, ⟨rfl, by simpa using HUb.out.2, rfl, by omega, by omega, HUb.out.1, HUb.out.2⟩, heap_alloc_new w _, (Below.refl _ _).alloc (Nat.le_refl _) _⟩
  case round =>
    obtain ⟨i, u, tl, rfl, rfl, hD, hA, hbel⟩ := hrel
    have hub : (u : Int) ≤ 10000000000000000000 := by have := hD.2.2.2.2.2.2; have p19 : (10 : Nat) ^ 19 = 10000000000000000000 := by decide
                                                      omega
    have hi3 := hD.2.2.2.1
    have hi21 := hD.2.2.2.2.1
    have HD : Hid (Dig2 U u i tl) := hD
    have HA : Hid (Arr 32 w.heap.size i tl wr) := hA
    have HB : Hid (Below w.heap.size w wr) := hbel
    clear hD hA hbel
    by_cases hu : u < 100
    · by_cases hv : u < 10
      · have hE := dig2_one HD.out hv
        obtain ⟨q, rfl⟩ : ∃ q, i = q + 3 := ⟨i - 3, by omega⟩
        have hlen := hD2 HD.out
        have hF : line k m = k :: 45 :: (48 + (u : Int)) :: tl := line_neg m1 HU.out hE
        have HF : Hid (Arr 32 w.heap.size q (line k m) (((wr.setCell ⟨w.heap.size, q + 2, none⟩ (.int .u8 (48 + (u : Int)))).setCell ⟨w.heap.size, q + 1, none⟩ (.int .u8 45)).setCell ⟨w.heap.size, q, none⟩ (.int .u8 k))) := by
          rw [hF]
          exact arr_store (arr_store (arr_store HA.out _) 45) k
        have HFl : Hid ((line k m).length = 23 - q) := by
          have : (line k m).length = 23 - q := by rw [hF]; simp; omega
          exact this
        have Z := arr_zero HA.out
        obtain ⟨c0, f0⟩ := Z (q) (by omega)
        obtain ⟨c1, f1⟩ := Z (q + 1) (by omega)
        obtain ⟨c2, f2⟩ := Z (q + 2) (by omega)
        clear Z hE hF hlen
        have hsl := slice32 w.heap.size q (by omega)
        have z0 : (0 : Int) ≤ (q : Int) := Int.natCast_nonneg _
        have z1 : (q : Int) < 20 := by omega
        have HOr := hide (own_kept HO.out HB.out)
        have HB1 := hide (HB.out.size)
        have hgw : g < w.heap.size := (own_lt HO.out).2
        have hq0 : (q : Int) + 3 - 1 - 1 - 1 = (q : Int) := by omega
        go_wp2_with (at_builtin; refine wpList_append_lies _ rfl (.tmp 128) (.tmp 130) 22 rfl base 5 i0 (.int .u8 0) 1 1 Yba.underlying22 hi0 hz0 hz1 hz2 rfl (by decide) _ n (cs bs) rfl (by exact (own_set (own_set (own_set HOr.out hgw _) hgw _) hgw _)) ⟨w.heap.size, q, none⟩ _ _ (cs (line k m)) rfl (by rw [cs_length, HFl.out, Nat.mul_one]) (by exact arr_from HF.out) (cs_one _) (by omega) (by unfold maxLen; omega) (by omega) (by exact base_le_3 hbase HB1.out) _ rfl ?_; intro g' c' w1 hown hgrow hat hlt)
        go_ret
        exact ⟨g', n + (23 - q), c', rfl, by rw [HFl.out], own_next hown, below_end_3 hbase HB.out HO.out hgrow⟩
      · obtain ⟨hE, hi4⟩ := dig2_two HD.out (by omega) hu
        obtain ⟨q, rfl⟩ : ∃ q, i = q + 4 := ⟨i - 4, by omega⟩
        have hlen := hD2 HD.out
        have hF : line k m = k :: 45 :: (48 + (u : Int) / 10) :: (48 + (u : Int) % 10) :: tl := line_neg m1 HU.out hE
        have HF : Hid (Arr 32 w.heap.size q (line k m) ((((wr.setCell ⟨w.heap.size, q + 2, none⟩ (.int .u8 (48 + (u : Int) / 10))).setCell ⟨w.heap.size, q + 2 + 1, none⟩ (.int .u8 (48 + (u : Int) % 10))).setCell ⟨w.heap.size, q + 1, none⟩ (.int .u8 45)).setCell ⟨w.heap.size, q, none⟩ (.int .u8 k))) := by
          rw [hF]
          exact arr_store (arr_store (arr_store2 HA.out _ _) 45) k
        have HFl : Hid ((line k m).length = 23 - q) := by
          have : (line k m).length = 23 - q := by rw [hF]; simp; omega
          exact this
        have Z := arr_zero HA.out
        obtain ⟨c0, f0⟩ := Z (q) (by omega)
        obtain ⟨c1, f1⟩ := Z (q + 1) (by omega)
        obtain ⟨c2, f2⟩ := Z (q + 2) (by omega)
        obtain ⟨c3, f3⟩ := Z (q + 3) (by omega)
        clear Z hE hF hlen
        have hI1 := hiB .u64 (u : Int) (by omega) (by omega)
        have hI2 := loB .u64 (u : Int) (by omega) (by omega)
        have hI3 := hiA .u64 (u : Int) (by omega) (by omega)
        have hI4 := loA .u64 (u : Int) (by omega) (by omega)
        have hsl := slice32 w.heap.size q (by omega)
        have z0 : (0 : Int) ≤ (q : Int) := Int.natCast_nonneg _
        have z1 : (q : Int) < 20 := by omega
        have HOr := hide (own_kept HO.out HB.out)
        have HB1 := hide (HB.out.size)
        have hgw : g < w.heap.size := (own_lt HO.out).2
        have hq0 : (q : Int) + 4 - 2 - 1 - 1 = (q : Int) := by omega
        go_wp2_with fail
        go_region
        go_wp2_with (at_builtin; refine wpList_append_lies _ rfl (.tmp 128) (.tmp 130) 22 rfl base 5 i0 (.int .u8 0) 1 1 Yba.underlying22 hi0 hz0 hz1 hz2 rfl (by decide) _ n (cs bs) rfl (by exact (own_set (own_set (own_set (own_set HOr.out hgw _) hgw _) hgw _) hgw _).drew) ⟨w.heap.size, q, none⟩ _ _ (cs (line k m)) rfl (by rw [cs_length, HFl.out, Nat.mul_one]) (by exact arr_from (arr_drew HF.out)) (cs_one _) (by omega) (by unfold maxLen; omega) (by omega) (by exact base_le_4d hbase HB1.out) _ rfl ?_; intro g' c' w1 hown hgrow hat hlt)
        go_ret
        exact ⟨g', n + (23 - q), c', rfl, by rw [HFl.out], own_next hown, below_end_4d hbase HB.out HO.out hgrow⟩
    · obtain ⟨j, rfl, hj⟩ := dig2_room HD.out (by omega)
      obtain ⟨c0, f0, c1, f1⟩ := arr_cell2 HA.out
      have hI1 := hiB .u64 ((u : Int) % 100) (by omega) (by omega)
      have hI2 := loB .u64 ((u : Int) % 100) (by omega) (by omega)
      have hI3 := hiA .u64 ((u : Int) % 100) (by omega) (by omega)
      have hI4 := loA .u64 ((u : Int) % 100) (by omega) (by omega)
      have z0 : (0 : Int) ≤ (j : Int) := Int.natCast_nonneg _
      have z1 : (j : Int) < 23 := by omega
      have z2 : (0 : Int) ≤ (j : Int) + 1 := by omega
      have z3 : (j : Int) + 1 < 23 := by omega
      go_wp2_with fail
      go_region
      go_wp2
      go_roundw
      case rel => exact ⟨j, u / 100, (48 + (u : Int) % 100 / 10) :: (48 + (u : Int) % 10) :: tl, rfl, by go_num, dig2_next HD.out (by omega) hj, arr_store2 HA.out _ _, ((HB.out.setCell (Nat.le_refl _) _).setCell (Nat.le_refl _) _).drew⟩
      case measure => simp [intOf]; omega
set_option maxRecDepth 100000 in
set_option maxHeartbeats 3200000 in
theorem head_bigU (base g n cap U : Nat) (bs : List Int) (k : Int) (w : World) (hn : n ≤ 1024) (hO : Own base g n cap bs w) (hbase : base ≤ w.heap.size) (m0 : 1000 ≤ (U : Int)) (m1 : (U : Int) ≤ 9223372036854775807) :
    Calls Yba.prog 7 #[.slice (some ⟨g, 0, none⟩) n cap, .int .u8 k, .int .i64 (U : Int)] w fun e w' => ∃ g' N c, e = .returned (.slice (some ⟨g', 0, none⟩) N c) ∧ n + (line k (U : Int)).length = N ∧ Own base g' N c (bs ++ line k (U : Int)) w' ∧ Below base w w' := by
  obtain ⟨i0, hi0, hz0, hz1, hz2⟩ := info_parts Yba.info5
  have d1 : decide (0 ≤ (U : Int)) = true := by rw [decide_eq_true_iff]; omega
  have d2 : decide ((U : Int) < 10) = false := by rw [decide_eq_false_iff_not]; omega
  have d3 : decide ((U : Int) < 100) = false := by rw [decide_eq_false_iff_not]; omega
  have d4 : decide ((U : Int) < 1000) = false := by rw [decide_eq_false_iff_not]; omega
  have d5 : decide ((U : Int) < 0) = false := by rw [decide_eq_false_iff_not]; omega
  have hU : U = (U : Int).natAbs := by omega
  have hUb : 1 ≤ U ∧ U < 10 ^ 19 := by have := ub_of (U : Int) (by omega) (by omega) (by omega); rw [← hU] at this; exact this
  have HU : Hid (U = (U : Int).natAbs) := hU
  have HUb : Hid (1 ≤ U ∧ U < 10 ^ 19) := hUb
  clear hU hUb
  go_enter Yba.func7, Yba.ntmps7
  go_wp2
  have HO : Hid (Own base g n cap bs w) := hO
  clear hO
  go_loopw [8, 9, 10] (fun a b _ wr => ∃ (i u : Nat) (tl : List Int), a = .int .i64 i ∧ b = .int .u64 u ∧ Dig2 U u i tl ∧ Arr 32 w.heap.size i tl wr ∧ Below w.heap.size w wr) (fun _ b _ _ => (intOf b).toNat)
  case atStart => exact ⟨21, U, [13, 10], rfl, by first | rfl | go_num, ⟨rfl, by simpa using HUb.out.2, rfl, by omega, by omega, HUb.out.1, HUb.out.2⟩, heap_alloc_new w _, (Below.refl _ _).alloc (Nat.le_refl _) _⟩
  case round =>
    obtain ⟨i, u, tl, rfl, rfl, hD, hA, hbel⟩ := hrel
    have hub : (u : Int) ≤ 10000000000000000000 := by have := hD.2.2.2.2.2.2; have p19 : (10 : Nat) ^ 19 = 10000000000000000000 := by decide
                                                      omega
    have hi3 := hD.2.2.2.1
    have hi21 := hD.2.2.2.2.1
    have HD : Hid (Dig2 U u i tl) := hD
    have HA : Hid (Arr 32 w.heap.size i tl wr) := hA
    have HB : Hid (Below w.heap.size w wr) := hbel
    clear hD hA hbel
    by_cases hu : u < 100
    · by_cases hv : u < 10
      · have hE := dig2_one HD.out hv
        obtain ⟨q, rfl⟩ : ∃ q, i = q + 2 := ⟨i - 2, by omega⟩
        have hlen := hD2 HD.out
        have hF : line k (U : Int) = k :: (48 + (u : Int)) :: tl := line_pos (by omega) HU.out hE
        have HF : Hid (Arr 32 w.heap.size q (line k (U : Int)) ((wr.setCell ⟨w.heap.size, q + 1, none⟩ (.int .u8 (48 + (u : Int)))).setCell ⟨w.heap.size, q, none⟩ (.int .u8 k))) := by
          rw [hF]
          exact arr_store (arr_store HA.out _) k
        have HFl : Hid ((line k (U : Int)).length = 23 - q) := by
          have : (line k (U : Int)).length = 23 - q := by rw [hF]; simp; omega
          exact this
        have Z := arr_zero HA.out
        obtain ⟨c0, f0⟩ := Z (q) (by omega)
        obtain ⟨c1, f1⟩ := Z (q + 1) (by omega)
        clear Z hE hF hlen
        have hsl := slice32 w.heap.size q (by omega)
        have z0 : (0 : Int) ≤ (q : Int) := Int.natCast_nonneg _
        have z1 : (q : Int) < 20 := by omega
        have HOr := hide (own_kept HO.out HB.out)
        have HB1 := hide (HB.out.size)
        have hgw : g < w.heap.size := (own_lt HO.out).2
        have hq0 : (q : Int) + 2 - 1 - 1 = (q : Int) := by omega
        go_wp2_with (at_builtin; refine wpList_append_lies _ rfl (.tmp 128) (.tmp 130) 22 rfl base 5 i0 (.int .u8 0) 1 1 Yba.underlying22 hi0 hz0 hz1 hz2 rfl (by decide) _ n (cs bs) rfl (by exact (own_set (own_set HOr.out hgw _) hgw _)) ⟨w.heap.size, q, none⟩ _ _ (cs (line k (U : Int))) rfl (by rw [cs_length, HFl.out, Nat.mul_one]) (by exact arr_from HF.out) (cs_one _) (by omega) (by unfold maxLen; omega) (by omega) (by exact base_le_2 hbase HB1.out) _ rfl ?_; intro g' c' w1 hown hgrow hat hlt)
        go_ret
        exact ⟨g', n + (23 - q), c', rfl, by rw [HFl.out], own_next hown, below_end_2 hbase HB.out HO.out hgrow⟩
      · obtain ⟨hE, hi4⟩ := dig2_two HD.out (by omega) hu
        obtain ⟨q, rfl⟩ : ∃ q, i = q + 3 := ⟨i - 3, by omega⟩
        have hlen := hD2 HD.out
        have hF : line k (U : Int) = k :: (48 + (u : Int) / 10) :: (48 + (u : Int) % 10) :: tl := line_pos (by omega) HU.out hE
        have HF : Hid (Arr 32 w.heap.size q (line k (U : Int)) (((wr.setCell ⟨w.heap.size, q + 1, none⟩ (.int .u8 (48 + (u : Int) / 10))).setCell ⟨w.heap.size, q + 1 + 1, none⟩ (.int .u8 (48 + (u : Int) % 10))).setCell ⟨w.heap.size, q, none⟩ (.int .u8 k))) := by
          rw [hF]
          exact arr_store (arr_store2 HA.out _ _) k
        have HFl : Hid ((line k (U : Int)).length = 23 - q) := by
          have : (line k (U : Int)).length = 23 - q := by rw [hF]; simp; omega
          exact this
        have Z := arr_zero HA.out
        obtain ⟨c0, f0⟩ := Z (q) (by omega)
        obtain ⟨c1, f1⟩ := Z (q + 1) (by omega)
        obtain ⟨c2, f2⟩ := Z (q + 2) (by omega)
        clear Z hE hF hlen
        have hI1 := hiB .u64 (u : Int) (by omega) (by omega)
        have hI2 := loB .u64 (u : Int) (by omega) (by omega)
        have hI3 := hiA .u64 (u : Int) (by omega) (by omega)
        have hI4 := loA .u64 (u : Int) (by omega) (by omega)
        have hsl := slice32 w.heap.size q (by omega)
        have z0 : (0 : Int) ≤ (q : Int) := Int.natCast_nonneg _
        have z1 : (q : Int) < 20 := by omega
        have HOr := hide (own_kept HO.out HB.out)
        have HB1 := hide (HB.out.size)
        have hgw : g < w.heap.size := (own_lt HO.out).2
        have hq0 : (q : Int) + 3 - 2 - 1 = (q : Int) := by omega
        go_wp2_with fail
        go_region
        go_wp2_with (at_builtin; refine wpList_append_lies _ rfl (.tmp 128) (.tmp 130) 22 rfl base 5 i0 (.int .u8 0) 1 1 Yba.underlying22 hi0 hz0 hz1 hz2 rfl (by decide) _ n (cs bs) rfl (by exact (own_set (own_set (own_set HOr.out hgw _) hgw _) hgw _).drew) ⟨w.heap.size, q, none⟩ _ _ (cs (line k (U : Int))) rfl (by rw [cs_length, HFl.out, Nat.mul_one]) (by exact arr_from (arr_drew HF.out)) (cs_one _) (by omega) (by unfold maxLen; omega) (by omega) (by exact base_le_3d hbase HB1.out) _ rfl ?_; intro g' c' w1 hown hgrow hat hlt)
        go_ret
        exact ⟨g', n + (23 - q), c', rfl, by rw [HFl.out], own_next hown, below_end_3d hbase HB.out HO.out hgrow⟩
    · obtain ⟨j, rfl, hj⟩ := dig2_room HD.out (by omega)
      obtain ⟨c0, f0, c1, f1⟩ := arr_cell2 HA.out
      have hI1 := hiB .u64 ((u : Int) % 100) (by omega) (by omega)
      have hI2 := loB .u64 ((u : Int) % 100) (by omega) (by omega)
      have hI3 := hiA .u64 ((u : Int) % 100) (by omega) (by omega)
      have hI4 := loA .u64 ((u : Int) % 100) (by omega) (by omega)
      have z0 : (0 : Int) ≤ (j : Int) := Int.natCast_nonneg _
      have z1 : (j : Int) < 23 := by omega
      have z2 : (0 : Int) ≤ (j : Int) + 1 := by omega
      have z3 : (j : Int) + 1 < 23 := by omega
      go_wp2_with fail
      go_region
      go_wp2
      go_roundw
      case rel => exact ⟨j, u / 100, (48 + (u : Int) % 100 / 10) :: (48 + (u : Int) % 10) :: tl, rfl, by go_num, dig2_next HD.out (by omega) hj, arr_store2 HA.out _ _, ((HB.out.setCell (Nat.le_refl _) _).setCell (Nat.le_refl _) _).drew⟩
      case measure => simp [intOf]; omega

theorem head_big (base g n cap : Nat) (bs : List Int) (k m : Int) (w : World) (hn : n ≤ 1024) (hO : Own base g n cap bs w) (hbase : base ≤ w.heap.size) (m0 : 1000 ≤ m) (m1 : m ≤ 9223372036854775807) :
    Calls Yba.prog 7 #[.slice (some ⟨g, 0, none⟩) n cap, .int .u8 k, .int .i64 m] w fun e w' => ∃ g' N c, e = .returned (.slice (some ⟨g', 0, none⟩) N c) ∧ n + (line k m).length = N ∧ Own base g' N c (bs ++ line k m) w' ∧ Below base w w' := by
  obtain ⟨U, rfl⟩ : ∃ U : Nat, m = (U : Int) := ⟨m.toNat, by omega⟩
  exact head_bigU base g n cap U bs k w hn hO hbase m0 m1
end Go.Proofs.Ybulkaaiw

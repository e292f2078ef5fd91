import Derived.Test.YbulkaafcSegmentAt
namespace Go.Proofs.Ybulkaafc
open Go.RowKit

/-- When segment k begins: b, and behind it each gap and one nanosecond more. -/
def T (b : Int) (zs : List Int) : Nat → Int
  | 0 => b
  | k + 1 => T b zs k + (zs.getD k 0 + 1)

/-- The beginnings of the first k + 1 segments. -/
def ts (b : Int) (zs : List Int) (k : Nat) : List Int := (List.range (k + 1)).map (T b zs)

theorem ts_zero (b : Int) (zs : List Int) : ts b zs 0 = [b] := rfl
theorem ts_succ (b : Int) (zs : List Int) (k : Nat) : ts b zs (k + 1) = ts b zs k ++ [T b zs (k + 1)] := by
  unfold ts
  rw [List.range_succ (n := k + 1), List.map_append]
  rfl
theorem ts_length (b : Int) (zs : List Int) (k : Nat) : (ts b zs k).length = k + 1 := by simp [ts]
theorem ts_getD (b : Int) (zs : List Int) (k m : Nat) (h : m < k + 1) : (ts b zs k).getD m 0 = T b zs m := by
  unfold ts
  rw [List.getD_eq_getElem?_getD, List.getElem?_map, List.getElem?_range h]
  rfl
theorem T_lt (b : Int) (zs : List Int) (hz : ∀ m, 0 ≤ zs.getD m 0) : ∀ a c, a < c → T b zs a < T b zs c := by
  intro a c
  induction c with
  | zero => intro h; omega
  | succ c ih =>
    intro h
    have := hz c
    show T b zs a < T b zs c + (zs.getD c 0 + 1)
    rcases Nat.lt_or_eq_of_le (show a ≤ c by omega) with h1 | h1
    · have := ih h1; omega
    · rw [h1]; omega
theorem T_bd (b : Int) (zs : List Int) (hz : ∀ m, 0 ≤ zs.getD m 0 ∧ zs.getD m 0 ≤ 4294967295) : ∀ k : Nat, b ≤ T b zs k ∧ T b zs k ≤ b + (k : Int) * 4294967296 := by
  intro k
  induction k with
  | zero => exact ⟨Int.le_refl _, by show b ≤ _; omega⟩
  | succ k ih =>
    have := hz k
    show b ≤ T b zs k + (zs.getD k 0 + 1) ∧ T b zs k + (zs.getD k 0 + 1) ≤ _
    omega
theorem ts_asc (b : Int) (zs : List Int) (k : Nat) (hz : ∀ m, 0 ≤ zs.getD m 0) : ∀ a c, a < c → c < k + 1 → (ts b zs k).getD a 0 < (ts b zs k).getD c 0 := by
  intro a c h1 h2
  rw [ts_getD _ _ _ _ (by omega), ts_getD _ _ _ _ h2]
  exact T_lt b zs hz a c h1

/-- The segments' cells one behind the other. -/
def rowOf (l : List Int) : List Value := l.flatMap segCells
theorem rowOf_snoc (l : List Int) (t : Int) : rowOf (l ++ [t]) = rowOf l ++ segCells t := by simp [rowOf]
theorem rowOf_at : ∀ (l : List Int) (j c : Nat), j < l.length → c < 7 → (rowOf l)[j * 7 + c]? = (segCells (l.getD j 0))[c]?
  | [], j, c, h, _ => absurd h (by simp)
  | t :: l, 0, c, _, hc => by
    show (segCells t ++ rowOf l)[0 * 7 + c]? = _
    rw [List.getElem?_append_left (by simp [segCells]; omega)]
    simp
  | t :: l, j + 1, c, h, hc => by
    show (segCells t ++ rowOf l)[(j + 1) * 7 + c]? = _
    rw [List.getElem?_append_right (by simp [segCells]; omega), show (j + 1) * 7 + c - (segCells t).length = j * 7 + c from by simp [segCells]; omega]
    have := rowOf_at l j c (by simpa using h) hc
    simpa using this

theorem segs_of_own {w : World} {g n cap : Nat} {l : List Int} (h : w.ownsRow g 33 7 (.slice (some ⟨g, 0, none⟩) n cap) n (rowOf l)) (hn : l.length = n) : Segs g l w := by
  rcases h.2 with ⟨h', _⟩ | ⟨g', cap', cur, h', _, hg, _, _, _, htake⟩
  · simp at h'
  · simp only [Value.slice.injEq, Option.some.injEq, Addr.mk.injEq, and_true, true_and] at h'
    obtain ⟨rfl, rfl⟩ := h'
    refine ⟨cur, hg, fun j hj c hc => ?_⟩
    rw [← rowOf_at l j c hj hc, ← htake, List.getElem?_take, if_pos (by omega)]
    simp

theorem own_of_block {w w' : World} {g n cap : Nat} {xs : List Value} (h : w.ownsRow g 33 7 (.slice (some ⟨g, 0, none⟩) n cap) n xs) (hb : w'.heap[g]? = w.heap[g]?) : w'.ownsRow g 33 7 (.slice (some ⟨g, 0, none⟩) n cap) n xs := by
  refine ⟨h.1, ?_⟩
  rcases h.2 with ⟨h', h2⟩ | ⟨g', cap', cur, h', hb', hg, r⟩
  · exact .inl ⟨h', h2⟩
  · simp only [Value.slice.injEq, Option.some.injEq, Addr.mk.injEq, and_true, true_and] at h'
    obtain ⟨rfl, rfl⟩ := h'
    exact .inr ⟨g, cap, cur, rfl, hb', hb.trans hg, r⟩
theorem own_lt {w : World} {g n cap : Nat} {xs : List Value} (h : w.ownsRow g 33 7 (.slice (some ⟨g, 0, none⟩) n cap) n xs) : g < w.heap.size := (h.lt g rfl).2

/-- The variable t in block B. -/
def tObj (t : Int) : Obj := .cells #[.int .u64 (t % 1000000000), .int .i64 (t / 1000000000), .pointer none] 27 (0, 0)
theorem t_cells {w : World} {B : Nat} {t : Int} (h : w.heap[B]? = some (tObj t)) :
    w.cell? ⟨B, 0, none⟩ = some (.int .u64 (t % 1000000000)) ∧ w.cell? ⟨B, 1, none⟩ = some (.int .i64 (t / 1000000000)) ∧ w.cell? ⟨B, 2, none⟩ = some (.pointer none) ∧
      w.frozen? ⟨B, 0, none⟩ = false ∧ w.frozen? ⟨B, 1, none⟩ = false ∧ w.frozen? ⟨B, 2, none⟩ = false := by
  simp [World.cell?, World.frozen?, h, tObj]

theorem tv_eq (t : Int) : tv t = .agg #[.int .u64 (t % 1000000000), .int .i64 (t / 1000000000), .pointer none] := rfl
/-- Add, the times written out as the walk has them. -/
theorem add_x (t d : Int) (w : World) (t0 : -1000000000000000000000 ≤ t) (t1 : t ≤ 1000000000000000000000) (h0 : -9223372036854775808 ≤ d) (h1 : d ≤ 9223372036854775807) :
    Calls Yba.prog 4 #[.agg #[.int .u64 (t % 1000000000), .int .i64 (t / 1000000000), .pointer none], .int .i64 d] w fun e w' =>
      e = .returned (.agg #[.int .u64 ((t + d) % 1000000000), .int .i64 ((t + d) / 1000000000), .pointer none]) ∧ Below w.heap.size w w' := by
  have := add_any t d w t0 t1 h0 h1
  rw [tv_eq, tv_eq] at this
  exact this
theorem add_zero (d : Int) (w : World) (h0 : -9223372036854775808 ≤ d) (h1 : d ≤ 9223372036854775807) :
    Calls Yba.prog 4 #[.agg #[.int .u64 0, .int .i64 0, .pointer none], .int .i64 d] w fun e w' =>
      e = .returned (.agg #[.int .u64 (d % 1000000000), .int .i64 (d / 1000000000), .pointer none]) ∧ Below w.heap.size w w' := by
  have := add_x 0 d w (by decide) (by decide) h0 h1
  simpa using this
end Go.Proofs.Ybulkaafc

import Derived.Test.YbulkaafcTime
import Derived.Laws.ResultCell
namespace Go.Proofs.Ybulkaafc
open Go.RowKit

set_option maxHeartbeats 800000 in
theorem add_mid_up (x s d Q R : Int) (p : Option Addr) (w : World) (h0 : 0 ≤ x) (h1 : x < 1000000000) (s0 : -1000000000000 ≤ s) (s1 : s ≤ 1000000000000) (hq : d.tdiv 1000000000 = Q) (hr : d.tmod 1000000000 = R)
    (q0 : -10000000000 ≤ Q) (q1 : Q ≤ 10000000000) (r0 : -1000000000 < R) (r1 : R < 1000000000) (c0 : 0 ≤ x + R) (c1 : x + R < 1000000000) (cq : 0 < Q) :
    Calls Yba.prog 4 #[.agg #[.int .u64 x, .int .i64 s, .pointer p], .int .i64 d] w fun e w' => e = .returned (.agg #[.int .u64 (x + R), .int .i64 (s + (Q)), .pointer p]) ∧ Below w.heap.size w w' := by
  have b1 := and_top (x + R) (by omega) (by omega)
  have b2 := and_mask x h0 h1
  have b3 := andNot_mask x h0 h1
  have b4 := or_zero (x + R) (by omega) (by omega)
  go_enter Yba.func4, Yba.ntmps4
  go_wp2
  go_end0
  go_wp2
  exact bodyPost_ret (v := .agg #[.int .u64 (x + R), .int .i64 (s + (Q)), .pointer p]) (by simp [results, Yba.results4, go_sem]) rfl ⟨rfl, two_boxes w _ _⟩

set_option maxHeartbeats 800000 in
theorem add_mid_dn (x s d Q R : Int) (p : Option Addr) (w : World) (h0 : 0 ≤ x) (h1 : x < 1000000000) (s0 : -1000000000000 ≤ s) (s1 : s ≤ 1000000000000) (hq : d.tdiv 1000000000 = Q) (hr : d.tmod 1000000000 = R)
    (q0 : -10000000000 ≤ Q) (q1 : Q ≤ 10000000000) (r0 : -1000000000 < R) (r1 : R < 1000000000) (c0 : 0 ≤ x + R) (c1 : x + R < 1000000000) (cq : Q ≤ 0) :
    Calls Yba.prog 4 #[.agg #[.int .u64 x, .int .i64 s, .pointer p], .int .i64 d] w fun e w' => e = .returned (.agg #[.int .u64 (x + R), .int .i64 (s + (Q)), .pointer p]) ∧ Below w.heap.size w w' := by
  have b1 := and_top (x + R) (by omega) (by omega)
  have b2 := and_mask x h0 h1
  have b3 := andNot_mask x h0 h1
  have b4 := or_zero (x + R) (by omega) (by omega)
  have t1 : decide (s < s + (Q)) = false := by rw [decide_eq_false_iff_not]; omega
  have t2 : decide (0 < Q) = false := by rw [decide_eq_false_iff_not]; omega
  go_enter Yba.func4, Yba.ntmps4
  go_wp2
  go_end0
  go_wp2
  exact bodyPost_ret (v := .agg #[.int .u64 (x + R), .int .i64 (s + (Q)), .pointer p]) (by simp [results, Yba.results4, go_sem]) rfl ⟨rfl, two_boxes w _ _⟩

set_option maxHeartbeats 800000 in
theorem add_hi_up (x s d Q R : Int) (p : Option Addr) (w : World) (h0 : 0 ≤ x) (h1 : x < 1000000000) (s0 : -1000000000000 ≤ s) (s1 : s ≤ 1000000000000) (hq : d.tdiv 1000000000 = Q) (hr : d.tmod 1000000000 = R)
    (q0 : -10000000000 ≤ Q) (q1 : Q ≤ 10000000000) (r0 : -1000000000 < R) (r1 : R < 1000000000) (c0 : 1000000000 ≤ x + R) (c1 : x + R < 2000000000) (cq : 0 < Q + 1) :
    Calls Yba.prog 4 #[.agg #[.int .u64 x, .int .i64 s, .pointer p], .int .i64 d] w fun e w' => e = .returned (.agg #[.int .u64 (x + R - 1000000000), .int .i64 (s + (Q + 1)), .pointer p]) ∧ Below w.heap.size w w' := by
  have b1 := and_top (x + R - 1000000000) (by omega) (by omega)
  have b2 := and_mask x h0 h1
  have b3 := andNot_mask x h0 h1
  have b4 := or_zero (x + R - 1000000000) (by omega) (by omega)
  go_enter Yba.func4, Yba.ntmps4
  go_wp2
  go_end0
  go_wp2
  exact bodyPost_ret (v := .agg #[.int .u64 (x + R - 1000000000), .int .i64 (s + (Q + 1)), .pointer p]) (by simp [results, Yba.results4, go_sem]) rfl ⟨rfl, two_boxes w _ _⟩

set_option maxHeartbeats 800000 in
theorem add_hi_dn (x s d Q R : Int) (p : Option Addr) (w : World) (h0 : 0 ≤ x) (h1 : x < 1000000000) (s0 : -1000000000000 ≤ s) (s1 : s ≤ 1000000000000) (hq : d.tdiv 1000000000 = Q) (hr : d.tmod 1000000000 = R)
    (q0 : -10000000000 ≤ Q) (q1 : Q ≤ 10000000000) (r0 : -1000000000 < R) (r1 : R < 1000000000) (c0 : 1000000000 ≤ x + R) (c1 : x + R < 2000000000) (cq : Q + 1 ≤ 0) :
    Calls Yba.prog 4 #[.agg #[.int .u64 x, .int .i64 s, .pointer p], .int .i64 d] w fun e w' => e = .returned (.agg #[.int .u64 (x + R - 1000000000), .int .i64 (s + (Q + 1)), .pointer p]) ∧ Below w.heap.size w w' := by
  have b1 := and_top (x + R - 1000000000) (by omega) (by omega)
  have b2 := and_mask x h0 h1
  have b3 := andNot_mask x h0 h1
  have b4 := or_zero (x + R - 1000000000) (by omega) (by omega)
  have t1 : decide (s < s + (Q + 1)) = false := by rw [decide_eq_false_iff_not]; omega
  have t2 : decide (0 < Q + 1) = false := by rw [decide_eq_false_iff_not]; omega
  go_enter Yba.func4, Yba.ntmps4
  go_wp2
  go_end0
  go_wp2
  exact bodyPost_ret (v := .agg #[.int .u64 (x + R - 1000000000), .int .i64 (s + (Q + 1)), .pointer p]) (by simp [results, Yba.results4, go_sem]) rfl ⟨rfl, two_boxes w _ _⟩

set_option maxHeartbeats 800000 in
theorem add_lo_up (x s d Q R : Int) (p : Option Addr) (w : World) (h0 : 0 ≤ x) (h1 : x < 1000000000) (s0 : -1000000000000 ≤ s) (s1 : s ≤ 1000000000000) (hq : d.tdiv 1000000000 = Q) (hr : d.tmod 1000000000 = R)
    (q0 : -10000000000 ≤ Q) (q1 : Q ≤ 10000000000) (r0 : -1000000000 < R) (r1 : R < 1000000000) (c0 : -1000000000 < x + R) (c1 : x + R < 0) (cq : 0 < Q - 1) :
    Calls Yba.prog 4 #[.agg #[.int .u64 x, .int .i64 s, .pointer p], .int .i64 d] w fun e w' => e = .returned (.agg #[.int .u64 (x + R + 1000000000), .int .i64 (s + (Q - 1)), .pointer p]) ∧ Below w.heap.size w w' := by
  have b1 := and_top (x + R + 1000000000) (by omega) (by omega)
  have b2 := and_mask x h0 h1
  have b3 := andNot_mask x h0 h1
  have b4 := or_zero (x + R + 1000000000) (by omega) (by omega)
  have t1 : decide (s < s + (Q - 1)) = true := by rw [decide_eq_true_iff]; omega
  have t2 : decide (1 < Q) = true := by rw [decide_eq_true_iff]; omega
  go_enter Yba.func4, Yba.ntmps4
  go_wp2
  go_end0
  go_wp2
  exact bodyPost_ret (v := .agg #[.int .u64 (x + R + 1000000000), .int .i64 (s + (Q - 1)), .pointer p]) (by simp [results, Yba.results4, go_sem]) rfl ⟨rfl, two_boxes w _ _⟩

set_option maxHeartbeats 800000 in
theorem add_lo_dn (x s d Q R : Int) (p : Option Addr) (w : World) (h0 : 0 ≤ x) (h1 : x < 1000000000) (s0 : -1000000000000 ≤ s) (s1 : s ≤ 1000000000000) (hq : d.tdiv 1000000000 = Q) (hr : d.tmod 1000000000 = R)
    (q0 : -10000000000 ≤ Q) (q1 : Q ≤ 10000000000) (r0 : -1000000000 < R) (r1 : R < 1000000000) (c0 : -1000000000 < x + R) (c1 : x + R < 0) (cq : Q - 1 ≤ 0) :
    Calls Yba.prog 4 #[.agg #[.int .u64 x, .int .i64 s, .pointer p], .int .i64 d] w fun e w' => e = .returned (.agg #[.int .u64 (x + R + 1000000000), .int .i64 (s + (Q - 1)), .pointer p]) ∧ Below w.heap.size w w' := by
  have b1 := and_top (x + R + 1000000000) (by omega) (by omega)
  have b2 := and_mask x h0 h1
  have b3 := andNot_mask x h0 h1
  have b4 := or_zero (x + R + 1000000000) (by omega) (by omega)
  have t1 : decide (s < s + (Q - 1)) = false := by rw [decide_eq_false_iff_not]; omega
  have t2 : decide (1 < Q) = false := by rw [decide_eq_false_iff_not]; omega
  go_enter Yba.func4, Yba.ntmps4
  go_wp2
  go_end0
  go_wp2
  exact bodyPost_ret (v := .agg #[.int .u64 (x + R + 1000000000), .int .i64 (s + (Q - 1)), .pointer p]) (by simp [results, Yba.results4, go_sem]) rfl ⟨rfl, two_boxes w _ _⟩

/-- A time without a monotonic mark, counted in nanoseconds from the year 1: its second and the nanoseconds within it. -/
def tv (t : Int) : Value := .agg #[.int .u64 (t % 1000000000), .int .i64 (t / 1000000000), .pointer none]

theorem quo_rem (d : Int) (h0 : -9223372036854775808 ≤ d) (h1 : d ≤ 9223372036854775807) :
    ∃ Q R : Int, d.tdiv 1000000000 = Q ∧ d.tmod 1000000000 = R ∧ d = 1000000000 * Q + R ∧ -1000000000 < R ∧ R < 1000000000 ∧ -10000000000 ≤ Q ∧ Q ≤ 10000000000 := by
  have e := Int.mul_tdiv_add_tmod d 1000000000
  have l := Int.tmod_lt_of_pos d (show (0 : Int) < 1000000000 by decide)
  have g : -1000000000 < d.tmod 1000000000 := by
    have := Int.tmod_lt_of_pos (-d) (show (0 : Int) < 1000000000 by decide)
    rw [Int.neg_tmod] at this
    omega
  exact ⟨_, _, rfl, rfl, e.symm, g, l, by omega, by omega⟩

/-- (time.Time).Add: the nanoseconds add up. -/
theorem add_any (t d : Int) (w : World) (t0 : -1000000000000000000000 ≤ t) (t1 : t ≤ 1000000000000000000000) (h0 : -9223372036854775808 ≤ d) (h1 : d ≤ 9223372036854775807) :
    Calls Yba.prog 4 #[tv t, .int .i64 d] w fun e w' => e = .returned (tv (t + d)) ∧ Below w.heap.size w w' := by
  obtain ⟨Q, R, hq, hr, hd, r0, r1, q0, q1⟩ := quo_rem d h0 h1
  have key : ∀ (a b a' b' : Int), a = a' → b = b' → (Ending.returned (.agg #[.int .u64 a, .int .i64 b, .pointer none]) = Ending.returned (.agg #[.int .u64 a', .int .i64 b', .pointer none])) := fun _ _ _ _ h k => by rw [h, k]
  unfold tv
  rcases (show (0 ≤ t % 1000000000 + R ∧ t % 1000000000 + R < 1000000000) ∨ 1000000000 ≤ t % 1000000000 + R ∨ t % 1000000000 + R < 0 by omega) with ⟨c0, c1⟩ | c | c
  · by_cases cq : 0 < Q
    · refine (add_mid_up _ _ d Q R none w (by omega) (by omega) (by omega) (by omega) hq hr q0 q1 r0 r1 c0 c1 cq).mono ?_
      rintro e w' ⟨rfl, hb⟩
      exact ⟨key _ _ _ _ (by omega) (by omega), hb⟩
    · refine (add_mid_dn _ _ d Q R none w (by omega) (by omega) (by omega) (by omega) hq hr q0 q1 r0 r1 c0 c1 (by omega)).mono ?_
      rintro e w' ⟨rfl, hb⟩
      exact ⟨key _ _ _ _ (by omega) (by omega), hb⟩
  · by_cases cq : 0 < Q + 1
    · refine (add_hi_up _ _ d Q R none w (by omega) (by omega) (by omega) (by omega) hq hr q0 q1 r0 r1 c (by omega) cq).mono ?_
      rintro e w' ⟨rfl, hb⟩
      exact ⟨key _ _ _ _ (by omega) (by omega), hb⟩
    · refine (add_hi_dn _ _ d Q R none w (by omega) (by omega) (by omega) (by omega) hq hr q0 q1 r0 r1 c (by omega) (by omega)).mono ?_
      rintro e w' ⟨rfl, hb⟩
      exact ⟨key _ _ _ _ (by omega) (by omega), hb⟩
  · by_cases cq : 0 < Q - 1
    · refine (add_lo_up _ _ d Q R none w (by omega) (by omega) (by omega) (by omega) hq hr q0 q1 r0 r1 (by omega) c cq).mono ?_
      rintro e w' ⟨rfl, hb⟩
      exact ⟨key _ _ _ _ (by omega) (by omega), hb⟩
    · refine (add_lo_dn _ _ d Q R none w (by omega) (by omega) (by omega) (by omega) hq hr q0 q1 r0 r1 (by omega) c (by omega)).mono ?_
      rintro e w' ⟨rfl, hb⟩
      exact ⟨key _ _ _ _ (by omega) (by omega), hb⟩

/-- (time.Time).Before: by the nanoseconds. -/
theorem before_tv (t u : Int) (w : World) : Calls Yba.prog 5 #[tv t, tv u] w fun e w' => e = .returned (.bool (decide (t < u))) ∧ Below w.heap.size w w' := by
  have e : decide (t / 1000000000 < u / 1000000000 ∨ t / 1000000000 = u / 1000000000 ∧ t % 1000000000 < u % 1000000000) = decide (t < u) := by
    rw [decide_eq_decide]; omega
  have h := before_any (t % 1000000000) (t / 1000000000) (u % 1000000000) (u / 1000000000) none none w (by omega) (by omega) (by omega) (by omega)
  rw [e] at h
  exact h

/-- The sign that Compare answers. -/
def sgn (t u : Int) : Int := if t < u then -1 else if t = u then 0 else 1
theorem compare_tv (t u : Int) (w : World) : Calls Yba.prog 14 #[tv t, tv u] w fun e w' => e = .returned (.int .i64 (sgn t u)) ∧ Below w.heap.size w w' := by
  have e : cmpT (t % 1000000000) (t / 1000000000) (u % 1000000000) (u / 1000000000) = sgn t u := by
    unfold cmpT sgn
    by_cases h : t < u
    · rw [if_pos (by omega), if_pos h]
    · rw [if_neg (by omega), if_neg h]
      by_cases k : t = u
      · rw [if_pos (by omega), if_pos k]
      · rw [if_neg (by omega), if_neg k]
  have h := compare_any (t % 1000000000) (t / 1000000000) (u % 1000000000) (u / 1000000000) none none w (by omega) (by omega) (by omega) (by omega)
  rw [e] at h
  exact h
end Go.Proofs.Ybulkaafc

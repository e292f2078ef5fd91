import Derived.Test.YbulkaaiwLong
namespace Go.Proofs.Ybulkaaiw
open Go.RowKit

theorem head_any (base g n cap : Nat) (bs : List Int) (k m : Int) (w : World) (hn : n ≤ 1024) (hO : Own base g n cap bs w) (hbase : base ≤ w.heap.size) (m0 : -9223372036854775808 ≤ m) (m1 : m ≤ 9223372036854775807) :
    Calls Yba.prog 7 #[.slice (some ⟨g, 0, none⟩) n cap, .int .u8 k, .int .i64 m] w fun e w' => ∃ g' N c, e = .returned (.slice (some ⟨g', 0, none⟩) N c) ∧ n + (line k m).length = N ∧ Own base g' N c (bs ++ line k m) w' ∧ Below base w w' := by
  rcases (show m < 0 ∨ (0 ≤ m ∧ m < 10) ∨ (10 ≤ m ∧ m < 100) ∨ (100 ≤ m ∧ m < 1000) ∨ 1000 ≤ m by omega) with h | ⟨h, h'⟩ | ⟨h, h'⟩ | ⟨h, h'⟩ | h
  · exact head_neg base g n cap bs k m w hn hO hbase m0 h
  · exact head_one base g n cap bs k m w hn hO hbase h h'
  · exact head_two base g n cap bs k m w hn hO hbase h h'
  · exact head_three base g n cap bs k m w hn hO hbase h h'
  · exact head_big base g n cap bs k m w hn hO hbase h m1

set_option maxHeartbeats 400000 in
theorem text_long (a0 : Option Addr) (n cap : Nat) (k m : Int) (w : World) (hm : n ≤ maxLen) (h : 1024 < n) :
    Calls Yba.prog 3 #[.slice a0 n cap, .int .u8 k, .int .i64 m] w fun e w' => e = .returned (.bool true) ∧ Below w.heap.size w w' := by
  unfold maxLen at hm
  have h1 : (1024 : Int) < (n : Int) := by omega
  go_enter Yba.func3, Yba.ntmps3
  go_wp2
  go_ret
  exact ⟨rfl, Below.refl _ _⟩

theorem add_block (a : Addr) (j : Nat) : (a.add j).block = a.block := by
  unfold Addr.add
  repeat' split
  all_goals rfl

set_option maxHeartbeats 800000 in
theorem text_short (a0 : Option Addr) (n cap : Nat) (bs : List Int) (k m : Int) (w : World) (hn : n ≤ 1024) (hl : bs.length = n) (hnil : a0 = none → n = 0 ∧ cap = 0)
    (hc : ∀ ad, a0 = some ad → ∀ j v, (cs bs)[j]? = some v → w.cell? (ad.add j) = some v) (m0 : -9223372036854775808 ≤ m) (m1 : m ≤ 9223372036854775807) :
    Calls Yba.prog 3 #[.slice a0 n cap, .int .u8 k, .int .i64 m] w fun e w' => e = .returned (.bool true) ∧ Below w.heap.size w w' := by
  have hpos : 0 < n → ∃ ad, a0 = some ad ∧ ad.block < w.heap.size ∧ ∀ j v, (cs bs)[j]? = some v → w.cell? (ad.add j) = some v := by
    intro hp
    cases h : a0 with
    | none => have := (hnil h).1; omega
    | some ad =>
      refine ⟨ad, rfl, ?_, hc ad h⟩
      have := World.block_lt_of_cell? w _ (hc ad h 0 _ (cs_at bs 0 (by omega)))
      rwa [add_block] at this
  have HN : Hid (a0 = none → n = 0 ∧ cap = 0) := hnil
  have HC : Hid (∀ ad, a0 = some ad → ∀ j v, (cs bs)[j]? = some v → w.cell? (ad.add j) = some v) := hc
  have HP : Hid (0 < n → ∃ ad, a0 = some ad ∧ ad.block < w.heap.size ∧ ∀ j v, (cs bs)[j]? = some v → w.cell? (ad.add j) = some v) := hpos
  have h1 : ¬ (1024 : Int) < (n : Int) := by omega
  have HM := hide (num_len m m0 m1)
  clear hnil hc hpos
  go_enter Yba.func3, Yba.ntmps3
  go_wp2_with fail
  refine (copy_any a0 n cap bs w hn hl HP.out).mono ?_
  rintro e w1 ⟨rfl, hO1, hb1⟩
  go_wp2_with fail
  refine (head_any w.heap.size w.heap.size n n bs k m w1 hn hO1 hb1.size m0 m1).mono ?_
  rintro e w2 ⟨g2, N2, c2, rfl, hN2, hO2, hb2⟩
  have HB2 := hide (hb1.trans hb2)
  have HN2 := hide hN2
  clear hN2 hO1 hb1 hb2
  go_wp2_with fail
  refine (want_any a0 n cap bs k m w2 hn hl HN.out (fun ad e j v h => ?_) m0 m1).mono ?_
  · have hk := HC.out ad e j v h
    exact (HB2.out.cell (World.block_lt_of_cell? w _ hk)).trans hk
  rintro e w3 ⟨g3, N3, c3, rfl, hN3, hO3, hb3⟩
  have hO2' := own_block hO2 (hb3.block _ (own_lt hO2).2)
  obtain rfl : N3 = N2 := by have := HN2.out; rw [← hN3, ← this, List.length_append, hl]
  have h23 : N3 ≤ 2000 := by
    have a := HM.out.1
    rw [← hN3]
    simp [line]
    omega
  have HB3 := hide (HB2.out.trans (hb3.mono HB2.out.size))
  have HL := hide hN3
  have HA := hide (own_cell hO2' hN3)
  have HD := hide (own_cell hO3 hN3)
  clear hN3 hO2 hO2' hO3 hb3
  go_wp2_with fail
  refine (eq_any g2 N3 c2 g3 c3 (bs ++ line k m) w3 h23 HA.out HD.out).mono ?_
  rintro e w4 ⟨rfl, q, rfl⟩
  go_wp2
  go_ret
  exact ⟨rfl, below_drewN HB3.out q⟩
end Go.Proofs.Ybulkaaiw

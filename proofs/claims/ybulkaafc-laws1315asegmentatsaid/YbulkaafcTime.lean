import Derived.Test.YbulkaafcRows
import Derived.Test.YbulkaafcBits
import Derived.WalkKit
import Derived.WalkSpells
import Derived.OneCell
namespace Go.Proofs.Ybulkaafc
open Go.RowKit

set_option maxHeartbeats 400000 in
theorem nsec_any (a : Addr) (x : Int) (w : World) (hc : w.cell? a = some (.int .u64 x)) (h0 : 0 ≤ x) (h1 : x < 1000000000) :
    Calls Yba.prog 8 #[.pointer (some a)] w fun e w' => e = .returned (.int .i32 x) ∧ w' = w := by
  have b1 := and_mask x h0 h1
  go_enter Yba.func8, Yba.ntmps8
  go_wp2
  go_ret
  exact ⟨rfl, rfl⟩

set_option maxHeartbeats 400000 in
theorem sec_any (b o : Nat) (x s : Int) (w : World) (hc : w.cell? ⟨b, o, none⟩ = some (.int .u64 x)) (hs : w.cell? ⟨b, o + 1, none⟩ = some (.int .i64 s)) (h0 : 0 ≤ x) (h1 : x < 1000000000) :
    Calls Yba.prog 11 #[.pointer (some ⟨b, o, none⟩)] w fun e w' => e = .returned (.int .i64 s) ∧ w' = w := by
  have b1 := and_top x h0 h1
  go_enter Yba.func11, Yba.ntmps11
  go_wp2
  go_ret
  exact ⟨rfl, rfl⟩

theorem two_boxes (w : World) (a b : Obj) : Below w.heap.size w ((w.alloc a).alloc b) := ((Below.refl _ _).alloc (Nat.le_refl _) _).alloc (by simp) _

set_option maxHeartbeats 400000 in
theorem before_any (x s y u : Int) (p q : Option Addr) (w : World) (h0 : 0 ≤ x) (h1 : x < 1000000000) (k0 : 0 ≤ y) (k1 : y < 1000000000) :
    Calls Yba.prog 5 #[.agg #[.int .u64 x, .int .i64 s, .pointer p], .agg #[.int .u64 y, .int .i64 u, .pointer q]] w fun e w' => e = .returned (.bool (decide (s < u ∨ s = u ∧ x < y))) ∧ Below w.heap.size w w' := by
  have b1 := and_two x y h0 h1 k0 k1
  have b2 := and_top x h0 h1
  have b3 := and_top y k0 k1
  have b4 := and_mask x h0 h1
  have b5 := and_mask y k0 k1
  rcases (show s < u ∨ s = u ∨ u < s by omega) with h | h | h
  · have hd : decide (s < u ∨ s = u ∧ x < y) = true := by simp [h]
    rw [hd]
    clear hd
    go_enter Yba.func5, Yba.ntmps5
    go_wp2
    go_ret
    exact ⟨rfl, two_boxes w _ _⟩
  · subst h
    have hd : decide (s < s ∨ s = s ∧ x < y) = decide (x < y) := by simp
    rw [hd]
    clear hd
    go_enter Yba.func5, Yba.ntmps5
    go_wp2
    go_ret
    exact ⟨rfl, two_boxes w _ _⟩
  · have hd : decide (s < u ∨ s = u ∧ x < y) = false := by simp; omega
    rw [hd]
    clear hd
    have h' : (s == u) = false := by simp; omega
    have h2 : decide (s < u) = false := by simp; omega
    go_enter Yba.func5, Yba.ntmps5
    go_wp2
    go_ret
    exact ⟨rfl, two_boxes w _ _⟩

/-- The answer of Compare. -/
def cmpT (x s y u : Int) : Int := if s < u ∨ s = u ∧ x < y then -1 else if s = u ∧ x = y then 0 else 1

set_option maxHeartbeats 400000 in
theorem compare_any (x s y u : Int) (p q : Option Addr) (w : World) (h0 : 0 ≤ x) (h1 : x < 1000000000) (k0 : 0 ≤ y) (k1 : y < 1000000000) :
    Calls Yba.prog 14 #[.agg #[.int .u64 x, .int .i64 s, .pointer p], .agg #[.int .u64 y, .int .i64 u, .pointer q]] w fun e w' => e = .returned (.int .i64 (cmpT x s y u)) ∧ Below w.heap.size w w' := by
  have b1 := and_two x y h0 h1 k0 k1
  have b2 := and_top x h0 h1
  have b3 := and_top y k0 k1
  have b4 := and_mask x h0 h1
  have b5 := and_mask y k0 k1
  rcases (show s < u ∨ s = u ∨ u < s by omega) with h | h | h
  · have hd : cmpT x s y u = -1 := by simp [cmpT, h]
    rw [hd]
    clear hd
    have h' : (s == u) = false := by simp; omega
    go_enter Yba.func14, Yba.ntmps14
    go_wp2
    go_ret
    exact ⟨rfl, two_boxes w _ _⟩
  · subst h
    rcases (show x < y ∨ x = y ∨ y < x by omega) with g | g | g
    · have hd : cmpT x s y s = -1 := by simp [cmpT, g]
      rw [hd]
      clear hd
      go_enter Yba.func14, Yba.ntmps14
      go_wp2
      go_ret
      exact ⟨rfl, two_boxes w _ _⟩
    · subst g
      have hd : cmpT x s x s = 0 := by simp [cmpT]
      rw [hd]
      clear hd
      go_enter Yba.func14, Yba.ntmps14
      go_wp2
      go_ret
      exact ⟨rfl, two_boxes w _ _⟩
    · have hd : cmpT x s y s = 1 := by unfold cmpT; rw [if_neg (by omega), if_neg (by omega)]
      rw [hd]
      clear hd
      go_enter Yba.func14, Yba.ntmps14
      go_wp2
      go_ret
      exact ⟨rfl, two_boxes w _ _⟩
  · have hd : cmpT x s y u = 1 := by unfold cmpT; rw [if_neg (by omega), if_neg (by omega)]
    rw [hd]
    clear hd
    have h' : (s == u) = false := by simp; omega
    go_enter Yba.func14, Yba.ntmps14
    go_wp2
    go_ret
    exact ⟨rfl, two_boxes w _ _⟩
end Go.Proofs.Ybulkaafc

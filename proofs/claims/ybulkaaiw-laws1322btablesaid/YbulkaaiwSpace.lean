import Derived.Test.YbulkaaiwRows
import Derived.WalkKit
import Derived.Below
import Derived.RowKit3
namespace Go.Proofs.Ybulkaaiw
open Go.RowKit

set_option maxHeartbeats 400000 in
theorem space_yes (c : Int) (w : World) (h : c = 32 ∨ 9 ≤ c ∧ c ≤ 13) : Calls Yba.prog 13 #[.int .i32 c] w fun e w' => e = .returned (.bool true) ∧ w' = w := by
  rcases (show c = 32 ∨ c = 9 ∨ c = 10 ∨ c = 11 ∨ c = 12 ∨ c = 13 by omega) with rfl | rfl | rfl | rfl | rfl | rfl
  all_goals
    go_enter Yba.func13, Yba.ntmps13
    go_wp2
    go_ret
    exact ⟨rfl, rfl⟩

set_option maxHeartbeats 400000 in
theorem space_no (c : Int) (w : World) (h : ¬ (c = 32 ∨ 9 ≤ c ∧ c ≤ 13)) : Calls Yba.prog 13 #[.int .i32 c] w fun e w' => e = .returned (.bool false) ∧ w' = w := by
  rcases (show c < 9 ∨ 13 < c ∧ c < 32 ∨ 32 < c by omega) with h1 | ⟨h1, h2⟩ | h1
  all_goals
    clear h
    go_enter Yba.func13, Yba.ntmps13
    go_wp2
    go_ret
    exact ⟨rfl, rfl⟩

set_option maxHeartbeats 400000 in
theorem model_yes (c : Int) (w : World) (h : c = 32 ∨ 9 ≤ c ∧ c ≤ 13) : Calls Yba.prog 14 #[.int .i32 c] w fun e w' => e = .returned (.bool true) ∧ w' = w := by
  rcases (show c = 32 ∨ c = 9 ∨ c = 10 ∨ c = 11 ∨ c = 12 ∨ c = 13 by omega) with rfl | rfl | rfl | rfl | rfl | rfl
  all_goals
    go_enter Yba.func14, Yba.ntmps14
    go_wp2
    go_ret
    exact ⟨rfl, rfl⟩

set_option maxHeartbeats 400000 in
theorem model_no (c : Int) (w : World) (h : ¬ (c = 32 ∨ 9 ≤ c ∧ c ≤ 13)) : Calls Yba.prog 14 #[.int .i32 c] w fun e w' => e = .returned (.bool false) ∧ w' = w := by
  rcases (show c < 9 ∨ 13 < c ∧ c < 32 ∨ 32 < c by omega) with h1 | ⟨h1, h2⟩ | h1
  · have d : decide (9 ≤ c) = false := by rw [decide_eq_false_iff_not]; omega
    clear h
    go_enter Yba.func14, Yba.ntmps14
    go_wp2
    go_ret
    exact ⟨rfl, rfl⟩
  all_goals
    have d : decide (9 ≤ c) = true := by rw [decide_eq_true_iff]; omega
    have d2 : decide (c ≤ 13) = false := by rw [decide_eq_false_iff_not]; omega
    clear h
    go_enter Yba.func14, Yba.ntmps14
    go_wp2
    go_ret
    exact ⟨rfl, rfl⟩

set_option maxHeartbeats 400000 in
theorem table_walk (c : Int) (w : World) : Calls Yba.prog 5 #[.int .i32 c] w fun e w' => e = .returned (.bool true) ∧ w' = w := by
  by_cases h : c = 32 ∨ 9 ≤ c ∧ c ≤ 13
  · have S := space_yes c
    have M := model_yes c
    have HS : Hid (∀ w, Calls Yba.prog 13 #[.int .i32 c] w fun e w' => e = .returned (.bool true) ∧ w' = w) := fun w => S w h
    have HM : Hid (∀ w, Calls Yba.prog 14 #[.int .i32 c] w fun e w' => e = .returned (.bool true) ∧ w' = w) := fun w => M w h
    clear S M h
    go_enter Yba.func5, Yba.ntmps5
    go_wp2_with (first | (go_at_call 13; refine (HS.out _).mono ?_; rintro e w' ⟨rfl, rfl⟩) | (go_at_call 14; refine (HM.out _).mono ?_; rintro e w' ⟨rfl, rfl⟩))
    go_ret
    exact ⟨rfl, rfl⟩
  · have S := space_no c
    have M := model_no c
    have HS : Hid (∀ w, Calls Yba.prog 13 #[.int .i32 c] w fun e w' => e = .returned (.bool false) ∧ w' = w) := fun w => S w h
    have HM : Hid (∀ w, Calls Yba.prog 14 #[.int .i32 c] w fun e w' => e = .returned (.bool false) ∧ w' = w) := fun w => M w h
    clear S M h
    go_enter Yba.func5, Yba.ntmps5
    go_wp2_with (first | (go_at_call 13; refine (HS.out _).mono ?_; rintro e w' ⟨rfl, rfl⟩) | (go_at_call 14; refine (HM.out _).mono ?_; rintro e w' ⟨rfl, rfl⟩))
    go_ret
    exact ⟨rfl, rfl⟩

/-- How many of the first k bytes are spaces. -/
def cnt (k : Nat) : Int := if k ≤ 9 then 0 else if k ≤ 14 then (k : Int) - 9 else if k ≤ 32 then 5 else 6
theorem cnt_yes (k : Nat) (h : (k : Int) = 32 ∨ 9 ≤ (k : Int) ∧ (k : Int) ≤ 13) : cnt (k + 1) = cnt k + 1 := by
  unfold cnt; repeat' split
  all_goals omega
theorem cnt_no (k : Nat) (h : ¬ ((k : Int) = 32 ∨ 9 ≤ (k : Int) ∧ (k : Int) ≤ 13)) : cnt (k + 1) = cnt k := by
  unfold cnt; repeat' split
  all_goals omega
theorem cnt_bd (k : Nat) : 0 ≤ cnt k ∧ cnt k ≤ 6 := by
  unfold cnt; repeat' split
  all_goals omega

set_option maxRecDepth 100000 in
set_option maxHeartbeats 800000 in
theorem low_walk (x : Int) (w : World) (x0 : 0 ≤ x) (x1 : x ≤ 255) : Calls Yba.prog 6 #[.int .u8 x] w fun e w' => e = .returned (.bool true) ∧ w' = w := by
  have tail : ∀ b : Bool, (b = true → ¬ 32 < x) → (∀ w, Calls Yba.prog 13 #[.int .i32 x] w fun e w' => e = .returned (.bool b) ∧ w' = w) → Calls Yba.prog 6 #[.int .u8 x] w fun e w' => e = .returned (.bool true) ∧ w' = w := by
    intro b hb hS
    have HS : Hid (∀ w, Calls Yba.prog 13 #[.int .i32 x] w fun e w' => e = .returned (.bool b) ∧ w' = w) := hS
    clear hS
    have hd : (b && decide (32 < x)) = false := by cases b <;> simp; exact by have := hb rfl; omega
    cases b
    case' true => have hx : decide (32 < x) = false := by rw [decide_eq_false_iff_not]; exact hb rfl
    all_goals
      clear hb
      go_enter Yba.func6, Yba.ntmps6
      go_wp2_with (go_at_call 13; refine (HS.out _).mono ?_; rintro e w' ⟨rfl, rfl⟩)
      go_loop [4, 5] (fun n i => ∃ k : Nat, k ≤ 256 ∧ i = .int .i64 k ∧ n = .int .i64 (cnt k)) (fun _ i => (256 - intOf i).toNat)
      case atStart => exact ⟨0, by omega, rfl, rfl⟩
      case round =>
        obtain ⟨k, hk, rfl, rfl⟩ := hrel
        have cb := cnt_bd k
        have cb0 := cb.1
        have cb1 := cb.2
        clear cb
        by_cases hlt : k < 256
        · by_cases hsp : (k : Int) = 32 ∨ 9 ≤ (k : Int) ∧ (k : Int) ≤ 13
          · have HK : Hid (cnt (k + 1) = cnt k + 1) := cnt_yes k hsp
            have HP : Hid (∀ w, Calls Yba.prog 13 #[.int .i32 (k : Int)] w fun e w' => e = .returned (.bool true) ∧ w' = w) := fun w => space_yes k w hsp
            clear hsp
            go_wp2_with (go_at_call 13; refine (HP.out _).mono ?_; rintro e w' ⟨rfl, rfl⟩)
            go_round
            case rel => exact ⟨k + 1, by omega, by go_num, by rw [HK.out]⟩
            case measure => simp [intOf]; omega
          · have HK : Hid (cnt (k + 1) = cnt k) := cnt_no k hsp
            have HP : Hid (∀ w, Calls Yba.prog 13 #[.int .i32 (k : Int)] w fun e w' => e = .returned (.bool false) ∧ w' = w) := fun w => space_no k w hsp
            clear hsp
            go_wp2_with (go_at_call 13; refine (HP.out _).mono ?_; rintro e w' ⟨rfl, rfl⟩)
            go_round
            case rel => exact ⟨k + 1, by omega, by go_num, by rw [HK.out]⟩
            case measure => simp [intOf]; omega
        · obtain rfl : k = 256 := by omega
          have h6 : cnt 256 = 6 := by decide
          go_wp2
          go_ret
          exact ⟨rfl, rfl⟩
  by_cases h : x = 32 ∨ 9 ≤ x ∧ x ≤ 13
  · exact tail true (fun _ => by omega) (fun w => space_yes x w h)
  · exact tail false (fun e => by cases e) (fun w => space_no x w h)
end Go.Proofs.Ybulkaaiw

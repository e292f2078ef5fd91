import Derived.Laws.Strings
namespace Go.Proofs.Ybulkaaiw

/-- The digits of u in base 10, as bytes: f rounds at most. -/
def dgF : Nat → Nat → List Int
  | 0, _ => []
  | f + 1, u => if u < 10 then [48 + (u : Int)] else dgF f (u / 10) ++ [48 + ((u % 10 : Nat) : Int)]
def dg (u : Nat) : List Int := dgF 30 u

theorem dgF_succ (f u : Nat) : dgF (f + 1) u = if u < 10 then [48 + (u : Int)] else dgF f (u / 10) ++ [48 + ((u % 10 : Nat) : Int)] := rfl
theorem dgF_more : ∀ (f g u : Nat), u < 10 ^ f → u < 10 ^ g → dgF (f + 1) u = dgF (g + 1) u
  | 0, g, u, h, _ => by
    have : u = 0 := by simpa using h
    subst this
    simp [dgF]
  | f + 1, 0, u, _, h => by
    have : u = 0 := by simpa using h
    subst this
    simp [dgF]
  | f + 1, g + 1, u, h, k => by
    rw [dgF_succ (f + 1), dgF_succ (g + 1)]
    by_cases c : u < 10
    · simp [c]
    · rw [if_neg c, if_neg c]
      have e : ∀ m, u < 10 ^ (m + 1) → u / 10 < 10 ^ m := fun m hm => by
        rw [Nat.pow_succ] at hm
        omega
      rw [dgF_more f g (u / 10) (e f h) (e g k)]
theorem dg_small (u : Nat) (h : u < 10) : dg u = [48 + (u : Int)] := by
  show dgF (29 + 1) u = _
  rw [dgF_succ, if_pos h]
theorem dg_step (u : Nat) (h : 10 ≤ u) (b : u < 10 ^ 20) : dg u = dg (u / 10) ++ [48 + ((u % 10 : Nat) : Int)] := by
  have p1 : (10 : Nat) ^ 20 ≤ 10 ^ 28 := by decide
  have p2 : (10 : Nat) ^ 20 ≤ 10 ^ 29 := by decide
  show dgF (29 + 1) u = dgF (29 + 1) (u / 10) ++ _
  rw [dgF_succ, if_neg (by omega), dgF_more 28 29 (u / 10) (by omega) (by omega)]
theorem dg_two (u : Nat) (h : 10 ≤ u) (k : u < 100) : dg u = [48 + ((u / 10 : Nat) : Int), 48 + ((u % 10 : Nat) : Int)] := by
  rw [dg_step u h (by omega), dg_small (u / 10) (by omega)]
  rfl
theorem dg_pair (u : Nat) (h : 100 ≤ u) (b : u < 10 ^ 20) : dg u = dg (u / 100) ++ [48 + ((u % 100 / 10 : Nat) : Int), 48 + ((u % 10 : Nat) : Int)] := by
  rw [dg_step u (by omega) b, dg_step (u / 10) (by omega) (by omega), show u / 10 / 10 = u / 100 by omega, show u / 10 % 10 = u % 100 / 10 by omega]
  simp
theorem dg_three (u : Nat) (h : 100 ≤ u) (k : u < 1000) : dg u = [48 + ((u / 100 : Nat) : Int), 48 + ((u % 100 / 10 : Nat) : Int), 48 + ((u % 10 : Nat) : Int)] := by
  rw [dg_pair u h (by omega), dg_small (u / 100) (by omega)]
  rfl
theorem dg_byte : ∀ (f u : Nat), ∀ x ∈ dgF f u, 0 ≤ x ∧ x ≤ 255
  | 0, _, x, h => by simp [dgF] at h
  | f + 1, u, x, h => by
    rw [dgF_succ] at h
    split at h
    · simp at h; omega
    · rcases List.mem_append.1 h with h | h
      · exact dg_byte f _ x h
      · simp at h; omega
theorem dg_len : ∀ (k u : Nat), u < 10 ^ (k + 1) → k + 1 ≤ 20 → (dg u).length ≤ k + 1
  | 0, u, h, _ => by rw [dg_small u (by simpa using h)]; simp
  | k + 1, u, h, hk => by
    by_cases c : u < 10
    · rw [dg_small u c]; simp
    · have hb : u < 10 ^ 20 := Nat.lt_of_lt_of_le h (Nat.pow_le_pow_right (by decide) hk)
      rw [dg_step u (by omega) hb]
      have := dg_len k (u / 10) (by rw [Nat.pow_succ] at h; omega) (by omega)
      simp
      omega

/-- The bytes of n in base 10, with its sign. -/
def num (n : Int) : List Int := (if n < 0 then [45] else []) ++ dg n.natAbs
/-- The line: the kind, n, the line's end. -/
def line (kind n : Int) : List Int := kind :: (num n ++ [13, 10])
theorem num_len (n : Int) (h0 : -9223372036854775808 ≤ n) (h1 : n ≤ 9223372036854775807) : (num n).length ≤ 20 ∧ 1 ≤ (num n).length := by
  have p1 : (10 : Nat) ^ (18 + 1) = 10000000000000000000 := by decide
  have p2 : (10 : Nat) ^ 20 = 100000000000000000000 := by decide
  have len := dg_len 18 n.natAbs (by omega) (by omega)
  have pos : 1 ≤ (dg n.natAbs).length := by
    by_cases c : n.natAbs < 10
    · rw [dg_small _ c]; simp
    · rw [dg_step _ (by omega) (by omega)]; simp
  unfold num
  split <;> simp <;> omega
end Go.Proofs.Ybulkaaiw

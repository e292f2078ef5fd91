import Derived.Test.YbulkaaiwEq
import Derived.Deep.AppendLies
namespace Go.Proofs.Ybulkaaiw
open Go.RowKit

/-- An array of bytes in block B: k zeros, then tl. -/
def Arr (t B k : Nat) (tl : List Int) (w : World) : Prop := w.heap[B]? = some (.cells (cs (List.replicate k 0 ++ tl)).toArray t (0, 0))

theorem arr_cell {t B k : Nat} {tl : List Int} {w : World} (h : Arr t B (k + 1) tl w) : w.cell? ⟨B, k, none⟩ = some (.int .u8 0) ∧ w.frozen? ⟨B, k, none⟩ = false := by
  unfold Arr at h
  constructor
  · simp [World.cell?, h, cs, List.getElem?_append_left]
  · simp [World.frozen?, h]
theorem arr_store {t B k : Nat} {tl : List Int} {w : World} (h : Arr t B (k + 1) tl w) (x : Int) : Arr t B k (x :: tl) (w.setCell ⟨B, k, none⟩ (.int .u8 x)) := by
  unfold Arr at h ⊢
  rw [heap_setCell_same w B k _ t (.int .u8 x) h]
  congr 2
  rw [List.setIfInBounds_toArray]
  congr 1
  have e : cs (List.replicate (k + 1) 0 ++ tl) = cs (List.replicate k 0) ++ (.int .u8 0 :: cs tl) := by
    rw [List.replicate_succ', List.append_assoc, cs_append]
    simp [cs]
  rw [e, List.set_append_right _ _ (by simp [cs]), cs_append]
  simp [cs]
theorem arr_from {t B k : Nat} {tl : List Int} {w : World} (h : Arr t B k tl w) : ∀ j v, (cs tl)[j]? = some v → w.cell? ((⟨B, k, none⟩ : Addr).add j) = some v := by
  intro j v hv
  unfold Arr at h
  rw [Addr.add_lit]
  have e : (cs (List.replicate k 0 ++ tl))[k + j]? = some v := by
    rw [cs_append, List.getElem?_append_right (by simp [cs])]
    simpa [cs] using hv
  simp [World.cell?, h, e]

theorem make_at {w w1 : World} {base c : Nat} {a : Addr} {v : Value} (h : w1.ownsRow base 5 1 (.slice (some ⟨(w.setCell a v).heap.size, 0, none⟩) 0 c) 0 []) : w1.ownsRow base 5 1 (.slice (some ⟨w.heap.size, 0, none⟩) 0 c) 0 (cs []) := by
  rw [show (w.setCell a v).heap.size = w.heap.size from by simp [World.setCell]] at h
  exact h
theorem arr_block {t B k : Nat} {tl : List Int} {w w' : World} {row : Option Nat} (h : Arr t B k tl w) (hg : w.grownBy w' row) (hne : some B ≠ row) : Arr t B k tl w' :=
  (hg.block B (lt_of_block h) hne).trans h
theorem arr_alloc {t B k : Nat} {tl : List Int} {w w' : World} {o : Obj} {row : Option Nat} (h : Arr t B k tl w) (hg : (w.alloc o).grownBy w' row) (hne : some B ≠ row) : Arr t B k tl w' :=
  arr_block (w := w.alloc o) ((Below.heap_alloc w o B (lt_of_block h)).trans h) hg hne
theorem below_alloc {w w1 w2 : World} {o : Obj} {g : Nat} (h : Below w.heap.size w w1) (hg : (w1.alloc o).grownBy w2 (some g)) (hle : w.heap.size ≤ g) : Below w.heap.size w w2 :=
  Below.grown (h.alloc h.size o) hg (by have := h.size; simp; omega) (fun k e => by cases e; exact hle)
theorem hide {p : Prop} (h : p) : Hid p := h

theorem slice35 (B k : Nat) (hk : k < 20) (w : World) : (Instr.sliceAt 35 (.pointer (some ⟨B, 0, none⟩)) (some (.int .i64 (k : Int))) none none).run Yba.prog w = .ok (.slice (some ⟨B, k, none⟩) (20 - k) (20 - k)) w := by
  have hl : Yba.prog.arrayLen 35 = 20 := by kernel_rfl
  have he : Yba.prog.elem 35 = 5 := by kernel_rfl
  have hu : Yba.prog.underlying 35 = some (.array (Yba.prog.arrayLen 35) (Yba.prog.elem 35)) := by rw [hl, he]; exact Yba.underlying35
  rw [run_sliceAt_array_l w 35 ⟨B, 0, none⟩ hu .i64 (k : Int) (by omega) (by rw [hl]; omega), hl, he]
  obtain ⟨i0, hi0, _, hz1, _⟩ := info_parts Yba.info5
  simp [sizeOf, typeInfo, hi0, hz1, slicedAt]
  rw [if_neg (by omega), Addr.add_lit]
  simp

/-- How far the digits have come: u is left, tl stands behind place k. -/
def Dig (U u k : Nat) (tl : List Int) (n : Nat) : Prop := dg u ++ tl = dg U ∧ u < 10 ^ k ∧ k + tl.length = n
theorem dig_next {U u k n : Nat} {tl : List Int} (h : Dig U u (k + 1) tl n) (hu : 10 ≤ u) (hk : k + 1 ≤ 20) : Dig U (u / 10) k ((48 + ((u : Int) % 10)) :: tl) n := by
  obtain ⟨h1, h2, h3⟩ := h
  have hb : u < 10 ^ 20 := Nat.lt_of_lt_of_le h2 (Nat.pow_le_pow_right (by decide) hk)
  refine ⟨?_, by rw [Nat.pow_succ] at h2; omega, by simp; omega⟩
  rw [← h1, dg_step u hu hb]
  simp
theorem dig_last {U u k n : Nat} {tl : List Int} (h : Dig U u (k + 1) tl n) (hu : u < 10) : (48 + ((u : Int) % 10)) :: tl = dg U ∧ k + ((48 + ((u : Int) % 10)) :: tl).length = n := by
  obtain ⟨h1, h2, h3⟩ := h
  refine ⟨?_, by simp; omega⟩
  rw [← h1, dg_small u hu]
  simp
  omega
theorem dig_pos {U u k n : Nat} {tl : List Int} (h : Dig U u k tl n) (hu : 1 ≤ u ∨ k = 20) : ∃ k', k = k' + 1 := by
  obtain ⟨h1, h2, h3⟩ := h
  cases k with
  | zero => simp at h2; omega
  | succ k => exact ⟨k, rfl⟩

theorem num_neg (n : Int) (h : n < 0) : num n = [45] ++ dg n.natAbs := by unfold num; rw [if_pos h]
theorem num_pos (n : Int) (h : 0 ≤ n) : num n = dg n.natAbs := by unfold num; rw [if_neg (by omega)]; rfl
theorem dec_len {n : Int} {U m : Nat} {l : List Int} (hU : U = n.natAbs) (hl : l = dg U) (hm : l.length = m) (hn : n < 0) : (num n).length = 1 + m := by
  rw [num_neg n hn, ← hU, ← hl]; simp; omega
theorem dec_own {n : Int} {U base g m cap : Nat} {l : List Int} {w : World} (hU : U = n.natAbs) (hl : l = dg U) (hn : n < 0) (h : w.ownsRow base 5 1 (.slice (some ⟨g, 0, none⟩) m cap) m (cs [] ++ cs [45] ++ cs l)) : Own base g m cap (num n) w := by
  rw [← cs_append, ← cs_append] at h
  rw [num_neg n hn, ← hU, ← hl]
  exact h
theorem dec_len_pos {n : Int} {U m : Nat} {l : List Int} (hU : U = n.natAbs) (hl : l = dg U) (hm : l.length = m) (hn : 0 ≤ n) : (num n).length = 0 + m := by
  rw [num_pos n hn, ← hU, ← hl]; omega
theorem dec_own_pos {n : Int} {U base g m cap : Nat} {l : List Int} {w : World} (hU : U = n.natAbs) (hl : l = dg U) (hn : 0 ≤ n) (h : w.ownsRow base 5 1 (.slice (some ⟨g, 0, none⟩) m cap) m (cs [] ++ cs l)) : Own base g m cap (num n) w := by
  rw [← cs_append] at h
  rw [num_pos n hn, ← hU, ← hl]
  exact h

theorem wrap_dec_neg (n : Int) (h0 : -9223372036854775808 ≤ n) (h1 : n < 0) : IntKind.u64.wrap (-IntKind.u64.wrap n) = (n.natAbs : Int) := by
  simp [IntKind.wrap, IntKind.bits, IntKind.signed]; omega

set_option maxRecDepth 100000 in
set_option maxHeartbeats 1600000 in
theorem dec_neg (n : Int) (w : World) (h0 : -9223372036854775808 ≤ n) (h1 : n < 0) :
    Calls Yba.prog 15 #[.int .i64 n] w fun e w' => ∃ g m cap, e = .returned (.slice (some ⟨g, 0, none⟩) m cap) ∧ (num n).length = m ∧ Own w.heap.size g m cap (num n) w' ∧ Below w.heap.size w w' := by
  obtain ⟨i0, hi0, hz0, hz1, hz2⟩ := info_parts Yba.info5
  obtain ⟨U, hU⟩ : ∃ U, U = n.natAbs := ⟨_, rfl⟩
  have hw := wrap_dec_neg n h0 h1
  rw [← hU] at hw
  have hUb : U < 10 ^ 20 := by have : (10 : Nat) ^ 20 = 100000000000000000000 := by decide
                               omega
  have HU : Hid (U = n.natAbs) := hU
  have HUb : Hid (U < 10 ^ 20) := hUb
  clear hU hUb
  go_enter Yba.func15, Yba.ntmps15
  go_wp2
  go_loopw [3, 5] (fun a b wr => ∃ (u k : Nat) (tl : List Int), a = .int .u64 u ∧ b = .int .i64 k ∧ u ≤ U ∧ k ≤ 20 ∧ (1 ≤ u ∨ k = 20) ∧ Dig U u k tl 20 ∧ Arr 35 w.heap.size k tl wr ∧ Below w.heap.size w wr) (fun a _ _ => (intOf a).toNat)
  case atStart => exact ⟨U, 20, [], by first | rfl | go_num, rfl, Nat.le_refl _, Nat.le_refl _, Or.inr rfl, ⟨by simp, HUb.out, rfl⟩, heap_alloc_new w _, (Below.refl _ _).alloc (Nat.le_refl _) _⟩
  case round =>
    obtain ⟨u, k0, tl, rfl, rfl, huU, hk20, hor, hD, hA, hbel⟩ := hrel
    obtain ⟨k, rfl⟩ := dig_pos hD hor
    obtain ⟨c0, f0⟩ := arr_cell hA
    have HD : Hid (Dig U u (k + 1) tl 20) := hD
    have HA : Hid (Arr 35 w.heap.size (k + 1) tl wr) := hA
    have HB : Hid (Below w.heap.size w wr) := hbel
    clear hor hD hA hbel
    have z0 : (0 : Int) ≤ (k : Int) := Int.natCast_nonneg _
    have z1 : (k : Int) < 20 := by omega
    have hub : (u : Int) ≤ 9223372036854775808 := by have := HU.out; omega
    by_cases hu : u < 10
    · have hq : ((u : Int) / 10 == 0) = true := by simp; omega
      obtain ⟨HL1, HL2⟩ : Hid ((48 + ((u : Int) % 10)) :: tl = dg U) ∧ Hid (k + ((48 + ((u : Int) % 10)) :: tl).length = 20) := dig_last HD.out hu
      have HA1 : Hid (Arr 35 w.heap.size k ((48 + ((u : Int) % 10)) :: tl) (wr.setCell ⟨w.heap.size, k, none⟩ (.int .u8 (48 + ((u : Int) % 10))))) := arr_store HA.out _
      have HB1 : Hid (Below w.heap.size w (wr.setCell ⟨w.heap.size, k, none⟩ (.int .u8 (48 + ((u : Int) % 10))))) := HB.out.setCell (Nat.le_refl _) _
      have hlt : w.heap.size < wr.heap.size := lt_of_block HA.out
      have hL2 : ((48 + ((u : Int) % 10)) :: tl).length = 20 - k := by have := HL2.out; omega
      have HL3 : Hid (((48 + ((u : Int) % 10)) :: tl).length = 20 - k) := hL2
      clear hL2
      have hsl := slice35 w.heap.size k (by omega)
      go_wp2_with (first | (at_make; refine wpList_make_own _ rfl _ _ 22 rfl w.heap.size 5 i0 (.int .u8 0) 1 Yba.underlying22 hi0 hz0 hz1 _ _ _ 21 rfl rfl (by rfl) (by rw [hz2]; omega) (by unfold maxLen; omega) (by exact HB1.out.size) ?_; intro w1 hown1 hgrow1; have hO1 := make_at hown1; have HA2 := hide (arr_block HA1.out hgrow1 (by simp)); have HB2 := hide (Below.grown HB1.out hgrow1 HB1.out.size (fun k e => by cases e))) | (at_builtin; refine wpList_append_fits _ rfl (.tmp 28) (.tmp 29) 22 rfl w.heap.size 5 i0 1 Yba.underlying22 hi0 hz1 wr.heap.size 0 21 (cs []) rfl (hO1.alloc _) ⟨w1.heap.size, 0, none⟩ 1 1 (cs [45]) rfl rfl (World.news_of_block (cs := #[.int .u8 45]) (t := 5) (fr := (0, 0)) (heap_alloc_new w1 _)) (cs_one _) (by omega) ?_; intro w2 hown2 hgrow2; have HA3 := hide (arr_alloc HA2.out hgrow2 (by simp; omega)); have HB3 := hide (below_alloc HB2.out hgrow2 (by omega))) | (at_builtin; refine wpList_append_fits _ rfl (.tmp 31) (.tmp 33) 22 rfl w.heap.size 5 i0 1 Yba.underlying22 hi0 hz1 wr.heap.size 1 21 _ rfl hown2 ⟨w.heap.size, k, none⟩ _ _ (cs ((48 + ((u : Int) % 10)) :: tl)) rfl (by rw [cs_length, HL3.out, Nat.mul_one]) (arr_from HA3.out) (cs_one _) (by omega) ?_; intro w3 hown3 hgrow3))
      go_ret
      exact ⟨wr.heap.size, 1 + (20 - k), 21, rfl, dec_len HU.out HL1.out HL3.out h1, dec_own HU.out HL1.out h1 hown3, Below.grown HB3.out hgrow3 HB3.out.size (fun k e => by cases e; omega)⟩
    · have hq : ((u : Int) / 10 == 0) = false := by simp; omega
      go_wp2
      go_roundw
      case rel => exact ⟨u / 10, k, (48 + ((u : Int) % 10)) :: tl, by go_num, rfl, by omega, by omega, Or.inl (by omega), dig_next HD.out (by omega) hk20, arr_store HA.out _, HB.out.setCell (Nat.le_refl _) _⟩
      case measure => simp [intOf]; omega
theorem wrap_dec_pos (n : Int) (h0 : 0 ≤ n) (h1 : n ≤ 9223372036854775807) : n = (n.natAbs : Int) := by
  omega

set_option maxRecDepth 100000 in
set_option maxHeartbeats 1600000 in
theorem dec_pos (n : Int) (w : World) (h0 : 0 ≤ n) (h1 : n ≤ 9223372036854775807) :
    Calls Yba.prog 15 #[.int .i64 n] w fun e w' => ∃ g m cap, e = .returned (.slice (some ⟨g, 0, none⟩) m cap) ∧ (num n).length = m ∧ Own w.heap.size g m cap (num n) w' ∧ Below w.heap.size w w' := by
  obtain ⟨i0, hi0, hz0, hz1, hz2⟩ := info_parts Yba.info5
  obtain ⟨U, hU⟩ : ∃ U, U = n.natAbs := ⟨_, rfl⟩
  have hw := wrap_dec_pos n h0 h1
  rw [← hU] at hw
  have hUb : U < 10 ^ 20 := by have : (10 : Nat) ^ 20 = 100000000000000000000 := by decide
                               omega
  have HU : Hid (U = n.natAbs) := hU
  have HUb : Hid (U < 10 ^ 20) := hUb
  clear hU hUb
  go_enter Yba.func15, Yba.ntmps15
  go_wp2
  go_loopw [3, 5] (fun a b wr => ∃ (u k : Nat) (tl : List Int), a = .int .u64 u ∧ b = .int .i64 k ∧ u ≤ U ∧ k ≤ 20 ∧ (1 ≤ u ∨ k = 20) ∧ Dig U u k tl 20 ∧ Arr 35 w.heap.size k tl wr ∧ Below w.heap.size w wr) (fun a _ _ => (intOf a).toNat)
  case atStart => exact ⟨U, 20, [], by first | rfl | go_num, rfl, Nat.le_refl _, Nat.le_refl _, Or.inr rfl, ⟨by simp, HUb.out, rfl⟩, heap_alloc_new w _, (Below.refl _ _).alloc (Nat.le_refl _) _⟩
  case round =>
    obtain ⟨u, k0, tl, rfl, rfl, huU, hk20, hor, hD, hA, hbel⟩ := hrel
    obtain ⟨k, rfl⟩ := dig_pos hD hor
    obtain ⟨c0, f0⟩ := arr_cell hA
    have HD : Hid (Dig U u (k + 1) tl 20) := hD
    have HA : Hid (Arr 35 w.heap.size (k + 1) tl wr) := hA
    have HB : Hid (Below w.heap.size w wr) := hbel
    clear hor hD hA hbel
    have z0 : (0 : Int) ≤ (k : Int) := Int.natCast_nonneg _
    have z1 : (k : Int) < 20 := by omega
    have hub : (u : Int) ≤ 9223372036854775808 := by have := HU.out; omega
    by_cases hu : u < 10
    · have hq : ((u : Int) / 10 == 0) = true := by simp; omega
      obtain ⟨HL1, HL2⟩ : Hid ((48 + ((u : Int) % 10)) :: tl = dg U) ∧ Hid (k + ((48 + ((u : Int) % 10)) :: tl).length = 20) := dig_last HD.out hu
      have HA1 : Hid (Arr 35 w.heap.size k ((48 + ((u : Int) % 10)) :: tl) (wr.setCell ⟨w.heap.size, k, none⟩ (.int .u8 (48 + ((u : Int) % 10))))) := arr_store HA.out _
      have HB1 : Hid (Below w.heap.size w (wr.setCell ⟨w.heap.size, k, none⟩ (.int .u8 (48 + ((u : Int) % 10))))) := HB.out.setCell (Nat.le_refl _) _
      have hlt : w.heap.size < wr.heap.size := lt_of_block HA.out
      have hL2 : ((48 + ((u : Int) % 10)) :: tl).length = 20 - k := by have := HL2.out; omega
      have HL3 : Hid (((48 + ((u : Int) % 10)) :: tl).length = 20 - k) := hL2
      clear hL2
      have hsl := slice35 w.heap.size k (by omega)
      go_wp2_with (first | (at_make; refine wpList_make_own _ rfl _ _ 22 rfl w.heap.size 5 i0 (.int .u8 0) 1 Yba.underlying22 hi0 hz0 hz1 _ _ _ 21 rfl rfl (by rfl) (by rw [hz2]; omega) (by unfold maxLen; omega) (by exact HB1.out.size) ?_; intro w1 hown1 hgrow1; have hO1 := make_at hown1; have HA2 := hide (arr_block HA1.out hgrow1 (by simp)); have HB2 := hide (Below.grown HB1.out hgrow1 HB1.out.size (fun k e => by cases e))) | (at_builtin; refine wpList_append_fits _ rfl (.tmp 31) (.tmp 33) 22 rfl w.heap.size 5 i0 1 Yba.underlying22 hi0 hz1 wr.heap.size 0 21 _ rfl hO1 ⟨w.heap.size, k, none⟩ _ _ (cs ((48 + ((u : Int) % 10)) :: tl)) rfl (by rw [cs_length, HL3.out, Nat.mul_one]) (arr_from HA2.out) (cs_one _) (by omega) ?_; intro w3 hown3 hgrow3))
      go_ret
      exact ⟨wr.heap.size, 20 - k, 21, rfl, (dec_len_pos HU.out HL1.out HL3.out h0).trans (Nat.zero_add _), dec_own_pos HU.out HL1.out h0 (by simpa using hown3), Below.grown HB2.out hgrow3 HB2.out.size (fun k e => by cases e; omega)⟩
    · have hq : ((u : Int) / 10 == 0) = false := by simp; omega
      go_wp2
      go_roundw
      case rel => exact ⟨u / 10, k, (48 + ((u : Int) % 10)) :: tl, by go_num, rfl, by omega, by omega, Or.inl (by omega), dig_next HD.out (by omega) hk20, arr_store HA.out _, HB.out.setCell (Nat.le_refl _) _⟩
      case measure => simp [intOf]; omega
end Go.Proofs.Ybulkaaiw

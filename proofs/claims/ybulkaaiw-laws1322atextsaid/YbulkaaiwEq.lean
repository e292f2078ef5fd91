import Derived.Test.YbulkaaiwRows
import Derived.Test.YbulkaaiwDigits
import Derived.WalkKit
import Derived.WalkSpells
import Derived.WalkSmall
import Derived.OwnWalk
import Derived.OneCell
import Derived.Laws.CopyOwn
import Derived.Deep.QuietTactic
import Derived.BigQuiet
namespace Go.Proofs.Ybulkaaiw
open Go.RowKit

theorem Yba.info5 : (Yba.prog.info? 5).map (fun i => (i.zero, i.size, i.bytes)) = some (some (.int .u8 0), 1, 1) := by kernel_rfl
theorem Yba.size5 : (Yba.prog.info? 5).map (·.size) = some 1 := by kernel_rfl

/-- Bytes as cells. -/
def cs (bs : List Int) : List Value := bs.map (Value.int .u8)
theorem cs_length (bs : List Int) : (cs bs).length = bs.length := by simp [cs]
theorem cs_append (a b : List Int) : cs (a ++ b) = cs a ++ cs b := by simp [cs]
theorem cs_one (bs : List Int) : ∀ u ∈ cs bs, u.oneCell' = true := by
  intro u hu
  obtain ⟨x, _, rfl⟩ := List.mem_map.1 hu
  rfl
theorem cs_at (bs : List Int) (j : Nat) (h : j < bs.length) : (cs bs)[j]? = some (.int .u8 (bs.getD j 0)) := by
  simp [cs, List.getD_eq_getElem?_getD, h]

/-- The row in block g holds the bytes bs. -/
abbrev Own (base g n cap : Nat) (bs : List Int) (w : World) : Prop := w.ownsRow base 5 1 (.slice (some ⟨g, 0, none⟩) n cap) n (cs bs)

theorem own_cell {base g n cap : Nat} {bs : List Int} {w : World} (h : Own base g n cap bs w) (hl : bs.length = n) (j : Nat) (hj : j < n) : w.cell? ⟨g, j, none⟩ = some (.int .u8 (bs.getD j 0)) := by
  rw [h.cellAt j (by omega), cs_at bs j (by omega)]
theorem own_lt {base g n cap : Nat} {bs : List Int} {w : World} (h : Own base g n cap bs w) : base ≤ g ∧ g < w.heap.size := h.lt g rfl
theorem own_block {base g n cap : Nat} {bs : List Int} {w w' : World} (h : Own base g n cap bs w) (hb : w'.heap[g]? = w.heap[g]?) : Own base g n cap bs w' := by
  refine ⟨h.1, ?_⟩
  rcases h.2 with ⟨h', h2⟩ | ⟨g', cap', cur, h', hb', hg, r⟩
  · exact .inl ⟨h', h2⟩
  · simp only [Value.slice.injEq, Option.some.injEq, Addr.mk.injEq, and_true, true_and] at h'
    obtain ⟨rfl, rfl⟩ := h'
    exact .inr ⟨g, cap, cur, rfl, hb', hb.trans hg, r⟩

set_option maxHeartbeats 400000 in
theorem eq_any (g n cap g' cap' : Nat) (bs : List Int) (w : World) (hn : n ≤ 2000) (ha : ∀ j, j < n → w.cell? ⟨g, j, none⟩ = some (.int .u8 (bs.getD j 0))) (hb : ∀ j, j < n → w.cell? ⟨g', j, none⟩ = some (.int .u8 (bs.getD j 0))) :
    Calls Yba.prog 9 #[.slice (some ⟨g, 0, none⟩) n cap, .slice (some ⟨g', 0, none⟩) n cap'] w fun e w' => e = .returned (.bool true) ∧ ∃ q, w' = w.drewN q := by
  have HA : Hid (∀ j, j < n → w.cell? ⟨g, j, none⟩ = some (.int .u8 (bs.getD j 0))) := ha
  have HB : Hid (∀ j, j < n → w.cell? ⟨g', j, none⟩ = some (.int .u8 (bs.getD j 0))) := hb
  clear ha hb
  go_enter Yba.func9, Yba.ntmps9
  go_wp2
  go_loopw [5] (fun i wr => ∃ j q : Nat, j ≤ n ∧ i = .int .i64 j ∧ wr = w.drewN q) (fun i _ => n - (intOf i).toNat)
  case atStart => exact ⟨0, 0, Nat.zero_le _, rfl, rfl⟩
  case round =>
    obtain ⟨j, q, hj, rfl, rfl⟩ := hrel
    by_cases hlt : j < n
    · have h1 := HA.out j hlt
      have h2 := HB.out j hlt
      obtain ⟨x, hx⟩ : ∃ x, x = bs.getD j 0 := ⟨_, rfl⟩
      rw [← hx] at h1 h2
      clear hx
      have z0 : (0 : Int) ≤ (j : Int) := Int.natCast_nonneg _
      have z1 : (j : Int) < (n : Int) := by omega
      go_wp2_with fail
      go_quiet (fail)
      go_wp2
      go_roundw
      case rel => exact ⟨j + 1, _, by omega, by go_num, rfl⟩
      case measure => simp [intOf]; omega
    · go_wp2
      go_ret
      exact ⟨rfl, q, rfl⟩

theorem made_block {w1 : World} {g n : Nat} (h : w1.ownsRow g 5 1 (.slice (some ⟨g, 0, none⟩) n n) n (madeCells (Value.int .u8 0).cells (n * 1)).toList) : w1.heap[g]? = some (.cells (List.replicate n (Value.int .u8 0)).toArray 5 (0, 0)) := by
  have e : (madeCells (Value.int .u8 0).cells (n * 1)).toList = List.replicate n (.int .u8 0) := by rw [Nat.mul_one]; exact toList_madeCells_one _ n
  rw [e] at h
  rcases h.2 with ⟨h', _⟩ | ⟨g', cap', cur, h', _, hg, _, _, hs, htake⟩
  · simp at h'
  · simp only [Value.slice.injEq, Option.some.injEq, Addr.mk.injEq, and_true, true_and] at h'
    obtain ⟨rfl, rfl⟩ := h'
    rw [List.take_of_length_le (by simp; omega)] at htake
    rw [← htake]
    simpa using hg
theorem made_below {w w1 : World} (h : w.grownBy w1 none) : Below w.heap.size w w1 := Below.grown (Below.refl _ _) h (Nat.le_refl _) (fun k e => by cases e)
theorem copy_src {w w1 : World} {a0 : Option Addr} {n : Nat} {bs : List Int} (hp : 0 < n → ∃ ad, a0 = some ad ∧ ad.block < w.heap.size ∧ ∀ j v, (cs bs)[j]? = some v → w.cell? (ad.add j) = some v) (hl : bs.length = n) (hg : w.grownBy w1 none) :
    0 < (cs bs).length → some (⟨w.heap.size, 0, none⟩ : Addr) = some ⟨w.heap.size, 0, none⟩ ∧ ∃ ad, a0 = some ad ∧ ∀ j v, (cs bs)[j]? = some v → w1.cell? (ad.add j) = some v := by
  intro h
  obtain ⟨ad, e, hb, hc⟩ := hp (by rw [cs_length, hl] at h; exact h)
  refine ⟨rfl, ad, e, fun j v hv => ?_⟩
  have hk := hc j v hv
  exact hg.cell hk (by simp)
theorem copied {w : World} {g n : Nat} {bs : List Int} (hl : bs.length = n) (hm : n ≤ 1024) (h : w.heap[g]? = some (.cells (splice (List.replicate n (Value.int .u8 0)) 0 (cs bs)).toArray 5 (0, 0))) : Own g g n n bs w := by
  have e : splice (List.replicate n (Value.int .u8 0)) 0 (cs bs) = cs bs := by
    unfold splice
    rw [List.drop_eq_nil_of_le (by simp [cs_length, hl])]
    simp
  rw [e] at h
  exact ⟨by simp [cs_length, hl], .inr ⟨g, n, (cs bs).toArray, rfl, Nat.le_refl _, h, Nat.le_refl _, by unfold maxLen; omega, by simp [cs_length, hl], by simp; exact List.take_of_length_le (by rw [cs_length, hl]; exact Nat.le_refl _)⟩⟩

set_option maxHeartbeats 400000 in
theorem copy_any (a0 : Option Addr) (n cap : Nat) (bs : List Int) (w : World) (hn : n ≤ 1024) (hl : bs.length = n) (hpos : 0 < n → ∃ ad, a0 = some ad ∧ ad.block < w.heap.size ∧ ∀ j v, (cs bs)[j]? = some v → w.cell? (ad.add j) = some v) :
    Calls Yba.prog 8 #[.slice a0 n cap] w fun e w' => e = .returned (.slice (some ⟨w.heap.size, 0, none⟩) n n) ∧ Own w.heap.size w.heap.size n n bs w' ∧ Below w.heap.size w w' := by
  obtain ⟨i0, hi0, hz0, hz1, hz2⟩ := info_parts Yba.info5
  have HP : Hid (0 < n → ∃ ad, a0 = some ad ∧ ad.block < w.heap.size ∧ ∀ j v, (cs bs)[j]? = some v → w.cell? (ad.add j) = some v) := hpos
  clear hpos
  go_enter Yba.func8, Yba.ntmps8
  go_wp2_with (first | (at_make; refine wpList_make_full _ rfl _ _ 22 rfl w.heap.size 5 i0 (.int .u8 0) 1 Yba.underlying22 hi0 hz0 hz1 _ _ _ _ n rfl rfl rfl rfl (by rw [hz2]; omega) (by unfold maxLen; omega) (Nat.le_refl _) ?_; intro w1 hown hgrow; have hG := made_block hown; have hb1 := made_below hgrow; clear hown) | (refine wpList_copy_splice rfl (.tmp 7) (.tmp 8) 22 22 rfl 5 Yba.underlying22 Yba.size5 _ _ n n n cap rfl rfl w.heap.size 0 _ 5 hG (cs bs) (by rw [cs_length, hl]; simp) (copy_src HP.out hl hgrow) (by rw [cs_length, hl]; simp) (cs_one bs) w.heap.size w hb1 (Nat.le_refl _) ?_; intro w2 HG2 hB2))
  go_ret
  exact ⟨rfl, copied hl (by omega) HG2.out, hB2⟩
end Go.Proofs.Ybulkaaiw

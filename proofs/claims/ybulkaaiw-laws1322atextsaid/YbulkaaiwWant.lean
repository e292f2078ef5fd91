import Derived.Test.YbulkaaiwDec
namespace Go.Proofs.Ybulkaaiw
open Go.RowKit

theorem dec_any (n : Int) (w : World) (h0 : -9223372036854775808 ≤ n) (h1 : n ≤ 9223372036854775807) :
    Calls Yba.prog 15 #[.int .i64 n] w fun e w' => ∃ g m cap, e = .returned (.slice (some ⟨g, 0, none⟩) m cap) ∧ (num n).length = m ∧ Own w.heap.size g m cap (num n) w' ∧ Below w.heap.size w w' := by
  by_cases h : n < 0
  · exact dec_neg n w h0 h
  · exact dec_pos n w (by omega) h1

theorem own_first {base g n c : Nat} {bs : List Int} {w : World} (h : w.ownsRow base 5 1 (.slice (some ⟨g, 0, none⟩) (0 + n) c) (0 + n) ([] ++ cs bs)) : Own base g n c bs w := by
  rw [Nat.zero_add] at h
  exact h
theorem own_next {base g n m c : Nat} {bs ds : List Int} {w : World} (h : w.ownsRow base 5 1 (.slice (some ⟨g, 0, none⟩) (n + m) c) (n + m) (cs bs ++ cs ds)) : Own base g (n + m) c (bs ++ ds) w := by
  rw [← cs_append] at h
  exact h
theorem own_cells {base g n cap : Nat} {bs : List Int} {w : World} (h : Own base g n cap bs w) : ∀ j u, (cs bs)[j]? = some u → w.cell? ((⟨g, 0, none⟩ : Addr).add j) = some u := h.cells (g := g) rfl

theorem made_grown {w w1 w2 : World} (h1 : w.grownBy w1 none) (h2 : w1.grownBy w2 (some w.heap.size)) : Below w.heap.size w w2 :=
  Below.grown (made_below h1) h2 (made_below h1).size (fun k e => by cases e; exact Nat.le_refl _)

set_option maxRecDepth 100000 in
set_option maxHeartbeats 1600000 in
theorem want_any (a0 : Option Addr) (n cap : Nat) (bs : List Int) (k m : Int) (w : World) (hn : n ≤ 1024) (hl : bs.length = n) (hnil : a0 = none → n = 0 ∧ cap = 0)
    (hc : ∀ ad, a0 = some ad → ∀ j v, (cs bs)[j]? = some v → w.cell? (ad.add j) = some v) (m0 : -9223372036854775808 ≤ m) (m1 : m ≤ 9223372036854775807) :
    Calls Yba.prog 10 #[.slice a0 n cap, .int .u8 k, .int .i64 m] w fun e w' => ∃ g N c, e = .returned (.slice (some ⟨g, 0, none⟩) N c) ∧ (bs ++ line k m).length = N ∧ Own w.heap.size g N c (bs ++ line k m) w' ∧ Below w.heap.size w w' := by
  obtain ⟨i0, hi0, hz0, hz1, hz2⟩ := info_parts Yba.info5
  have HN : Hid (a0 = none → n = 0 ∧ cap = 0) := hnil
  have HC : Hid (∀ ad, a0 = some ad → ∀ j v, (cs bs)[j]? = some v → w.cell? (ad.add j) = some v) := hc
  have HM := hide (num_len m m0 m1)
  clear hnil hc
  go_enter Yba.func10, Yba.ntmps10
  go_wp2_with (first | (at_make; refine wpList_make_own _ rfl _ _ 22 rfl w.heap.size 5 i0 (.int .u8 0) 1 Yba.underlying22 hi0 hz0 hz1 _ _ _ (n + 24) rfl rfl (by omega) (by rw [hz2]; omega) (by unfold maxLen; omega) (Nat.le_refl _) ?_; intro w1 hown1 hgrow1) | (at_builtin; refine wpList_append_fits_any _ rfl (.tmp 12) (.tmp 13) 22 rfl w.heap.size 5 i0 1 Yba.underlying22 hi0 hz1 w.heap.size 0 (n + 24) [] rfl hown1 a0 n cap (cs bs) rfl (by rw [cs_length, hl, Nat.mul_one]) HN.out (fun ad e j v h => hgrow1.cell (HC.out ad e j v h) (by simp)) (cs_one _) (by omega) ?_; intro w2 hown2 hgrow2; have hO2 := own_first hown2; have HB2 := hide (made_grown hgrow1 hgrow2)) | (at_builtin; refine wpList_append_fits _ rfl (.tmp 15) (.tmp 17) 22 rfl w.heap.size 5 i0 1 Yba.underlying22 hi0 hz1 w.heap.size n (n + 24) (cs bs) rfl (hO2.alloc _) ⟨w2.heap.size, 0, none⟩ 1 1 (cs [k]) rfl rfl (World.news_of_block (cs := #[.int .u8 k]) (t := 5) (fr := (0, 0)) (heap_alloc_new w2 _)) (cs_one _) (by omega) ?_; intro w3 hown3 hgrow3; have hO3 := own_next hown3; have HB3 := hide (below_alloc HB2.out hgrow3 (Nat.le_refl _))))
  refine (dec_any m w3 m0 m1).mono ?_
  rintro e w4 ⟨g4, m4, cap4, rfl, hm4, hO4, hb4⟩
  have HM4 : Hid ((num m).length = m4) := hm4
  have h20 : m4 ≤ 20 := by have := HM.out.1; omega
  have hg3 : w.heap.size < w3.heap.size := (own_lt hO3).2
  have hO3' := own_block hO3 (hb4.block _ hg3)
  have HB4 := hide (HB3.out.trans (hb4.mono HB3.out.size))
  clear hm4 hb4
  go_wp2_with (first | (at_builtin; refine wpList_append_fits _ rfl (.tmp 19) (.tmp 21) 22 rfl w.heap.size 5 i0 1 Yba.underlying22 hi0 hz1 w.heap.size (n + 1) (n + 24) (cs (bs ++ [k])) rfl hO3' ⟨g4, 0, none⟩ m4 cap4 (cs (num m)) rfl (by rw [cs_length, HM4.out, Nat.mul_one]) (own_cells hO4) (cs_one _) (by omega) ?_; intro w5 hown5 hgrow5; have hO5 := own_next hown5; have HB5 := hide (Below.grown HB4.out hgrow5 HB4.out.size (fun k e => by cases e; exact Nat.le_refl _))) | (at_builtin; refine wpList_append_fits _ rfl (.tmp 23) (.tmp 24) 22 rfl w.heap.size 5 i0 1 Yba.underlying22 hi0 hz1 w.heap.size (n + 1 + m4) (n + 24) (cs (bs ++ [k] ++ num m)) rfl (hO5.alloc _) ⟨w5.heap.size, 0, none⟩ 2 2 (cs [13, 10]) rfl rfl (World.news_of_block (cs := #[.int .u8 13, .int .u8 10]) (t := 5) (fr := (0, 0)) (heap_alloc_new w5 _)) (cs_one _) (by omega) ?_; intro w6 hown6 hgrow6; have hO6 := own_next hown6; have HB6 := hide (below_alloc HB5.out hgrow6 (Nat.le_refl _))))
  go_ret
  have e : bs ++ [k] ++ num m ++ [13, 10] = bs ++ line k m := by simp [line]
  rw [e] at hO6
  exact ⟨w.heap.size, n + 1 + m4 + 2, n + 24, rfl, by have := HM4.out; simp [line]; omega, hO6, HB6.out⟩
end Go.Proofs.Ybulkaaiw

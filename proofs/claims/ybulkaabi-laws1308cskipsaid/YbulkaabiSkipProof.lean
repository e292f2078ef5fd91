import Derived.Test.YbulkaabiSkip
import Derived.Test.YbulkaabiStrs
namespace Go.Proofs.Ybulkaabi.lawS1308CSkip
open Go.ChangeShapes Go.WideShapes Go.ChangeAt Go.RowKit

theorem walk (a0 : Option Addr) (len cap : Nat) (ss : List ByteArray) (d : Int) (b : Bool) (w : World) (h : IsStrs w a0 len ss) :
    Calls Yba.prog 3 #[.slice a0 len cap, .int .i64 d, .bool b] w fun e w' => e = .returned (.bool true) ∧ Below w.heap.size w w' := by
  have zero : ∀ (a0 : Option Addr), Calls Yba.prog 3 #[.slice a0 0 cap, .int .i64 d, .bool b] w fun e w' => e = .returned (.bool true) ∧ Below w.heap.size w w' := fun a0 => by
    cases b with
    | true => exact skip_true a0 0 cap ss d w (by omega) (makes_zero _ _ _ _)
    | false => exact skip_false_zero a0 cap ss d w (makes_zero _ _ _ _)
  rcases h with rfl | ⟨hm, nb, off, rfl, hb, hc⟩
  · exact zero a0
  · by_cases h1 : 1024 < len
    · exact skip_long _ len cap d b w hm h1
    · by_cases h0 : 0 < len
      · have M : ∀ b : Bool, Makes (some ⟨nb, off, none⟩) len cap ss (w.alloc (.cells #[.bool b] 4)) := fun b =>
          makes_some nb off len cap ss _ h0 (by omega) (by simp; omega) (fun j hj => (World.cell?_alloc_past _ _ _ (by exact hb)).trans (hc j hj))
        cases b with
        | true => exact skip_true _ len cap ss d w (by omega) (M true)
        | false => exact skip_false_some _ len cap ss d w h0 (by omega) (M false)
      · obtain rfl : len = 0 := by omega
        exact zero _

set_option maxRecDepth 100000 in
theorem lifted (os : Os) (started : os.Started) (H : Type) (enc : TypeId × Value → H) :
    ReturnsInHanded {} Yba.checked os 3 .any (Rows.lawS1308CSkipSpec.pre6 enc Yba.prog Yba.f3 Rows.lawS1308CSkipRow.domain false) (Rows.lawS1308CSkipSpec.post enc Yba.prog Yba.f3 false true false false) := by
  refine returnsInHanded_of_change (C := Yba.checked) own started (by kernel_rfl) Yba.func3
    (ChangeSpec.witness6 (enc := enc) (C := Yba.checked) false ⟨#[], #[.slice none 0 0, .int .i64 0, .bool false], []⟩ 8 (by kernel_rfl) (by kernel_rfl) (by kernel_rfl) (by kernel_rfl)) ?_
  intro W base args ds gs before hval0 hW hcnd _
  have hval : ∀ (j : Nat) t v, Yba.f3.params[j]? = some t → args[j]? = some v → Value.okWide Yba.prog W .any base t v := hval0
  have hW' := hW
  obtain ⟨p, q, hA0, hV, rfl, hfz, hnd⟩ := hW
  have hA : DataW.TrodAll enc Yba.prog W 0 (fun _ => true) true Yba.f3.params.toList args.toList ds p := hA0
  rw [Yba.params3] at hA hval
  obtain ⟨v0, vs0, d0, ds0, p0, q0, hargs, rfl, rfl, h0, r0⟩ := trodAll_cons hA
  obtain ⟨v1, vs1, d1, ds1, p1, q1, rfl, rfl, rfl, h1, r1⟩ := trodAll_cons r0
  obtain ⟨v2, vs2, d2, ds2, p2, q2, rfl, rfl, rfl, h2, r2⟩ := trodAll_cons r1
  obtain ⟨rfl, rfl, rfl⟩ := trodAll_nil r2
  obtain rfl : args = #[v0, v1, v2] := by cases args; simp_all
  obtain ⟨rfl, rfl⟩ := trodVars_none hV
  obtain ⟨a0, len, cap, rfl⟩ := okWide_slice Yba.underlying22 (hval 0 22 v0 rfl rfl)
  have k0 := h0
  have lt0 : ∀ x ∈ p0, x.block < W.heap.size := by obtain ⟨m, hm⟩ := k0; exact DataW.trod_lt m _ _ _ hm
  obtain ⟨ss, w0⟩ := isStrs lt0 h0
  obtain ⟨a1, rfl, rfl, rfl, w1⟩ := open_int Yba.underlying3 (hval 1 3 v1 rfl rfl) h1
  obtain ⟨a2, rfl, rfl, rfl⟩ := open_bool Yba.underlying4 (hval 2 4 v2 rfl rfl) h2
  clear hA0 hval0
  refine (walk a0 len cap ss a1 a2 W w0).mono fun e W' ⟨he, bel⟩ => ?_
  subst he
  exact ⟨_, rfl, _, _, _, [], _, [], hW', trodAll_mk1 (shut_bool Yba.underlying4 _), (trodAll_cons_mk (Below.trod laidOut (by kernel_rfl) (of_decide_eq_true (by kernel_rfl)) k0 bel lt0) (trodAll_cons_mk (shut_int Yba.underlying3 w1) (trodAll_cons_mk (shut_bool Yba.underlying4 a2) trodAll_mk0))), rfl, bel.frame _, fun h => by cases h⟩

theorem over : Rows.lawS1308CSkipRow.holds Yba.pinned (OpenSpec.ofChange Rows.lawS1308CSkipSpec) :=
  OpenClaim.holds_of_wide 3 Yba.f3 rfl rfl rfl rfl rfl rfl rfl ⟨rfl, rfl, rfl, rfl, rfl⟩ rfl rfl rfl rfl rfl (by kernel_rfl) Yba.func3 (by kernel_rfl)
    (of_decide_eq_true (by kernel_rfl)) (by unfold Func.isWrapper; first | (rw [if_pos (by decide +kernel)]; kernel_rfl) | (rw [if_neg (by decide +kernel)]; exact ⟨rfl, rfl⟩))
    (fun os started H enc _ => lifted os started H enc)

theorem proved : Rows.LawS1308CSkipSaid := over
#print axioms proved
end Go.Proofs.Ybulkaabi.lawS1308CSkip

import Derived.Test.YbulkaafcFmtNew
import Derived.LaidEqlPtr
namespace Go.Proofs.YbulkaafcFmt
open Go.RowKit

/-- A clock stays as it is while nothing below the heap's size turns. -/
theorem Fresh.kept {n g c : Nat} {s : Int} {w w' : World} (h : Fresh n s g c w) (hb : Below w.heap.size w w') : Fresh n s g c w' := by
  obtain ⟨cur, hg, hc⟩ := h.row
  exact ⟨(hb.block c (lt_of_block h.box)).trans h.box, cur, (hb.block g (lt_of_block hg)).trans hg, hc⟩

theorem Ybaf.info35 : (Ybaf.prog.info? 35).map (·.size) = some 4 := by kernel_rfl

theorem other_ptr {w : World} {n m g g' c c' : Nat} {s s' : Int} (h : Fresh n s g c w) (h' : Fresh m s' g' c' w) (hne : c ≠ c') :
    (binOp .eql 23 (.pointer (some ⟨c, 0, none⟩)) (.pointer (some ⟨c', 0, none⟩))).run Ybaf.prog w = .ok (.bool false) w := by
  cases hj : Ybaf.prog.info? 35 with
  | none => have := Ybaf.info35; rw [hj] at this; cases this
  | some j =>
    have hs : j.size = 4 := by have := Ybaf.info35; rw [hj] at this; simpa using this
    exact run_eql_ptr_other w Ybaf.underlying23 hj (by rw [hs]; decide) (fun e => hne (congrArg Addr.block e)) h.box h'.box

set_option maxHeartbeats 800000 in
theorem apart_walk (un us : Int) (w : World) (a0 : 0 ≤ un) (a1 : un ≤ 65535) (b0 : 0 ≤ us) (b1 : us ≤ 65535) :
    Calls Ybaf.prog 4 #[.int .u16 un, .int .u16 us] w fun e w' => e = .returned (.bool true) ∧ Below w.heap.size w w' := by
  have hs := self_lt un us
  obtain ⟨n, hn⟩ : ∃ n, n = (un % 1024 + 1).toNat := ⟨_, rfl⟩
  have hnI : (n : Int) = un % 1024 + 1 := by omega
  clear hn
  go_enter Ybaf.func4, Ybaf.ntmps4
  go_wp2_with fail
  refine (new_int n _ _ w hnI.symm (by omega) hs.1 hs.2).mono ?_
  rintro e w1 ⟨c, rfl, hc, hF, hbel⟩
  go_wp2_with fail
  refine (new_int n _ _ w1 hnI.symm (by omega) hs.1 hs.2).mono ?_
  rintro e w2 ⟨d, rfl, hd, hG, hbel2⟩
  have hkn : (us % (un % 1024 + 1)).toNat < n := by omega
  have lc := lt_of_block hF.box
  have hF2 := hF.kept hbel2
  have q := other_ptr hF2 hG (by omega)
  have f1 := hF2.self
  have f2 := hF2.vec
  have f3 := hF2.at hkn
  have f4 := hF2.open_at (us % (un % 1024 + 1)).toNat
  have g1 := hG.self
  have g2 := hG.vec
  have g3 := hG.at hkn
  have lg : w.heap.size < w1.heap.size := by obtain ⟨cur, hg, _⟩ := hF.row; exact lt_of_block hg
  have HW : Hid (Below w.heap.size w w2) := hbel.trans (hbel2.mono (by omega))
  clear hF hG hF2 hbel hbel2
  go_wp2
  go_ret
  exact ⟨rfl, HW.out.setCell (Nat.le_refl _) _⟩
end Go.Proofs.YbulkaafcFmt

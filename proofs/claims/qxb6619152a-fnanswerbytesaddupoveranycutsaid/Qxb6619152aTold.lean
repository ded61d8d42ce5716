/-
  THE CONTRACT OF toldOverlaps.
-/
import Derived.Test.Qxb6619152aChecked
import Derived.Test.Qxb6619152aMem
import Derived.WalkKit
import Derived.WalkSpells
import Derived.WalkLawsBesides
namespace Go.Proofs.Qxb6619152a
open Go.RowKit

theorem info40 : (Try.prog.info? 40).map (fun i => (i.zero, i.size, i.bytes)) = some (some (.agg #[.string ByteArray.empty, .string ByteArray.empty, .int .u64 0, .pointer none, .bool false, .int .i64 0]), 6, 64) := by kernel_rfl

set_option maxHeartbeats 400000 in
theorem told_any (a : Option Addr) (n c : Nat) (os : Nat → Ov) (w : World) (h : Ovs w a n os) (hn : n ≤ 1048576) (h0 : 0 < n) :
    Calls Try.prog 34 #[.slice a n c] w fun e w' => ∃ g, e = .returned (.slice (some ⟨g, 0, none⟩) n n) ∧ Ovs w' (some ⟨g, 0, none⟩) n os ∧ w.grownBy w' none ∧ w.heap.size ≤ g ∧ g < w'.heap.size := by
  have hne : ((n : Int) == 0) = false := by rw [beq_eq_false_iff_ne]; omega
  obtain ⟨i0, hi, hz0, hz1, hz2⟩ := info_parts info40
  obtain ⟨b, off, rfl, hc⟩ := h.cells h0
  go_enter Try.func34, Try.ntmps34
  go_wp2_with (at_make; refine wpList_make_full _ rfl _ _ 34 rfl w.heap.size 40 i0 _ 6 Try.underlying34 hi hz0 hz1 _ _ _ _ n rfl rfl rfl rfl (by rw [hz2]; omega) (by unfold maxLen; omega) (Nat.le_refl _) ?_)
  intro w1 ho1 hg1
  have hr1 : Room w1 w.heap.size 0 (n * 6) := room_of_own ho1
  have hs1 : w.heap.size < w1.heap.size := (ho1.lt w.heap.size rfl).2
  clear ho1 hi hz0 hz1 hz2
  go_wp2
  go_loopw [14] (fun i wr => ∃ k : Nat, k ≤ n ∧ i = .int .i64 k ∧ (∀ j, j < k → OvAt wr w.heap.size (j * 6) (os j)) ∧ Room wr w.heap.size 0 (n * 6) ∧ w.grownBy wr none ∧ w.heap.size < wr.heap.size) (fun i _ => n - (intOf i).toNat)
  case atStart => exact ⟨0, Nat.zero_le _, rfl, fun j hj => by omega, hr1, hg1, hs1⟩
  case round =>
    obtain ⟨k, hk, rfl, hd, hr, hg, hs⟩ := hrel
    by_cases hlt : k < n
    · obtain ⟨c0, c1, c2, c3, c4, c5⟩ := (hc k hlt).kept hg (by simp)
      obtain ⟨v0, v1, v2, v3, v4, v5, r0, r1, r2, r3, r4, r5, f0, f1, f2, f3, f4, f5⟩ := hr.six (k * 6) (by omega)
      have HD : Hid _ := hd
      have HR : Hid _ := hr
      clear hd hr hr1 hc
      go_wp2
      go_roundw
      case rel =>
        have R := round6 (os := os) HD.out HR.out hg (Nat.le_refl _) hlt (.cells #[.string (os k).key, .string (os k).wth, .int .u64 (os k).ver, .pointer (os k).ext, .bool (os k).abs, .int .i64 (os k).more] 42) hs
        exact ⟨k + 1, by omega, by go_num, R⟩
      case measure => simp [intOf]; omega
    · go_wp2
      go_ret
      have hkn : k = n := by omega
      subst hkn
      exact ⟨_, rfl, ⟨fun _ => ⟨_, 0, rfl, fun j hj => by simpa using hd j hj⟩⟩, hg, Nat.le_refl _, hs⟩

end Go.Proofs.Qxb6619152a

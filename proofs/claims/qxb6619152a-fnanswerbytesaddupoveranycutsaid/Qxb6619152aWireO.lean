/-
  THE CONTRACT OF zzWireOverlap: as zzCheckOverlaps, at another type.
-/
import Derived.Test.Qxb6619152aGeo
namespace Go.Proofs.Qxb6619152a
open Go.RowKit

theorem wov_nil (n c : Nat) (w : World) : Calls Try.prog 32 #[.slice none n c] w fun e w' => e = .returned (.slice none 0 0) ∧ w = w' := by
  have hq := fun wx => Lib.run_eql_slice_nil (P := Try.prog) wx 24 45 none n c 0 0 Try.underlying24
  go_enter Try.func32, Try.ntmps32
  go_wp2
  go_ret
  exact ⟨rfl, rfl⟩

set_option maxHeartbeats 1000000 in
theorem wov_some (x : Addr) (n c : Nat) (os : Nat → Ov) (fs : Nat → Option Fl) (w : World) (h : Ovs w (some x) n os) (hf : ∀ i, i < n → ExtAt w (os i).ext (fs i)) (hn : n ≤ 1048576) :
    Calls Try.prog 32 #[.slice (some x) n c] w fun e w' => ∃ (g : Nat) (xs : Nat → Option Addr), e = .returned (.slice (some ⟨g, 0, none⟩) n n) ∧ Ovs w' (some ⟨g, 0, none⟩) n (fun i => (os i).at (xs i)) ∧ (∀ i, i < n → ExtAt w' (xs i) (fs i)) ∧ w.grownBy w' none ∧ w.heap.size ≤ g ∧ g < w'.heap.size := by
  have hq := fun wx => Lib.run_eql_slice_nil (P := Try.prog) wx 24 45 (some x) n c 0 0 Try.underlying24
  obtain ⟨i0, hi, hz0, hz1, hz2⟩ := info_parts info40
  go_enter Try.func32, Try.ntmps32
  go_wp2_with (at_make; refine wpList_make_full _ rfl _ _ 34 rfl w.heap.size 40 i0 _ 6 Try.underlying34 hi hz0 hz1 _ _ _ _ n rfl rfl rfl rfl (by rw [hz2]; omega) (by unfold maxLen; omega) (Nat.le_refl _) ?_)
  intro w1 ho1 hg1
  have hr1 : Room w1 w.heap.size 0 (n * 6) := room_of_own ho1
  have hs1 : w.heap.size < w1.heap.size := (ho1.lt w.heap.size rfl).2
  clear ho1 hi hz0 hz1 hz2 hq
  go_wp2
  go_loopw [4] (fun i wr => ∃ (k : Nat) (xs : Nat → Option Addr), k ≤ n ∧ i = .int .i64 k ∧ (∀ j, j < k → OvAt wr w.heap.size (j * 6) ((os j).at (xs j))) ∧ (∀ j, j < k → ExtAt wr (xs j) (fs j) ∧ blk (xs j) ≠ some w.heap.size) ∧ Room wr w.heap.size 0 (n * 6) ∧ w.grownBy wr none ∧ w.heap.size < wr.heap.size) (fun i _ => n - (intOf i).toNat)
  case atStart => exact ⟨0, fun _ => none, Nat.zero_le _, rfl, fun j hj => by omega, fun j hj => by omega, hr1, hg1, hs1⟩
  case round =>
    obtain ⟨k, xs, hk, rfl, hd, hx, hr, hg, hs⟩ := hrel
    by_cases hlt : k < n
    · obtain ⟨b, off, e, hc⟩ := h.cells (by omega)
      cases e
      obtain ⟨c0, c1, c2, c3, c4, c5⟩ := (hc k hlt).kept hg (by simp)
      have hbl : b < w.heap.size := World.block_lt_of_cell? w _ (hc k hlt).1
      have hbn : ¬ b = w.heap.size := by omega
      have hbn' : ¬ w.heap.size = b := by omega
      have hi0 : (0 : Int) ≤ (k : Int) := by omega
      have hi1 : (k : Int) < (n : Int) := by omega
      have hE := (hf k hlt).same hg
      have HD : Hid _ := hd
      have HX : Hid _ := hx
      have HR : Hid (Room wr w.heap.size 0 (n * 6)) := hr
      clear hd hx hr hr1 hc hf h
      rcases hE with ⟨he, hfk⟩ | ⟨eb, eo, f, he, hfk, hfl⟩
      · rw [he] at c3
        obtain ⟨v0, v1, v2, v3, v4, v5, r0, r1, r2, r3, r4, r5, f0, f1, f2, f3, f4, f5⟩ := HR.out.six (k * 6) (by omega)
        have HF : Hid (fs k = none) := hfk
        have HE : Hid ((os k).ext = none) := he
        clear he hfk
        go_wp2
        go_region_held3 (fun w' => w'.cell? ⟨b, off + k * 6, none⟩ = some (.string (os k).key) ∧ w'.cell? ⟨b, off + k * 6 + 1, none⟩ = some (.string (os k).wth) ∧ w'.cell? ⟨b, off + k * 6 + 2, none⟩ = some (.int .u64 (os k).ver) ∧ w'.cell? ⟨b, off + k * 6 + 3, none⟩ = some (.pointer none) ∧ w'.cell? ⟨b, off + k * 6 + 4, none⟩ = some (.bool (os k).abs) ∧ w'.cell? ⟨b, off + k * 6 + 5, none⟩ = some (.int .i64 (os k).more)) (go_keep) (first | (go_at_call 33; refine (geo_nil _).mono ?_; rintro e w' ⟨rfl, rfl⟩))
        go_wp2
        go_roundw
        case rel =>
          obtain ⟨xs', R⟩ := round_ext (os := os) (fs := fs) (wf := (put6 wr w.heap.size (k * 6) ((os k).at none)).drew) none HD.out HX.out HR.out hg (Nat.le_refl _) hlt hs (World.grownBy.refl _ _) (.inl ⟨rfl, HF.out⟩) (by simp [blk]) (grown_drew _)
          exact ⟨k + 1, xs', by omega, by go_num, R⟩
        case measure => simp [intOf]; omega
      · have HF : Hid (fs k = some f) := hfk
        have HE : Hid ((os k).ext = some ⟨eb, eo, none⟩) := he
        rw [he] at c3
        clear he hfk
        go_wp2
        go_region_held3 (fun w' => w'.cell? ⟨b, off + k * 6, none⟩ = some (.string (os k).key) ∧ w'.cell? ⟨b, off + k * 6 + 1, none⟩ = some (.string (os k).wth) ∧ w'.cell? ⟨b, off + k * 6 + 2, none⟩ = some (.int .u64 (os k).ver) ∧ w'.cell? ⟨b, off + k * 6 + 3, none⟩ = some (.pointer (some ⟨eb, eo, none⟩)) ∧ w'.cell? ⟨b, off + k * 6 + 4, none⟩ = some (.bool (os k).abs) ∧ w'.cell? ⟨b, off + k * 6 + 5, none⟩ = some (.int .i64 (os k).more)) (first | go_keep | exact ⟨hgg.cell c0 (by simp), hgg.cell c1 (by simp), hgg.cell c2 (by simp), hgg.cell c3 (by simp), hgg.cell c4 (by simp), hgg.cell c5 (by simp)⟩)
          (first | (go_at_call 33; refine (geo_some eb eo f _ (by exact hfl)).mono ?_; rintro e w2 ⟨ge, rfl, hfe, hgg, hge, hge'⟩; obtain ⟨v0, v1, v2, v3, v4, v5, r0, r1, r2, r3, r4, r5, f0, f1, f2, f3, f4, f5⟩ := (HR.out.kept (grown_trans (grown_drew wr) hgg (by simp)) (by simp)).six (k * 6) (by omega)))
        go_wp2
        go_roundw
        case rel =>
          have hge2 : w.heap.size < ge := by have := hge; simp at this; omega
          obtain ⟨xs', R⟩ := round_ext (os := os) (fs := fs) (wf := put6 w2 w.heap.size (k * 6) ((os k).at (some ⟨ge, 0, none⟩))) (some ⟨ge, 0, none⟩) HD.out HX.out HR.out hg (Nat.le_refl _) hlt hs (grown_trans (grown_drew wr) hgg (by simp)) (.inr ⟨ge, 0, f, rfl, HF.out, hfe⟩) (by simp [blk]; omega) (World.grownBy.refl _ _)
          exact ⟨k + 1, xs', by omega, by go_num, R⟩
        case measure => simp [intOf]; omega
    · go_wp2
      go_ret
      have hkn : k = n := by omega
      subst hkn
      exact ⟨_, xs, rfl, ⟨fun _ => ⟨_, 0, rfl, fun j hj => by simpa using hd j hj⟩⟩, fun j hj => (hx j hj).1, hg, Nat.le_refl _, hs⟩


end Go.Proofs.Qxb6619152a

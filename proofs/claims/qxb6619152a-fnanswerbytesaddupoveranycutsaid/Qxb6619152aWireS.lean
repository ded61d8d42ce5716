/-
  THE CONTRACT OF zzWireStale.
-/
import Derived.Test.Qxb6619152aGeo
import Derived.Test.Qxb6619152aStMem
import Derived.Deep.DeepCutAuto
namespace Go.Proofs.Qxb6619152a
open Go.RowKit

theorem info90 : (Try.prog.info? 90).map (fun i => (i.zero, i.size, i.bytes)) = some (some (.agg #[.string ByteArray.empty, .int .u64 0, .pointer none, .pointer none, .bool false]), 5, 48) := by kernel_rfl

theorem wst_nil (n c : Nat) (w : World) : Calls Try.prog 31 #[.slice none n c] w fun e w' => e = .returned (.slice none 0 0) ∧ w = w' := by
  have hq := fun wx => Lib.run_eql_slice_nil (P := Try.prog) wx 23 70 none n c 0 0 Try.underlying23
  go_enter Try.func31, Try.ntmps31
  go_wp2
  go_ret
  exact ⟨rfl, rfl⟩

set_option maxHeartbeats 1000000 in
set_option maxRecDepth 100000 in
theorem wst_some (x : Addr) (n c : Nat) (ss : Nat → St) (vs : Nat → Option ByteArray) (fs : Nat → Option Fl) (w : World) (h : Sts w (some x) n ss) (hv : ∀ i, i < n → ValAt w (ss i).vla (vs i)) (hf : ∀ i, i < n → ExtAt w (ss i).ext (fs i)) (hn : n ≤ 1048576) :
    Calls Try.prog 31 #[.slice (some x) n c] w fun e w' => ∃ g : Nat, e = .returned (.slice (some ⟨g, 0, none⟩) n n) ∧ (∀ j, j < n → StLike w' g (j * 5) (ss j).key (vs j)) ∧ w.grownBy w' none ∧ w.heap.size ≤ g ∧ g < w'.heap.size := by
  have hq := fun wx => Lib.run_eql_slice_nil (P := Try.prog) wx 23 70 (some x) n c 0 0 Try.underlying23
  obtain ⟨i0, hi, hz0, hz1, hz2⟩ := info_parts info90
  go_enter Try.func31, Try.ntmps31
  go_wp2_with (at_make; refine wpList_make_full _ rfl _ _ 76 rfl w.heap.size 90 i0 _ 5 Try.underlying76 hi hz0 hz1 _ _ _ _ n rfl rfl rfl rfl (by rw [hz2]; omega) (by unfold maxLen; omega) (Nat.le_refl _) ?_)
  intro w1 ho1 hg1
  have hr1 : Room w1 w.heap.size 0 (n * 5) := room_of_own ho1
  have hs1 : w.heap.size < w1.heap.size := (ho1.lt w.heap.size rfl).2
  clear ho1 hi hz0 hz1 hz2 hq
  go_wp2
  go_loopw [4] (fun i wr => ∃ k : Nat, k ≤ n ∧ i = .int .i64 k ∧ (∀ j, j < k → StLike wr w.heap.size (j * 5) (ss j).key (vs j)) ∧ Room wr w.heap.size 0 (n * 5) ∧ w.grownBy wr none ∧ w.heap.size < wr.heap.size) (fun i _ => n - (intOf i).toNat)
  case atStart => exact ⟨0, Nat.zero_le _, rfl, fun j hj => by omega, hr1, hg1, hs1⟩
  case round =>
    obtain ⟨k, hk, rfl, hd, hr, hg, hs⟩ := hrel
    by_cases hlt : k < n
    · obtain ⟨b, off, e, hc⟩ := h.cells (by omega)
      cases e
      obtain ⟨c0, c1, c2, c3, c4⟩ := (hc k hlt).kept hg (by simp)
      have hbl : b < w.heap.size := World.block_lt_of_cell? w _ (hc k hlt).1
      have hbn : ¬ b = w.heap.size := by omega
      have hbn' : ¬ w.heap.size = b := by omega
      have hi0 : (0 : Int) ≤ (k : Int) := by omega
      have hi1 : (k : Int) < (n : Int) := by omega
      have hE := (hf k hlt).same hg
      have hV := (hv k hlt).same hg
      have HD : Hid _ := hd
      have HR : Hid (Room wr w.heap.size 0 (n * 5)) := hr
      clear hd hr hr1 hc hf hv h
      go_upto_if 23 with fail
      go_cut [5] (fun v wx => ∃ p : Option Addr, v = .pointer p ∧ ValAt wx p (vs k) ∧ blk p ≠ some w.heap.size ∧ wr.grownBy wx none)
      case first =>
        rcases hV with ⟨q1, q2⟩ | ⟨vb, vo, s, q1, q2, q3⟩
        · have Q2 : Hid _ := q2
          have hb : (ss k).vla.isSome = false := by rw [q1]; rfl
          rw [hb]
          clear q2
          go_wp2_with fail
          go_meet
          case rel => exact ⟨none, rfl, .inl ⟨rfl, Q2.out⟩, by simp [blk], World.grownBy.refl _ _⟩
        · have Q2 : Hid _ := q2
          clear q2
          have hb : (ss k).vla.isSome = true := by rw [q1]; rfl
          rw [hb]
          have hvl : vb < wr.heap.size := World.block_lt_of_cell? wr _ q3
          go_wp2_with fail
          go_meet
          case rel => exact ⟨some ⟨wr.heap.size, 0, none⟩, rfl, .inr ⟨wr.heap.size, 0, s, rfl, Q2.out, by simp⟩, by simp [blk]; omega, World.grownBy_alloc _ _ none⟩
      case rest =>
        obtain ⟨p, rfl, hp1, hp2, gc⟩ := hcut
        have e0 := gc.cell c0 (by simp)
        have e1 := gc.cell c1 (by simp)
        have e3 := gc.cell c3 (by simp)
        have e4 := gc.cell c4 (by simp)
        have hE' := hE.same gc
        have HRc : Hid (Room wc w.heap.size 0 (n * 5)) := HR.out.kept gc (by simp)
        have hsc : w.heap.size < wc.heap.size := by have := gc.size; omega
        clear c0 c1 c2 c3 c4 hE hV
        rcases hE' with ⟨he, hfk⟩ | ⟨eb, eo, f, he, hfk, hfl⟩
        · rw [he] at e3
          obtain ⟨v0, v1, v2, v3, v4, r0, r1, r2, r3, r4, f0, f1, f2, f3, f4⟩ := HRc.out.five (k * 5) (by omega)
          clear he hfk
          go_wp2
          go_region_held3 (fun w' => w'.cell? ⟨b, off + k * 5, none⟩ = some (.string (ss k).key) ∧ w'.cell? ⟨b, off + k * 5 + 1, none⟩ = some (.int .u64 (ss k).ver) ∧ w'.cell? ⟨b, off + k * 5 + 3, none⟩ = some (.pointer none) ∧ w'.cell? ⟨b, off + k * 5 + 4, none⟩ = some (.bool (ss k).abs)) (go_keep) (first | (go_at_call 33; refine (geo_nil _).mono ?_; rintro e w' ⟨rfl, rfl⟩))
          go_wp2
          go_roundw
          case rel =>
            have R := round5 (n := n) (ks := fun j => (ss j).key) (vs := vs) (wf := (put5 wc w.heap.size (k * 5) ⟨(ss k).key, (ss k).ver, p, none, (ss k).abs⟩).drew) ⟨(ss k).key, (ss k).ver, p, none, (ss k).abs⟩ HD.out HR.out hg (Nat.le_refl _) hlt hs gc rfl hp1 hp2 (grown_drew _)
            exact ⟨k + 1, by omega, by go_num, R⟩
          case measure => simp [intOf]; omega
        · rw [he] at e3
          clear he hfk
          go_wp2
          go_region_held3 (fun w' => w'.cell? ⟨b, off + k * 5, none⟩ = some (.string (ss k).key) ∧ w'.cell? ⟨b, off + k * 5 + 1, none⟩ = some (.int .u64 (ss k).ver) ∧ w'.cell? ⟨b, off + k * 5 + 3, none⟩ = some (.pointer (some ⟨eb, eo, none⟩)) ∧ w'.cell? ⟨b, off + k * 5 + 4, none⟩ = some (.bool (ss k).abs)) (first | go_keep | exact ⟨hgg.cell e0 (by simp), hgg.cell e1 (by simp), hgg.cell e3 (by simp), hgg.cell e4 (by simp)⟩)
            (first | (go_at_call 33; refine (geo_some eb eo f _ (by exact hfl)).mono ?_; rintro e w2 ⟨ge, rfl, hfe, hgg, hge, hge'⟩; obtain ⟨v0, v1, v2, v3, v4, r0, r1, r2, r3, r4, f0, f1, f2, f3, f4⟩ := (HRc.out.kept (grown_trans (grown_drew wc) hgg (by simp)) (by simp)).five (k * 5) (by omega)))
          go_wp2
          go_roundw
          case rel =>
            have gg := grown_trans (grown_drew wc) hgg (by simp)
            have R := round5 (n := n) (ks := fun j => (ss j).key) (vs := vs) (wf := put5 w2 w.heap.size (k * 5) ⟨(ss k).key, (ss k).ver, p, some ⟨ge, 0, none⟩, (ss k).abs⟩) ⟨(ss k).key, (ss k).ver, p, some ⟨ge, 0, none⟩, (ss k).abs⟩ HD.out HR.out hg (Nat.le_refl _) hlt hs (grown_trans gc gg (by simp)) rfl (hp1.same gg) hp2 (World.grownBy.refl _ _)
            exact ⟨k + 1, by omega, by go_num, R⟩
          case measure => simp [intOf]; omega
    · go_wp2
      go_ret
      have hkn : k = n := by omega
      subst hkn
      exact ⟨_, rfl, hd, hg, Nat.le_refl _, hs⟩

end Go.Proofs.Qxb6619152a

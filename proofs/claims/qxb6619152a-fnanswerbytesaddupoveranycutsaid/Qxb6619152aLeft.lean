/-
  THE CONTRACTS OF zzTake, zzLeftOverlap, zzBytes_FnToldOverlapsSplitsAtAnyCut, ZZToldOverlaps; two overlaps that are one compare equal.
-/
import Derived.Test.Qxb6619152aSame
namespace Go.Proofs.Qxb6619152a
open Go.RowKit

theorem take_any (r n : Int) (w : World) (h0 : -1 ≤ r) (h1 : r ≤ 1048576) (h2 : 0 ≤ n) (h3 : n ≤ 9223372036854775807) :
    Calls Try.prog 26 #[.int .i64 r, .int .i64 n] w fun e w' => ∃ q : Int, e = .returned (.int .i64 q) ∧ -1 ≤ q ∧ q ≤ 1048576 ∧ w = w' := by
  by_cases c1 : r < 0
  · go_enter Try.func26, Try.ntmps26
    go_wp2
    go_ret
    exact ⟨-1, rfl, by omega, by omega, rfl⟩
  · by_cases c2 : r < n
    · go_enter Try.func26, Try.ntmps26
      go_wp2
      go_ret
      exact ⟨-1, rfl, by omega, by omega, rfl⟩
    · go_enter Try.func26, Try.ntmps26
      go_wp2
      go_ret
      exact ⟨r - n, rfl, by omega, by omega, rfl⟩

/-- The texts of n overlaps are no longer than an int counts. -/
def Short (n : Nat) (os : Nat → Ov) : Prop := ∀ i, i < n → (os i).key.size ≤ 9223372036854775807 ∧ (os i).wth.size ≤ 9223372036854775807

set_option maxHeartbeats 400000 in
theorem left_any (a : Option Addr) (n c : Nat) (os : Nat → Ov) (r : Int) (w : World) (h : Ovs w a n os) (hsz : Short n os) (hn : n ≤ 1048576) (h0 : -1 ≤ r) (h1 : r ≤ 1048576) :
    Calls Try.prog 11 #[.int .i64 r, .slice a n c] w fun e w' => ∃ q : Int, e = .returned (.int .i64 q) ∧ -1 ≤ q ∧ q ≤ 1048576 ∧ w = w' := by
  go_enter Try.func11, Try.ntmps11
  go_wp2
  go_loop [0, 5] (fun t i => ∃ (k : Nat) (q : Int), k ≤ n ∧ i = .int .i64 k ∧ t = .int .i64 q ∧ -1 ≤ q ∧ q ≤ 1048576) (fun _ i => n - (intOf i).toNat)
  case atStart => exact ⟨0, r, Nat.zero_le _, rfl, rfl, h0, h1⟩
  case round =>
    obtain ⟨k, q, hk, rfl, rfl, hq0, hq1⟩ := hrel
    by_cases hlt : k < n
    · obtain ⟨s1, s2⟩ := hsz k hlt
      by_cases hqn : 0 ≤ q
      · obtain ⟨b, off, rfl, hc⟩ := h.cells (by omega)
        obtain ⟨c0, c1, _⟩ := hc k hlt
        clear hc h hsz
        go_wp2_with fail
        refine (take_any _ _ w (by omega) (by omega) (by omega) (by omega)).mono ?_
        rintro e w' ⟨q1, rfl, l1, u1, rfl⟩
        go_wp2_with fail
        refine (take_any _ _ w (by omega) (by omega) (by omega) (by omega)).mono ?_
        rintro e w' ⟨q2, rfl, l2, u2, rfl⟩
        go_wp2_with fail
        refine (take_any _ _ w (by omega) (by omega) (by omega) (by omega)).mono ?_
        rintro e w' ⟨q3, rfl, l3, u3, rfl⟩
        go_wp2
        go_round
        case rel => exact ⟨k + 1, q3, by omega, by go_num, rfl, l3, u3⟩
        case measure => simp [intOf]; omega
      · go_wp2
        go_ret
        exact ⟨q, rfl, hq0, hq1, rfl⟩
    · go_wp2
      go_ret
      exact ⟨q, rfl, hq0, hq1, rfl⟩

/-- It answers a bool; where that is true n is small. -/
def Says (n : Nat) (e : Ending) : Prop := ∃ b : Bool, e = .returned (.bool b) ∧ (b = true → n ≤ 1048576)

set_option maxHeartbeats 1000000 in
theorem zzb10 (a : Option Addr) (n c : Nat) (os : Nat → Ov) (x : Int) (w : World) (h : Ovs w a n os) (hsz : Short n os) (hn : n ≤ 9223372036854775807) :
    Calls Try.prog 10 #[.slice a n c, .int .i64 x] w fun e w' => Says n e ∧ w = w' := by
  by_cases hs : n ≤ 1048576
  · go_enter Try.func10, Try.ntmps10
    go_wp2
    go_loop [5, 6] (fun t i => ∃ (k : Nat) (z : Int), k ≤ n ∧ i = .int .i64 k ∧ t = .int .i64 z ∧ 0 ≤ z ∧ z ≤ 1048576) (fun _ i => n - (intOf i).toNat)
    case atStart => exact ⟨0, _, Nat.zero_le _, rfl, rfl, by omega, by omega⟩
    case round =>
      obtain ⟨k, z, hk, rfl, rfl, hz0, hz1⟩ := hrel
      by_cases hlt : k < n
      · obtain ⟨s1, s2⟩ := hsz k hlt
        obtain ⟨b, off, rfl, hc⟩ := h.cells (by omega)
        obtain ⟨c0, c1, _⟩ := hc k hlt
        clear hc h hsz
        generalize (os k).key = K at *
        generalize (os k).wth = V at *
        by_cases t1 : K.size ≤ 1048576
        · by_cases t2 : z + K.size ≤ 1048576
          · by_cases t3 : V.size ≤ 1048576
            · by_cases t4 : z + K.size + V.size ≤ 1048576
              · go_wp2
                go_round
                case rel => exact ⟨k + 1, _, by omega, by go_num, rfl, by omega, by omega⟩
                case measure => simp [intOf]; omega
              · go_wp2
                go_ret
                exact ⟨⟨false, rfl, by simp⟩, rfl⟩
            · go_wp2
              go_ret
              exact ⟨⟨false, rfl, by simp⟩, rfl⟩
          · go_wp2
            go_ret
            exact ⟨⟨false, rfl, by simp⟩, rfl⟩
        · go_wp2
          go_ret
          exact ⟨⟨false, rfl, by simp⟩, rfl⟩
      · go_wp2
        go_ret
        exact ⟨⟨true, rfl, fun _ => hs⟩, rfl⟩
  · go_enter Try.func10, Try.ntmps10
    go_wp2
    go_ret
    exact ⟨⟨false, rfl, by simp⟩, rfl⟩

theorem zz_told_some (a : Option Addr) (n c : Nat) (os : Nat → Ov) (w : World) (h : Ovs w a n os) (hn : n ≤ 1048576) (h0 : 0 < n) :
    Calls Try.prog 13 #[.slice a n c] w fun e w' => ∃ g, e = .returned (.slice (some ⟨g, 0, none⟩) n n) ∧ Ovs w' (some ⟨g, 0, none⟩) n os ∧ w.grownBy w' none ∧ w.heap.size ≤ g ∧ g < w'.heap.size := by
  go_enter Try.func13, Try.ntmps13
  go_wp2_with fail
  refine (told_any a n c os w h hn h0).mono ?_
  rintro e w' ⟨g, rfl, ho, hg, hb⟩
  go_wp2
  go_ret
  exact ⟨g, rfl, ho, hg, hb⟩

theorem zz_told_none (a : Option Addr) (c : Nat) (w : World) :
    Calls Try.prog 13 #[.slice a 0 c] w fun e w' => e = .returned (.slice none 0 0) ∧ w = w' := by
  go_enter Try.func13, Try.ntmps13
  go_wp2
  go_ret
  exact ⟨rfl, rfl⟩

end Go.Proofs.Qxb6619152a

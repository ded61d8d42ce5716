/-
  THE CONTRACTS OF LinesLen, zzbFeeds, ZZNewLines, slices.Grow at nil, Cut.
-/
import Derived.Test.Qxb6619168aWalks
import Derived.Test.Qxb6619168aLL
import Derived.Lib.AppendZerosOnto
import Derived.BigRegion
namespace Go.Proofs.Qxb6619168a
open Go.RowKit

theorem div_cast {x : Int} {n W : Nat} (h : x = (n : Int)) : ∃ q : Nat, n / W = q ∧ x / (W : Int) = (q : Int) ∧ q ≤ n :=
  ⟨n / W, rfl, by rw [h]; rfl, Nat.div_le_self _ _⟩

set_option maxHeartbeats 400000 in
theorem lines_len (N W : Nat) (w : World) (hN : N ≤ 2305843009214742528) (hW : W ≤ 1073741824) :
    Calls Try.prog 24 #[.int .i64 N, .int .i64 W] w fun e w' => e = .returned (.int .i64 (LL N W : Nat)) ∧ w = w' := by
  by_cases h0 : W = 0
  · subst h0
    go_enter Try.func24, Try.ntmps24
    go_wp2
    go_ret
    exact ⟨ret_int (by rw [LL_nowidth]), rfl⟩
  · by_cases h1 : N = 0
    · subst h1
      go_enter Try.func24, Try.ntmps24
      go_wp2
      go_ret
      exact ⟨ret_int (by rw [LL_zero]; rfl), rfl⟩
    · have hb0 : ((W : Int) == 0) = false := by simp; omega
      have hb1 : ((N : Int) == 0) = false := by simp; omega
      obtain ⟨q, e1, e2, e3⟩ := div_cast (W := W) (show (N : Int) - 1 = ((N - 1 : Nat) : Int) by omega)
      have E : Hid ((N - 1) / W = q) := e1
      clear e1
      go_enter Try.func24, Try.ntmps24
      go_wp2
      go_ret
      exact ⟨ret_int (by unfold LL; rw [E.out]; omega), rfl⟩

theorem zzb20_any (x y z : Int) (a : Option Addr) (n c : Nat) (w : World) (h : n ≤ 9223372036854775807) : Calls Try.prog 20 #[.int .i64 x, .int .i64 y, .slice a n c, .int .i64 z] w fun e w' => e = .returned (.bool (decide (n ≤ 1048576))) ∧ w = w' := by
  by_cases c1 : n ≤ 1048576
  · go_enter Try.func20, Try.ntmps20
    go_wp2
    go_ret
    exact ⟨ret_bool (by simp [c1]), rfl⟩
  · go_enter Try.func20, Try.ntmps20
    go_wp2
    go_ret
    exact ⟨ret_bool (by simp [c1]), rfl⟩

set_option maxHeartbeats 400000 in
theorem feeds_any (S W m : Nat) (w : World) (hS : S ≤ 2305843009213693952) (hW : W ≤ 1073741824) (hm : m ≤ 1048576) :
    Calls Try.prog 19 #[.int .i64 S, .int .i64 W, .int .i64 m] w fun e w' => e = .returned (.int .i64 (((S + m - 1) / W - (S - 1) / W : Nat) : Int)) ∧ w.grownBy w' none := by
  by_cases h0 : W = 0
  · subst h0
    go_enter Try.func19, Try.ntmps19
    go_wp2
    go_ret
    exact ⟨ret_int (by simp), World.grownBy.refl _ _⟩
  · by_cases h1 : m = 0
    · subst h1
      go_enter Try.func19, Try.ntmps19
      go_wp2
      go_ret
      exact ⟨ret_int (by simp), World.grownBy.refl _ _⟩
    · by_cases h2 : S = 0
      · subst h2
        by_cases h3 : m = 1
        · subst h3
          go_enter Try.func19, Try.ntmps19
          go_wp2
          go_ret
          exact ⟨ret_int (by simp), World.grownBy.refl _ _⟩
        · obtain ⟨q, e1, e2, e3⟩ := div_cast (W := W) (show (m : Int) - 1 = ((m - 1 : Nat) : Int) by omega)
          have E : Hid ((m - 1) / W = q) := e1
          clear e1
          go_enter Try.func19, Try.ntmps19
          go_wp2
          go_quiet (fail)
          go_wp2
          go_ret
          exact ⟨ret_int (by rw [Nat.zero_add, E.out]; simp), grown_drewN _ _⟩
      · obtain ⟨q, e1, e2, e3⟩ := div_cast (W := W) (show ((S : Int) + (m : Int)) - 1 = ((S + m - 1 : Nat) : Int) by omega)
        have E : Hid ((S + m - 1) / W = q) := e1
        obtain ⟨q', e1', e2', e3'⟩ := div_cast (W := W) (show (S : Int) - 1 = ((S - 1 : Nat) : Int) by omega)
        have E' : Hid ((S - 1) / W = q') := e1'
        have hqq : q' ≤ q := by rw [← e1, ← e1']; exact Nat.div_le_div_right (by omega)
        clear e1 e1'
        go_enter Try.func19, Try.ntmps19
        go_wp2
        go_quiet (fail)
        go_wp2
        go_ret
        exact ⟨ret_int (by rw [E.out, E'.out]; omega), grown_drewN _ _⟩

set_option maxHeartbeats 400000 in
theorem new_lines (x y z : Int) (b : Bool) (w : World) :
    Calls Try.prog 15 #[.int .i64 x, .int .i64 y, .int .i64 z, .bool b] w fun e w' => e = .returned (.pointer (some ⟨w.heap.size, 0, none⟩)) ∧ w' = w.alloc (.cells #[.int .i64 x, .int .i64 y, .int .i64 z, .bool b] 42) := by
  go_enter Try.func15, Try.ntmps15
  go_wp2
  go_ret
  exact ⟨rfl, rfl⟩

theorem cell_zeros (k j : Nat) (h : j < k) : (Builtin.zeroCells #[Value.int IntKind.u8 0] k)[j]? = some (.int .u8 0) := by
  unfold Builtin.zeroCells
  simp [Nat.mod_one, h]

theorem zeros_size (k : Nat) : (Builtin.zeroCells #[Value.int IntKind.u8 0] k).size = k := by
  rw [size_zeroCells]
  exact Nat.mul_one k

set_option maxHeartbeats 400000 in
theorem grow_nil (n : Nat) (w : World) (hn : n ≤ 4194304) :
    Calls Try.prog 25 #[.slice none 0 0, .int .i64 n] w fun e w' => ∃ a c, e = .returned (.slice a 0 c) ∧ Own w' a n c (List.replicate n 0) ∧ w.grownBy w' none ∧ (∀ q, blk a = some q → w.heap.size ≤ q ∧ q < w'.heap.size) := by
  obtain ⟨i0, hi, hz0, hz1, hz2⟩ := info_parts info5
  by_cases h0 : n = 0
  · subst h0
    go_enter Try.func25, Try.ntmps25
    go_wp2
    go_ret
    exact ⟨none, 0, rfl, Own.nilOwn _, World.grownBy.refl _ _, fun q hq => by simp [blk] at hq⟩
  · have hrz : ∀ ty, (Builtin.append_ #[22, 3] ty #[.slice none 0 0, .int .i64 n]).run Try.prog w = _ := fun ty =>
      Lib.run_append_grow_zeros (P := Try.prog) w 22 3 ty 5 i0 (.int .u8 0) .i64 .i64 Try.underlying22 Try.underlying3 hi hz0 none 0 0 [] (run_firstCells_none w.drew i0.size 0 0 0) n (by omega) (by omega) (by omega) (by omega) (by rw [hz2]; omega) (by rw [hz2]; exact growslice_fits (by omega) (by omega))
    rw [Nat.zero_add] at hrz
    have hge : n ≤ grownCap w n 0 5 := grownCap_ge w n 0 5
    have hle : grownCap w n 0 5 ≤ maxLen := grownCap_le_maxLen w n 0 5 (by unfold maxLen; omega)
    obtain ⟨G, hG⟩ : ∃ G, grownCap w n 0 5 = G := ⟨_, rfl⟩
    rw [hG] at hrz hge hle
    clear hG
    have hn0 : (0 : Int) < (n : Int) := by omega
    go_enter Try.func25, Try.ntmps25
    go_wp2_with (at_builtin; refine Lib.wpList_append_run _ rfl _ _ _ _ rfl _ _ rfl rfl _ _ (hrz _) ?_)
    go_ret
    refine ⟨_, _, rfl, Own.ofRow (heap_alloc_new w.drew _) (by simp) hge hle ?_ (fun z hz => by rw [List.mem_replicate] at hz; omega) (fun j hj => ?_), ⟨rfl, rfl, rfl, by simp, fun k hk _ => Below.heap_alloc w.drew _ k hk⟩, fun q hq => ?_⟩
    · rw [Array.size_append, zeros_size, zeros_size]
      omega
    · rw [Array.getElem?_append, if_pos (by rw [zeros_size]; exact hj), cell_zeros n j hj]
      simp [List.getD, hj]
    · have : w.heap.size = q := by simpa [blk] using hq
      simp
      omega

theorem mul_le_bound {a W E : Nat} (h : (W + 1) * a ≤ E) : W * a ≤ E := by
  rw [Nat.add_mul] at h; omega

theorem hid {p : Prop} (h : p) : Hid p := h

theorem lines_len' (N W : Nat) (w : World) (hN : N ≤ 2305843009214742528) (hW : W ≤ 1073741824) :
    Calls Try.prog 24 #[.int .i64 N, .int .i64 W] w fun e w' => e = .returned (.int .i64 (LL N W : Nat)) ∧ w' = w :=
  (lines_len N W w hN hW).mono fun _ _ h => ⟨h.1, h.2.symm⟩

set_option maxHeartbeats 1000000 in
theorem cut_any (g W S : Nat) (a : Option Addr) (m c n : Nat) (w : World) (h0 : w.cell? ⟨g, 0, none⟩ = some (.int .i64 W)) (h2 : w.cell? ⟨g, 2, none⟩ = some (.int .i64 S))
    (hS : S ≤ 2305843009213693952) (hW : W ≤ 1073741824) (hn : n ≤ 2097152) (hW0 : 0 < W) :
    Calls Try.prog 21 #[.pointer (some ⟨g, 0, none⟩), .slice a m c, .int .i64 n] w fun e w' => e = .returned (.int .i64 (((cutAt (LL S W + n) W : Nat) : Int) - (S : Int))) ∧ w.grownBy w' none := by
  have hLS := LL_le S W
  have hb0 : ((W : Int) == 0) = false := by simp; omega
  have hl := fun wx => lines_len' S W wx (by omega) hW
  by_cases hE : LL S W + n = 0
  · have HC : Hid (cutAt (LL S W + n) W = 0) := (by unfold cutAt; rw [if_pos hE] : cutAt (LL S W + n) W = 0)
    have HS : Hid (S = 0) := (by have := LL_ge S W; omega : S = 0)
    generalize cutAt (LL S W + n) W = T at *
    generalize LL S W = L at *
    have hEI : (((L : Int) + (n : Int)) == 0) = true := by simp; omega
    clear hE
    go_enter Try.func21, Try.ntmps21
    go_wp2
    go_quiet (first | (go_at_call 24; exact Calls.quiet_of_same (hl _)))
    go_wp2
    go_ret
    exact ⟨ret_int (by rw [HC.out, HS.out]; rfl), grown_drewN _ _⟩
  · have hC : cutAt (LL S W + n) W = (LL S W + n - 1) / (W + 1) * W + min ((LL S W + n - 1) % (W + 1)) (W - 1) + 1 := by unfold cutAt; rw [if_neg hE]
    have HC := hid hC
    clear hC
    generalize cutAt (LL S W + n) W = T at *
    generalize LL S W = L at *
    have hEI : (((L : Int) + (n : Int)) == 0) = false := by simp; omega
    obtain ⟨A, B, hab, hB⟩ := ex_dm (show 0 < W + 1 by omega) (L + n - 1)
    obtain ⟨d1, d2⟩ := dm hab hB
    have HT : Hid (T = A * W + min B (W - 1) + 1) := (by rw [HC.out, d1, d2] : T = A * W + min B (W - 1) + 1)
    clear HC
    have q1 : ((L : Int) + (n : Int) - 1).tdiv ((W : Int) + 1) = (A : Int) := by
      rw [show (L : Int) + (n : Int) - 1 = ((L + n - 1 : Nat) : Int) by omega, ← d1]; exact (Int.ofNat_tdiv _ _).symm
    have q2 : ((L : Int) + (n : Int) - 1).tmod ((W : Int) + 1) = (B : Int) := by
      rw [show (L : Int) + (n : Int) - 1 = ((L + n - 1 : Nat) : Int) by omega, ← d2]; exact (Int.ofNat_tmod _ _).symm
    have hAW : W * A ≤ L + n := by rw [Nat.add_mul] at hab; omega
    have hAW' : A * W ≤ L + n := by rw [Nat.mul_comm]; exact hAW
    obtain ⟨M, hM⟩ : ∃ M, A * W = M := ⟨_, rfl⟩
    have q3 : (A : Int) * (W : Int) = (M : Int) := by rw [← hM]; rfl
    have hAL : A ≤ L + n := by
      rw [← d1]; exact Nat.le_trans (Nat.div_le_self _ _) (by omega)
    rw [hM] at HT hAW'
    clear hM hAW d1 d2 hab hE
    go_enter Try.func21, Try.ntmps21
    go_wp2
    go_quiet (first | (go_at_call 24; exact Calls.quiet_of_same (hl _)))
    go_wp2
    go_quiet (fail)
    go_wp2
    go_quiet (fail)
    go_wp2
    all_goals
      go_ret
      have ht := HT.out
      refine ⟨ret_int ?_, (grown_drewN _ _)⟩
      simp only [q1, q2, q3] at *
      omega

end Go.Proofs.Qxb6619168a

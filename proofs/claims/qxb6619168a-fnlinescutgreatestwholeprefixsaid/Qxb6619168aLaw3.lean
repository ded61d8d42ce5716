/-
  THE LAW FnConsumeTwiceIsOnceAtSum, OUT OF THE CONTRACTS.
-/
import Derived.Test.Qxb6619168aWalks
import Derived.Deep.RegionWith
import Derived.Below
namespace Go.Proofs.Qxb6619168a
open Go.RowKit

theorem zzb8_any (a : Option Addr) (n c : Nat) (j k : Int) (w : World) (h : n ≤ 9223372036854775807) : Calls Try.prog 8 #[.slice a n c, .int .i64 j, .int .i64 k] w fun e w' => e = .returned (.bool (decide (n ≤ 1048576))) ∧ w = w' := by
  by_cases c1 : n ≤ 1048576
  · go_enter Try.func8, Try.ntmps8
    go_wp2
    go_ret
    exact ⟨ret_bool (by simp [c1]), rfl⟩
  · go_enter Try.func8, Try.ntmps8
    go_wp2
    go_ret
    exact ⟨ret_bool (by simp [c1]), rfl⟩

theorem Rd.from {w : World} {a a' : Option Addr} {n : Nat} {zs : List Int} (h : Rd w a n zs) (k : Nat) (hk : k ≤ n) (ha : a' = a.map (fun x => x.add k) ∨ (a' = a ∧ k = n)) : Rd w a' (n - k) (zs.drop k) :=
  h.drop k hk (fun hlt b off e => by
    rcases ha with h0 | ⟨_, h0⟩
    · rw [h0, e]; simp only [Option.map_some, Addr.add_lit]
    · omega)

theorem law3_early (a : Option Addr) (n c : Nat) (j k : Int) (w : World) (hn : n ≤ 9223372036854775807) (h : ¬ (n ≤ 1048576 ∧ 0 ≤ j ∧ j ≤ n ∧ 0 ≤ k ∧ k ≤ n - j)) :
    Calls Try.prog 3 #[.slice a n c, .int .i64 j, .int .i64 k] w fun e w' => e = .returned (.bool true) ∧ Below w.heap.size w w' := by
  by_cases c1 : n ≤ 1048576
  · have hz := zzb8_any a n c j k w hn
    rw [decide_eq_true c1] at hz
    by_cases c2 : j < 0
    · clear h
      go_enter Try.func3, Try.ntmps3
      go_wp2_with fail
      refine hz.mono ?_
      rintro e w' ⟨rfl, rfl⟩
      go_wp2
      go_ret
      exact ⟨rfl, Below.refl _ _⟩
    · by_cases c3 : (n : Int) < j
      · clear h
        go_enter Try.func3, Try.ntmps3
        go_wp2_with fail
        refine hz.mono ?_
        rintro e w' ⟨rfl, rfl⟩
        go_wp2
        go_ret
        exact ⟨rfl, Below.refl _ _⟩
      · by_cases c4 : k < 0
        · clear h
          go_enter Try.func3, Try.ntmps3
          go_wp2_with fail
          refine hz.mono ?_
          rintro e w' ⟨rfl, rfl⟩
          go_wp2
          go_ret
          exact ⟨rfl, Below.refl _ _⟩
        · have c5 : ((n : Int) - j) < k := by omega
          clear h
          go_enter Try.func3, Try.ntmps3
          go_wp2_with fail
          refine hz.mono ?_
          rintro e w' ⟨rfl, rfl⟩
          go_wp2
          go_ret
          exact ⟨rfl, Below.refl _ _⟩
  · have hz := zzb8_any a n c j k w hn
    rw [decide_eq_false c1] at hz
    clear h
    go_enter Try.func3, Try.ntmps3
    go_wp2_with fail
    refine hz.mono ?_
    rintro e w' ⟨rfl, rfl⟩
    go_wp2
    go_ret
    exact ⟨rfl, Below.refl _ _⟩

set_option maxHeartbeats 1000000 in
set_option maxRecDepth 100000 in
theorem law3_go (a : Option Addr) (n c : Nat) (zs : List Int) (j k : Nat) (w : World) (h : Rd w a n zs) (hn : n ≤ 1048576) (hjk : j + k ≤ n) :
    Calls Try.prog 3 #[.slice a n c, .int .i64 j, .int .i64 k] w fun e w' => e = .returned (.bool true) ∧ Below w.heap.size w w' := by
  have hz := zzb8_any a n c j k w (by omega)
  rw [decide_eq_true hn] at hz
  have hj : (j : Int) ≤ (n : Int) := by omega
  have hk : (k : Int) ≤ ((n : Int) - (j : Int)) := by omega
  go_enter Try.func3, Try.ntmps3
  go_wp2_with fail
  refine hz.mono ?_
  rintro e w' ⟨rfl, rfl⟩
  go_wp2_with fail
  refine (clone_any a n c zs w h (by omega)).mono ?_
  rintro e w1 ⟨a1, c1, rfl, o1, g1, _, b1⟩
  go_wp2_with fail
  refine (clone_any a1 n c1 zs w1 o1.rd (by omega)).mono ?_
  rintro e w2 ⟨a2, c2, rfl, o2, g2, _, b2⟩
  go_wp2_with fail
  refine (clone_any a1 n c1 zs w2 (o1.same g2).rd (by omega)).mono ?_
  rintro e w3 ⟨a3, c3, rfl, o3, g3, _, b3⟩
  go_wp2_with fail
  refine (zz_consume a2 n c2 zs j w3 (o2.same g3) (by omega) (by omega) (by omega)).mono ?_
  rintro e w4 ⟨a4, c4, rfl, o4, g4, b4⟩
  rw [Int.toNat_natCast] at o4
  rw [Int.toNat_natCast]
  go_wp2_with fail
  refine (zz_consume a4 (n - j) c4 _ k w4 o4 (by omega) (by omega) (by omega)).mono ?_
  rintro e w5 ⟨a5, c5, rfl, o5, g5, b5⟩
  rw [Int.toNat_natCast] at o5
  rw [Int.toNat_natCast]
  rw [List.drop_drop] at o5
  have s1 := g1.size
  have s2 := g2.size
  have s3 := g3.size
  have s4 := g4.size
  have s5 := g5.size
  have bel1 : Below w.heap.size w w3 := (((Below.refl w.heap.size w).grown g1 (by omega) (by simp)).grown g2 (by omega) (by simp)).grown g3 (by omega) (by simp)
  have bel5 : Below w.heap.size w w5 := (bel1.grown g4 (by omega) (fun q hq => by have := b2 q hq; omega)).grown g5 (by omega) (fun q hq => by rcases b4 q hq with h1 | h1; (have := b2 q h1; omega); omega)
  have o1' := (((o1.same g2).same g3).kept g4 (apart fun q h1 h2 => by have := b1 q h1; have := b2 q h2; omega)).kept g5 (apart fun q h1 h2 => by have := b1 q h1; rcases b4 q h2 with h3 | h3; (have := b2 q h3; omega); omega)
  have o3' := (o3.kept g4 (apart fun q h1 h2 => by have := b3 q h1; have := b2 q h2; omega)).kept g5 (apart fun q h1 h2 => by have := b3 q h1; rcases b4 q h2 with h3 | h3; (have := b2 q h3; omega); omega)
  have b13 : ∀ q, blk a1 = some q → blk a3 = some q → False := fun q h1 h2 => by have := b1 q h1; have := b3 q h2; omega
  have b53 : ∀ q, blk a5 = some q → blk a3 = some q → False := fun q h1 h2 => by
    have := b3 q h2
    rcases b5 q h1 with h3 | h3
    · rcases b4 q h3 with h4 | h4
      · have := b2 q h4; omega
      · omega
    · omega
  have b3' : ∀ q, blk a3 = some q → w.heap.size ≤ q := fun q hq => by have := b3 q hq; omega
  have hs5 : w.heap.size ≤ w5.heap.size := by omega
  clear o1 o2 o3 o4 g1 g2 g3 g4 g5 b1 b2 b3 b4 b5 s1 s2 s3 s4 s5 h bel1
  go_wp2_with fail
  refine (zz_consume a3 n c3 zs (j + k) w5 o3' (by omega) (by omega) (by omega)).mono ?_
  rintro e w6 ⟨a6, c6, rfl, o6, g6, b6⟩
  have ejk : ((j : Int) + (k : Int)).toNat = j + k := by omega
  rw [ejk] at o6
  rw [ejk]
  have o5' := o5.kept g6 (apart b53)
  have o1'' := o1'.kept g6 (apart b13)
  have bel6 := bel5.grown g6 hs5 b3'
  have hs6 := g6.size
  have hle1 := o1''.le
  clear o3' o5 o1' g6 b6 b53 b13 b3' bel5 ejk
  go_wp2_with fail
  refine (same_yes a5 a6 _ c5 _ c6 _ _ w6 o5'.rd o6.rd (by omega) (by omega) rfl).mono ?_
  rintro e w7 ⟨rfl, g7⟩
  have bel7 := bel6.grown g7 (by omega) (by simp)
  have o6' := o6.same g7
  have o1' := o1''.same g7
  clear o5' o6 o1'' g7 bel6
  have hs7 := bel7.size
  by_cases hcc : c1 = j + k
  · subst hcc
    go_wp2_with fail
    refine (same_yes _ _ 0 _ 0 _ [] [] w7 ⟨rfl, by simp, fun h => by omega⟩ ⟨rfl, by simp, fun h => by omega⟩ (by omega) (by omega) rfl).mono ?_
    rintro e w8 ⟨rfl, g8⟩
    go_wp2
    go_ret
    exact ⟨rfl, bel7.grown g8 (by omega) (by simp)⟩
  · go_wp2_with fail
    refine (same_yes _ _ _ _ _ _ _ _ w7 o6'.rd (Rd.from o1'.rd (j + k) (by omega) (.inl rfl)) (by omega) (by omega) rfl).mono ?_
    rintro e w8 ⟨rfl, g8⟩
    go_wp2
    go_ret
    exact ⟨rfl, bel7.grown g8 (by omega) (by simp)⟩

theorem law3 (a : Option Addr) (n c : Nat) (zs : List Int) (j k : Int) (w : World) (h : Rd w a n zs) (hn : n ≤ 9223372036854775807) :
    Calls Try.prog 3 #[.slice a n c, .int .i64 j, .int .i64 k] w fun e w' => e = .returned (.bool true) ∧ Below w.heap.size w w' := by
  by_cases hh : n ≤ 1048576 ∧ 0 ≤ j ∧ j ≤ n ∧ 0 ≤ k ∧ k ≤ n - j
  · obtain ⟨h1, h2, h3, h4, h5⟩ := hh
    obtain ⟨j, rfl⟩ := Int.eq_ofNat_of_zero_le h2
    obtain ⟨k, rfl⟩ := Int.eq_ofNat_of_zero_le h4
    exact law3_go a n c zs j k w h h1 (by omega)
  · exact law3_early a n c j k w hn hh

end Go.Proofs.Qxb6619168a

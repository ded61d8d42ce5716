/-
  THE LAW FnAppendDigitsSplitAnywhere, OUT OF THE CONTRACTS.
-/
import Derived.Test.Qxb6618065aDigits
namespace Go.Proofs.Qxb6618065a
open Go.RowKit

theorem zzb6_yes (a : Option Addr) (n c : Nat) (x y z : Int) (w : World) (h : n ≤ 1048576) : Calls Try.prog 6 #[.slice a n c, .int .i64 x, .int .i64 y, .int .i64 z] w fun e w' => e = .returned (.bool true) ∧ w = w' := by
  go_enter Try.func6, Try.ntmps6
  go_wp2
  go_ret
  exact ⟨rfl, rfl⟩

theorem zzb6_no (a : Option Addr) (n c : Nat) (x y z : Int) (w : World) (h : 1048576 < n) : Calls Try.prog 6 #[.slice a n c, .int .i64 x, .int .i64 y, .int .i64 z] w fun e w' => e = .returned (.bool false) ∧ w = w' := by
  go_enter Try.func6, Try.ntmps6
  go_wp2
  go_ret
  exact ⟨rfl, rfl⟩

theorem zz_digits (a : Option Addr) (n c : Nat) (zs : List Int) (v m : Int) (w : World) (h : Own w a n c zs) (hn : n ≤ 1048576) (hv : 0 ≤ v) (hv2 : v ≤ 9223372036854775807) (hm0 : 0 ≤ m) (hm : m ≤ 6) :
    Calls Try.prog 8 #[.slice a n c, .int .i64 v, .int .i64 m] w fun e w' => ∃ a' c', e = .returned (.slice a' (n + m.toNat) c') ∧ Own w' a' (n + m.toNat) c' (zs ++ digs v m.toNat) ∧ w.grownBy w' (blk a) ∧
      (∀ k, blk a' = some k → blk a = some k ∨ (w.heap.size ≤ k ∧ k < w'.heap.size)) := by
  go_enter Try.func8, Try.ntmps8
  go_wp2_with fail
  refine (append_digits a n c zs v m w h hn hv hv2 hm0 hm).mono ?_
  rintro e w' ⟨a', c', rfl, ho, hg, hb⟩
  go_wp2
  go_ret
  exact ⟨a', c', rfl, ho, hg, hb⟩

theorem apart {a b : Option Addr} (h : ∀ k, blk a = some k → blk b = some k → False) : blk a = none ∨ blk a ≠ blk b := by
  cases ha : blk a with
  | none => exact .inl rfl
  | some k => exact .inr fun e => h k ha e.symm

theorem tail_rd {w : World} {a a' : Option Addr} {n m c : Nat} {zs ds : List Int} (h : Own w a (n + m) c (zs ++ ds)) (hl : zs.length = n) (ha : (a' = a ∧ m = 0) ∨ a' = a.map (fun x => x.add n)) : Rd w a' m ds := by
  have hd : (zs ++ ds).drop n = ds := by rw [← hl, List.drop_left]
  have := h.rd.drop (a' := a') n (by omega) (fun hlt b off e => by
    rcases ha with ⟨_, h0⟩ | h0
    · omega
    · rw [h0, e]; simp [Addr.add])
  rwa [hd, show n + m - n = m by omega] at this

set_option maxHeartbeats 1000000 in
theorem law3 (a : Option Addr) (n c : Nat) (zs : List Int) (v N K : Int) (w : World) (h : Rd w a n zs) (hn : n ≤ 9223372036854775807) (hv2 : -9223372036854775808 ≤ v ∧ v ≤ 9223372036854775807) (hN : -9223372036854775808 ≤ N ∧ N ≤ 9223372036854775807) (hK : -9223372036854775808 ≤ K ∧ K ≤ 9223372036854775807) :
    Calls Try.prog 3 #[.slice a n c, .int .i64 v, .int .i64 N, .int .i64 K] w fun e w' => e = .returned (.bool true) ∧ Below w.heap.size w w' := by
  by_cases c1 : n ≤ 1048576
  · by_cases c2 : n ≤ 65536
    · by_cases c3 : N < 0
      · go_enter Try.func3, Try.ntmps3
        go_wp2_with (go_at_call 6; refine (zzb6_yes _ _ _ _ _ _ _ (by omega)).mono ?_; rintro e w' ⟨rfl, rfl⟩)
        go_ret
        exact ⟨rfl, Below.refl _ _⟩
      · by_cases c4 : 6 < N
        · go_enter Try.func3, Try.ntmps3
          go_wp2_with (go_at_call 6; refine (zzb6_yes _ _ _ _ _ _ _ (by omega)).mono ?_; rintro e w' ⟨rfl, rfl⟩)
          go_ret
          exact ⟨rfl, Below.refl _ _⟩
        · by_cases c5 : K < 0
          · go_enter Try.func3, Try.ntmps3
            go_wp2_with (go_at_call 6; refine (zzb6_yes _ _ _ _ _ _ _ (by omega)).mono ?_; rintro e w' ⟨rfl, rfl⟩)
            go_ret
            exact ⟨rfl, Below.refl _ _⟩
          · by_cases c6 : N < K
            · go_enter Try.func3, Try.ntmps3
              go_wp2_with (go_at_call 6; refine (zzb6_yes _ _ _ _ _ _ _ (by omega)).mono ?_; rintro e w' ⟨rfl, rfl⟩)
              go_ret
              exact ⟨rfl, Below.refl _ _⟩
            · by_cases c7 : v < 0
              · go_enter Try.func3, Try.ntmps3
                go_wp2_with (go_at_call 6; refine (zzb6_yes _ _ _ _ _ _ _ (by omega)).mono ?_; rintro e w' ⟨rfl, rfl⟩)
                go_ret
                exact ⟨rfl, Below.refl _ _⟩
              · obtain ⟨N, rfl⟩ := Int.eq_ofNat_of_zero_le (show 0 ≤ N by omega)
                obtain ⟨K, rfl⟩ := Int.eq_ofNat_of_zero_le (show 0 ≤ K by omega)
                go_enter Try.func3, Try.ntmps3
                go_wp2_with (go_at_call 6; refine (zzb6_yes _ _ _ _ _ _ _ (by omega)).mono ?_; rintro e w' ⟨rfl, rfl⟩)
                refine (clone_any a n c zs w h (by omega)).mono ?_
                rintro e w1 ⟨a1, c1, rfl, o1, g1, _, b1⟩
                go_wp2_with fail
                refine (clone_any a1 n c1 zs w1 o1.rd (by omega)).mono ?_
                rintro e w2 ⟨a2, c2, rfl, o2, g2, _, b2⟩
                go_wp2_with fail
                refine (clone_any a1 n c1 zs w2 (o1.same g2).rd (by omega)).mono ?_
                rintro e w3 ⟨a3, c3, rfl, o3, g3, _, b3⟩
                go_wp2_with fail
                refine (clone_any a1 n c1 zs w3 ((o1.same g2).same g3).rd (by omega)).mono ?_
                rintro e w4 ⟨a4, c4, rfl, o4, g4, _, b4⟩
                go_wp2_with fail
                refine (zz_digits a3 n c3 zs v N w4 (o3.same g4) (by omega) (by omega) (by omega) (by omega) (by omega)).mono ?_
                rintro e w5 ⟨a5, c5, rfl, o5, g5, b5⟩
                go_wp2_with fail
                refine (pow_any K (by omega) (by omega) w5).mono ?_
                rintro e w' ⟨rfl, rfl⟩
                rw [Int.toNat_natCast] at o5 ⊢
                have hp := p10_pos K
                have hd0 : 0 ≤ v / p10 K := Int.ediv_nonneg (by omega) (by omega)
                have hd1 : v / p10 K ≤ v := Int.ediv_le_self _ (by omega)
                have s1 := g1.size
                have s2 := g2.size
                have s3 := g3.size
                have s4 := g4.size
                have s5 := g5.size
                have hd2 : v / p10 K ≤ 9223372036854775807 := by clear hp; generalize v / p10 K = q at *; omega
                go_wp2_with fail
                have o4' := o4.kept g5 (apart fun k h1 h2 => by have := b4 k h1; have := b3 k h2; omega)
                refine (zz_digits a4 n c4 zs (v / p10 K) ((N : Int) - (K : Int)) w5 o4' (by omega) hd0 hd2 (by omega) (by omega)).mono ?_
                rintro e w6 ⟨a6, c6, rfl, o6, g6, b6⟩
                have eNK : ((N : Int) - (K : Int)).toNat = N - K := by omega
                rw [eNK] at o6 ⊢
                clear eNK
                go_wp2_with fail
                refine (zz_digits a6 (n + (N - K)) c6 _ v K w6 o6 (by omega) (by omega) (by omega) (by omega) (by omega)).mono ?_
                rintro e w7 ⟨a7, c7, rfl, o7, g7, b7⟩
                rw [Int.toNat_natCast] at o7 ⊢
                have s6 := g6.size
                have s7 := g7.size
                have o5' := (o5.kept g6 (apart fun k h1 h2 => by
                  have := b4 k h2
                  rcases b5 k h1 with h | h
                  · have := b3 k h; omega
                  · omega)).kept g7 (apart fun k h1 h2 => by
                  rcases b6 k h2 with h' | h'
                  · have := b4 k h'
                    rcases b5 k h1 with h | h
                    · have := b3 k h; omega
                    · omega
                  · rcases b5 k h1 with h | h
                    · have := b3 k h; omega
                    · omega)
                have o2' := (((o2.same g3).same g4).kept g5 (apart fun k h1 h2 => by have := b2 k h1; have := b3 k h2; omega)).kept g6 (apart fun k h1 h2 => by have := b2 k h1; have := b4 k h2; omega)
                have o2'' := o2'.kept g7 (apart fun k h1 h2 => by
                  have := b2 k h1
                  rcases b6 k h2 with h' | h'
                  · have := b4 k h'; omega
                  · omega)
                have bel : Below w.heap.size w w7 := by
                  have e1 : Below w.heap.size w w4 := ((((Below.refl w.heap.size w).grown g1 (by omega) (by simp)).grown g2 (by omega) (by simp)).grown g3 (by omega) (by simp)).grown g4 (by omega) (by simp)
                  have e2 := (e1.grown g5 (by omega) (fun k hk => by have := b3 k hk; omega)).grown g6 (by omega) (fun k hk => by have := b4 k hk; omega)
                  exact e2.grown g7 (by omega) (fun k hk => by
                    rcases b6 k hk with h' | h'
                    · have := b4 k h'; omega
                    · omega)
                clear o1 o2 o3 o4 o5 o6 o4' o2' g1 g2 g3 g4 g5 g6 g7 b1 b2 b3 b4 b5 b6 b7 s1 s2 s3 s4 s5 s6
                go_wp2_with fail
                have HE : decide (zs ++ digs v N = zs ++ digs (v / p10 K) (N - K) ++ digs v K) = true := by
                  rw [decide_eq_true_eq, List.append_assoc, ← digs_split, Nat.sub_add_cancel (by omega)]
                refine (same_any a5 a7 _ c5 _ c7 _ _ w7 o5'.rd o7.rd (by omega) (by omega)).mono ?_
                rintro e w8 ⟨rfl, g8⟩
                rw [HE]
                clear HE o7
                have hcap : n + N ≤ c5 := o5'.le
                go_wp2_with fail
                have HE : decide ((zs ++ digs v N).take n = zs) = true := by
                  rw [decide_eq_true_eq, ← h.len, List.take_left]
                refine (same_any a5 a2 n c5 n c2 _ _ w8 ((o5'.same g8).rd.take n (by omega)) (o2''.same g8).rd (by omega) (by omega)).mono ?_
                rintro e w9 ⟨rfl, g9⟩
                rw [HE]
                clear HE o2''
                have o9 := (o5'.same g8).same g9
                have hp2 := p10_pos N
                have hmod : Hid (horner 0 (digs v N) = v % p10 N) := horner_digs N v
                have bel9 := (bel.grown g8 (by have := bel.size; omega) (by simp)).grown g9 (by have := bel.size; have := g8.size; omega) (by simp)
                have hl := h.len
                go_wp2_with fail
                · have hN0 : N = 0 := by omega
                  subst hN0
                  refine (decimal_any a5 0 0 (digs v 0) w9 (tail_rd o9 hl (.inl ⟨rfl, rfl⟩)) (by omega) (fun z hz => digs_wf _ _ z hz)).mono ?_
                  rintro e w' ⟨rfl, rfl⟩
                  have he : (horner 0 (digs v 0) == v % p10 0) = true := by rw [hmod.out]; simp
                  go_wp2_with (go_at_call 9; refine (pow_any _ (by omega) (by omega) _).mono ?_; rintro e w' ⟨rfl, rfl⟩)
                  go_ret
                  exact ⟨rfl, bel9⟩
                · refine (decimal_any _ N _ (digs v N) w9 (tail_rd o9 hl (.inr rfl)) (by omega) (fun z hz => digs_wf _ _ z hz)).mono ?_
                  rintro e w' ⟨rfl, rfl⟩
                  have he : (horner 0 (digs v N) == v % p10 N) = true := by rw [hmod.out]; simp
                  go_wp2_with (go_at_call 9; refine (pow_any _ (by omega) (by omega) _).mono ?_; rintro e w' ⟨rfl, rfl⟩)
                  go_ret
                  exact ⟨rfl, bel9⟩
    · go_enter Try.func3, Try.ntmps3
      go_wp2_with (go_at_call 6; refine (zzb6_yes _ _ _ _ _ _ _ (by omega)).mono ?_; rintro e w' ⟨rfl, rfl⟩)
      go_ret
      exact ⟨rfl, Below.refl _ _⟩
  · go_enter Try.func3, Try.ntmps3
    go_wp2_with (go_at_call 6; refine (zzb6_no _ _ _ _ _ _ _ (by omega)).mono ?_; rintro e w' ⟨rfl, rfl⟩)
    go_ret
    exact ⟨rfl, Below.refl _ _⟩

end Go.Proofs.Qxb6618065a
